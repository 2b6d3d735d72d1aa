import PyProof.Rows.All
import Wide.All
import OpenK.AllK
import Wide.FinOn
import PySem.Challenge.RW_pe0057_02
set_option Elab.async false

section
set_option maxRecDepth 100000
set_option autoImplicit false
set_option linter.unusedVariables false
namespace Mine
open PySem PySem.Calls PyProof.Rows
open Sem (wp)

/-! weakest preconditions over the contexts in which no code stands that could hold a bytearray -/
def heldIds : List String := ["bytearray.__contains__", "bytearray.__mod__", "bytearray.__rmod__", "_struct.pack_into.held", "bytearray.find.held"] ++ Builtin.Bytes.decodersThatHold
def notDec : Code → Bool
  | .builtin id _ => !heldIds.contains id
  | _ => true
def NoDec (Γ : Ctx) : Prop := notDec Γ.code = true ∧ ∀ x ∈ Γ.below, notDec x.1 = true
theorem NoDec.enter {Γ : Ctx} (h : NoDec Γ) {c : Code} (hc : notDec c = true) (hd : Option Value) (p : Pos) : NoDec (Γ.enter c hd p) :=
  ⟨hc, fun x hx => by
    rcases List.mem_cons.mp hx with rfl | hx
    · exact h.1
    · exact h.2 x hx⟩

def wpI {α : Type} (M : Model) (A : Around) (t : Sem α) (Q : α → Shared → Prop) (E : Value → Shared → Prop) (s : Shared) : Prop :=
  ∀ Γ p, Γ.In A → NoDec Γ → wp M Γ t (fun a _ s' => Q a s') (fun e _ s' => E e s') p s
def codeI (M : Model) (A : Around) (c : Code) (R : Result → Shared → Prop) (s : Shared) : Prop :=
  ∀ Γ p, Γ.code = c → Γ.Below A → NoDec Γ → wpCode M Γ R p s

section
variable {α β : Type} {M : Model} {A : Around} {E : Value → Shared → Prop} {s : Shared} {env : Env}
theorem wpI_any {t : Sem α} {Q : α → Shared → Prop} (h : wpAny M A t Q E s) : wpI M A t Q E s := fun Γ p hΓ _ => h Γ p hΓ
theorem codeI_any {c : Code} {R : Result → Shared → Prop} (h : codeAny M A c R s) : codeI M A c R s := fun Γ p hc hΓ _ => h Γ p hc hΓ
theorem wpI_pure {a : α} {Q : α → Shared → Prop} (h : Q a s) : wpI M A (pure a) Q E s := fun _ _ _ _ => h
theorem wpI_mono {t : Sem α} {Q Q' : α → Shared → Prop} {E' : Value → Shared → Prop} (h : wpI M A t Q E s) (hQ : ∀ a s, Q a s → Q' a s) (hE : ∀ e s, E e s → E' e s) : wpI M A t Q' E' s :=
  fun Γ p hΓ hN => Sem.wp_mono M Γ t (fun a _ s => hQ a s) (fun e _ s => hE e s) p s (h Γ p hΓ hN)
theorem wpI_bind {m : Sem α} {f : α → Sem β} {Q : β → Shared → Prop} (h : wpI M A m (fun a s' => wpI M A (f a) Q E s') E s) : wpI M A (m >>= f) Q E s := fun Γ p hΓ hN => by
  rw [Sem.wp_bind']
  exact Sem.wp_mono M Γ m (fun a p' s' h' => h' Γ p' hΓ hN) (fun _ _ _ h' => h') p s (h Γ p hΓ hN)
theorem wpI_seq {m : Sem α} {f : α → Sem β} {Q : β → Shared → Prop} {Q' : α → Shared → Prop} (h : wpI M A m Q' E s) (k : ∀ a s', Q' a s' → wpI M A (f a) Q E s') : wpI M A (m >>= f) Q E s :=
  wpI_bind (wpI_mono h k fun _ _ x => x)
theorem wpI_holding {vs : List Value} {m : Sem α} {Q : α → Shared → Prop} (h : wpI M A m Q E s) : wpI M A (holding vs m) Q E s := fun Γ p hΓ hN => by rw [Sem.wp_holding]; exact h Γ p hΓ hN
theorem wpI_keep {vs : List Value} {m : Sem α} {Q : α → Shared → Prop} (h : wpI M A m Q E s) : wpI M A (m.keep vs) Q E s := fun Γ p hΓ hN => by rw [Sem.wp_keep]; exact h Γ p hΓ hN
theorem wpI_operate {vs : List Value} {m : Sem Value} {Q : Value → Shared → Prop} (h : wpI M A m Q E s) : wpI M A (operate vs m) Q E s := fun Γ p hΓ hN => by rw [Sem.wp_operate]; exact h Γ p hΓ hN
theorem wpI_standAt {pos : Pos} {Q : Unit → Shared → Prop} (h : Q () s) : wpI M A (standAt pos) Q E s := fun _ _ _ _ => h
theorem wpI_stand {pos : Pos} {f : Unit → Sem β} {Q : β → Shared → Prop} (h : wpI M A (f ()) Q E s) : wpI M A (standAt pos >>= f) Q E s := wpI_bind (wpI_standAt h)
theorem wpI_point {Q : Unit → Shared → Prop} (h : Q () s) : wpI M A point Q E s := fun _ _ _ _ => h
theorem wpI_ruleB {tag : String} {f : Unit → Sem β} {Q : β → Shared → Prop} (h : wpI M A (f ()) Q E s) : wpI M A (rule tag >>= f) Q E s := wpI_bind (wpI_any (wpAny_rule h))
theorem wpI_eq {t t' : Sem α} {Q : α → Shared → Prop} (e : t = t') (h : wpI M A t' Q E s) : wpI M A t Q E s := e ▸ h
theorem wpI_onRaise {m : Sem α} {k : Value → Sem Unit} {Q : α → Shared → Prop} (h : wpI M A m Q (fun e s' => wpI M A (k e) (fun _ s'' => E e s'') E s') s) : wpI M A (m.onRaise k) Q E s := fun Γ p hΓ hN => by
  rw [Sem.wp_onRaise]
  exact Sem.wp_mono M Γ m (fun _ _ _ h' => h') (fun e p' s' h' => h' Γ p' hΓ hN) p s (h Γ p hΓ hN)
theorem wpI_onRaise' {m : Sem α} {k : Value → Sem Unit} {Q : α → Shared → Prop} (h : wpI M A m Q (fun _ _ => False) s) : wpI M A (m.onRaise k) Q E s :=
  wpI_onRaise (wpI_mono h (fun _ _ x => x) fun _ _ x => x.elim)
theorem wpI_attempt {m : Sem α} {Q : Except Value α → Shared → Prop} (h : wpI M A m (fun a => Q (.ok a)) (fun e => Q (.error e)) s) : wpI M A m.attempt Q E s := fun Γ p hΓ hN => by
  rw [Sem.wp_attempt]; exact h Γ p hΓ hN
theorem wpI_no {t : Sem α} {Q : α → Shared → Prop} (h : wpI M A t Q (fun _ _ => False) s) : wpI M A t Q E s := wpI_mono h (fun _ _ x => x) fun _ _ x => x.elim

theorem wpI_run {c : Code} {h : Option Value} {Q : Flow → Shared → Prop} (hd : notDec c = true) (hc : codeI M (A.mark h) c (fun r s' => match r with | .ok f => Q f s' | .error e => E e s') s) (hnb : h ≠ some byPass := by intro x; cases x) :
    wpI M A (run c h) Q E s := fun Γ p hΓ hN => by rw [Sem.wp_run]; exact hc _ p rfl (hΓ.enter c h p hnb) (hN.enter hd h p)
theorem wpI_runValue {c : Code} {Q : Value → Shared → Prop} (hd : notDec c = true) (hc : codeI M A c (fun r s' => match r with | .ok (.ret v) => Q v s' | .ok _ => False | .error e => E e s') s) :
    wpI M A (runValue c) Q E s := fun Γ p hΓ hN => by rw [Sem.wp_runValue]; exact hc _ p rfl (hΓ.enter c none p (by intro x; cases x)) (hN.enter hd none p)
theorem wpI_call {f : Value} {pos : List Value} {kw : List (Str × Value)} {Q : Value → Shared → Prop} (hc : codeI M A (.call f ⟨pos, kw⟩) (fun r s' => match r with | .ok (.ret v) => Q v s' | .ok _ => False | .error e => E e s') s) :
    wpI M A (call f pos kw) Q E s := wpI_runValue rfl hc
theorem codeI_mono {c : Code} {R R' : Result → Shared → Prop} (h : codeI M A c R s) (hR : ∀ r s, R r s → R' r s) : codeI M A c R' s := fun Γ p hc hΓ hN => wpCode_mono hR (h Γ p hc hΓ hN)
theorem codeI_of_tree {c : Code} {R : Result → Shared → Prop}
    (h : wpI M (A.under c) (M.den c) (fun fin s' => match fin with | .done f => R (.ok f) s' | .again c' => c'.quiet = true ∧ notDec c' = true ∧ codeI M A c' R s') (fun e s' => R (.error e) s') s) : codeI M A c R s := fun Γ p hc hΓ hN => by
  rw [wpCode_iff_wp, hc]
  refine Sem.wp_mono M Γ _ (fun fin p' s' h' => ?_) (fun _ _ _ h' => h') p s (h Γ p (hc ▸ hΓ.in) hN)
  cases fin with
  | done f => exact h'
  | again c' => exact ⟨h'.1, h'.2.2 (Γ.goto c') p' rfl (hΓ.goto c') ⟨h'.2.1, hN.2⟩⟩
theorem codeI_loop {c : Code} {R : Result → Shared → Prop} (hq : c.quiet = true) (hd : notDec c = true) (I : Nat → Shared → Prop)
    (turn : ∀ n s, I n s → wpI M (A.under c) (M.den c) (fun fin s' => match fin with | .done f => R (.ok f) s' | .again c' => (c' = c ∧ ∃ m, m < n ∧ I m s') ∨ (c'.quiet = true ∧ notDec c' = true ∧ codeI M A c' R s')) (fun e s' => R (.error e) s') s)
    (n : Nat) (h : I n s) : codeI M A c R s := by
  induction n using Nat.strongRecOn generalizing s with
  | ind n ih =>
    refine codeI_of_tree (wpI_mono (turn n s h) (fun fin s' hf => ?_) fun _ _ h' => h')
    cases fin with
    | done f => exact hf
    | again c' =>
      rcases hf with ⟨rfl, m, hm, hI⟩ | hf
      · exact ⟨hq, hd, ih m hm hI⟩
      · exact hf

/-! expressions -/
theorem wpI_BinOp {l r : Expr} {op : Operator} {pos : Pos} {Q : Value → Shared → Prop}
    (h : wpI M A (eval l env) (fun a s₁ => wpI M A (eval r env) (fun b s₂ => wpI M A (binaryOp op a b) Q E s₂) E s₁) E s) : wpI M A (eval (.BinOp l op r pos) env) Q E s := by
  rw [eval_BinOp]
  exact wpI_seq h fun a s₁ h₁ => wpI_seq (wpI_holding h₁) fun b s₂ h₂ => wpI_stand (wpI_operate h₂)
theorem wpI_Compare1 {l r : Expr} {op : CmpOp} {pos : Pos} {Q : Value → Shared → Prop}
    (h : wpI M A (eval l env) (fun a s₁ => wpI M A (eval r env) (fun b s₂ => wpI M A (compareOp op a b) Q E s₂) E s₁) E s) (hm : behindInMarks op r = false := by with_unfolding_all rfl) :
    wpI M A (eval (.Compare l [op] [r] pos) env) Q E s := by
  rw [eval_Compare1, markedBehindIn_of_false hm]
  exact wpI_seq h fun a s₁ h₁ => wpI_seq (wpI_holding h₁) fun b s₂ h₂ => wpI_stand (wpI_operate h₂)
theorem wpI_isTrue_Compare1 {l r : Expr} {op : CmpOp} {pos : Pos} {whole : Sem Value} {Q : Bool → Shared → Prop}
    (h : wpI M A (eval l env) (fun a s₁ => wpI M A (eval r env) (fun b s₂ => wpI M A (compareOp op a b) (fun c s₃ => wpI M A (truthy c) Q E s₃) E s₂) E s₁) E s) (hm : behindInMarks op r = false := by with_unfolding_all rfl) :
    wpI M A (isTrue (.Compare l [op] [r] pos) env whole) Q E s := by
  rw [isTrue_Compare1, markedBehindIn_of_false hm]
  exact wpI_seq h fun a s₁ h₁ => wpI_seq (wpI_holding h₁) fun b s₂ h₂ => wpI_stand (wpI_seq (wpI_operate h₂) fun c s₃ h₃ => wpI_holding h₃)
theorem wpI_isTrue_not {x : Expr} {pos : Pos} {whole : Sem Value} {Q : Bool → Shared → Prop} (h : wpI M A (isTrue x env (eval x env)) (fun c s' => Q (!c) s') E s) : wpI M A (isTrue (.UnaryOp .Not x pos) env whole) Q E s := by
  show wpI M A (do return !(← isTrue x env (eval x env))) Q E s
  exact wpI_seq h fun c s' h' => wpI_pure h'
theorem wpI_isTrue_and {x : Expr} {rest : List Expr} {pos : Pos} {whole : Sem Value} {Q : Bool → Shared → Prop}
    (h : wpI M A (isTrue x env (eval x env)) (fun c s' => if c then wpI M A (isTrue (.BoolOp .And rest pos) env whole) Q E s' else Q false s') E s) : wpI M A (isTrue (.BoolOp .And (x :: rest) pos) env whole) Q E s := by
  show wpI M A (do
    match BoolOp.And, ← isTrue x env (eval x env) with
    | .And, false => pure false
    | .Or, true => pure true
    | _, _ => allTrue .And rest env) Q E s
  refine wpI_seq h fun c s' h' => ?_
  cases c with
  | false => exact wpI_pure h'
  | true => exact h'
theorem wpI_isTrue_or {x : Expr} {rest : List Expr} {pos : Pos} {whole : Sem Value} {Q : Bool → Shared → Prop}
    (h : wpI M A (isTrue x env (eval x env)) (fun c s' => if c then Q true s' else wpI M A (isTrue (.BoolOp .Or rest pos) env whole) Q E s') E s) : wpI M A (isTrue (.BoolOp .Or (x :: rest) pos) env whole) Q E s := by
  show wpI M A (do
    match BoolOp.Or, ← isTrue x env (eval x env) with
    | .And, false => pure false
    | .Or, true => pure true
    | _, _ => allTrue .Or rest env) Q E s
  refine wpI_seq h fun c s' h' => ?_
  cases c with
  | false => exact h'
  | true => exact wpI_pure h'
theorem wpI_isTrue_plain {e : Expr} {whole : Sem Value} {Q : Bool → Shared → Prop} (h : wpI M A whole (fun v s₁ => wpI M A (truthy v) Q E s₁) E s)
    (he : isTrue e env whole = (do let v ← whole; standAt e.pos; holding [v] (truthy v)) := by rfl) : wpI M A (isTrue e env whole) Q E s := by
  rw [he]
  exact wpI_seq h fun v s₁ h₁ => wpI_stand (wpI_holding h₁)
theorem wpI_BoolOp_and2 {e₁ e₂ : Expr} {pos : Pos} {Q : Value → Shared → Prop}
    (h : wpI M A (eval e₁ env) (fun v s₁ => wpI M A (truthy v) (fun c s₂ => if c then wpI M A (eval e₂ env) Q E s₂ else Q v s₂) E s₁) E s) : wpI M A (eval (.BoolOp .And [e₁, e₂] pos) env) Q E s := by
  show wpI M A (do
    let v ← eval e₁ env
    standAt pos
    let c ← holding [v] (truthy v)
    match BoolOp.And, c with
    | .And, false | .Or, true => pure v
    | _, _ => boolOp pos .And [eval e₂ env]) Q E s
  refine wpI_seq h fun v s₁ h₁ => wpI_stand (wpI_seq (wpI_holding h₁) fun c s₂ h₂ => ?_)
  cases c with
  | false => exact wpI_pure h₂
  | true => exact h₂
theorem wpI_spliced_nil {pos : Pos} {Q : List Value → Shared → Prop} (h : Q [] s) : wpI M A (spliced (backTo pos (starEach [] env))) Q E s := wpI_any (args_nil h)
theorem wpI_spliced_cons {e : Expr} {rest : List Expr} {pos : Pos} {Q : List Value → Shared → Prop}
    (h : wpI M A (eval e env) (fun v s₁ => wpI M A (spliced (backTo pos (starEach rest env))) (fun vs s₂ => Q (v :: vs) s₂) E s₁) E s)
    (he : starEach (e :: rest) env = (false, eval e env) :: starEach rest env := by rfl) : wpI M A (spliced (backTo pos (starEach (e :: rest) env))) Q E s := by
  rw [he]
  show wpI M A (spliced ((false, eval e env) :: backTo pos (starEach rest env))) Q E s
  rw [spliced]
  refine wpI_seq h fun v s₁ h₁ => ?_
  simp only [Bool.false_eq_true, if_false]
  exact wpI_bind (wpI_pure (wpI_seq (wpI_holding h₁) fun vs s₂ h₂ => wpI_pure h₂))
theorem wpI_evalArgs {f : Value} {x : Sem Value} {rest : List (Bool × Sem Value)} {Q : Args → Shared → Prop} (h : wpI M A (spliced ((false, x) :: rest)) (fun vs s' => Q ⟨vs, []⟩ s') E s) : wpI M A (evalArgs f true ((false, x) :: rest) []) Q E s := by
  unfold evalArgs
  show wpI M A (spliced ((false, x) :: rest) >>= _) Q E s
  refine wpI_seq h fun vs s' h' => wpI_holding ?_
  exact wpI_bind (wpI_pure (wpI_bind (wpI_pure (wpI_pure h'))))
theorem wpI_Call {func : Expr} {args : List Expr} {pos : Pos} {Q : Value → Shared → Prop}
    (h : wpI M A (eval func env) (fun f s₁ => wpI M A (callWith pos f [] (backTo pos (starEach args env)) []) Q E s₁) E s)
    (he : eval (.Call func args [] pos) env = (do callWith pos (← eval func env) [] (backTo pos (starEach args env)) (backToKw pos (keywordEach [] env))) := by rfl) : wpI M A (eval (.Call func args [] pos) env) Q E s := by
  rw [he]; exact wpI_bind h
theorem wpI_callWith_machine {pos : Pos} {f : Value} {first : List Value} {args : List (Bool × Sem Value)} {Q : Value → Shared → Prop} (hk : keeperOf f = pure .machine) (hplain : args.any (·.1) = false)
    (h : wpI M A (evalArgs f true args []) (fun a s₁ => wpI M A (call f (first ++ a.pos) a.kw) Q E s₁) E s) : wpI M A (callWith pos f first args []) Q E s := by
  unfold callWith
  refine wpI_seq (wpI_holding h) fun a s₁ h₁ => wpI_stand ?_
  simp only [hplain, List.any_nil, Bool.or_false]
  refine wpI_bind (wpI_eq hk (wpI_pure ?_))
  exact wpI_seq h₁ fun r s₂ hr => wpI_seq (Q' := fun _ s' => Q r s') (wpI_holding (wpI_point hr)) fun _ _ x => wpI_pure x
theorem wpI_callWith_builtin {pos : Pos} {id : String} {first : List Value} {e : Expr} {rest : List Expr} {Q : Value → Shared → Prop}
    (h : wpI M A (spliced (backTo pos (starEach (e :: rest) env))) (fun vs s₁ => wpI M A (call (.builtin id) (first ++ vs)) Q E s₁) E s)
    (he : starEach (e :: rest) env = (false, eval e env) :: starEach rest env := by rfl) (hplain : (backTo pos (starEach rest env)).any (·.1) = false := by rfl) :
    wpI M A (callWith pos (.builtin id) first (backTo pos (starEach (e :: rest) env)) []) Q E s := by
  rw [he] at h ⊢
  exact wpI_callWith_machine rfl (by show (false || (backTo pos (starEach rest env)).any (·.1)) = false; rw [hplain]; rfl) (wpI_evalArgs h)
theorem wpI_callWith_type {pos : Pos} {T : String} {e : Expr} {rest : List Expr} {Q : Value → Shared → Prop}
    (h : wpI M A (spliced (backTo pos (starEach (e :: rest) env))) (fun vs s₁ => wpI M A (call (.type T) vs) Q E s₁) E s)
    (he : starEach (e :: rest) env = (false, eval e env) :: starEach rest env := by rfl) (hplain : (backTo pos (starEach rest env)).any (·.1) = false := by rfl) :
    wpI M A (callWith pos (.type T) [] (backTo pos (starEach (e :: rest) env)) []) Q E s := by
  rw [he] at h ⊢
  exact wpI_callWith_machine rfl (by show (false || (backTo pos (starEach rest env)).any (·.1)) = false; rw [hplain]; rfl) (wpI_evalArgs h)
theorem wpI_callWith_def {pos : Pos} {f : Addr} {o : Obj} {fd : FuncData} {e : Expr} {rest : List Expr} {Q : Value → Shared → Prop} (hdat : o.data = .func fd)
    (h : wpI M A (spliced (backTo pos (starEach (e :: rest) env))) (fun vs s₁ => s₁.heap.get? f = some o ∧ wpI M A (call (.ref f) vs) Q E s₁) E s)
    (he : starEach (e :: rest) env = (false, eval e env) :: starEach rest env := by rfl) : wpI M A (callWith pos (.ref f) [] (backTo pos (starEach (e :: rest) env)) []) Q E s := by
  rw [he] at h ⊢
  unfold callWith
  refine wpI_seq (wpI_holding (wpI_evalArgs (Q := fun a s₁ => s₁.heap.get? f = some o ∧ wpI M A (call (.ref f) a.pos a.kw) Q E s₁) h)) fun a s₁ h₁ => wpI_stand ?_
  have tail : ∀ {t : Sem Value}, wpI M A t Q E s₁ → wpI M A (t >>= fun r => holding [r] point >>= fun _ => pure r) Q E s₁ :=
    fun ht => wpI_seq ht fun r s₂ hr => wpI_seq (Q' := fun _ s' => Q r s') (wpI_holding (wpI_point hr)) fun _ _ x => wpI_pure x
  have hk : wpI M A (keeperOf (.ref f)) (fun k s' => k = .frame ∧ s' = s₁) E s₁ := by
    unfold keeperOf
    refine wpI_any (wpAny_bind (wpAny_load h₁.1 ?_))
    rw [hdat]
    exact wpAny_pure ⟨rfl, rfl⟩
  refine wpI_seq hk fun k s' hks => ?_
  obtain ⟨rfl, rfl⟩ := hks
  cases hs : ((false, eval e env) :: backTo pos (starEach rest env)).any (·.1) || ([] : List (Option Str × Sem Value)).any (·.1.isNone)
  · have hs' : (List.any (backTo pos ((false, eval e env) :: starEach rest env)) (fun x => x.1) || List.any ([] : List (Option Str × Sem Value)) (fun x => x.1.isNone)) = false := hs
    simp only [hs']
    split
    · exact tail h₁.2
    · exact tail (by unfold callMarked; exact wpI_keep h₁.2)
  · have hs' : (List.any (backTo pos ((false, eval e env) :: starEach rest env)) (fun x => x.1) || List.any ([] : List (Option Str × Sem Value)) (fun x => x.1.isNone)) = true := hs
    simp only [hs']
    exact tail (by unfold callMarked; exact wpI_keep h₁.2)
theorem wpI_MethodCall {o : Expr} {name : Str} {apos pos : Pos} {args : List Expr} {pl : Sem Bool} {Q : Value → Shared → Prop}
    (h : wpI M A (eval o env) (fun ov s₁ => wpI M A (getMethod ov name pl) (fun fx s₂ => wpI M A (callWith pos fx.1 fx.2 (backTo pos (starEach args env)) []) Q E s₂) E s₁) E s)
    (he : eval (.Call (.Attribute o name apos) args [] pos) env = (do
      let ov ← eval o env
      standAt apos.atName
      let (f, first) ← holding [ov] (getMethod ov name pl)
      callWith pos f first (backTo pos (starEach args env)) []) := by rfl) : wpI M A (eval (.Call (.Attribute o name apos) args [] pos) env) Q E s := by
  rw [he]
  exact wpI_seq h fun ov s₁ h₁ => wpI_stand (wpI_seq (wpI_holding h₁) fun fx s₂ h₂ => h₂)
theorem wpI_Subscript {value slice : Expr} {pos : Pos} {Q : Value → Shared → Prop}
    (h : wpI M A (eval value env) (fun o s₁ => wpI M A (eval slice env) (fun i s₂ => wpI M A (subscriptTail value slice o i) Q E s₂) E s₁) E s) : wpI M A (eval (.Subscript value slice pos) env) Q E s := by
  rw [eval_Subscript]
  exact wpI_seq h fun o s₁ h₁ => wpI_seq (wpI_holding h₁) fun i s₂ h₂ => wpI_stand h₂
theorem wpI_List {elts : List Expr} {pos : Pos} {Q : Value → Shared → Prop} (h : wpI M A (spliced (backTo pos (starEach elts env))) (fun vs s₁ => wpI M A (newList vs) Q E s₁) E s) : wpI M A (eval (.List elts pos) env) Q E s := by
  show wpI M A (do standAt pos; newList (← spliced (backTo pos (starEach elts env)))) Q E s
  exact wpI_stand (wpI_bind h)
theorem wpI_Tuple {elts : List Expr} {k : Nat} {pos : Pos} {Q : Value → Shared → Prop} (h : wpI M A (spliced (backTo pos (starEach elts env))) (fun vs s₁ => wpI M A (newTuple vs) Q E s₁) E s) : wpI M A (eval (.Tuple elts k pos) env) Q E s := by
  show wpI M A (do standAt pos; newTuple (← spliced (backTo pos (starEach elts env)))) Q E s
  exact wpI_stand (wpI_bind h)
theorem wpI_Slice {lower upper step : Option Expr} {p : Pos} {Q : Value → Shared → Prop}
    (h : wpI M A (evalPart lower env) (fun l s₁ => wpI M A (evalPart upper env) (fun u s₂ => wpI M A (evalPart step env) (fun st s₃ =>
      Q (.ref s₃.heap.objs.size) { s₃ with heap := s₃.heap.push { cls := .type "slice", data := .fields #[l, u, st] } }) E s₂) E s₁) E s) : wpI M A (eval (.Slice lower upper step p) env) Q E s := by
  rw [arm_eval_Slice]
  exact wpI_seq h fun l s₁ h₁ => wpI_seq (wpI_holding h₁) fun u s₂ h₂ => wpI_seq (wpI_holding h₂) fun st s₃ h₃ => wpI_any (wpAny_newObj_type h₃)

/-! statements -/
theorem wpI_execs_nil {Q : Flow → Shared → Prop} (h : Q .next s) : wpI M A (execs [] env) Q E s := fun _ _ _ _ => h
theorem wpI_execs_cons {st : Stmt} {rest : List Stmt} {Q : Flow → Shared → Prop} (h : wpI M A (exec st env) (fun f s' => match f with | .next => wpI M A (execs rest env) Q E s' | f => Q f s') E s) : wpI M A (execs (st :: rest) env) Q E s := by
  rw [execs_cons]
  refine wpI_seq h fun f s' h' => ?_
  cases f <;> first | exact h' | exact wpI_pure h'
theorem wpI_bindName {x : Str} {v : Value} {Q : Unit → Shared → Prop} (h : wpI M A (storeName env x v) Q E s) : wpI M A (bindName env x v) Q E s := fun Γ p hΓ hN => by rw [Sem.wp_bindName]; exact h Γ p hΓ hN
theorem wpI_Assign_Name {x : Str} {pos' pos : Pos} {value : Expr} {Q : Flow → Shared → Prop} (h : wpI M A (eval value env) (fun v s₁ => wpI M A (storeName env x v) (fun _ => Q .next) E s₁) E s)
    (hs : swapsWith value (some (.Name x pos')) pos.line env = pure false := by rfl) : wpI M A (exec (.Assign [.Name x pos'] value pos) env) Q E s := by
  rw [exec_Assign_Name env x pos' value pos hs]
  exact wpI_stand (wpI_seq h fun v s₁ h₁ => wpI_stand (wpI_seq (wpI_bindName h₁) fun _ s₂ h₂ => wpI_pure h₂))
theorem wpI_AugAssign_Name {x : Str} {pos' pos : Pos} {op : Operator} {value : Expr} {Q : Flow → Shared → Prop}
    (h : wpI M A (loadName env x) (fun old s₁ => wpI M A (eval value env) (fun v s₂ => wpI M A (inplaceOp op old v) (fun r s₃ => wpI M A (storeName env x r) (fun _ => Q .next) E s₃) E s₂) E s₁) E s) :
    wpI M A (exec (.AugAssign (.Name x pos') op value pos) env) Q E s := by
  rw [exec_AugAssign_Name]
  exact wpI_stand (wpI_seq h fun old s₁ h₁ => wpI_seq (wpI_holding h₁) fun v s₂ h₂ => wpI_stand (wpI_seq (wpI_operate h₂) fun r s₃ h₃ => wpI_stand (wpI_seq (wpI_bindName h₃) fun _ s₄ h₄ => wpI_pure h₄)))
theorem wpI_Return {e : Expr} {pos : Pos} {Q : Flow → Shared → Prop} (h : wpI M A (eval e env) (fun v => Q (.ret v)) E s) : wpI M A (exec (.Return (some e) pos) env) Q E s := by
  rw [exec_Return_some]
  exact wpI_stand (wpI_seq h fun v s₁ h₁ => wpI_pure h₁)
theorem wpI_If {test : Expr} {body orelse : List Stmt} {pos : Pos} {Q : Flow → Shared → Prop}
    (h : wpI M A (isTrue test env (eval test env)) (fun b s₂ => if b then wpI M A (execs body env) Q E s₂ else wpI M A (execs orelse env) Q E s₂) E s) : wpI M A (exec (.If test body orelse pos) env) Q E s := by
  rw [exec_If]
  refine wpI_stand (wpI_seq h fun b s₂ h₂ => ?_)
  cases b <;> exact h₂
theorem wpI_Assert {test : Expr} {msg : Option Expr} {pos : Pos} {Q : Flow → Shared → Prop} (h : wpI M A (isTrue test env (eval test env)) (fun b s₁ => b = true ∧ Q .next s₁) E s) : wpI M A (exec (.Assert test msg pos) env) Q E s := by
  rw [arm_exec_Assert]
  refine wpI_stand (wpI_seq h fun b s₁ h₁ => ?_)
  obtain ⟨rfl, hq⟩ := h₁
  exact wpI_pure hq
theorem wpI_Expr {prog : Program} {w : World} {e : Expr} {pos : Pos} {Q : Flow → Shared → Prop} (h : wpI (model prog w) A (eval e env) (fun _ => Q .next) E s)
    (hi : interactive env = false := by rfl) (hs : swapsWith e none pos.line env = pure false := by rfl) : wpI (model prog w) A (exec (.Expr e pos) env) Q E s := by
  rw [exec_Expr env e pos hi hs]
  exact wpI_stand (wpI_seq h fun v s' h' => wpI_any (wpAny_dropValue h'))
theorem wpI_Delete1 {o i : Expr} {spos pos : Pos} {Q : Flow → Shared → Prop} (h : wpI M A (eval o env) (fun ov s₁ => wpI M A (eval i env) (fun iv s₂ => wpI M A (delItem ov iv) (fun _ => Q .next) E s₂) E s₁) E s) :
    wpI M A (exec (.Delete [.Subscript o i spos] pos) env) Q E s := by
  rw [arm_exec_Delete]
  refine wpI_stand ?_
  rw [arm_deleteEach_cons, arm_delete_Subscript]
  refine wpI_seq (Q' := fun _ => Q .next) (wpI_seq (Q' := fun _ => Q .next) (wpI_seq h fun ov s₁ h₁ => wpI_seq (wpI_holding h₁) fun iv s₂ h₂ => wpI_stand (wpI_seq (wpI_holding h₂) fun _ s₃ h₃ => wpI_any (wpAny_release' h₃))) fun _ s' h' => ?_) fun _ s' h' => wpI_pure h'
  rw [arm_deleteEach_nil]; exact wpI_pure h'
theorem wpI_assign_Name {x : Str} {pos : Pos} {v : Value} {Q : Unit → Shared → Prop} (h : wpI M A (storeName env x v) Q E s) : wpI M A (assign (.Name x pos) env v) Q E s := by
  show wpI M A (do standAt pos; bindName env x v) Q E s
  exact wpI_stand (wpI_bindName h)
theorem wpI_Assign_Subscript {o i value : Expr} {pos' pos : Pos} {Q : Flow → Shared → Prop}
    (h : wpI M A (eval value env) (fun v s₁ => wpI M A (eval o env) (fun ov s₂ => wpI M A (eval i env) (fun iv s₃ => wpI M A (setItem ov iv v) (fun _ => Q .next) E s₃) E s₂) E s₁) E s)
    (hs : swapsWith value (some (.Subscript o i pos')) pos.line env = pure false := by rfl) : wpI M A (exec (.Assign [.Subscript o i pos'] value pos) env) Q E s := by
  rw [exec_Assign_Subscript o i pos' value pos hs]
  refine wpI_stand (wpI_seq h fun v s₁ h₁ => wpI_seq (Q' := fun _ => Q .next) ?_ fun _ s₂ h₂ => wpI_pure h₂)
  rw [assign_Subscript]
  exact wpI_seq (wpI_holding h₁) fun ov s₂ h₂ => wpI_seq (wpI_holding h₂) fun iv s₃ h₃ => wpI_stand (wpI_seq (wpI_holding h₃) fun _ s₄ h₄ => wpI_any (wpAny_release' h₄))
theorem wpI_runOwn {c : Code} {Q : Flow → Shared → Prop} (hd : notDec c = true) (hc : codeI M A c (fun r s' => match r with | .ok f => Q f s' | .error _ => False) s) : wpI M A (runOwn c env none) Q E s := by
  unfold runOwn
  refine wpI_onRaise' (wpI_run hd ?_)
  exact codeI_mono hc fun r s' h => by cases r <;> exact h
end
end Mine
end

section
set_option maxRecDepth 100000
set_option autoImplicit false
set_option linter.unusedVariables false
set_option linter.deprecated false
namespace Mine
open PySem PySem.Calls PyProof.Rows
namespace FA
theorem mro : mroOf (.type "bytearray") = pure [.type "bytearray", .type "object"] := by rw [mroOf_type]; kernel_rfl
theorem lookup_new : typeLookup (.type "bytearray") "__new__" = pure (some (.builtin "bytearray.__new__")) := by rw [typeLookup_type, builtinLookup_eq_fast]; kernel_rfl
theorem slot_init : Slot "bytearray" "__init__" "bytearray.__init__" :=
  .of (owner := "bytearray") (n := "__init__") (by rw [typeLookup_type, builtinLookup_eq_fast]; kernel_rfl) (by decide +kernel) (by decide +kernel) (by decide +kernel)
    (by first | exact .inl (by decide +kernel) | exact .inr (by decide +kernel)) (by rw [isSubtype_type]; kernel_rfl)
theorem called : TypeCalled "bytearray" "bytearray.__new__" "bytearray.__init__" :=
  ⟨by decide +kernel, by decide +kernel, ⟨_, _, mro⟩, madeBy_type mro lookup_new (by decide +kernel), by decide +kernel, by rw [isSubtype_type]; kernel_rfl, slot_init⟩
theorem typeCall (a : Value) : checkTypeCall "bytearray" ⟨[a], []⟩ = pure () := by kernel_rfl
theorem newCall (a : Value) : checkBuiltinCall "bytearray.__new__" ⟨[.type "bytearray", a], []⟩ = pure () := by kernel_rfl
theorem plain_new : plainId "bytearray.__new__" = true := by decide +kernel
theorem plain_init : plainId "bytearray.__init__" = true := by decide +kernel
theorem entry_new : entryFor table "bytearray.__new__" = some Builtin.«list.__new__» :=
  entryFor_alias (id' := "list.__new__") (by kernel_rfl) (by first | rfl | decide +kernel | (unfold String.splitOn; simp +decide [String.splitOnAux])) (by decide +kernel) (by kernel_rfl)
theorem entry_init : entryFor table "bytearray.__init__" = some Builtin.«bytearray.__init__» := by first | exact entryFor_of_fast (by kernel_rfl) | exact entryFor_of_tree (by kernel_rfl)
theorem init_args (o a : Value) : argsOk "bytearray.__init__" ⟨[o, a], []⟩ := by unfold argsOk; kernel_rfl
set_option maxRecDepth 1000000 in
set_option maxHeartbeats 4000000 in
theorem owner_new : ("bytearray.__new__".splitOn ".__new__").headD "" = "bytearray" := by simp +decide [String.splitOn, String.splitOnAux]
theorem look_release : typeLookup (.type "bytearray") "__release_buffer__" = pure (some (.builtin "bytearray.__release_buffer__")) := by rw [typeLookup_type, builtinLookup_eq_fast]; kernel_rfl
theorem look_buffer : typeLookup (.type "bytearray") "__buffer__" = pure (some (.builtin "bytearray.__buffer__")) := by rw [typeLookup_type, builtinLookup_eq_fast]; kernel_rfl
theorem bind1 (v : Value) : Builtin.Bytes.bindOptional "bytearray.__init__" "bytearray" ["source", "encoding", "errors"] [v] [] = pure [some v, none, none] := by kernel_rfl
theorem ends_release : "bytearray.__release_buffer__".endsWith ("." ++ "__release_buffer__") = true := by decide +kernel
theorem ends_buffer : "bytearray.__buffer__".endsWith ("." ++ "__buffer__") = true := by decide +kernel
theorem own_release : "bytearray.__release_buffer__".dropRight ("__release_buffer__".length + 1) = "bytearray" := by decide +kernel
theorem own_buffer : "bytearray.__buffer__".dropRight ("__buffer__".length + 1) = "bytearray" := by decide +kernel
end FA
end Mine
end

section
set_option maxRecDepth 100000
set_option autoImplicit false
set_option linter.unusedVariables false
namespace Mine
open PySem PySem.Calls PyProof.Rows

open PySem.W (Dat)
abbrev D := PySem.W.Dat

mutual
/-- the value v stands for the data d in the heap h; no address of it lies in X -/
inductive Rep (X : Addr → Prop) (h : Heap) : Value → D → Prop
  | none : Rep X h Value.none Dat.none
  | bool (b : Bool) : Rep X h (Value.bool b) (Dat.bool b)
  | int (i : Int) (t : Tok) : Rep X h (Value.int i t) (Dat.int i)
  | str (x : Str) (t : Tok) : Rep X h (Value.str x t) (Dat.str x)
  | bytes (b : Array UInt8) (t : Tok) : Rep X h (Value.bytes b t) (Dat.bytes b)
  | tuple {a : Addr} {vs : List Value} {ds : List D} : ¬ X a → h.IsTuple a vs.toArray → Reps X h vs ds → Rep X h (Value.ref a) (Dat.tuple ds)
  | list {a : Addr} {vs : List Value} {ds : List D} : ¬ X a → h.PlainList a vs.toArray → Reps X h vs ds → Rep X h (Value.ref a) (Dat.list ds)
inductive Reps (X : Addr → Prop) (h : Heap) : List Value → List D → Prop
  | nil : Reps X h [] []
  | cons {v : Value} {vs : List Value} {d : D} {ds : List D} : Rep X h v d → Reps X h vs ds → Reps X h (v :: vs) (d :: ds)
end

/-- every sequence object outside X is as it was -/
def Pres (X : Addr → Prop) (h h' : Heap) : Prop := ∀ a o, ¬ X a → h.get? a = some o → (∃ xs n, o.data = Data.seq xs n) → h'.get? a = some o
def Gr (h h' : Heap) : Prop := ∀ b o, h.get? b = some o → h'.get? b = some o

theorem Gr.pres {X : Addr → Prop} {h h' : Heap} (g : Gr h h') : Pres X h h' := fun a o _ e _ => g a o e
theorem Gr.refl (h : Heap) : Gr h h := fun _ _ e => e
theorem Gr.trans {h h' h'' : Heap} (a : Gr h h') (b : Gr h' h'') : Gr h h'' := fun x o e => b x o (a x o e)
theorem Gr.push (h : Heap) (o : Obj) : Gr h (h.push o) := fun _ _ e => Heap.get?_push_of_some o e

mutual
theorem Rep.pres {X : Addr → Prop} {h h' : Heap} (g : Pres X h h') : ∀ {v : Value} {d : D}, Rep X h v d → Rep X h' v d
  | _, _, .none => .none
  | _, _, .bool b => .bool b
  | _, _, .int i t => .int i t
  | _, _, .str x t => .str x t
  | _, _, .bytes b t => .bytes b t
  | _, _, .tuple hx ht r => .tuple hx (by obtain ⟨o, ho, hc, n, hd⟩ := ht; exact ⟨o, g _ o hx ho ⟨_, _, hd⟩, hc, n, hd⟩) (Reps.pres g r)
  | _, _, .list hx ht r => .list hx (by obtain ⟨n, e⟩ := ht; exact ⟨n, g _ _ hx e ⟨_, _, rfl⟩⟩) (Reps.pres g r)
theorem Reps.pres {X : Addr → Prop} {h h' : Heap} (g : Pres X h h') : ∀ {vs : List Value} {ds : List D}, Reps X h vs ds → Reps X h' vs ds
  | _, _, .nil => .nil
  | _, _, .cons a r => .cons (Rep.pres g a) (Reps.pres g r)
end
mutual
/-- other exclusions, if they leave the living sequence objects alone -/
theorem Rep.excl {X Y : Addr → Prop} {h : Heap} (g : ∀ a o, h.get? a = some o → ¬ X a → ¬ Y a) : ∀ {v : Value} {d : D}, Rep X h v d → Rep Y h v d
  | _, _, .none => .none
  | _, _, .bool b => .bool b
  | _, _, .int i t => .int i t
  | _, _, .str x t => .str x t
  | _, _, .bytes b t => .bytes b t
  | _, _, .tuple hx ht r => .tuple (by obtain ⟨o, ho, _⟩ := ht; exact g _ o ho hx) ht (Reps.excl g r)
  | _, _, .list hx ht r => .list (by obtain ⟨n, e⟩ := ht; exact g _ _ e hx) ht (Reps.excl g r)
theorem Reps.excl {X Y : Addr → Prop} {h : Heap} (g : ∀ a o, h.get? a = some o → ¬ X a → ¬ Y a) : ∀ {vs : List Value} {ds : List D}, Reps X h vs ds → Reps Y h vs ds
  | _, _, .nil => .nil
  | _, _, .cons a r => .cons (Rep.excl g a) (Reps.excl g r)
end
theorem Rep.gr {X : Addr → Prop} {h h' : Heap} {v : Value} {d : D} (r : Rep X h v d) (g : Gr h h') : Rep X h' v d := r.pres g.pres
theorem Reps.gr {X : Addr → Prop} {h h' : Heap} {vs : List Value} {ds : List D} (r : Reps X h vs ds) (g : Gr h h') : Reps X h' vs ds := r.pres g.pres
theorem Rep.weaken {X Y : Addr → Prop} {h : Heap} {v : Value} {d : D} (r : Rep X h v d) (g : ∀ a, Y a → X a) : Rep Y h v d := r.excl fun a _ _ hx hy => hx (g a hy)
theorem Reps.weaken {X Y : Addr → Prop} {h : Heap} {vs : List Value} {ds : List D} (r : Reps X h vs ds) (g : ∀ a, Y a → X a) : Reps Y h vs ds := r.excl fun a _ _ hx hy => hx (g a hy)

/-- one more excluded address -/
def Plus (X : Addr → Prop) (a : Addr) : Addr → Prop := fun b => b = a ∨ X b
theorem Rep.plus {X : Addr → Prop} {h : Heap} {v : Value} {d : D} {a : Addr} (r : Rep X h v d) (ha : h.get? a = Option.none) : Rep (Plus X a) h v d :=
  r.excl fun b o e hx hy => by
    rcases hy with rfl | hy
    · rw [ha] at e; cases e
    · exact hx hy
theorem Reps.plus {X : Addr → Prop} {h : Heap} {vs : List Value} {ds : List D} {a : Addr} (r : Reps X h vs ds) (ha : h.get? a = Option.none) : Reps (Plus X a) h vs ds :=
  r.excl fun b o e hx hy => by
    rcases hy with rfl | hy
    · rw [ha] at e; cases e
    · exact hx hy
theorem Rep.less {X : Addr → Prop} {h : Heap} {v : Value} {d : D} {a : Addr} (r : Rep (Plus X a) h v d) : Rep X h v d := r.weaken fun _ h => .inr h
theorem Reps.less {X : Addr → Prop} {h : Heap} {vs : List Value} {ds : List D} {a : Addr} (r : Reps (Plus X a) h vs ds) : Reps X h vs ds := r.weaken fun _ h => .inr h

section
variable {X : Addr → Prop} {h : Heap} {v : Value} {vs ws : List Value} {d : D} {ds es : List D}
theorem Reps.length (r : Reps X h vs ds) : vs.length = ds.length := by
  induction vs generalizing ds with
  | nil => cases r; rfl
  | cons v vs ih => cases r with | cons _ r => simp [ih r]
theorem Reps.append (r : Reps X h vs ds) (k : Reps X h ws es) : Reps X h (vs ++ ws) (ds ++ es) := by
  induction vs generalizing ds with
  | nil => cases r; exact k
  | cons v vs ih => cases r with | cons a r => exact .cons a (ih r)
theorem Reps.one (r : Rep X h v d) : Reps X h [v] [d] := .cons r .nil
theorem Reps.get (r : Reps X h vs ds) {k : Nat} (hk : k < ds.length) : ∃ v, vs[k]? = some v ∧ Rep X h v (ds[k]'hk) := by
  induction vs generalizing ds k with
  | nil => cases r; exact absurd hk (Nat.not_lt_zero _)
  | cons v vs ih =>
    cases r with
    | cons a r =>
      cases k with
      | zero => exact ⟨v, rfl, a⟩
      | succ k => exact ih r (Nat.lt_of_succ_lt_succ hk)
theorem Reps.get' (r : Reps X h vs ds) {k : Nat} (hk : vs[k]? = some v) : ∃ d, ds[k]? = some d ∧ Rep X h v d := by
  have hl : k < vs.length := (List.getElem?_eq_some_iff.mp hk).1
  have hd : k < ds.length := r.length ▸ hl
  obtain ⟨w, hw, hr⟩ := r.get hd
  rw [hk] at hw; cases hw
  exact ⟨_, List.getElem?_eq_getElem hd, hr⟩
theorem Reps.take (r : Reps X h vs ds) (k : Nat) : Reps X h (vs.take k) (ds.take k) := by
  induction vs generalizing ds k with
  | nil => cases r; simpa using Reps.nil
  | cons v vs ih =>
    cases r with
    | cons a r =>
      cases k with
      | zero => exact .nil
      | succ k => exact .cons a (ih r k)
theorem Reps.drop (r : Reps X h vs ds) (k : Nat) : Reps X h (vs.drop k) (ds.drop k) := by
  induction vs generalizing ds k with
  | nil => cases r; simpa using Reps.nil
  | cons v vs ih =>
    cases r with
    | cons a r =>
      cases k with
      | zero => exact .cons a r
      | succ k => exact ih r k
theorem Reps.reverse (r : Reps X h vs ds) : Reps X h vs.reverse ds.reverse := by
  induction vs generalizing ds with
  | nil => cases r; exact .nil
  | cons v vs ih =>
    cases r with
    | cons a r => simpa using (ih r).append (.one a)
theorem Rep.int_inv {i : Int} (r : Rep X h v (.int i)) : ∃ t, v = .int i t := by cases r; exact ⟨_, rfl⟩
theorem Rep.bool_inv {b : Bool} (r : Rep X h v (.bool b)) : v = .bool b := by cases r; rfl
theorem Rep.str_inv {x : Str} (r : Rep X h v (.str x)) : ∃ t, v = .str x t := by cases r; exact ⟨_, rfl⟩
theorem Rep.bytes_inv {b : Array UInt8} (r : Rep X h v (.bytes b)) : ∃ t, v = .bytes b t := by cases r; exact ⟨_, rfl⟩
theorem Rep.list_inv (r : Rep X h v (.list ds)) : ∃ a vs, v = .ref a ∧ ¬ X a ∧ h.PlainList a vs.toArray ∧ Reps X h vs ds := by cases r; exact ⟨_, _, rfl, by assumption, by assumption, by assumption⟩
theorem Rep.tuple_inv (r : Rep X h v (.tuple ds)) : ∃ a vs, v = .ref a ∧ ¬ X a ∧ h.IsTuple a vs.toArray ∧ Reps X h vs ds := by cases r; exact ⟨_, _, rfl, by assumption, by assumption, by assumption⟩
theorem Reps.ints {ns : List Int} (r : Reps X h vs (ns.map Dat.int)) : IntsAre vs ns := by
  induction vs generalizing ns with
  | nil =>
    cases ns with
    | nil => exact .nil
    | cons n ns => cases r
  | cons v vs ih =>
    cases ns with
    | nil => cases r
    | cons n ns =>
      cases r with
      | cons a r =>
        obtain ⟨t, rfl⟩ := a.int_inv
        exact .cons _ _ (ih r)
theorem Reps.of_ints {ns : List Int} (r : IntsAre vs ns) : Reps X h vs (ns.map Dat.int) := by
  induction vs generalizing ns with
  | nil =>
    cases ns with
    | nil => exact .nil
    | cons n ns => cases r
  | cons v vs ih =>
    cases ns with
    | nil => cases r
    | cons n ns => cases r with | cons _ _ r => exact .cons (.int _ _) (ih r)
end

/-- what a name may hold: plain data, or a list | a bytearray of one's own at an address -/
inductive B where
  | v (d : D)
  | ml (a : Addr) (ds : List D)
  | mb (a : Addr) (b : Array UInt8)
  | ty (T : String)
  | sl (lo hi st : Option Int)
def B.at? : B → Option Addr
  | .v _ => none
  | .ml a _ => some a
  | .mb a _ => some a
  | .ty _ => none
  | .sl _ _ _ => none
def RepB (X : Addr → Prop) (h : Heap) (v : Value) : B → Prop
  | .v d => Rep X h v d
  | .ml a ds => v = .ref a ∧ X a ∧ ∃ vs : List Value, h.PlainList a vs.toArray ∧ Reps X h vs ds
  | .mb a b => v = .ref a ∧ X a ∧ h.get? a = some { cls := .type "bytearray", data := .bytearray b }
  | .ty T => v = .type T
  | .sl lo hi st => ∃ a vl vu vs, v = .ref a ∧ h.IsSliceOf a vl vu vs ∧ IsPart vl lo ∧ IsPart vu hi ∧ IsPart vs st
theorem RepB.gr {X : Addr → Prop} {h h' : Heap} {v : Value} {b : B} (r : RepB X h v b) (g : Gr h h') : RepB X h' v b := by
  cases b with
  | v d => exact Rep.gr r g
  | ml a ds => obtain ⟨h1, h2, vs, ⟨n, h3⟩, h4⟩ := r; exact ⟨h1, h2, vs, ⟨n, g _ _ h3⟩, h4.gr g⟩
  | mb a ds => obtain ⟨h1, h2, h3⟩ := r; exact ⟨h1, h2, g _ _ h3⟩
  | ty T => exact r
  | sl lo hi st => obtain ⟨a, vl, vu, vs, h1, ⟨o, ho, h2⟩, h3⟩ := r; exact ⟨a, vl, vu, vs, h1, ⟨o, g _ _ ho, h2⟩, h3⟩

structure Cx where
  prog : Program
  w : World
  s0 : Shared
  mg : Str → Option Value
  mb : Str → Option Value
abbrev Cx.M (C : Cx) : Model := model C.prog C.w
structure Cx.Ok (C : Cx) : Prop where
  g : C.s0.heap.Ns mainGlobals C.mg
  b : C.s0.heap.Ns builtinsNs C.mb
  nolimit : C.s0.heap.NoLimit
  builtins : ∀ x : Str, x ≠ "__name__" → C.mb x = bootBuiltins x

structure Room (n : Nat) (A : Around) : Prop where
  handled : A.handled = none
  depth : A.depth + n ≤ 900
  units : A.units + 20 * n ≤ 9000
theorem Room.less {n : Nat} {A : Around} (r : Room (n + 1) A) : Room n A := ⟨r.handled, by have := r.depth; omega, by have := r.units; omega⟩
theorem Room.le {n m : Nat} {A : Around} (r : Room n A) (h : m ≤ n) : Room m A := ⟨r.handled, by have := r.depth; omega, by have := r.units; omega⟩
theorem Room.deeper {n : Nat} {A : Around} (r : Room (n + 1) A) (env : Env) : Room n (A.deeper env) :=
  ⟨r.handled, by have := r.depth; show A.depth + 1 + n ≤ 900; omega, by have := r.units; show A.units + 3 + 20 * n ≤ 9000; omega⟩

structure EnvOk (env : Env) : Prop where
  kind : env.scope.kind = .function
  glob : env.globals = mainGlobals
  blt : env.builtins = builtinsNs

def VarAt (env : Env) (h : Heap) (x : Str) (v : Value) : Prop :=
  (env.kindOf x = some .local ∧ ∃ m, h.Ns env.locals m ∧ m x = some v) ∨
  ((env.kindOf x = some .cell ∨ env.kindOf x = some .free) ∧ ∃ c, env.cells.lookup x = some c ∧ h.IsCell c (some v))
theorem VarAt.gr {env : Env} {h h' : Heap} {x : Str} {v : Value} (r : VarAt env h x v) (g : Gr h h') : VarAt env h' x v := by
  rcases r with ⟨hk, m, hn, hm⟩ | ⟨hk, c, hc, hv⟩
  · exact .inl ⟨hk, m, hn.keeps g, hm⟩
  · exact .inr ⟨hk, c, hc, hv.keeps g⟩

/-- nothing but the heap and the tokens turned, and the heap only grew -/
structure Kp (s s' : Shared) : Prop where
  ex : ∃ h' tk, s' = { s with heap := h', toks := tk }
  gr : Gr s.heap s'.heap
theorem keeps_refl (s : Shared) : Kp s s := ⟨⟨s.heap, s.toks, rfl⟩, fun _ _ e => e⟩
theorem keeps_trans {s s' s'' : Shared} (a : Kp s s') (b : Kp s' s'') : Kp s s'' := by
  obtain ⟨⟨h', tk, rfl⟩, g⟩ := a
  obtain ⟨⟨h'', tk', rfl⟩, g'⟩ := b
  exact ⟨⟨h'', tk', rfl⟩, fun x o e => g' x o (g x o e)⟩
theorem keeps_toks (s : Shared) (t : Nat) : Kp s { s with toks := t } := ⟨⟨s.heap, t, rfl⟩, fun _ _ e => e⟩
theorem keeps_push (s : Shared) (o : Obj) : Kp s { s with heap := s.heap.push o } := ⟨⟨_, s.toks, rfl⟩, Gr.push _ _⟩
theorem keeps_heap {s : Shared} {h' : Heap} {t : Nat} (g : Gr s.heap h') : Kp s { s with heap := h', toks := t } := ⟨⟨h', t, rfl⟩, g⟩
theorem keeps_heap' {s : Shared} {h' : Heap} (g : Gr s.heap h') : Kp s { s with heap := h' } := ⟨⟨h', s.toks, rfl⟩, g⟩
theorem Kp.keeps {s s' : Shared} (k : Kp s s') : PySem.Keeps s s' := by
  obtain ⟨⟨h', tk, rfl⟩, g⟩ := k
  exact ⟨h', tk, rfl, g⟩

abbrev Rho := List (Str × B)

/-- the readable state -/
structure Rd (C : Cx) (X : Addr → Prop) (env : Env) (ρ : Rho) (s : Shared) : Prop where
  ok : C.Ok
  eok : EnvOk env
  base : Kp C.s0 s
  vars : ∀ x b, ρ.lookup x = some b → ∃ v, VarAt env s.heap x v ∧ RepB X s.heap v b
  xs : ∀ a, X a → ∃ o, s.heap.get? a = some o
theorem Rd.keeps {C : Cx} {X : Addr → Prop} {env : Env} {ρ : Rho} {s s' : Shared} (r : Rd C X env ρ s) (k : Kp s s') : Rd C X env ρ s' where
  ok := r.ok
  eok := r.eok
  base := keeps_trans r.base k
  vars := fun x b e => let ⟨v, h1, h2⟩ := r.vars x b e; ⟨v, h1.gr k.gr, h2.gr k.gr⟩
  xs := fun a h => let ⟨o, e⟩ := r.xs a h; ⟨o, k.gr a o e⟩

/-- the expression gives this -/
def Ev (n : Nat) (C : Cx) (X : Addr → Prop) (env : Env) (ρ : Rho) (e : Expr) (b : B) : Prop :=
  ∀ A s, Room n A → Rd C X env ρ s → wpI C.M A (eval e env) (fun v s' => Kp s s' ∧ RepB X s'.heap v b) (fun _ _ => False) s
/-- the test comes out so -/
def Tr (n : Nat) (C : Cx) (X : Addr → Prop) (env : Env) (ρ : Rho) (e : Expr) (c : Bool) : Prop :=
  ∀ A s, Room n A → Rd C X env ρ s → wpI C.M A (isTrue e env (eval e env)) (fun c' s' => Kp s s' ∧ c' = c) (fun _ _ => False) s

section
variable {n : Nat} {C : Cx} {X : Addr → Prop} {env : Env} {ρ : Rho} {A : Around} {s : Shared} {E : Value → Shared → Prop}
theorem Ev.use {e : Expr} {b : B} {Q : Value → Shared → Prop} (h : Ev n C X env ρ e b) (hA : Room n A) (hs : Rd C X env ρ s)
    (k : ∀ v s', Kp s s' → Rd C X env ρ s' → RepB X s'.heap v b → Q v s') : wpI C.M A (eval e env) Q E s :=
  wpI_mono (h A s hA hs) (fun v s' hv => k v s' hv.1 (hs.keeps hv.1) hv.2) fun _ _ f => f.elim
theorem Tr.use {e : Expr} {c : Bool} {Q : Bool → Shared → Prop} (h : Tr n C X env ρ e c) (hA : Room n A) (hs : Rd C X env ρ s)
    (k : ∀ s', Kp s s' → Rd C X env ρ s' → Q c s') : wpI C.M A (isTrue e env (eval e env)) Q E s :=
  wpI_mono (h A s hA hs) (fun v s' hv => by obtain ⟨h1, rfl⟩ := hv; exact k s' h1 (hs.keeps h1)) fun _ _ f => f.elim

theorem ev_int {i : Int} {k : Nat} {pos : Pos} : Ev n C X env ρ (.Constant (.int i) k pos) (.v (.int i)) :=
  fun _ s _ _ => wpI_any (wpAny_Constant_int ⟨keeps_toks s _, .int _ _⟩)
theorem ev_str {x : Str} {k : Nat} {pos : Pos} : Ev n C X env ρ (.Constant (.str x) k pos) (.v (.str x)) :=
  fun _ s _ _ => wpI_any (Constant_str ⟨keeps_toks s _, .str _ _⟩)
theorem ev_bool {c : Bool} {k : Nat} {pos : Pos} : Ev n C X env ρ (.Constant (.bool c) k pos) (.v (.bool c)) :=
  fun _ s _ _ => wpI_any (Constant_bool ⟨keeps_refl s, .bool _⟩)
theorem ev_name {x : Str} {b : B} {pos : Pos} (hx : ρ.lookup x = some b) (hd : (x == ("__debug__" : Str)) = false := by decide) (hc : (x == ("__classdict__" : Str)) = false := by decide) :
    Ev n C X env ρ (.Name x pos) b := by
  intro A s hA hs
  obtain ⟨v, hv, hr⟩ := hs.vars x b hx
  refine wpI_any (wpAny_Name ?_ hd)
  rcases hv with ⟨hk, m, hn, hm⟩ | ⟨hk | hk, c, hcl, hv⟩
  · exact wpAny_loadName_local hs.eok.kind hk hn hm ⟨keeps_refl s, hr⟩
  · exact wpAny_loadName_cell hs.eok.kind hk hcl hv ⟨keeps_refl s, hr⟩
  · exact wpAny_loadName_free hs.eok.kind hk hcl hv ⟨keeps_refl s, hr⟩ hc
theorem ev_binop {l r : Expr} {op : Operator} {pos : Pos} {b1 b2 b : B} (h1 : Ev n C X env ρ l b1) (h2 : Ev n C X env ρ r b2)
    (k : ∀ A s v1 v2, Room n A → Rd C X env ρ s → RepB X s.heap v1 b1 → RepB X s.heap v2 b2 → wpAny C.M A (binaryOp op v1 v2) (fun v s' => Kp s s' ∧ RepB X s'.heap v b) (fun _ _ => False) s) :
    Ev n C X env ρ (.BinOp l op r pos) b := fun A s hA hs =>
  wpI_BinOp (h1.use hA hs fun v1 s1 k1 r1 p1 => h2.use hA r1 fun v2 s2 k2 r2 p2 =>
    wpI_any (wpAny_mono (k A s2 v1 v2 hA r2 (p1.gr k2.gr) p2) (fun _ _ h => ⟨keeps_trans k1 (keeps_trans k2 h.1), h.2⟩) fun _ _ f => f))
theorem ev_cmp {l r : Expr} {op : CmpOp} {pos : Pos} {b1 b2 b : B} (h1 : Ev n C X env ρ l b1) (h2 : Ev n C X env ρ r b2)
    (k : ∀ A s v1 v2, Room n A → Rd C X env ρ s → RepB X s.heap v1 b1 → RepB X s.heap v2 b2 → wpAny C.M A (compareOp op v1 v2) (fun v s' => Kp s s' ∧ RepB X s'.heap v b) (fun _ _ => False) s)
    (hm : behindInMarks op r = false := by with_unfolding_all rfl) :
    Ev n C X env ρ (.Compare l [op] [r] pos) b := fun A s hA hs =>
  wpI_Compare1 (h1.use hA hs fun v1 s1 k1 r1 p1 => h2.use hA r1 fun v2 s2 k2 r2 p2 =>
    wpI_any (wpAny_mono (k A s2 v1 v2 hA r2 (p1.gr k2.gr) p2) (fun _ _ h => ⟨keeps_trans k1 (keeps_trans k2 h.1), h.2⟩) fun _ _ f => f)) hm
theorem tr_cmp {l r : Expr} {op : CmpOp} {pos : Pos} {b1 b2 : B} {c : Bool} (h1 : Ev n C X env ρ l b1) (h2 : Ev n C X env ρ r b2)
    (k : ∀ A s v1 v2, Room n A → Rd C X env ρ s → RepB X s.heap v1 b1 → RepB X s.heap v2 b2 → wpAny C.M A (compareOp op v1 v2) (fun v s' => Kp s s' ∧ RepB X s'.heap v (.v (.bool c))) (fun _ _ => False) s)
    (hm : behindInMarks op r = false := by with_unfolding_all rfl) :
    Tr n C X env ρ (.Compare l [op] [r] pos) c := fun A s hA hs =>
  wpI_isTrue_Compare1 (h1.use hA hs fun v1 s1 k1 r1 p1 => h2.use hA r1 fun v2 s2 k2 r2 p2 =>
    wpI_mono (wpI_any (k A s2 v1 v2 hA r2 (p1.gr k2.gr) p2)) (fun v s' h => by
      have hv : v = .bool c := Rep.bool_inv h.2
      subst hv
      exact wpI_any (wpAny_truthy_bool ⟨keeps_trans k1 (keeps_trans k2 h.1), rfl⟩)) fun _ _ f => f) hm
theorem tr_not {e : Expr} {pos : Pos} {c : Bool} (h : Tr n C X env ρ e c) : Tr n C X env ρ (.UnaryOp .Not e pos) (!c) := fun A s hA hs =>
  wpI_isTrue_not (h.use hA hs fun _ k _ => ⟨k, rfl⟩)
theorem tr_and {e f : Expr} {pos : Pos} {c d : Bool} (h : Tr n C X env ρ e c) (h' : c = true → Tr n C X env ρ f d) : Tr n C X env ρ (.BoolOp .And [e, f] pos) (c && d) := fun A s hA hs =>
  wpI_isTrue_and (h.use hA hs fun s1 k1 r1 => by
    cases c with
    | false => exact ⟨k1, rfl⟩
    | true => exact wpI_isTrue_and ((h' rfl).use hA r1 fun s2 k2 r2 => by
        cases d with
        | false => exact ⟨keeps_trans k1 k2, rfl⟩
        | true => exact wpI_any (isTrue_and_nil ⟨keeps_trans k1 k2, rfl⟩)))
theorem tr_or {e f : Expr} {pos : Pos} {c d : Bool} (h : Tr n C X env ρ e c) (h' : c = false → Tr n C X env ρ f d) : Tr n C X env ρ (.BoolOp .Or [e, f] pos) (c || d) := fun A s hA hs =>
  wpI_isTrue_or (h.use hA hs fun s1 k1 r1 => by
    cases c with
    | true => exact ⟨k1, rfl⟩
    | false => exact wpI_isTrue_or ((h' rfl).use hA r1 fun s2 k2 r2 => by
        cases d with
        | true => exact ⟨keeps_trans k1 k2, rfl⟩
        | false => exact wpI_any (isTrue_or_nil ⟨keeps_trans k1 k2, rfl⟩)))
/-- a test that is a value: its truth -/
theorem tr_val {e : Expr} {b : B} {c : Bool} (h : Ev n C X env ρ e b)
    (k : ∀ A s v, Room n A → Rd C X env ρ s → RepB X s.heap v b → wpAny C.M A (truthy v) (fun c' s' => Kp s s' ∧ c' = c) (fun _ _ => False) s)
    (he : isTrue e env (eval e env) = (do let v ← eval e env; standAt e.pos; holding [v] (truthy v)) := by rfl) : Tr n C X env ρ e c := fun A s hA hs =>
  wpI_isTrue_plain (h.use hA hs fun v s1 k1 r1 p1 => wpI_any (wpAny_mono (k A s1 v hA r1 p1) (fun _ _ h => ⟨keeps_trans k1 h.1, h.2⟩) fun _ _ f => f)) he
theorem tr_bool {e : Expr} {c : Bool} (h : Ev n C X env ρ e (.v (.bool c)))
    (he : isTrue e env (eval e env) = (do let v ← eval e env; standAt e.pos; holding [v] (truthy v)) := by rfl) : Tr n C X env ρ e c :=
  tr_val h (fun A s v _ _ r => by have hv : v = .bool c := Rep.bool_inv r; subst hv; exact wpAny_truthy_bool ⟨keeps_refl s, rfl⟩) he
end

end Mine
end

section
set_option maxRecDepth 100000
set_option autoImplicit false
set_option linter.unusedVariables false
namespace Mine
open PySem PySem.Calls PyProof.Rows
open PySem.W (Dat kqdOk kqdP kqdPs kqd_lay kqd_eqv)

/-! arithmetic -/
section
variable {n : Nat} {C : Cx} {X : Addr → Prop} {env : Env} {ρ : Rho} {l r : Expr} {pos : Pos}
theorem ev_add {a b : Int} (h1 : Ev n C X env ρ l (.v (.int a))) (h2 : Ev n C X env ρ r (.v (.int b))) : Ev n C X env ρ (.BinOp l .Add r pos) (.v (.int (a + b))) :=
  ev_binop h1 h2 fun A s v1 v2 hA hs r1 r2 => by
    obtain ⟨t1, rfl⟩ := Rep.int_inv r1
    obtain ⟨t2, rfl⟩ := Rep.int_inv r2
    exact add_int ⟨keeps_toks s _, .int _ _⟩
theorem ev_sub {a b : Int} (h1 : Ev n C X env ρ l (.v (.int a))) (h2 : Ev n C X env ρ r (.v (.int b))) : Ev n C X env ρ (.BinOp l .Sub r pos) (.v (.int (a - b))) :=
  ev_binop h1 h2 fun A s v1 v2 hA hs r1 r2 => by
    obtain ⟨t1, rfl⟩ := Rep.int_inv r1
    obtain ⟨t2, rfl⟩ := Rep.int_inv r2
    exact sub_int ⟨keeps_toks s _, .int _ _⟩
theorem ev_mul {a b : Int} (h1 : Ev n C X env ρ l (.v (.int a))) (h2 : Ev n C X env ρ r (.v (.int b))) (ha : a.natAbs < 2 ^ 64) : Ev n C X env ρ (.BinOp l .Mult r pos) (.v (.int (a * b))) :=
  ev_binop h1 h2 fun A s v1 v2 hA hs r1 r2 => by
    obtain ⟨t1, rfl⟩ := Rep.int_inv r1
    obtain ⟨t2, rfl⟩ := Rep.int_inv r2
    exact mul_int ⟨keeps_toks s _, .int _ _⟩ (IntMulOk.of_left (intBits_le ha))
theorem ev_fdiv {a b : Int} (h1 : Ev n C X env ρ l (.v (.int a))) (h2 : Ev n C X env ρ r (.v (.int b))) (hb : b ≠ 0) (hs : b.natAbs < 1073741824) : Ev n C X env ρ (.BinOp l .FloorDiv r pos) (.v (.int (a.fdiv b))) :=
  ev_binop h1 h2 fun A s v1 v2 hA hs' r1 r2 => by
    obtain ⟨t1, rfl⟩ := Rep.int_inv r1
    obtain ⟨t2, rfl⟩ := Rep.int_inv r2
    exact floordiv_int hb ⟨keeps_toks s _, .int _ _⟩ (.inl (PyProof.noPylong_small hs))
theorem ev_fmod {a b : Int} (h1 : Ev n C X env ρ l (.v (.int a))) (h2 : Ev n C X env ρ r (.v (.int b))) (hb : b ≠ 0) : Ev n C X env ρ (.BinOp l .Mod r pos) (.v (.int (a.fmod b))) :=
  ev_binop h1 h2 fun A s v1 v2 hA hs' r1 r2 => by
    obtain ⟨t1, rfl⟩ := Rep.int_inv r1
    obtain ⟨t2, rfl⟩ := Rep.int_inv r2
    exact mod_int hb ⟨keeps_toks s _, .int _ _⟩
theorem ev_pow {a b : Int} (h1 : Ev n C X env ρ l (.v (.int a))) (h2 : Ev n C X env ρ r (.v (.int b))) (h0 : 0 ≤ b) (hb : b ≤ 1000000) (ha : a.natAbs < 2 ^ 64) : Ev n C X env ρ (.BinOp l .Pow r pos) (.v (.int (a ^ b.toNat))) :=
  ev_binop h1 h2 fun A s v1 v2 hA hs' r1 r2 => by
    obtain ⟨t1, rfl⟩ := Rep.int_inv r1
    obtain ⟨t2, rfl⟩ := Rep.int_inv r2
    exact pow_int_small h0 hb ha ⟨keeps_toks s _, .int _ _⟩
theorem ev_cat {x y : Str} (h1 : Ev n C X env ρ l (.v (.str x))) (h2 : Ev n C X env ρ r (.v (.str y))) (hsz : x.length + y.length ≤ sizeLine) : Ev n C X env ρ (.BinOp l .Add r pos) (.v (.str (x ++ y))) :=
  ev_binop h1 h2 fun A s v1 v2 hA hs' r1 r2 => by
    obtain ⟨t1, rfl⟩ := Rep.str_inv r1
    obtain ⟨t2, rfl⟩ := Rep.str_inv r2
    exact add_str (fun t' tk => ⟨keeps_toks s _, .str _ _⟩) hsz
/-- two lists glued: a new list -/
theorem wp_add_lists {prog : Program} {w : World} {A : Around} {E : Value → Shared → Prop} {s : Shared} {l b : Addr} {vs ws : List Value} {Q : Value → Shared → Prop} (hl : s.heap.IsList l vs.toArray) (hb : s.heap.IsList b ws.toArray)
    (h : Q (.ref s.heap.objs.size) { s with heap := s.heap.push { cls := .type "list", data := .seq (vs ++ ws).toArray } }) (hsz : vs.length + ws.length ≤ sizeLine) :
    wpAny (model prog w) A (binaryOp .Add (.ref l) (.ref b)) Q E s := by
  obtain ⟨⟨cls, dd, data, sl⟩, ho, hc, n, hd⟩ := id hl
  obtain ⟨⟨cls2, dd2, data2, sl2⟩, ho2, hc2, n2, hd2⟩ := id hb
  simp only at hc hd hc2 hd2
  subst hc hd hc2 hd2
  have e : vs.toArray ++ ws.toArray = (vs ++ ws).toArray := by simp
  refine concat_meets ⟨_, ho, rfl⟩ ⟨_, ho2, rfl⟩ noFill_list_add seq_list_add PySem.F.slot_list_add PySem.F.entry_list_add (PySem.F.args_list_add_2 _ _) (list_addW l b vs.toArray ws.toArray n n2 dd dd2 sl sl2 (by simpa using hsz)) ⟨ho, ho2, ?_⟩
  rw [e]
  exact h
theorem plain_new (h : Heap) (vs : List Value) : (h.push { cls := .type "list", data := .seq vs.toArray }).PlainList h.objs.size vs.toArray := ⟨0, Heap.get?_push_size _ rfl⟩
theorem isTuple_new (h : Heap) (vs : List Value) : (h.push { cls := .type "tuple", data := .seq vs.toArray }).IsTuple h.objs.size vs.toArray := ⟨_, Heap.get?_push_size _ rfl, rfl, 0, rfl⟩
theorem get_size_none (h : Heap) : h.get? h.objs.size = none := by
  cases e : h.get? h.objs.size with
  | none => rfl
  | some o => exact absurd (Heap.lt_size e) (Nat.lt_irrefl _)
theorem Rd.fresh {s : Shared} (r : Rd C X env ρ s) : ¬ X s.heap.objs.size := fun hx => by
  obtain ⟨o, e⟩ := r.xs _ hx
  rw [get_size_none] at e; cases e
theorem ev_catL {ds es : List D} (h1 : Ev n C X env ρ l (.v (.list ds))) (h2 : Ev n C X env ρ r (.v (.list es))) (hsz : ds.length + es.length ≤ sizeLine) : Ev n C X env ρ (.BinOp l .Add r pos) (.v (.list (ds ++ es))) :=
  ev_binop h1 h2 fun A s v1 v2 hA hs' r1 r2 => by
    obtain ⟨a1, vs, rfl, _, l1, p1⟩ := Rep.list_inv r1
    obtain ⟨a2, ws, rfl, _, l2, p2⟩ := Rep.list_inv r2
    exact wp_add_lists l1.isList l2.isList ⟨keeps_push s _, .list hs'.fresh (plain_new _ _) ((p1.append p2).gr (Gr.push _ _))⟩ (by rw [p1.length, p2.length]; exact hsz)
end

/-! comparisons -/
section
variable {n : Nat} {C : Cx} {X : Addr → Prop} {env : Env} {ρ : Rho} {A : Around} {s : Shared}
/-- what a comparison of two pieces of data comes to -/
def Cmp (op : CmpOp) (b1 b2 : B) (c : Bool) : Prop := ∀ n C X env ρ A s v1 v2, Room n A → Rd C X env ρ s → RepB X s.heap v1 b1 → RepB X s.heap v2 b2 →
  wpAny C.M A (compareOp op v1 v2) (fun v s' => Kp s s' ∧ RepB X s'.heap v (.v (.bool c))) (fun _ _ => False) s
theorem Cmp.ev {op : CmpOp} {b1 b2 : B} {c : Bool} (k : Cmp op b1 b2 c) {l r : Expr} {pos : Pos} (h1 : Ev n C X env ρ l b1) (h2 : Ev n C X env ρ r b2) (hm : behindInMarks op r = false := by with_unfolding_all rfl) :
    Ev n C X env ρ (.Compare l [op] [r] pos) (.v (.bool c)) := ev_cmp h1 h2 (fun A s v1 v2 hA hs r1 r2 => k n C X env ρ A s v1 v2 hA hs r1 r2) hm
theorem Cmp.tr {op : CmpOp} {b1 b2 : B} {c : Bool} (k : Cmp op b1 b2 c) {l r : Expr} {pos : Pos} (h1 : Ev n C X env ρ l b1) (h2 : Ev n C X env ρ r b2) (hm : behindInMarks op r = false := by with_unfolding_all rfl) :
    Tr n C X env ρ (.Compare l [op] [r] pos) c := tr_cmp h1 h2 (fun A s v1 v2 hA hs r1 r2 => k n C X env ρ A s v1 v2 hA hs r1 r2) hm
theorem cmp_lt {a b : Int} : Cmp .Lt (.v (.int a)) (.v (.int b)) (decide (a < b)) := fun n C X env ρ A s v1 v2 hA hs r1 r2 => by
  obtain ⟨t1, rfl⟩ := Rep.int_inv r1
  obtain ⟨t2, rfl⟩ := Rep.int_inv r2
  exact lt_int ⟨keeps_refl s, .bool _⟩
theorem cmp_gt {a b : Int} : Cmp .Gt (.v (.int a)) (.v (.int b)) (decide (b < a)) := fun n C X env ρ A s v1 v2 hA hs r1 r2 => by
  obtain ⟨t1, rfl⟩ := Rep.int_inv r1
  obtain ⟨t2, rfl⟩ := Rep.int_inv r2
  exact gt_int ⟨keeps_refl s, .bool _⟩
theorem cmp_eq {a b : Int} : Cmp .Eq (.v (.int a)) (.v (.int b)) (a == b) := fun n C X env ρ A s v1 v2 hA hs r1 r2 => by
  obtain ⟨t1, rfl⟩ := Rep.int_inv r1
  obtain ⟨t2, rfl⟩ := Rep.int_inv r2
  exact eq_int ⟨keeps_refl s, .bool _⟩
theorem cmp_ne {a b : Int} : Cmp .NotEq (.v (.int a)) (.v (.int b)) (a != b) := fun n C X env ρ A s v1 v2 hA hs r1 r2 => by
  obtain ⟨t1, rfl⟩ := Rep.int_inv r1
  obtain ⟨t2, rfl⟩ := Rep.int_inv r2
  exact ne_int ⟨keeps_refl s, .bool _⟩
theorem cmp_eqS {x y : Str} : Cmp .Eq (.v (.str x)) (.v (.str y)) (x == y) := fun n C X env ρ A s v1 v2 hA hs r1 r2 => by
  obtain ⟨t1, rfl⟩ := Rep.str_inv r1
  obtain ⟨t2, rfl⟩ := Rep.str_inv r2
  exact eq_str ⟨keeps_refl s, .bool _⟩
theorem cmp_notInS {x y : Str} : Cmp .NotIn (.v (.str y)) (.v (.str x)) (!(!(Builtin.Str.occurrences x y 0 x.length 1).isEmpty)) := fun n C X env ρ A s v1 v2 hA hs r1 r2 => by
  obtain ⟨t1, rfl⟩ := Rep.str_inv r1
  obtain ⟨t2, rfl⟩ := Rep.str_inv r2
  exact notIn_str ⟨keeps_refl s, .bool _⟩
theorem cmp_le {a b : Int} : Cmp .LtE (.v (.int a)) (.v (.int b)) (decide (a ≤ b)) := fun n C X env ρ A s v1 v2 hA hs r1 r2 => by
  obtain ⟨t1, rfl⟩ := Rep.int_inv r1
  obtain ⟨t2, rfl⟩ := Rep.int_inv r2
  exact PyProof.Rows.le_int ⟨keeps_refl s, .bool _⟩
theorem cmp_ge {a b : Int} : Cmp .GtE (.v (.int a)) (.v (.int b)) (decide (b ≤ a)) := fun n C X env ρ A s v1 v2 hA hs r1 r2 => by
  obtain ⟨t1, rfl⟩ := Rep.int_inv r1
  obtain ⟨t2, rfl⟩ := Rep.int_inv r2
  exact PyProof.Rows.ge_int ⟨keeps_refl s, .bool _⟩
theorem cmp_eqB {a b : Bool} : Cmp .Eq (.v (.bool a)) (.v (.bool b)) (a == b) := fun n C X env ρ A s v1 v2 hA hs r1 r2 => by
  obtain rfl := Rep.bool_inv r1
  obtain rfl := Rep.bool_inv r2
  exact PyProof.Rows.eq_bool ⟨keeps_refl s, .bool _⟩
theorem cmp_neB {a b : Bool} : Cmp .NotEq (.v (.bool a)) (.v (.bool b)) (a != b) := fun n C X env ρ A s v1 v2 hA hs r1 r2 => by
  obtain rfl := Rep.bool_inv r1
  obtain rfl := Rep.bool_inv r2
  exact PyProof.Rows.ne_bool ⟨keeps_refl s, .bool _⟩
theorem cmp_inL {k : Int} {ns : List Int} : Cmp .In (.v (.int k)) (.v (.list (ns.map Dat.int))) (ns.any (· == k)) := fun n C X env ρ A s v1 v2 hA hs r1 r2 => by
  obtain ⟨t1, rfl⟩ := Rep.int_inv r1
  obtain ⟨a2, ws, rfl, _, l2, p2⟩ := Rep.list_inv r2
  exact in_list_ints l2.isList p2.ints ⟨keeps_refl s, .bool _⟩
mutual
theorem Rep.reads {h : Heap} : ∀ {v : Value} {d : D} (n : Nat), Rep X h v d → kqdOk n d = true → ∃ as, Reads h v (kqdP d) as
  | _, _, _, .none, _ => ⟨_, Reads.none⟩
  | _, _, _, .bool b, _ => ⟨_, Reads.bool b⟩
  | _, _, _, .int i t, _ => ⟨_, Reads.int i t⟩
  | _, _, _, .str x t, _ => ⟨_, Reads.str x t⟩
  | _, _, n, .bytes _ _, hk => by cases n <;> simp [kqdOk] at hk
  | _, _, 0, .tuple _ _ _, hk => by simp [kqdOk] at hk
  | _, _, 0, .list _ _ _, hk => by simp [kqdOk] at hk
  | _, _, n + 1, .tuple _ hm r, hk => by
    obtain ⟨as, q⟩ := Reps.reads n r (by simpa [kqdOk] using hk)
    rw [kqdP]
    obtain ⟨o, ho, hc, k, hd⟩ := hm
    exact ⟨as, PyProof.Rows.reads_tuple_at ho hc hd (by simpa using q)⟩
  | _, _, n + 1, .list _ hm r, hk => by
    obtain ⟨as, q⟩ := Reps.reads n r (by simpa [kqdOk] using hk)
    rw [kqdP]
    obtain ⟨k, ho⟩ := hm
    exact ⟨_, PyProof.Rows.reads_list_at ho rfl rfl (by simpa using q)⟩
theorem Reps.reads {h : Heap} : ∀ {vs : List Value} {ds : List D} (n : Nat), Reps X h vs ds → (∀ d ∈ ds, kqdOk n d = true) → ∃ as, ReadsAll h vs (kqdPs ds) as
  | _, _, _, .nil, _ => ⟨_, ReadsAll.nil⟩
  | _, _, n, .cons hd r, hk => by
    obtain ⟨as, q⟩ := Rep.reads n hd (hk _ (.head _))
    obtain ⟨bs, p⟩ := Reps.reads n r fun d hm => hk d (.tail _ hm)
    rw [kqdPs]
    exact ⟨_, ReadsAll.cons q p⟩
end
theorem list_eqv {ds es : List D} {c : Bool} (ha : ∀ d ∈ ds, kqdOk 8 d = true) (hb : ∀ d ∈ es, kqdOk 8 d = true) (hc : c = true ↔ ds = es) : PyData.eqv (.list (kqdPs ds)) (.list (kqdPs es)) = c := by
  have q := kqd_eqv 9 (.list ds) (.list es) 9 (by simpa [kqdOk] using ha) (by simpa [kqdOk] using hb)
  rw [kqdP, kqdP, Dat.list.injEq, ← hc] at q
  exact Bool.eq_iff_iff.mpr q
theorem list_shaped {ds : List D} (ha : ∀ d ∈ ds, kqdOk 8 d = true) : SeqAt.shaped (.list (kqdPs ds)) = true := by
  have la := kqd_lay 9 (.list ds) (by simpa [kqdOk] using ha)
  rw [kqdP] at la
  unfold SeqAt.shaped; rw [la.1, Bool.true_and]; exact decide_eq_true (Nat.le_trans la.2 (by decide))
theorem cmp_eqL {ds es : List D} {c : Bool} (ha : ∀ d ∈ ds, kqdOk 8 d = true) (hb : ∀ d ∈ es, kqdOk 8 d = true) (hc : c = true ↔ ds = es) : Cmp .Eq (.v (.list ds)) (.v (.list es)) c := fun n C X env ρ A s v1 v2 hA hs r1 r2 => by
  obtain ⟨as, q1⟩ := Rep.reads 9 r1 (by simpa [kqdOk] using ha)
  obtain ⟨bs, q2⟩ := Rep.reads 9 r2 (by simpa [kqdOk] using hb)
  rw [kqdP] at q1 q2
  refine eq_dataH q1 q2 (list_shaped ha) (list_shaped hb) (by have := hA.units; show A.units + 64 < 9900; omega) ?_
  rw [list_eqv ha hb hc]
  exact ⟨keeps_refl s, .bool _⟩
theorem cmp_neL {ds es : List D} {c : Bool} (ha : ∀ d ∈ ds, kqdOk 8 d = true) (hb : ∀ d ∈ es, kqdOk 8 d = true) (hc : c = true ↔ ds = es) : Cmp .NotEq (.v (.list ds)) (.v (.list es)) (!c) := fun n C X env ρ A s v1 v2 hA hs r1 r2 => by
  obtain ⟨as, q1⟩ := Rep.reads 9 r1 (by simpa [kqdOk] using ha)
  obtain ⟨bs, q2⟩ := Rep.reads 9 r2 (by simpa [kqdOk] using hb)
  rw [kqdP] at q1 q2
  refine ne_dataH q1 q2 (list_shaped ha) (list_shaped hb) (by have := hA.units; show A.units + 64 < 9900; omega) ?_
  rw [list_eqv ha hb hc]
  exact ⟨keeps_refl s, .bool _⟩
end
end Mine
end

section
set_option maxRecDepth 100000
set_option autoImplicit false
set_option linter.unusedVariables false
namespace Mine
open PySem PySem.Calls PyProof.Rows
open PySem.W (Dat)

inductive RepBs (X : Addr → Prop) (h : Heap) : List Value → List B → Prop
  | nil : RepBs X h [] []
  | cons {v : Value} {vs : List Value} {b : B} {bs : List B} : RepB X h v b → RepBs X h vs bs → RepBs X h (v :: vs) (b :: bs)
theorem RepBs.gr {X : Addr → Prop} {h h' : Heap} {vs : List Value} {bs : List B} (r : RepBs X h vs bs) (g : Gr h h') : RepBs X h' vs bs := by
  induction r with
  | nil => exact .nil
  | cons a _ ih => exact .cons (a.gr g) ih
theorem RepBs.inv1 {X : Addr → Prop} {h : Heap} {vs : List Value} {b : B} (r : RepBs X h vs [b]) : ∃ v, vs = [v] ∧ RepB X h v b := by
  cases r with
  | cons a r => cases r; exact ⟨_, rfl, a⟩
theorem RepBs.inv2 {X : Addr → Prop} {h : Heap} {vs : List Value} {b c : B} (r : RepBs X h vs [b, c]) : ∃ v w, vs = [v, w] ∧ RepB X h v b ∧ RepB X h w c := by
  cases r with
  | cons a r => obtain ⟨w, rfl, hw⟩ := r.inv1; exact ⟨_, w, rfl, a, hw⟩
theorem RepBs.inv3 {X : Addr → Prop} {h : Heap} {vs : List Value} {b c d : B} (r : RepBs X h vs [b, c, d]) : ∃ v w x, vs = [v, w, x] ∧ RepB X h v b ∧ RepB X h w c ∧ RepB X h x d := by
  cases r with
  | cons a r => obtain ⟨w, x, rfl, hw, hx⟩ := r.inv2; exact ⟨_, w, x, rfl, a, hw, hx⟩
/-- all of it plain data -/
theorem RepBs.plain {X : Addr → Prop} {h : Heap} : ∀ {vs : List Value} {ds : List D}, RepBs X h vs (ds.map B.v) → Reps X h vs ds
  | _, [], .nil => .nil
  | _, _ :: _, .cons a r => .cons a r.plain

def Evs (n : Nat) (C : Cx) (X : Addr → Prop) (env : Env) (ρ : Rho) (es : List Expr) (bs : List B) : Prop :=
  ∀ A s pos, Room n A → Rd C X env ρ s → wpI C.M A (spliced (backTo pos (starEach es env))) (fun vs s' => Kp s s' ∧ RepBs X s'.heap vs bs) (fun _ _ => False) s
section
variable {n : Nat} {C : Cx} {X : Addr → Prop} {env : Env} {ρ : Rho} {A : Around} {s : Shared} {E : Value → Shared → Prop}
theorem evs_nil : Evs n C X env ρ [] [] := fun A s pos hA hs => wpI_spliced_nil ⟨keeps_refl s, .nil⟩
theorem evs_cons {e : Expr} {es : List Expr} {b : B} {bs : List B} (h : Ev n C X env ρ e b) (k : Evs n C X env ρ es bs)
    (he : starEach (e :: es) env = (false, eval e env) :: starEach es env := by rfl) : Evs n C X env ρ (e :: es) (b :: bs) := fun A s pos hA hs =>
  wpI_spliced_cons (h.use hA hs fun v s1 k1 r1 p1 => wpI_mono (k A s1 pos hA r1) (fun vs s2 h2 => ⟨keeps_trans k1 h2.1, .cons (p1.gr h2.1.gr) h2.2⟩) fun _ _ f => f) he
theorem Evs.use {es : List Expr} {bs : List B} {pos : Pos} {Q : List Value → Shared → Prop} (h : Evs n C X env ρ es bs) (hA : Room n A) (hs : Rd C X env ρ s)
    (k : ∀ vs s', Kp s s' → Rd C X env ρ s' → RepBs X s'.heap vs bs → Q vs s') : wpI C.M A (spliced (backTo pos (starEach es env))) Q E s :=
  wpI_mono (h A s pos hA hs) (fun v s' hv => k v s' hv.1 (hs.keeps hv.1) hv.2) fun _ _ f => f.elim

/-- a call of the value f upon such arguments gives this -/
def CallB (f : Value) (bs : List B) (b : B) : Prop := ∀ n C X env ρ A s vs, Room n A → Rd C X env ρ s → RepBs X s.heap vs bs →
  wpAny C.M A (call f vs) (fun v s' => Kp s s' ∧ RepB X s'.heap v b) (fun _ _ => False) s

/-- the names of the built-ins that the text reads; no global bears them -/
def Blt (C : Cx) (x : Str) (v : Value) : Prop := C.mg x = none ∧ bootBuiltins x = some v ∧ x ≠ "__name__"
theorem wp_blt {x : Str} {v : Value} {p : Pos} {Q : Value → Shared → Prop} (hb : Blt C x v) (hs : Rd C X env ρ s) (hx : env.kindOf x = some .globalImplicit) (h : Q v s) (hd : (x == ("__debug__" : Str)) = false := by decide) :
    wpAny C.M A (eval (.Name x p) env) Q E s :=
  Name_function_global hs.eok.kind hx (loadGlobal_builtin (mg := C.mg) (mb := C.mb) (hs.eok.glob ▸ hs.ok.g.keeps hs.base.gr) hb.1 (hs.eok.blt ▸ hs.ok.b.keeps hs.base.gr) ((hs.ok.builtins x hb.2.2).trans hb.2.1) h) hd

theorem ev_callb {x : Str} {id : String} {p pos : Pos} {e : Expr} {es : List Expr} {bs : List B} {b : B} (hb : Blt C x (.builtin id)) (hk : CallB (.builtin id) bs b) (ha : Evs n C X env ρ (e :: es) bs)
    (hx : env.kindOf x = some .globalImplicit := by rfl) (hd : (x == ("__debug__" : Str)) = false := by decide) (he : starEach (e :: es) env = (false, eval e env) :: starEach es env := by rfl) (hplain : (backTo pos (starEach es env)).any (·.1) = false := by rfl)
    (hc : eval (.Call (.Name x p) (e :: es) [] pos) env = (do callWith pos (← eval (.Name x p) env) [] (backTo pos (starEach (e :: es) env)) (backToKw pos (keywordEach [] env))) := by rfl) :
    Ev n C X env ρ (.Call (.Name x p) (e :: es) [] pos) b := fun A s hA hs =>
  wpI_Call (wpI_any (wp_blt hb hs hx (wpI_callWith_builtin (ha.use hA hs fun vs s1 k1 r1 p1 => wpI_any (wpAny_mono (hk n C X env ρ A s1 vs hA r1 p1) (fun v s2 h2 => ⟨keeps_trans k1 h2.1, h2.2⟩) fun _ _ f => f)) he hplain) hd)) hc
theorem ev_callt {x : Str} {T : String} {p pos : Pos} {e : Expr} {es : List Expr} {bs : List B} {b : B} (hb : Blt C x (.type T)) (hk : CallB (.type T) bs b) (ha : Evs n C X env ρ (e :: es) bs)
    (hx : env.kindOf x = some .globalImplicit := by rfl) (hd : (x == ("__debug__" : Str)) = false := by decide) (he : starEach (e :: es) env = (false, eval e env) :: starEach es env := by rfl) (hplain : (backTo pos (starEach es env)).any (·.1) = false := by rfl)
    (hc : eval (.Call (.Name x p) (e :: es) [] pos) env = (do callWith pos (← eval (.Name x p) env) [] (backTo pos (starEach (e :: es) env)) (backToKw pos (keywordEach [] env))) := by rfl) :
    Ev n C X env ρ (.Call (.Name x p) (e :: es) [] pos) b := fun A s hA hs =>
  wpI_Call (wpI_any (wp_blt hb hs hx (wpI_callWith_type (ha.use hA hs fun vs s1 k1 r1 p1 => wpI_any (wpAny_mono (hk n C X env ρ A s1 vs hA r1 p1) (fun v s2 h2 => ⟨keeps_trans k1 h2.1, h2.2⟩) fun _ _ f => f)) he hplain) hd)) hc

/-- a method's place: the receiver's value tells the built-in -/
def Meth (name : Str) (b : B) (id : String) : Prop := ∀ C X env ρ A s v pl (Q : Value × List Value → Shared → Prop), Rd C X env ρ s → RepB X s.heap v b → Q (.builtin id, [v]) s →
  wpAny C.M A (getMethod v name pl) Q (fun _ _ => False) s
theorem ev_meth {o : Expr} {name : Str} {id : String} {apos pos : Pos} {e : Expr} {es : List Expr} {b₀ : B} {bs : List B} {b : B} {pl : Sem Bool} (h₀ : Ev n C X env ρ o b₀) (hm : Meth name b₀ id) (hk : CallB (.builtin id) (b₀ :: bs) b) (ha : Evs n C X env ρ (e :: es) bs)
    (he : starEach (e :: es) env = (false, eval e env) :: starEach es env := by rfl) (hplain : (backTo pos (starEach es env)).any (·.1) = false := by rfl)
    (hc : eval (.Call (.Attribute o name apos) (e :: es) [] pos) env = (do
      let ov ← eval o env
      standAt apos.atName
      let (f, first) ← holding [ov] (getMethod ov name pl)
      callWith pos f first (backTo pos (starEach (e :: es) env)) []) := by rfl) :
    Ev n C X env ρ (.Call (.Attribute o name apos) (e :: es) [] pos) b := fun A s hA hs =>
  wpI_MethodCall (h₀.use hA hs fun v s1 k1 r1 p1 => wpI_any (hm C X env ρ A s1 v pl _ r1 p1
    (wpI_callWith_builtin (first := [v]) (ha.use hA r1 fun vs s2 k2 r2 p2 => wpI_any (wpAny_mono (hk n C X env ρ A s2 (v :: vs) hA r2 (.cons (p1.gr k2.gr) p2)) (fun v s3 h3 => ⟨keeps_trans k1 (keeps_trans k2 h3.1), h3.2⟩) fun _ _ f => f)) he hplain))) hc
end

/-! the built-ins -/
theorem call_lenL {ds : List D} (hz : ds.length ≤ sizeLine) : CallB (.builtin "len") [.v (.list ds)] (.v (.int ds.length)) := fun n C X env ρ A s vs hA hs hr => by
  obtain ⟨v, rfl, r⟩ := hr.inv1
  obtain ⟨a, ws, rfl, _, l, p⟩ := Rep.list_inv r
  have e := p.length
  refine call_len_list l.isList (by simp only [List.size_toArray]; rw [sizeLine_eq] at hz; omega) ⟨keeps_toks s _, ?_⟩
  simp only [List.size_toArray, e]
  exact .int _ _
theorem call_lenM {a : Addr} {ds : List D} (hz : ds.length ≤ sizeLine) : CallB (.builtin "len") [.ml a ds] (.v (.int ds.length)) := fun n C X env ρ A s vs hA hs hr => by
  obtain ⟨v, rfl, rfl, hx, ws, l, p⟩ := hr.inv1
  have e := p.length
  refine call_len_list l.isList (by simp only [List.size_toArray]; rw [sizeLine_eq] at hz; omega) ⟨keeps_toks s _, ?_⟩
  simp only [List.size_toArray, e]
  exact .int _ _
theorem call_lenS {x : Str} (hz : x.length ≤ sizeLine) : CallB (.builtin "len") [.v (.str x)] (.v (.int x.length)) := fun n C X env ρ A s vs hA hs hr => by
  obtain ⟨v, rfl, r⟩ := hr.inv1
  obtain ⟨t, rfl⟩ := Rep.str_inv r
  exact len_str (by rw [sizeLine_eq] at hz; omega) ⟨keeps_toks s _, .int _ _⟩
theorem call_lenB {b : Array UInt8} (hz : b.size ≤ sizeLine) : CallB (.builtin "len") [.v (.bytes b)] (.v (.int b.size)) := fun n C X env ρ A s vs hA hs hr => by
  obtain ⟨v, rfl, r⟩ := hr.inv1
  obtain ⟨t, rfl⟩ := Rep.bytes_inv r
  refine PySem.W.KBw.len_K (ks := PySem.W.KBw.bInts b) rfl (by rw [PySem.W.KBw.ints_length]; rw [sizeLine_eq] at hz; omega) ?_
  rw [PySem.W.KBw.ints_length]
  exact ⟨keeps_toks s _, .int _ _⟩
theorem call_chr {i : Int} (h0 : 0 ≤ i) (h1 : i ≤ 0x10FFFF) : CallB (.builtin "chr") [.v (.int i)] (.v (.str ⟨#[i.toNat]⟩)) := fun n C X env ρ A s vs hA hs hr => by
  obtain ⟨v, rfl, r⟩ := hr.inv1
  obtain ⟨t, rfl⟩ := Rep.int_inv r
  exact P.chr_of_int (by simp only [Bool.or_eq_false_iff, decide_eq_false_iff_not]; omega) ⟨keeps_toks s _, .str _ _⟩
theorem call_max2 {a b : Int} : CallB (.builtin "max") [.v (.int a), .v (.int b)] (.v (.int (if b > a then b else a))) := fun n C X env ρ A s vs hA hs hr => by
  obtain ⟨v, w, rfl, r1, r2⟩ := hr.inv2
  obtain ⟨t1, rfl⟩ := Rep.int_inv r1
  obtain ⟨t2, rfl⟩ := Rep.int_inv r2
  refine max_two_ints hA.handled fun h' tk hk => ⟨keeps_heap hk, ?_⟩
  by_cases c : b > a
  · simp only [if_pos c]; exact .int _ _
  · simp only [if_neg c]; exact .int _ _
theorem call_sum {ns : List Int} : CallB (.builtin "sum") [.v (.list (ns.map Dat.int))] (.v (.int ns.sum)) := fun n C X env ρ A s vs hA hs hr => by
  obtain ⟨v, rfl, r⟩ := hr.inv1
  obtain ⟨a, ws, rfl, _, l, p⟩ := Rep.list_inv r
  obtain ⟨xs, hxs⟩ := p.ints.allInts.items
  have hn : numsOf ws = ns := p.ints.numsOf
  have hl := l.isList
  rw [hxs] at hl
  refine sum_intListG hA.handled hl fun h' tk t' hk => ⟨keeps_heap hk, ?_⟩
  have e : preSum (numAt xs) xs.size = ns.sum := by
    have h2 : numsOf (intItems xs).toList = ns := by rw [← hxs]; exact hn
    rw [nums_intItems] at h2
    rw [preSum_eq, List.take_of_length_le (by simp), h2]
  rw [e]
  exact .int _ _
theorem ev_type {n : Nat} {C : Cx} {X : Addr → Prop} {env : Env} {ρ : Rho} {x : Str} {T : String} {p : Pos} (hb : Blt C x (.type T)) (hx : env.kindOf x = some .globalImplicit := by rfl) (hd : (x == ("__debug__" : Str)) = false := by decide) :
    Ev n C X env ρ (.Name x p) (.ty T) := fun A s hA hs => wpI_any (wp_blt hb hs hx ⟨keeps_refl s, rfl⟩ hd)
theorem call_isBool {c : Bool} : CallB (.builtin "isinstance") [.v (.bool c), .ty "bool"] (.v (.bool true)) := fun n C X env ρ A s vs hA hs hr => by
  obtain ⟨v, w, rfl, r1, rfl⟩ := hr.inv2
  obtain rfl := Rep.bool_inv r1
  exact call_isinstance_yes (Tx := "bool") rfl (by kernel_rfl) (by rw [isSubtype_type]; kernel_rfl) ⟨keeps_refl s, .bool _⟩
theorem call_isBytes {b : Array UInt8} : CallB (.builtin "isinstance") [.v (.bytes b), .ty "bytes"] (.v (.bool true)) := fun n C X env ρ A s vs hA hs hr => by
  obtain ⟨v, w, rfl, r1, rfl⟩ := hr.inv2
  obtain ⟨t, rfl⟩ := Rep.bytes_inv r1
  exact call_isinstance_yes (Tx := "bytes") rfl (by kernel_rfl) (by rw [isSubtype_type]; kernel_rfl) ⟨keeps_refl s, .bool _⟩
theorem call_bytesL {ns : List Int} (hr : ∀ n ∈ ns, 0 ≤ n ∧ n < 256) (hz : ns.length ≤ sizeLine) : CallB (.type "bytes") [.v (.list (ns.map Dat.int))] (.v (.bytes (byteArr ns))) := fun n C X env ρ A s vs hA hs hv => by
  obtain ⟨v, rfl, r⟩ := hv.inv1
  obtain ⟨a, ws, rfl, _, l, p⟩ := Rep.list_inv r
  exact call_bytes_ints l.isList p.ints hr (by rw [p.ints.length]; exact hz) hA.handled fun h' t k hk => ⟨keeps_heap hk, .bytes _ _⟩
theorem call_bytesM {a : Addr} {ns : List Int} (hr : ∀ n ∈ ns, 0 ≤ n ∧ n < 256) (hz : ns.length ≤ sizeLine) : CallB (.type "bytes") [.ml a (ns.map Dat.int)] (.v (.bytes (byteArr ns))) := fun n C X env ρ A s vs hA hs hv => by
  obtain ⟨v, rfl, rfl, hx, ws, l, p⟩ := hv.inv1
  exact call_bytes_ints l.isList p.ints hr (by rw [p.ints.length]; exact hz) hA.handled fun h' t k hk => ⟨keeps_heap hk, .bytes _ _⟩
/-- max of a list of ints -/
theorem call_maxL {ns : List Int} {m : Int} (hm : m ∈ ns) (hall : ∀ a ∈ ns, a ≤ m) : CallB (.builtin "max") [.v (.list (ns.map Dat.int))] (.v (.int m)) := fun n C X env ρ A s vs hA hs hv => by
  obtain ⟨v, rfl, r⟩ := hv.inv1
  obtain ⟨a, ws, rfl, _, l, p⟩ := Rep.list_inv r
  obtain ⟨xs, hxs⟩ := p.ints.allInts.items
  have h2 : numsOf (intItems xs).toList = ns := by rw [← hxs]; exact p.ints.numsOf
  rw [nums_intItems] at h2
  have hl := l.isList
  rw [hxs] at hl
  have hlen : xs.size = ns.length := by rw [← h2]; simp
  have hsz : 0 < xs.size := by rw [hlen]; exact List.length_pos_of_mem hm
  refine max_intList hA.handled hl hsz fun v h' tk hv' hk => ?_
  obtain ⟨t, rfl⟩ := intItems_at hv'
  obtain ⟨g1, g2⟩ := argBest_gt (numAt xs) (xs.size - 1)
  have e : numAt xs (argBest (fun i j => decide (numAt xs i > numAt xs j)) (xs.size - 1)) = m := by
    refine Int.le_antisymm (hall _ ?_) ?_
    · rw [numAt_eq, ← h2]; exact getD_mem (by rw [List.length_map, Array.length_toList]; omega)
    · rw [← h2] at hm
      obtain ⟨j, hj, hjm⟩ := mem_getD hm
      rw [List.length_map, Array.length_toList] at hj
      have := g2 j (by omega)
      rw [← hjm, ← numAt_eq]; exact this
  rw [e]
  exact ⟨keeps_heap hk, .int _ _⟩
/-! methods -/
theorem meth_str {name : Str} {id : String} {x : Str} (slot : Slot "str" name id) (ty : typeOf (.builtin id) = pure (.type "method_descriptor")) : Meth name (.v (.str x)) id := fun C X env ρ A s v pl Q hs hr hQ => by
  obtain ⟨t, rfl⟩ := Rep.str_inv hr
  exact getMethod_builtin (typeIs_str _ _ _) PySem.F.plainAttrs_str slot ty (fun a e => nomatch e) hQ
theorem meth_list {name : Str} {id : String} {ds : List D} (slot : Slot "list" name id) (ty : typeOf (.builtin id) = pure (.type "method_descriptor")) : Meth name (.v (.list ds)) id := fun C X env ρ A s v pl Q hs hr hQ => by
  obtain ⟨a, ws, rfl, _, l, p⟩ := Rep.list_inv hr
  exact getMethod_builtin l.isList.typeIs PySem.F.plainAttrs_list slot ty (fun b e => by cases e; obtain ⟨k, e⟩ := l; exact ⟨_, e, rfl⟩) hQ
theorem meth_ml {name : Str} {id : String} {a : Addr} {ds : List D} (slot : Slot "list" name id) (ty : typeOf (.builtin id) = pure (.type "method_descriptor")) : Meth name (.ml a ds) id := fun C X env ρ A s v pl Q hs hr hQ => by
  obtain ⟨rfl, hx, ws, l, p⟩ := hr
  exact getMethod_builtin l.isList.typeIs PySem.F.plainAttrs_list slot ty (fun b e => by cases e; obtain ⟨k, e⟩ := l; exact ⟨_, e, rfl⟩) hQ
theorem call_startswith {x y : Str} : CallB (.builtin "str.startswith") [.v (.str x), .v (.str y)] (.v (.bool (Txt.startswith x y))) := fun n C X env ρ A s vs hA hs hv => by
  obtain ⟨v, w, rfl, r1, r2⟩ := hv.inv2
  obtain ⟨t1, rfl⟩ := Rep.str_inv r1
  obtain ⟨t2, rfl⟩ := Rep.str_inv r2
  exact SC.startswith ⟨keeps_refl s, .bool _⟩
theorem call_endswith {x y : Str} : CallB (.builtin "str.endswith") [.v (.str x), .v (.str y)] (.v (.bool (Txt.endswith x y))) := fun n C X env ρ A s vs hA hs hv => by
  obtain ⟨v, w, rfl, r1, r2⟩ := hv.inv2
  obtain ⟨t1, rfl⟩ := Rep.str_inv r1
  obtain ⟨t2, rfl⟩ := Rep.str_inv r2
  exact SC.endswith ⟨keeps_refl s, .bool _⟩
theorem call_count {ns : List Int} {k : Int} : CallB (.builtin "list.count") [.v (.list (ns.map Dat.int)), .v (.int k)] (.v (.int (ns.count k : Nat))) := fun n C X env ρ A s vs hA hs hv => by
  obtain ⟨v, w, rfl, r1, r2⟩ := hv.inv2
  obtain ⟨a, ws, rfl, _, l, p⟩ := Rep.list_inv r1
  obtain ⟨t2, rfl⟩ := Rep.int_inv r2
  exact count_list_ints l.isList p.ints ⟨keeps_toks s _, .int _ _⟩
end Mine
end

section
set_option maxRecDepth 100000
set_option autoImplicit false
set_option linter.unusedVariables false
namespace Mine
open PySem PySem.Calls PyProof.Rows
open PySem.W (Dat)

/-! subscripts -/
section
variable {prog : Program} {w : World} {A : Around} {E : Value → Shared → Prop} {s : Shared}
theorem getItem_last {l : Addr} {items : Array Value} {k : Int} {t : Tok} {x' : Nat × Value} {Q : Value → Shared → Prop} (hl : s.heap.IsList l items)
    (h0 : k < 0) (hfit : -(2 ^ 62) ≤ k) (hx : (seqIndex? k items.size).bind (fun j => items[j]?.map (j, ·)) = some x') (h : Q x'.2 s) : wpAny (model prog w) A (getItem (.ref l) (.int k t)) Q E s := by
  obtain ⟨o, ho, hc, ne, hd⟩ := id hl
  unfold getItem
  try with_reducible refine wpAny_holding ?_
  first | refine wpAny_bind (wpAny_pure ?_) | skip
  refine wpAny_bind (wpAny_sequenceKey hl.typeIs (by decide) ?_)
  refine wpAny_bind (wpAny_callSpecial?_slot (name := Str.ofString "__getitem__") hl.typeIs slot_list_getitem
    (wpAny_call_entry slot_list_getitem hl.typeIs entry_list_getitem ?_ (args_list_getitem _ _)))
  show wpAny _ _ (Builtin.List.listSubscript? (.int k t) >>= _) _ _ s
  refine wpAny_bind (wpAny_listSubscript_int (by simp only [Builtin.List.listFitsIndex, Bool.and_eq_true, decide_eq_true_eq]; omega) ?_)
  obtain ⟨j, rfl⟩ : ∃ j : Nat, k = Int.negSucc j := by
    cases k with
    | ofNat n => exact absurd h0 (by simp)
    | negSucc j => exact ⟨j, rfl⟩
  show wpAny _ _ ((Builtin.List.listItems (.ref l) >>= _) >>= _) _ _ s
  refine wpAny_bind (wpAny_bind ?_)
  unfold Builtin.List.listItems
  refine wpAny_bind (wpAny_seqItems ho hd (wpAny_pure (wpAny_pure ?_)))
  rw [hx]
  first
    | exact wpAny_bind (wpAny_pure (wpAny_pure ⟨_, rfl, wpAny_pure h⟩))
    | exact wpAny_pure ⟨_, rfl, wpAny_pure h⟩
theorem wp_subscripted {M : Model} {slice : Expr} {o i : Value} {Q : Value → Shared → Prop} (h : wpAny M A (getItem o i) Q E s) : wpAny M A (subscripted slice false o i) Q E s := by
  unfold subscripted
  split
  · exact wpAny_operating h
  · rename_i hh; cases hh
  · exact wpAny_operating h
theorem wp_subTail {value slice : Expr} {o i : Value} {T id : String} {Q : Value → Shared → Prop} (hT : s.TypeIs o T) (hl : typeLookup (.type T) "__getitem__" = pure (some (.builtin id)))
    (h : wpAny (model prog w) A (getItem o i) Q E s) : wpAny (model prog w) A (subscriptTail value slice o i) Q E s := by
  unfold subscriptTail
  refine wpAny_bind ?_
  rw [getitemInPython_of_ne hT.not_modules]
  refine wpAny_bind (wpAny_specialOf hT hl ?_)
  have fin : wpAny (model prog w) A (subscripted slice false o i) (fun r s₃ => wpAny (model prog w) A (letTemporaryGo value o r >>= fun _ => pure r) Q E s₃) E s :=
    wp_subscripted (wpAny_mono h (fun r s₃ h₃ => wpAny_bind (wpAny_letTemporaryGo (wpAny_pure h₃))) fun _ _ x => x)
  first
    | exact wpAny_pure (wpAny_bind fin)
    | exact wpAny_bind (wpAny_pure (wpAny_bind fin))
    | exact wpAny_bind fin
end

section
variable {n : Nat} {C : Cx} {X : Addr → Prop} {env : Env} {ρ : Rho}
/-- the item at an index -/
def ItemB (b₀ b₁ b : B) : Prop := ∀ n C X env ρ A s v i, Room n A → Rd C X env ρ s → RepB X s.heap v b₀ → RepB X s.heap i b₁ →
  ∃ T id, s.TypeIs v T ∧ typeLookup (.type T) "__getitem__" = pure (some (.builtin id)) ∧ wpAny C.M A (getItem v i) (fun r s' => Kp s s' ∧ RepB X s'.heap r b) (fun _ _ => False) s
theorem ev_item {value slice : Expr} {pos : Pos} {b₀ b₁ b : B} (hk : ItemB b₀ b₁ b) (h₀ : Ev n C X env ρ value b₀) (h₁ : Ev n C X env ρ slice b₁) : Ev n C X env ρ (.Subscript value slice pos) b := fun A s hA hs =>
  wpI_Subscript (h₀.use hA hs fun v s1 k1 r1 p1 => h₁.use hA r1 fun i s2 k2 r2 p2 => by
    obtain ⟨T, id, hT, hl, hg⟩ := hk n C X env ρ A s2 v i hA r2 (p1.gr k2.gr) p2
    exact wpI_any (wp_subTail hT hl (wpAny_mono hg (fun r s3 h3 => ⟨keeps_trans k1 (keeps_trans k2 h3.1), h3.2⟩) fun _ _ f => f)))
theorem item_list {ds : List D} {i : Int} {d : D} (h0 : 0 ≤ i) (hfit : i < 2 ^ 62) (hd : ds[i.toNat]? = some d) : ItemB (.v (.list ds)) (.v (.int i)) (.v d) := fun n C X env ρ A s v iv hA hs r1 r2 => by
  obtain ⟨a, ws, rfl, _, l, p⟩ := Rep.list_inv r1
  obtain ⟨t, rfl⟩ := Rep.int_inv r2
  obtain ⟨hk, rfl⟩ := List.getElem?_eq_some_iff.mp hd
  obtain ⟨x, hx, hr⟩ := p.get hk
  exact ⟨_, _, l.isList.typeIs, slot_list_getitem.lookup, wpAny_getItem_list l.isList h0 (by omega) (by simpa using hx) ⟨keeps_refl s, hr⟩⟩
theorem item_ml {a : Addr} {ds : List D} {i : Int} {d : D} (h0 : 0 ≤ i) (hfit : i < 2 ^ 62) (hd : ds[i.toNat]? = some d) : ItemB (.ml a ds) (.v (.int i)) (.v d) := fun n C X env ρ A s v iv hA hs r1 r2 => by
  obtain ⟨rfl, hx, ws, l, p⟩ := r1
  obtain ⟨t, rfl⟩ := Rep.int_inv r2
  obtain ⟨hk, rfl⟩ := List.getElem?_eq_some_iff.mp hd
  obtain ⟨x, hx, hr⟩ := p.get hk
  exact ⟨_, _, l.isList.typeIs, slot_list_getitem.lookup, wpAny_getItem_list l.isList h0 (by omega) (by simpa using hx) ⟨keeps_refl s, hr⟩⟩
theorem seqIndex_neg {k : Int} {m : Nat} (h0 : k < 0) (h1 : 0 ≤ k + m) : seqIndex? k m = some (k + m).toNat := seqIndex_back h0 h1
theorem item_back {ds : List D} {i : Int} {d : D} (h0 : i < 0) (hfit : -(2 ^ 62) ≤ i) (hin : 0 ≤ i + ds.length) (hd : ds[(i + ds.length).toNat]? = some d) : ItemB (.v (.list ds)) (.v (.int i)) (.v d) := fun n C X env ρ A s v iv hA hs r1 r2 => by
  obtain ⟨a, ws, rfl, _, l, p⟩ := Rep.list_inv r1
  obtain ⟨t, rfl⟩ := Rep.int_inv r2
  obtain ⟨hk, rfl⟩ := List.getElem?_eq_some_iff.mp hd
  obtain ⟨x, hx, hr⟩ := p.get hk
  refine ⟨_, _, l.isList.typeIs, slot_list_getitem.lookup, getItem_last (x' := ((i + ds.length).toNat, x)) l.isList h0 hfit ?_ ⟨keeps_refl s, hr⟩⟩
  rw [List.size_toArray, p.length, seqIndex_neg h0 hin]
  simp [hx]
theorem item_mlback {a : Addr} {ds : List D} {i : Int} {d : D} (h0 : i < 0) (hfit : -(2 ^ 62) ≤ i) (hin : 0 ≤ i + ds.length) (hd : ds[(i + ds.length).toNat]? = some d) : ItemB (.ml a ds) (.v (.int i)) (.v d) := fun n C X env ρ A s v iv hA hs r1 r2 => by
  obtain ⟨rfl, hx, ws, l, p⟩ := r1
  obtain ⟨t, rfl⟩ := Rep.int_inv r2
  obtain ⟨hk, rfl⟩ := List.getElem?_eq_some_iff.mp hd
  obtain ⟨x, hx, hr⟩ := p.get hk
  refine ⟨_, _, l.isList.typeIs, slot_list_getitem.lookup, getItem_last (x' := ((i + ds.length).toNat, x)) l.isList h0 hfit ?_ ⟨keeps_refl s, hr⟩⟩
  rw [List.size_toArray, p.length, seqIndex_neg h0 hin]
  simp [hx]
theorem item_tup {ds : List D} {i : Int} {d : D} (h0 : 0 ≤ i) (hfit : i < 2 ^ 62) (hd : ds[i.toNat]? = some d) : ItemB (.v (.tuple ds)) (.v (.int i)) (.v d) := fun n C X env ρ A s v iv hA hs r1 r2 => by
  obtain ⟨a, ws, rfl, _, l, p⟩ := Rep.tuple_inv r1
  obtain ⟨t, rfl⟩ := Rep.int_inv r2
  obtain ⟨hk, rfl⟩ := List.getElem?_eq_some_iff.mp hd
  obtain ⟨x, hx, hr⟩ := p.get hk
  have ht : IsTup s.heap a ws.toArray := l
  refine ⟨_, _, ht.typeIs, slot_tuple_getitem.lookup, getItem_tuple ht (by omega) (by omega) (j := i.toNat) ?_ (by simpa using hx) ⟨keeps_refl s, hr⟩⟩
  have : (i.toNat) < ws.length := by rw [p.length]; exact hk
  exact seqIndex_of h0 (by simp; omega)
theorem item_bytes {b : Array UInt8} {i : Int} {c : UInt8} (hz : b.size ≤ sizeLine) (h0 : 0 ≤ i) (hd : b[i.toNat]? = some c) : ItemB (.v (.bytes b)) (.v (.int i)) (.v (.int c.toNat)) := fun n C X env ρ A s v iv hA hs r1 r2 => by
  obtain ⟨t, rfl⟩ := Rep.bytes_inv r1
  obtain ⟨u, rfl⟩ := Rep.int_inv r2
  obtain ⟨hk, hc⟩ := Array.getElem?_eq_some_iff.mp hd
  rw [sizeLine_eq] at hz
  have e : b.toList.toArray = b := Array.toArray_toList
  refine ⟨"bytes", _, PySem.W.typeIs_bytes _ _ _, PySem.W.FB.slot_bytes_getitem.lookup, ?_⟩
  have g : wpAny C.M A (getItem (.bytes b.toList.toArray t) (.int i u)) (fun r s' => Kp s s' ∧ RepB X s'.heap r (.v (.int c.toNat))) (fun _ _ => False) s := by
    refine PySem.W.getItem_bytes (l := b.toList) (by simp; omega) h0 (by simp; omega) ?_
    have e2 : b.toList.getD i.toNat 0 = c := by simp [List.getD_eq_getElem?_getD, hd]
    rw [e2]
    exact ⟨keeps_toks s _, .int _ _⟩
  rw [e] at g
  exact g
end
end Mine
end

section
set_option maxRecDepth 100000
set_option autoImplicit false
set_option linter.unusedVariables false
namespace Mine
open PySem PySem.Calls PyProof.Rows
open PySem.W (Dat)

/-! slices -/
inductive EvO (n : Nat) (C : Cx) (X : Addr → Prop) (env : Env) (ρ : Rho) : Option Expr → Option Int → Prop
  | none : EvO n C X env ρ none none
  | some {e : Expr} {i : Int} : Ev n C X env ρ e (.v (.int i)) → EvO n C X env ρ (some e) (some i)
section
variable {n : Nat} {C : Cx} {X : Addr → Prop} {env : Env} {ρ : Rho} {A : Around} {s : Shared} {E : Value → Shared → Prop}
theorem EvO.use {eo : Option Expr} {io : Option Int} {Q : Value → Shared → Prop} (h : EvO n C X env ρ eo io) (hA : Room n A) (hs : Rd C X env ρ s)
    (k : ∀ v s', Kp s s' → Rd C X env ρ s' → IsPart v io → Q v s') : wpI C.M A (evalPart eo env) Q E s := by
  cases h with
  | none => exact wpI_pure (k _ s (keeps_refl s) hs .none)
  | some h => exact h.use hA hs fun v s' k1 r1 p1 => by obtain ⟨t, rfl⟩ := Rep.int_inv p1; exact k _ s' k1 r1 (.int _ _)
theorem ev_slice {l u st : Option Expr} {p : Pos} {lo hi k : Option Int} (h1 : EvO n C X env ρ l lo) (h2 : EvO n C X env ρ u hi) (h3 : EvO n C X env ρ st k) : Ev n C X env ρ (.Slice l u st p) (.sl lo hi k) := fun A s hA hs =>
  wpI_Slice (h1.use hA hs fun vl s1 k1 r1 p1 => h2.use hA r1 fun vu s2 k2 r2 p2 => h3.use hA r2 fun vs s3 k3 r3 p3 =>
    ⟨keeps_trans k1 (keeps_trans k2 (keeps_trans k3 (keeps_push _ _))), _, _, _, _, rfl, Heap.IsSliceOf.new .., p1, p2, p3⟩)
end

def pick {α : Type} (ds : List α) (lo hi st : Option Int) : List α := (sliceRange (sliceBounds lo hi st ds.length).1 (sliceBounds lo hi st ds.length).2.1 (sliceBounds lo hi st ds.length).2.2).filterMap (ds[·]?)
theorem Reps.pickAt {X : Addr → Prop} {h : Heap} {vs : List Value} {ds : List D} (r : Reps X h vs ds) : ∀ ks : List Nat, Reps X h (ks.filterMap (vs[·]?)) (ks.filterMap (ds[·]?))
  | [] => .nil
  | k :: ks => by
    have ih := Reps.pickAt r ks
    by_cases hk : k < ds.length
    · obtain ⟨v, hv, hr⟩ := r.get hk
      rw [List.filterMap_cons, hv, List.filterMap_cons, List.getElem?_eq_getElem hk]
      exact .cons hr ih
    · have e1 : ds[k]? = none := List.getElem?_eq_none (by omega)
      have e2 : vs[k]? = none := List.getElem?_eq_none (by rw [r.length]; omega)
      rw [List.filterMap_cons, e2, List.filterMap_cons, e1]
      exact ih
theorem slicePick_list (vs : List Value) (lo hi st : Option Int) : slicePick vs.toArray lo hi st = (pick vs lo hi st).toArray := by
  unfold slicePick pick
  simp
theorem item_slice {ds : List D} {lo hi st : Option Int} (h0 : st ≠ some 0) (hz : ds.length ≤ sizeLine) : ItemB (.v (.list ds)) (.sl lo hi st) (.v (.list (pick ds lo hi st))) := fun n C X env ρ A s v iv hA hs r1 r2 => by
  obtain ⟨a, ws, rfl, _, l, p⟩ := Rep.list_inv r1
  obtain ⟨a2, vl, vu, vs, rfl, hsl, p1, p2, p3⟩ := r2
  refine ⟨_, _, l.isList.typeIs, slot_list_getitem.lookup, wpAny_getItem_list_slice l.isList hsl p1 p2 p3 h0 ⟨keeps_push s _, ?_⟩ (by simp [p.length]; exact hz)⟩
  rw [slicePick_list]
  have e : pick ws lo hi st = (sliceRange (sliceBounds lo hi st ds.length).1 (sliceBounds lo hi st ds.length).2.1 (sliceBounds lo hi st ds.length).2.2).filterMap (ws[·]?) := by unfold pick; rw [p.length]
  rw [e]
  exact .list hs.fresh (plain_new _ _) ((p.pickAt _).gr (Gr.push _ _))
theorem item_mlslice {a₀ : Addr} {ds : List D} {lo hi st : Option Int} (h0 : st ≠ some 0) (hz : ds.length ≤ sizeLine) : ItemB (.ml a₀ ds) (.sl lo hi st) (.v (.list (pick ds lo hi st))) := fun n C X env ρ A s v iv hA hs r1 r2 => by
  obtain ⟨rfl, hx, ws, l, p⟩ := r1
  obtain ⟨a2, vl, vu, vs, rfl, hsl, p1, p2, p3⟩ := r2
  refine ⟨_, _, l.isList.typeIs, slot_list_getitem.lookup, wpAny_getItem_list_slice l.isList hsl p1 p2 p3 h0 ⟨keeps_push s _, ?_⟩ (by simp [p.length]; exact hz)⟩
  rw [slicePick_list]
  have e : pick ws lo hi st = (sliceRange (sliceBounds lo hi st ds.length).1 (sliceBounds lo hi st ds.length).2.1 (sliceBounds lo hi st ds.length).2.2).filterMap (ws[·]?) := by unfold pick; rw [p.length]
  rw [e]
  exact .list hs.fresh (plain_new _ _) ((p.pickAt _).gr (Gr.push _ _))
theorem pick_plain {α : Type} (ds : List α) (lo hi : Option Int) : pick ds lo hi none = (ds.drop (lo.elim 0 (clipAt ds.length))).take (hi.elim ds.length (clipAt ds.length) - lo.elim 0 (clipAt ds.length)) := by
  unfold pick
  rw [sliceBounds_plain]
  have := pick_run ds.toArray (lo.elim 0 (clipAt ds.length)) (hi.elim ds.length (clipAt ds.length) - lo.elim 0 (clipAt ds.length))
  simp only [sliceRange_one]
  simpa using this
theorem pick_from {α : Type} (ds : List α) (a : Nat) : pick ds (some (a : Int)) none none = ds.drop a := by
  rw [pick_plain]
  simp only [Option.elim, clipAt_nat]
  rcases Nat.le_total a ds.length with h | h
  · rw [Nat.min_eq_left h, List.take_of_length_le (by simp)]
  · rw [Nat.min_eq_right h, List.drop_of_length_le (by simp), List.drop_of_length_le h]; simp
theorem pick_upto {α : Type} (ds : List α) (b : Nat) : pick ds none (some (b : Int)) none = ds.take b := by
  rw [pick_plain]
  simp only [Option.elim, clipAt_nat, List.drop_zero, Nat.sub_zero]
  rcases Nat.le_total b ds.length with h | h
  · rw [Nat.min_eq_left h]
  · rw [Nat.min_eq_right h, List.take_of_length_le (by simp), List.take_of_length_le h]
theorem pick_run' {α : Type} (ds : List α) (a b : Nat) : pick ds (some (a : Int)) (some (b : Int)) none = (ds.drop a).take (b - a) := by
  rw [pick_plain]
  simp only [Option.elim, clipAt_nat]
  rcases Nat.le_total a ds.length with h | h
  · rw [Nat.min_eq_left h]
    rcases Nat.le_total b ds.length with h' | h'
    · rw [Nat.min_eq_left h']
    · rw [Nat.min_eq_right h', List.take_of_length_le (by simp), List.take_of_length_le (by simp; omega)]
  · rw [Nat.min_eq_right h, List.drop_of_length_le (by simp), List.drop_of_length_le h]; simp
theorem pick_rev {α : Type} (ds : List α) : pick ds none none (some (-1)) = ds.reverse := by
  unfold pick
  rw [PySem.W.krv_bounds]
  show (sliceRange ((ds.length : Int) - 1) (-1) (-1)).filterMap (ds[·]?) = _
  have := PySem.W.krv_all ds.toArray
  rw [PySem.W.krv_sliceRange, PySem.W.krv_range, List.filterMap_reverse]
  congr 1
  simpa using this
theorem pick_mem {α : Type} {ds : List α} {lo hi st : Option Int} {d : α} (h : d ∈ pick ds lo hi st) : d ∈ ds := by
  unfold pick at h
  obtain ⟨k, _, hk⟩ := List.mem_filterMap.mp h
  exact List.mem_of_getElem? hk
theorem pick_length {α : Type} (ds : List α) (lo hi st : Option Int) : (pick ds lo hi st).length ≤ ds.length := by
  have e : (ds.map fun _ => Value.none).length = ds.length := by simp
  have h1 : pick (ds.map fun _ => Value.none) lo hi st = (pick ds lo hi st).map fun _ => Value.none := by
    unfold pick
    rw [e, List.map_filterMap]
    congr 1
    funext k
    simp
  have h2 := slicePick_size_le (ds.map fun _ => Value.none).toArray lo hi st
  rw [slicePick_list, h1] at h2
  simpa using h2

/-! texts by lists of signs -/
def S (l : List Nat) : Str := ⟨l.toArray⟩
theorem S_length (l : List Nat) : (S l).length = l.length := by simp [S, Str.length]
theorem S_append (a b : List Nat) : S a ++ S b = S (a ++ b) := by
  show Str.append (S a) (S b) = S (a ++ b)
  simp [S, Str.append]
theorem S_inj {a b : List Nat} : S a = S b ↔ a = b := by simp [S]
theorem S_beq (a b : List Nat) : (S a == S b) = decide (a = b) := by
  by_cases h : a = b
  · simp [h]
  · have : ¬ S a = S b := fun e => h (S_inj.mp e)
    simp [h, this]
theorem S_cps (l : List Nat) : (S l).cps.toList = l := by simp [S]
theorem S_of (x : Str) : x = S x.cps.toList := by cases x; simp [S]

theorem item_strslice {x : List Nat} {lo hi : Option Int} (hz : x.length ≤ sizeLine) : ItemB (.v (.str (S x))) (.sl lo hi none) (.v (.str (S (pick x lo hi none)))) := fun n C X env ρ A s v iv hA hs r1 r2 => by
  obtain ⟨t, rfl⟩ := Rep.str_inv r1
  obtain ⟨a2, vl, vu, vs, rfl, ⟨o, ho, hc, hd⟩, p1, p2, p3⟩ := r2
  refine ⟨"str", _, typeIs_str _ _ _, PySem.F.slot_str_getitem.lookup, ?_⟩
  cases p3
  obtain ⟨l, rfl, hl⟩ : ∃ l, vl = partValue l ∧ l.map (·.1) = lo := by
    cases p1 with
    | none => exact ⟨none, rfl, rfl⟩
    | int i t => exact ⟨some (i, t), rfl, rfl⟩
  obtain ⟨u, rfl, hu⟩ : ∃ l, vu = partValue l ∧ l.map (·.1) = hi := by
    cases p2 with
    | none => exact ⟨none, rfl, rfl⟩
    | int i t => exact ⟨some (i, t), rfl, rfl⟩
  have e : slicePicked (S x) l u none = sliceRange (sliceBounds lo hi none x.length).1 (sliceBounds lo hi none x.length).2.1 (sliceBounds lo hi none x.length).2.2 := by
    unfold slicePicked
    rw [hl, hu, S_length]
    rfl
  have e2 : (slicePicked (S x) l u none).filterMap ((S x).cps[·]?) = pick x lo hi none := by
    rw [e]
    unfold pick S
    simp
  refine wpAny_getItem_str_slice (l := l) (u := u) (st := none) ⟨o, ho, hc, hd⟩ rfl ?_
  unfold sliceMade
  by_cases hh : (((none : Option (Int × Tok)).map (·.1)).getD 1 == 1 && (slicePicked (S x) l u none).length == (S x).length) = true
  · rw [if_pos hh]
    have h1 : (slicePicked (S x) l u none).length = x.length := by
      have := (Bool.and_eq_true_iff.mp hh).2
      rw [S_length] at this
      exact beq_iff_eq.mp this
    have h2 : pick x lo hi none = x := by
      rw [pick_plain]
      rw [e, sliceBounds_plain, sliceRange_one] at h1
      simp only [List.length_map, List.length_range] at h1
      have c1 : (hi.elim x.length (clipAt x.length)) ≤ x.length := by
        cases hi with
        | none => exact Nat.le_refl _
        | some i => show clipAt x.length i ≤ x.length; have := clipAt_cast x.length i; omega
      have c2 : lo.elim 0 (clipAt x.length) = 0 ∨ x.length = 0 := by omega
      rcases c2 with c2 | c2
      · rw [c2] at h1 ⊢
        rw [List.drop_zero, List.take_of_length_le (by omega)]
      · have : x = [] := List.eq_nil_of_length_eq_zero c2
        subst this; simp
    rw [h2]
    exact ⟨keeps_refl s, .str _ _⟩
  · rw [if_neg hh, e2]
    exact ⟨by show (S _).length ≤ _; rw [S_length]; exact Nat.le_trans (pick_length _ _ _ _) hz, keeps_toks s _, .str _ _⟩
end Mine
end

section
set_option maxRecDepth 100000
set_option autoImplicit false
set_option linter.unusedVariables false
namespace Mine
open PySem PySem.Calls PyProof.Rows
open PySem.W (Dat)

/-! displays -/
/-- a new list of one's own -/
def EvNew (n : Nat) (C : Cx) (X : Addr → Prop) (env : Env) (ρ : Rho) (e : Expr) (ds : List D) : Prop :=
  ∀ A s, Room n A → Rd C X env ρ s → wpI C.M A (eval e env) (fun v s' => Kp s s' ∧ ∃ a vs, v = .ref a ∧ s.heap.get? a = none ∧ s'.heap.PlainList a vs.toArray ∧ Reps (Plus X a) s'.heap vs ds) (fun _ _ => False) s
section
variable {n : Nat} {C : Cx} {X : Addr → Prop} {env : Env} {ρ : Rho} {A : Around} {s : Shared} {E : Value → Shared → Prop}
theorem RepBs.length {h : Heap} {vs : List Value} {bs : List B} (r : RepBs X h vs bs) : vs.length = bs.length := by
  induction r with
  | nil => rfl
  | cons _ _ ih => simp [ih]
theorem evn_list {es : List Expr} {pos : Pos} {ds : List D} (h : Evs n C X env ρ es (ds.map B.v)) (hz : ds.length ≤ sizeLine) : EvNew n C X env ρ (.List es pos) ds := fun A s hA hs =>
  wpI_List (h.use hA hs fun vs s1 k1 r1 p1 => by
    have p := p1.plain
    refine wpI_any (wpAny_newObj_type ⟨keeps_trans k1 (keeps_push _ _), _, _, rfl, ?_, plain_new _ _, (p.plus (get_size_none _)).gr (Gr.push _ _)⟩ (by show vs.toArray.size ≤ sizeLine; rw [List.size_toArray, p.length]; exact hz))
    cases e : s.heap.get? s1.heap.objs.size with
    | none => rfl
    | some o => have := k1.gr _ _ e; rw [get_size_none] at this; cases this)
theorem EvNew.ev {e : Expr} {ds : List D} (h : EvNew n C X env ρ e ds) : Ev n C X env ρ e (.v (.list ds)) := fun A s hA hs =>
  wpI_mono (h A s hA hs) (fun v s' ⟨k, a, vs, hv, ha, hl, hr⟩ => by
    subst hv
    refine ⟨k, .list (fun hx => ?_) hl hr.less⟩
    obtain ⟨o, e⟩ := hs.xs a hx
    rw [ha] at e; cases e) fun _ _ f => f
theorem ev_list {es : List Expr} {pos : Pos} {ds : List D} (h : Evs n C X env ρ es (ds.map B.v)) (hz : ds.length ≤ sizeLine) : Ev n C X env ρ (.List es pos) (.v (.list ds)) := (evn_list h hz).ev
theorem ev_tuple {es : List Expr} {k : Nat} {pos : Pos} {ds : List D} (h : Evs n C X env ρ es (ds.map B.v)) (hz : ds.length ≤ sizeLine) : Ev n C X env ρ (.Tuple es k pos) (.v (.tuple ds)) := fun A s hA hs =>
  wpI_Tuple (h.use hA hs fun vs s1 k1 r1 p1 => by
    have p := p1.plain
    exact wpI_any (wpAny_newObj_type ⟨keeps_trans k1 (keeps_push _ _), .tuple r1.fresh (isTuple_new _ _) (p.gr (Gr.push _ _))⟩ (by show vs.toArray.size ≤ sizeLine; rw [List.size_toArray, p.length]; exact hz)))
end

/-! join, split, find -/
def txts (ls : List (List Nat)) : List D := ls.map fun l => Dat.str (S l)
theorem Reps.toTxts {X : Addr → Prop} {h : Heap} : ∀ {vs : List Value} {ls : List (List Nat)}, Reps X h vs (txts ls) → ∃ l : List (Str × Tok), vs = strValues l ∧ l.map (·.1) = ls.map S
  | _, [], .nil => ⟨[], rfl, rfl⟩
  | _, _ :: _, .cons a r => by
    obtain ⟨t, rfl⟩ := a.str_inv
    obtain ⟨l, rfl, e⟩ := r.toTxts
    exact ⟨(_, t) :: l, rfl, by simp [e, S]⟩
theorem Reps.ofTxts {X : Addr → Prop} {h : Heap} : ∀ {l : List (Str × Tok)} {ls : List (List Nat)}, l.map (·.1) = ls.map S → Reps X h (strValues l) (txts ls)
  | [], [], _ => .nil
  | [], _ :: _, e => by simp at e
  | _ :: _, [], e => by simp at e
  | (x, t) :: l, y :: ls, e => by
    simp only [List.map_cons, List.cons.injEq] at e
    obtain ⟨rfl, e⟩ := e
    exact .cons (.str _ _) (Reps.ofTxts e)
/-- the texts of a list glued with a text between -/
def joinL (sep : List Nat) : List (List Nat) → List Nat
  | [] => []
  | [x] => x
  | x :: y :: r => x ++ sep ++ joinL sep (y :: r)
theorem join_S (sep : List Nat) : ∀ ls : List (List Nat), Str.join (S sep) (ls.map S) = S (joinL sep ls)
  | [] => rfl
  | [x] => rfl
  | x :: y :: r => by
    show S x ++ S sep ++ Str.join (S sep) ((y :: r).map S) = _
    rw [join_S sep (y :: r), S_append, S_append]
    rfl
theorem joinL_nil : ∀ ls : List (List Nat), joinL [] ls = ls.flatten
  | [] => rfl
  | [x] => by simp [joinL]
  | x :: y :: r => by rw [joinL, joinL_nil (y :: r)]; simp
theorem call_join {sep : List Nat} {ls : List (List Nat)} (hz : (ls.map (·.length)).sum + ls.length * sep.length ≤ sizeLine) :
    CallB (.builtin "str.join") [.v (.str (S sep)), .v (.list (txts ls))] (.v (.str (S (joinL sep ls)))) := fun n C X env ρ A s vs hA hs hv => by
  obtain ⟨v, w, rfl, r1, r2⟩ := hv.inv2
  obtain ⟨t1, rfl⟩ := Rep.str_inv r1
  obtain ⟨a, ws, rfl, _, l, p⟩ := Rep.list_inv r2
  obtain ⟨lt, rfl, e⟩ := p.toTxts
  have hsum : (lt.map (·.1)).map (·.length) = ls.map (·.length) := by rw [e, List.map_map]; apply List.map_congr_left; intro x _; exact S_length x
  have hlen : lt.length = ls.length := by have := congrArg List.length e; simpa using this
  have hok : Builtin.Str.tooLong ((lt.map (·.1)).toArray.foldl (fun a p => a + p.length + (S sep).length) 0) = false := by
    rw [StrLaws.joinTotal, hsum, S_length, List.length_map, hlen]
    simp only [Builtin.Str.tooLong, decide_eq_false_iff_not]
    have := sizeLine_eq
    omega
  refine call_meets PySem.F.slot_str_join (typeIs_str _ _ _) PySem.F.entry_str_join (PySem.F.args_str_join_2 _ _) (meets_str_join_list (S sep) t1 a lt hok) ⟨l.isList, post_join lt ⟨joinFit_length hok, fun t' k => ?_⟩⟩
  show Kp s _ ∧ _
  have e2 : Txt.join (S sep) (lt.map (·.1)) = S (joinL sep ls) := by
    show Builtin.Str.glued (S sep) (lt.map (·.1)) = _
    rw [StrLaws.glued_eq_join, e, join_S]
  rw [e2]
  exact ⟨keeps_toks s _, .str _ _⟩
end Mine
end

section
set_option maxRecDepth 100000
set_option autoImplicit false
set_option linter.unusedVariables false
namespace Mine
open PySem PySem.Calls PyProof.Rows
open PySem.W (Dat)
open Builtin.Str (occurrences subAt strSub partsBetween)

/-- the text y stands in x at the place i -/
def AtL (x y : List Nat) (i : Nat) : Prop := (x.drop i).take y.length = y
theorem subAt_S (x y : List Nat) (i : Nat) : subAt (S x) (S y) i = true ↔ AtL x y i := by
  rw [StrLaws.subAt_eq, S_cps, S_cps, S_length, beq_iff_eq]; rfl
theorem atL_le {x y : List Nat} {i : Nat} (h : AtL x y i) (hi : i ≤ x.length) : i + y.length ≤ x.length := by
  have := congrArg List.length h
  simp at this
  omega
def dots : List Nat := [46, 46, 46]

/-- split at three dots -/
def splitD : List Nat → List (List Nat)
  | [] => [[]]
  | 46 :: 46 :: 46 :: r => [] :: splitD r
  | c :: r => (match splitD r with
    | [] => [[c]]
    | h :: t => (c :: h) :: t)
theorem splitD_dots (r : List Nat) : splitD (46 :: 46 :: 46 :: r) = [] :: splitD r := by rw [splitD]
theorem splitD_ne : ∀ x : List Nat, splitD x ≠ []
  | [] => by simp [splitD]
  | c :: r => by
    rw [splitD.eq_def]
    split
    · simp
    · simp
    · split <;> simp
theorem splitD_cons {c : Nat} {r : List Nat} (h : ¬ AtL (c :: r) dots 0) : splitD (c :: r) = (c :: (splitD r).headD []) :: (splitD r).tail := by
  rw [splitD.eq_def]
  split
  · rename_i e; cases e
  · rename_i r' e
    cases e
    exact absurd (by simp [AtL, dots]) h
  · rename_i c' r' hn e
    cases e
    cases hs : splitD r with
    | nil => exact absurd hs (splitD_ne r)
    | cons a t => rfl

/-- the places of the cuts -/
def occR (p : Nat → Bool) (w : Nat) : Nat → Nat → Nat → List Nat
  | _, 0, _ => []
  | a, m + 1, free => if (decide (free ≤ a) && p a) = true then a :: occR p w (a + 1) m (a + w) else occR p w (a + 1) m free
theorem occ_occR (x y : Str) (hi limit : Nat) : ∀ (m a : Nat) (st : Array Nat × Nat), st.1.size + m ≤ limit →
    (forIn (List.range' a m) st (StrLaws.occBody x y hi limit)).run.fst.toList = st.1.toList ++ occR (fun i => decide (i + y.length ≤ hi) && subAt x y i) y.length a m st.2
  | 0, a, st, _ => by simp [occR]
  | m + 1, a, st, h => by
    rw [List.range'_succ, List.forIn_cons]
    unfold StrLaws.occBody occR
    have h1 : st.1.size < limit := by omega
    by_cases hc : (((st.1.size < limit ∧ st.2 ≤ a) ∧ a + y.length ≤ hi) ∧ subAt x y a = true)
    · rw [if_pos hc]
      have hp : (decide (st.2 ≤ a) && (decide (a + y.length ≤ hi) && subAt x y a)) = true := by simp [hc.1.1.2, hc.1.2, hc.2]
      rw [if_pos hp]
      have := occ_occR x y hi limit m (a + 1) (st.1.push a, a + y.length) (by simp; omega)
      refine Eq.trans this ?_
      simp
    · rw [if_neg hc]
      have hp : ¬ (decide (st.2 ≤ a) && (decide (a + y.length ≤ hi) && subAt x y a)) = true := fun e => by
        simp only [Bool.and_eq_true, decide_eq_true_eq] at e
        exact hc ⟨⟨⟨h1, e.1⟩, e.2.1⟩, e.2.2⟩
      rw [if_neg hp]
      exact occ_occR x y hi limit m (a + 1) st (by omega)
theorem strSub_S (x : List Nat) (i j : Nat) : strSub (S x) i j = S ((x.drop i).take (j - i)) := by
  have := StrLaws.strSub_toList (S x) i j
  rw [S_cps] at this
  rw [S_of (strSub (S x) i j), this]
theorem occR_skip (p : Nat → Bool) (w : Nat) : ∀ (k a m free : Nat), a + k ≤ free → occR p w a (m + k) free = occR p w (a + k) m free
  | 0, _, _, _, _ => rfl
  | k + 1, a, m, free, h => by
    rw [show m + (k + 1) = (m + k) + 1 by omega, occR]
    have : ¬ (decide (free ≤ a) && p a) = true := by simp; intro h'; omega
    rw [if_neg this, occR_skip p w k (a + 1) m free (by omega)]
    congr 1; omega
def pD (x : List Nat) (i : Nat) : Bool := decide (i + (S dots).length ≤ (S x).length) && subAt (S x) (S dots) i
theorem pD_iff (x : List Nat) (i : Nat) (hi : i ≤ x.length) : pD x i = true ↔ AtL (x.drop i) dots 0 := by
  unfold pD
  rw [Bool.and_eq_true, subAt_S, S_length, S_length, decide_eq_true_eq]
  constructor
  · rintro ⟨_, h⟩; simpa [AtL] using h
  · intro h
    have h' : AtL x dots i := by simpa [AtL] using h
    exact ⟨atL_le h' hi, h'⟩
/-- the parts from b on, where nothing is cut up to a -/
theorem parts_split (x : List Nat) : ∀ (m a b : Nat) (free : Nat), a + m = x.length → b ≤ a → free ≤ a →
    StrLaws.partsFrom (S x) (S dots).length b (occR (pD x) (S dots).length a (m + 1) free) = (((x.drop b).take (a - b) ++ (splitD (x.drop a)).headD []) :: (splitD (x.drop a)).tail).map S := by
  intro m
  induction m using Nat.strongRecOn with
  | ind m ih =>
    intro a b free hm hb hf
    cases m with
    | zero =>
      have ha : a = x.length := by omega
      have hd : x.drop a = [] := List.drop_eq_nil_of_le (by omega)
      have hp : ¬ (decide (free ≤ a) && pD x a) = true := by
        rw [Bool.and_eq_true, pD_iff x a (by omega), hd]
        intro h
        have := h.2
        simp [AtL, dots] at this
      rw [occR, if_neg hp, occR, StrLaws.partsFrom, hd]
      rw [strSub_S, S_length, ha]
      simp [splitD]
    | succ m =>
      obtain ⟨c, r, hcr⟩ : ∃ c r, x.drop a = c :: r := by
        cases e : x.drop a with
        | nil => have := congrArg List.length e; simp at this; omega
        | cons c r => exact ⟨c, r, rfl⟩
      have hr : x.drop (a + 1) = r := by rw [← List.drop_drop, hcr]; rfl
      have hlr : r.length = m := by have := congrArg List.length hcr; simp at this; omega
      rw [occR]
      by_cases hp : pD x a = true
      · have hat := (pD_iff x a (by omega)).mp hp
        rw [if_pos (by simp [hf, hp])]
        rw [hcr] at hat
        obtain ⟨r', rfl, rfl⟩ : ∃ r', c = 46 ∧ r = 46 :: 46 :: r' := by
          simp only [AtL, List.drop_zero, dots] at hat
          cases r with
          | nil => simp at hat
          | cons c2 r =>
            cases r with
            | nil => simp at hat
            | cons c3 r =>
              simp at hat
              exact ⟨r, hat.1, by rw [hat.2.1, hat.2.2]⟩
        have hm2 : 2 ≤ m := by simp at hlr; omega
        rw [StrLaws.partsFrom]
        have hw : (S dots).length = 3 := rfl
        have hsk : occR (pD x) (S dots).length (a + 1) (m + 1) (a + (S dots).length) = occR (pD x) (S dots).length (a + 3) (m - 2 + 1) (a + 3) := by
          rw [show m + 1 = (m - 2 + 1) + 2 by omega, occR_skip _ _ 2 (a + 1) _ _ (by rw [hw]; omega), hw]
        rw [hsk, hw]
        have hd3 : x.drop (a + 3) = r' := by
          have e : (x.drop a).drop 3 = x.drop (a + 3) := by rw [List.drop_drop]
          rw [← e, hcr]; rfl
        have := ih (m - 2) (by omega) (a + 3) (a + 3) (a + 3) (by omega) (Nat.le_refl _) (Nat.le_refl _)
        rw [hw] at this
        rw [this, hcr, splitD_dots, strSub_S, hd3]
        have hne := splitD_ne r'
        cases hs : splitD r' with
        | nil => exact absurd hs hne
        | cons h t => simp
      · have hat : ¬ AtL (c :: r) dots 0 := fun h => hp ((pD_iff x a (by omega)).mpr (hcr ▸ h))
        rw [if_neg (by simp [hp])]
        have := ih m (by omega) (a + 1) b free (by omega) (by omega) (by omega)
        rw [this, hcr, splitD_cons hat, hr]
        have e2 : (x.drop b).take (a + 1 - b) = (x.drop b).take (a - b) ++ [c] := by
          rw [show a + 1 - b = (a - b) + 1 by omega, List.take_add_one]
          congr 1
          rw [List.getElem?_drop, show b + (a - b) = a by omega]
          have : x[a]? = (x.drop a)[0]? := by rw [List.getElem?_drop]; rfl
          rw [this, hcr]; rfl
        rw [e2]
        simp
theorem kind_dots : Builtin.Str.strKind (S dots) = 1 := by simp [Builtin.Str.strKind, S, dots]
theorem split_S (x : List Nat) : Txt.split (S x) (S dots) = (splitD x).map S := by
  have hocc : occurrences (S x) (S dots) 0 (S x).length ((S x).length + 1) = occR (pD x) (S dots).length 0 (x.length + 1) 0 := by
    rw [StrLaws.occ_eq]
    have := occ_occR (S x) (S dots) (S x).length ((S x).length + 1) ((S x).length + 1 - 0) 0 (#[], 0) (by simp)
    rw [this]
    simp only [S_length, Nat.sub_zero]
    show [] ++ _ = _
    rw [List.nil_append]
    unfold pD
    simp only [S_length]
  have hparts := parts_split x x.length 0 0 0 (by omega) (Nat.le_refl _) (Nat.le_refl _)
  have hne := splitD_ne x
  have key : StrLaws.partsFrom (S x) (S dots).length 0 (occR (pD x) (S dots).length 0 (x.length + 1) 0) = (splitD x).map S := by
    rw [hparts, List.drop_zero]
    cases hs : splitD x with
    | nil => exact absurd hs hne
    | cons h t => simp
  unfold Txt.split
  by_cases h1 : (decide ((S x).length < (S dots).length) || decide (Builtin.Str.strKind (S x) < Builtin.Str.strKind (S dots))) = true
  · rw [if_pos h1]
    have hk : ¬ Builtin.Str.strKind (S x) < Builtin.Str.strKind (S dots) := by
      rw [kind_dots]
      unfold Builtin.Str.strKind
      split
      · omega
      · split <;> omega
    have hl : x.length < 3 := by
      simp only [Bool.or_eq_true, decide_eq_true_eq] at h1
      rcases h1 with h | h
      · rw [S_length] at h; exact h
      · exact absurd h hk
    match x, hl with
    | [], _ => rfl
    | [a], _ => simp [splitD]
    | [a, b], _ => simp [splitD]
  · rw [if_neg h1]
    by_cases h2 : (occurrences (S x) (S dots) 0 (S x).length ((S x).length + 1)).isEmpty = true
    · rw [if_pos h2, ← key]
      rw [hocc] at h2
      rw [List.isEmpty_iff.mp h2, StrLaws.partsFrom, StrLaws.sub_whole]
    · rw [if_neg h2, StrLaws.partsBetween_eq, hocc, key]
end Mine
end

section
set_option maxRecDepth 100000
set_option autoImplicit false
set_option linter.unusedVariables false
namespace Mine
open PySem PySem.Calls PyProof.Rows
open PySem.W (Dat)
open Builtin.Str (occurrences subAt strSub partsBetween)

def findL (x y : List Nat) (lo hi : Nat) : Int := match occurrences (S x) (S y) lo hi 1 with | k :: _ => (k : Int) | [] => -1
theorem findL_spec (x y : List Nat) (lo hi : Nat) :
    (findL x y lo hi = -1 ∧ ∀ i, lo ≤ i → i + y.length ≤ hi → ¬ AtL x y i) ∨
    ∃ k : Nat, findL x y lo hi = k ∧ lo ≤ k ∧ k + y.length ≤ hi ∧ AtL x y k ∧ ∀ i, lo ≤ i → i < k → ¬ AtL x y i := by
  unfold findL
  rw [StrLaws.occ_eq]
  rcases StrLaws.occ_first (S x) (S y) hi 1 (Nat.le_refl _) (List.range' lo (hi + 1 - lo)) lo (fun i hi' => by simp [List.mem_range'] at hi'; omega) with ⟨h0, hn⟩ | ⟨pre, a, post, e, h0, ha, hn⟩
  · rw [h0]
    refine .inl ⟨rfl, fun i h1 h2 hat => hn i (by simp [List.mem_range']; exact ⟨i - lo, by omega, by omega⟩) ⟨by rw [S_length]; exact h2, (subAt_S x y i).mpr hat⟩⟩
  · generalize (forIn (List.range' lo (hi + 1 - lo)) ((#[] : Array Nat), lo) (StrLaws.occBody (S x) (S y) hi 1)).run.fst = f at h0
    obtain ⟨l⟩ := f
    cases l with
    | nil => simp at h0
    | cons k r =>
      simp at h0
      subst h0
      obtain ⟨g1, g2⟩ := StrLaws.range'_split_from e
      refine .inr ⟨k, rfl, g1, by have := ha.1; rw [S_length] at this; exact this, (subAt_S x y k).mp ha.2, fun i h1 h2 hat => ?_⟩
      refine hn i (g2 i h1 h2) ⟨?_, (subAt_S x y i).mpr hat⟩
      have := ha.1
      omega
theorem fromIndex_nat (len k : Nat) : fromIndex len (k : Int) = k := by
  unfold fromIndex
  rw [if_neg (by omega)]
  omega
theorem gives_find4 (x y : Str) (i j : Int) (t u v w : Tok) : Gives (Builtin.«str.find» ⟨[.str x t, .str y u, .int i v, .int j w], []⟩) (.int (match occurrences x y (fromIndex x.length i) (min (fromIndex x.length j) x.length) 1 with | k :: _ => (k : Int) | [] => -1)) := by
  show Gives (match occurrences x y (fromIndex x.length i) (min (fromIndex x.length j) x.length) 1 with | k :: _ => PySem.retInt k | [] => (do rule "str.find.not-found"; PySem.retInt (-1))) _
  cases occurrences x y (fromIndex x.length i) (min (fromIndex x.length j) x.length) 1 with
  | nil => exact .rule (.of_eq rfl)
  | cons k _ => exact .of_eq rfl
theorem RepBs.inv4 {X : Addr → Prop} {h : Heap} {vs : List Value} {b c d e : B} (r : RepBs X h vs [b, c, d, e]) : ∃ v w x y, vs = [v, w, x, y] ∧ RepB X h v b ∧ RepB X h w c ∧ RepB X h x d ∧ RepB X h y e := by
  cases r with
  | cons a r => obtain ⟨w, x, y, rfl, hw, hx, hy⟩ := r.inv3; exact ⟨_, w, x, y, rfl, a, hw, hx, hy⟩
theorem call_find {x y : List Nat} {lo hi : Nat} (hh : hi ≤ x.length) : CallB (.builtin "str.find") [.v (.str (S x)), .v (.str (S y)), .v (.int lo), .v (.int hi)] (.v (.int (findL x y lo hi))) := fun n C X env ρ A s vs hA hs hv => by
  obtain ⟨v1, v2, v3, v4, rfl, r1, r2, r3, r4⟩ := hv.inv4
  obtain ⟨t1, rfl⟩ := Rep.str_inv r1
  obtain ⟨t2, rfl⟩ := Rep.str_inv r2
  obtain ⟨t3, rfl⟩ := Rep.int_inv r3
  obtain ⟨t4, rfl⟩ := Rep.int_inv r4
  refine call_gives PySem.F.slot_str_find (typeIs_str _ _ _) PySem.F.entry_str_find (PySem.F.args_str_find_4 _ _ _ _) (gives_find4 (S x) (S y) lo hi t1 t2 t3 t4) ?_
  rw [fromIndex_nat, fromIndex_nat, S_length, Nat.min_eq_left hh]
  exact ⟨keeps_toks s _, .int _ _⟩

/-- split at three dots: a new list -/
theorem wp_split {prog : Program} {w : World} {A : Around} {E : Value → Shared → Prop} {s : Shared} {x : List Nat} {t u : Tok} {Q : Value → Shared → Prop} (hsz : x.length + 2 ≤ sizeLine)
    (h : ∀ l k, l.map (·.1) = (splitD x).map S → Q (.ref s.heap.objs.size) { s with heap := s.heap.push { cls := .type "list", data := .seq (strValues l).toArray }, toks := k }) :
    wpAny (model prog w) A (call (.builtin "str.split") [.str (S x) t, .str (S dots) u]) Q E s := by
  have hy : ((S dots).length == 0) = false := rfl
  have hn : (partsBetween (S x) (occurrences (S x) (S dots) 0 (S x).length ((S x).length + 1)) (S dots).length).length ≤ sizeLine := by
    have e1 := StrLaws.occ_length_le (S x) (S dots) 0 (S x).length ((S x).length + 1)
    rw [length_partsBetween, S_length]
    rw [S_length] at e1
    omega
  have hsz' : (S x).length + 2 ≤ sizeLine := by rw [S_length]; exact hsz
  cases h1 : (decide ((S x).length < (S dots).length) || decide (Builtin.Str.strKind (S x) < Builtin.Str.strKind (S dots)))
  · cases hf : (occurrences (S x) (S dots) 0 (S x).length ((S x).length + 1)).isEmpty
    · refine call_meets PySem.F.slot_str_split (typeIs_str _ _ _) PySem.F.entry_str_split (PySem.F.args_str_split_2 _ _) (meets_str_split_sep (S x) (S dots) t u h1 hy hf (by omega) hn) ?_
      show wants Q E _ { s with toks := _, heap := s.heap.push { cls := .type "list", data := .seq (strsFrom s.toks (partsBetween (S x) (occurrences (S x) (S dots) 0 (S x).length ((S x).length + 1)) (S dots).length)).toArray } }
      rw [strsFrom_eq]
      exact h (numbered s.toks _) _ ((numbered_texts _ _).trans (((if_neg (ne_true_of_eq_false h1)).trans (if_neg (ne_true_of_eq_false hf))).symm.trans (split_S x)))
    · exact call_meets PySem.F.slot_str_split (typeIs_str _ _ _) PySem.F.entry_str_split (PySem.F.args_str_split_2 _ _) (meets_str_split_not_found (S x) (S dots) t u h1 hy hf)
        (h [(S x, t)] s.toks (((if_neg (ne_true_of_eq_false h1)).trans (if_pos hf)).symm.trans (split_S x)))
  · exact call_meets PySem.F.slot_str_split (typeIs_str _ _ _) PySem.F.entry_str_split (PySem.F.args_str_split_2 _ _) (meets_str_split_cannot_occur (S x) (S dots) t u h1)
      (h [(S x, t)] s.toks ((if_pos h1).symm.trans (split_S x)))
section
variable {n : Nat} {C : Cx} {X : Addr → Prop} {env : Env} {ρ : Rho}
theorem evn_split {o e : Expr} {name : Str} {apos pos : Pos} {x : List Nat} {pl : Sem Bool} (hn : name = Str.ofString "split") (hsz : x.length + 2 ≤ sizeLine) (h₀ : Ev n C X env ρ o (.v (.str (S x)))) (h₁ : Ev n C X env ρ e (.v (.str (S dots))))
    (he : starEach [e] env = [(false, eval e env)] := by rfl)
    (hc : eval (.Call (.Attribute o name apos) [e] [] pos) env = (do
      let ov ← eval o env
      standAt apos.atName
      let (f, first) ← holding [ov] (getMethod ov name pl)
      callWith pos f first (backTo pos (starEach [e] env)) []) := by rfl) :
    EvNew n C X env ρ (.Call (.Attribute o name apos) [e] [] pos) (txts (splitD x)) := fun A s hA hs => by
  subst hn
  refine wpI_MethodCall (h₀.use hA hs fun v s1 k1 r1 p1 => ?_) hc
  obtain ⟨t1, rfl⟩ := Rep.str_inv p1
  refine wpI_any (GM.split (wpI_callWith_builtin (first := [.str (S x) t1]) ((evs_cons h₁ evs_nil he).use hA r1 fun vs s2 k2 r2 p2 => ?_) he rfl))
  obtain ⟨v2, rfl, q2⟩ := p2.inv1
  obtain ⟨t2, rfl⟩ := Rep.str_inv q2
  refine wpI_any (wp_split hsz fun l k e => ⟨keeps_trans k1 (keeps_trans k2 (keeps_heap (Gr.push _ _))), _, _, rfl, ?_, plain_new _ _, Reps.ofTxts e⟩)
  cases e : s.heap.get? s2.heap.objs.size with
  | none => rfl
  | some o => have := k2.gr _ _ (k1.gr _ _ e); rw [get_size_none] at this; cases this
end
end Mine
end

section
set_option maxRecDepth 100000
set_option autoImplicit false
set_option linter.unusedVariables false
namespace Mine
open PySem PySem.Calls PyProof.Rows
open PySem.W (Dat)

/-! the state of a frame, and its stores -/
def B.isVar : B → Bool
  | .v _ => true
  | .ml _ _ => true
  | .mb _ _ => true
  | _ => false
def Sq (o : Obj) : Prop := (∃ xs n, o.data = Data.seq xs n) ∨ ∃ b, o.data = Data.bytearray b
theorem RepB.pres {X : Addr → Prop} {h h' : Heap} {v : Value} {b : B} (hv : b.isVar = true) (r : RepB X h v b) (g : ∀ a o, h.get? a = some o → Sq o → h'.get? a = some o) : RepB X h' v b := by
  cases b with
  | v d => exact Rep.pres (fun a o _ e hs => g a o e (.inl hs)) r
  | ml a ds => obtain ⟨h1, h2, vs, ⟨n, h3⟩, h4⟩ := r; exact ⟨h1, h2, vs, ⟨n, g _ _ h3 (.inl ⟨_, _, rfl⟩)⟩, h4.pres fun a o _ e hs => g a o e (.inl hs)⟩
  | mb a ds => obtain ⟨h1, h2, h3⟩ := r; exact ⟨h1, h2, g _ _ h3 (.inr ⟨_, rfl⟩)⟩
  | ty T => cases hv
  | sl lo hi st => cases hv

theorem ns_unique {h : Heap} {a : Addr} {m m' : Str → Option Value} (x : h.Ns a m) (y : h.Ns a m') : m = m' := by
  obtain ⟨o, es, ep, ho, hd, _, hm⟩ := x
  obtain ⟨o', es', ep', ho', hd', _, hm'⟩ := y
  rw [ho] at ho'; cases ho'
  rw [hd] at hd'; cases hd'
  funext n
  rw [← hm n, ← hm' n]

structure St (C : Cx) (Pr : Addr → Obj → Prop) (X : Addr → Prop) (env : Env) (ρ : Rho) (s : Shared) : Prop where
  rd : Rd C X env ρ s
  basePr : ∀ b o, C.s0.heap.get? b = some o → Pr b o
  keep : ∀ b o, Pr b o → s.heap.get? b = some o
  ns : ∃ m, s.heap.Ns env.locals m
  cells : ∀ x c, env.cells.lookup x = some c → ∃ v, s.heap.IsCell c v
  cellsApart : ∀ x y c, env.cells.lookup x = some c → env.cells.lookup y = some c → env.locals < c → x = y
  freeL : ∀ o, ¬ Pr env.locals o
  freeC : ∀ x c o, env.cells.lookup x = some c → env.locals < c → ¬ Pr c o
  own : ∀ x b a o, ρ.lookup x = some b → b.at? = some a → ¬ Pr a o
  apart : ∀ x y b c a, ρ.lookup x = some b → ρ.lookup y = some c → b.at? = some a → c.at? = some a → x = y
  isVar : ∀ x b, ρ.lookup x = some b → b.isVar = true

section
variable {C : Cx} {Pr : Addr → Obj → Prop} {X : Addr → Prop} {env : Env} {ρ : Rho} {s s' : Shared} {A : Around} {E : Value → Shared → Prop}
theorem St.keeps (S : St C Pr X env ρ s) (k : Kp s s') : St C Pr X env ρ s' :=
  ⟨S.rd.keeps k, S.basePr, fun b o h => k.gr b o (S.keep b o h), let ⟨m, h⟩ := S.ns; ⟨m, h.keeps k.gr⟩, fun x c h => let ⟨v, hv⟩ := S.cells x c h; ⟨v, hv.keeps k.gr⟩, S.cellsApart, S.freeL, S.freeC, S.own, S.apart, S.isVar⟩
theorem St.weaken {ρ' : Rho} (S : St C Pr X env ρ s) (h : ∀ x b, ρ'.lookup x = some b → ρ.lookup x = some b) : St C Pr X env ρ' s :=
  ⟨⟨S.rd.ok, S.rd.eok, S.rd.base, fun x b e => S.rd.vars x b (h x b e), S.rd.xs⟩, S.basePr, S.keep, S.ns, S.cells, S.cellsApart, S.freeL, S.freeC, fun x b a o e => S.own x b a o (h x b e), fun x y b c a e f => S.apart x y b c a (h x b e) (h y c f), fun x b e => S.isVar x b (h x b e)⟩
theorem St.prLess {Pr' : Addr → Obj → Prop} (S : St C Pr' X env ρ s) (h : ∀ b o, Pr b o → Pr' b o) (hb : ∀ b o, C.s0.heap.get? b = some o → Pr b o) : St C Pr X env ρ s :=
  ⟨S.rd, hb, fun b o e => S.keep b o (h b o e), S.ns, S.cells, S.cellsApart, fun o e => S.freeL o (h _ _ e), fun x c o e l f => S.freeC x c o e l (h _ _ f), fun x b a o e f g => S.own x b a o e f (h _ _ g), S.apart, S.isVar⟩
theorem St.prMore {Pr' : Addr → Obj → Prop} (S : St C Pr X env ρ s) (hb : ∀ b o, C.s0.heap.get? b = some o → Pr' b o) (hk : ∀ b o, Pr' b o → s.heap.get? b = some o) (hL : ∀ o, ¬ Pr' env.locals o) (hC : ∀ x c o, env.cells.lookup x = some c → env.locals < c → ¬ Pr' c o)
    (ho : ∀ x b a o, ρ.lookup x = some b → b.at? = some a → ¬ Pr' a o) : St C Pr' X env ρ s :=
  ⟨S.rd, hb, hk, S.ns, S.cells, S.cellsApart, hL, hC, ho, S.apart, S.isVar⟩
theorem RepB.lessX {a : Addr} {h : Heap} {v : Value} {b : B} (r : RepB (Plus X a) h v b) (hb : b.at? ≠ some a) : RepB X h v b := by
  cases b with
  | v d => exact Rep.less r
  | ml a' ds =>
    obtain ⟨h1, h2, vs, h3, h4⟩ := r
    refine ⟨h1, h2.resolve_left fun e => hb ?_, vs, h3, h4.less⟩
    rw [← e]; rfl
  | mb a' ds =>
    obtain ⟨h1, h2, h3⟩ := r
    refine ⟨h1, h2.resolve_left fun e => hb ?_, h3⟩
    rw [← e]; rfl
  | ty T => exact r
  | sl lo hi st => exact r
theorem St.lessX {a : Addr} (S : St C Pr (Plus X a) env ρ s) (h : ∀ x b, ρ.lookup x = some b → b.at? ≠ some a) : St C Pr X env ρ s :=
  ⟨⟨S.rd.ok, S.rd.eok, S.rd.base, fun x b e => let ⟨v, h1, h2⟩ := S.rd.vars x b e; ⟨v, h1, h2.lessX (h x b e)⟩, fun a h => S.rd.xs a (.inr h)⟩, S.basePr, S.keep, S.ns, S.cells, S.cellsApart, S.freeL, S.freeC, S.own, S.apart, S.isVar⟩
theorem RepB.moreX {a : Addr} {h : Heap} {v : Value} {b : B} (r : RepB X h v b) (ha : h.get? a = none) : RepB (Plus X a) h v b := by
  cases b with
  | v d => exact Rep.plus r ha
  | ml a' ds => obtain ⟨h1, h2, vs, h3, h4⟩ := r; exact ⟨h1, .inr h2, vs, h3, h4.plus ha⟩
  | mb a' ds => obtain ⟨h1, h2, h3⟩ := r; exact ⟨h1, .inr h2, h3⟩
  | ty T => exact r
  | sl lo hi st => exact r
/-- a new object of one's own: no more in the data -/
theorem Rd.moreX {a : Addr} {o : Obj} (S : Rd C X env ρ s) (k : Kp s s') (ha : s.heap.get? a = none) (ho : s'.heap.get? a = some o) : Rd C (Plus X a) env ρ s' :=
  ⟨S.ok, S.eok, keeps_trans S.base k, fun x b e => let ⟨v, h1, h2⟩ := S.vars x b e; ⟨v, h1.gr k.gr, (h2.moreX ha).gr k.gr⟩, fun b hb => by
    rcases hb with rfl | hb
    · exact ⟨o, ho⟩
    · obtain ⟨o', e⟩ := S.xs b hb; exact ⟨o', k.gr b o' e⟩⟩
theorem St.moreX {a : Addr} {o : Obj} (S : St C Pr X env ρ s) (k : Kp s s') (ha : s.heap.get? a = none) (ho : s'.heap.get? a = some o) : St C Pr (Plus X a) env ρ s' :=
  let S' := S.keeps k
  ⟨S.rd.moreX k ha ho, S.basePr, S'.keep, S'.ns, S'.cells, S.cellsApart, S.freeL, S.freeC, S.own, S.apart, S.isVar⟩

theorem base_same {a : Addr} {h' : Heap} {tk : Nat} (S : St C Pr X env ρ s) (hs : Heap.SameBut a s.heap h') (ha : ∀ o, ¬ Pr a o) : Kp C.s0 { s with heap := h', toks := tk } := by
  obtain ⟨⟨h0, t0, e⟩, g⟩ := S.rd.base
  refine ⟨⟨h', tk, by rw [e]⟩, fun b o eb => ?_⟩
  refine (hs.2 b fun q => ?_).trans (g b o eb)
  exact ha o (q ▸ S.basePr b o eb)
theorem xs_same {a : Addr} {h' : Heap} {oa : Obj} (S : St C Pr X env ρ s) (hs : Heap.SameBut a s.heap h') (ha : h'.get? a = some oa) : ∀ b, X b → ∃ o, h'.get? b = some o := fun b hb => by
  obtain ⟨o, e⟩ := S.rd.xs b hb
  by_cases q : b = a
  · exact ⟨oa, q ▸ ha⟩
  · exact ⟨o, (hs.2 b q).trans e⟩

/-- what a stored value may be: plain data, or one's own that no other name bears -/
def Fresh (Pr : Addr → Obj → Prop) (ρ : Rho) (x : Str) (b : B) : Prop := b.isVar = true ∧ ∀ a, b.at? = some a → (∀ o, ¬ Pr a o) ∧ ∀ y c, ρ.lookup y = some c → c.at? = some a → y = x
theorem Fresh.v {x : Str} {d : D} : Fresh Pr ρ x (.v d) := ⟨rfl, fun a e => by cases e⟩

def CanStore (env : Env) (x : Str) : Prop := env.kindOf x = some .local ∨ (env.kindOf x = some .cell ∧ ∃ c, env.cells.lookup x = some c ∧ env.locals < c)
theorem St.store {x : Str} {v : Value} {b : B} {Q : Unit → Shared → Prop} (S : St C Pr X env ρ s) (hx : CanStore env x) (hv : RepB X s.heap v b) (hb : Fresh Pr ρ x b)
    (h : ∀ s', St C Pr X env ((x, b) :: ρ) s' → Q () s') : wpAny C.M A (storeName env x v) Q E s := by
  have look : ∀ y c, ((x, b) :: ρ : Rho).lookup y = some c → (y = x ∧ c = b) ∨ (y ≠ x ∧ ρ.lookup y = some c) := fun y c e => by
    rw [List.lookup_cons] at e
    by_cases q : y = x
    · rw [q] at e
      simp at e
      exact .inl ⟨q, e.symm⟩
    · have : (y == x) = false := by simpa using q
      rw [this] at e
      exact .inr ⟨q, e⟩
  have own' : ∀ y c a o, ((x, b) :: ρ : Rho).lookup y = some c → c.at? = some a → ¬ Pr a o := fun y c a o e ha => by
    rcases look y c e with ⟨_, rfl⟩ | ⟨_, e⟩
    · exact (hb.2 a ha).1 o
    · exact S.own y c a o e ha
  have apart' : ∀ y z c d a, ((x, b) :: ρ : Rho).lookup y = some c → ((x, b) :: ρ : Rho).lookup z = some d → c.at? = some a → d.at? = some a → y = z := fun y z c d a e f hc hd => by
    rcases look y c e with ⟨hy, hy2⟩ | ⟨hy, e1⟩ <;> rcases look z d f with ⟨hz, hz2⟩ | ⟨hz, f1⟩
    · rw [hy, hz]
    · rw [hy]; exact ((hb.2 a (hy2 ▸ hc)).2 z d f1 hd).symm
    · rw [hz]; exact (hb.2 a (hz2 ▸ hd)).2 y c e1 hc
    · exact S.apart y z c d a e1 f1 hc hd
  have isVar' : ∀ y c, ((x, b) :: ρ : Rho).lookup y = some c → c.isVar = true := fun y c e => by
    rcases look y c e with ⟨_, rfl⟩ | ⟨_, e⟩
    · exact hb.1
    · exact S.isVar y c e
  obtain ⟨m, hm⟩ := S.ns
  obtain ⟨oL, es, ep, hoL, hdL, _⟩ := id hm
  rcases hx with hk | ⟨hk, c, hc, hlt⟩
  · refine wpAny_storeName_local hk hm (fun h' hn' hs' => h _ ?_) (by rw [S.rd.eok.kind]; rfl)
    obtain ⟨oL', _, _, hoL', _⟩ := id hn'
    have pres : ∀ a o, s.heap.get? a = some o → Sq o → h'.get? a = some o := fun a o e hsq => (hs'.2 a fun q => by
      rw [q, hoL] at e; cases e
      rcases hsq with ⟨xs, n, hd⟩ | ⟨bb, hd⟩ <;> (rw [hdL] at hd; cases hd)).trans e
    refine ⟨⟨S.rd.ok, S.rd.eok, base_same S hs' S.freeL, fun y c e => ?_, xs_same S hs' hoL'⟩, S.basePr, fun b o e => (hs'.2 b fun q => S.freeL o (q ▸ e)).trans (S.keep b o e), ⟨_, hn'⟩, fun y c e => ?_, S.cellsApart, S.freeL, S.freeC, own', apart', isVar'⟩
    · rcases look y c e with ⟨rfl, rfl⟩ | ⟨hy, e⟩
      · exact ⟨v, .inl ⟨hk, _, hn', by simp⟩, hv.pres hb.1 pres⟩
      · obtain ⟨w, hw, hr⟩ := S.rd.vars y c e
        refine ⟨w, ?_, hr.pres (S.isVar y c e) pres⟩
        rcases hw with ⟨hky, m', hm', hmy⟩ | ⟨hky, cc, hcc, hcv⟩
        · exact .inl ⟨hky, _, hn', by rw [if_neg hy, ns_unique hm hm']; exact hmy⟩
        · refine .inr ⟨hky, cc, hcc, hcv.sameBut hs' fun q => ?_⟩
          obtain ⟨oc, hoc, hdc⟩ := hcv
          rw [q, hoL] at hoc; cases hoc
          rw [hdL] at hdc; cases hdc
    · obtain ⟨w, hw⟩ := S.cells y c e
      refine ⟨w, hw.sameBut hs' fun q => ?_⟩
      obtain ⟨oc, hoc, hdc⟩ := hw
      rw [q, hoL] at hoc; cases hoc
      rw [hdL] at hdc; cases hdc
  · obtain ⟨v₀, hv₀⟩ := S.cells x c hc
    obtain ⟨oc, hoc, hdc⟩ := id hv₀
    refine wpAny_storeName_cell S.rd.eok.kind hk hc hv₀ fun h' hv' hs' => h _ ?_
    have pres : ∀ a o, s.heap.get? a = some o → Sq o → h'.get? a = some o := fun a o e hsq => (hs'.2 a fun q => by
      rw [q, hoc] at e; cases e
      rcases hsq with ⟨xs, n, hd⟩ | ⟨bb, hd⟩ <;> (rw [hdc] at hd; cases hd)).trans e
    have hLc : env.locals ≠ c := fun q => by
      rw [q, hoc] at hoL; cases hoL
      rw [hdL] at hdc; cases hdc
    have hfree : ∀ o, ¬ Pr c o := fun o => S.freeC x c o hc hlt
    obtain ⟨oc', hoc', hdc'⟩ := id hv'
    have e0 : ({ s with heap := h' } : Shared) = { s with heap := h', toks := s.toks } := rfl
    refine ⟨⟨S.rd.ok, S.rd.eok, e0 ▸ base_same S hs' hfree, fun y d e => ?_, xs_same S hs' hoc'⟩, S.basePr, fun b o e => (hs'.2 b fun q => hfree o (q ▸ e)).trans (S.keep b o e), ⟨m, hm.sameBut hs' hLc⟩, fun y d e => ?_, S.cellsApart, S.freeL, S.freeC, own', apart', isVar'⟩
    · rcases look y d e with ⟨rfl, rfl⟩ | ⟨hy, e⟩
      · exact ⟨v, .inr ⟨.inl hk, c, hc, hv'⟩, hv.pres hb.1 pres⟩
      · obtain ⟨w, hw, hr⟩ := S.rd.vars y d e
        refine ⟨w, ?_, hr.pres (S.isVar y d e) pres⟩
        rcases hw with ⟨hky, m', hm', hmy⟩ | ⟨hky, cc, hcc, hcv⟩
        · exact .inl ⟨hky, _, hm'.sameBut hs' hLc, hmy⟩
        · exact .inr ⟨hky, cc, hcc, hcv.sameBut hs' fun q => hy (S.cellsApart y x cc hcc (q ▸ hc) (q ▸ hlt))⟩
    · by_cases q : d = c
      · exact ⟨_, q ▸ hv'⟩
      · obtain ⟨w, hw⟩ := S.cells y d e
        exact ⟨w, hw.sameBut hs' q⟩
end
end Mine
end

section
set_option maxRecDepth 100000
set_option autoImplicit false
set_option linter.unusedVariables false
namespace Mine
open PySem PySem.Calls PyProof.Rows
open PySem.W (Dat)

/-! statements -/
def Ex (C : Cx) (A : Around) (Pr : Addr → Obj → Prop) (X : Addr → Prop) (env : Env) (ρ : Rho) (ss : List Stmt) (Q : Flow → Shared → Prop) : Prop :=
  ∀ s, St C Pr X env ρ s → wpI C.M A (execs ss env) Q (fun _ _ => False) s
/-- behind it these statements run -/
def Then (C : Cx) (A : Around) (env : Env) (rest : List Stmt) (Q : Flow → Shared → Prop) : Flow → Shared → Prop := fun f s =>
  match f with
  | .next => wpI C.M A (execs rest env) Q (fun _ _ => False) s
  | f => Q f s
section
variable {n : Nat} {C : Cx} {A : Around} {Pr : Addr → Obj → Prop} {X : Addr → Prop} {env : Env} {ρ : Rho} {rest : List Stmt} {Q : Flow → Shared → Prop}
theorem ex_nil (h : ∀ s, St C Pr X env ρ s → Q .next s) : Ex C A Pr X env ρ [] Q := fun s S => wpI_execs_nil (h s S)
theorem ex_next (h : Ex C A Pr X env ρ rest Q) : Ex C A Pr X env ρ [] (Then C A env rest Q) := fun s S => wpI_execs_nil (h s S)
theorem Ex.weaken {ρ' : Rho} {ss : List Stmt} (h : Ex C A Pr X env ρ' ss Q) (k : ∀ x b, ρ'.lookup x = some b → ρ.lookup x = some b) : Ex C A Pr X env ρ ss Q := fun s S => h s (S.weaken k)
theorem ex_assign {x : Str} {px pos : Pos} {e : Expr} {d : D} (hA : Room n A) (h : Ev n C X env ρ e (.v d)) (k : Ex C A Pr X env ((x, .v d) :: ρ) rest Q) (hx : CanStore env x)
    (hs : swapsWith e (some (.Name x px)) pos.line env = pure false := by rfl) : Ex C A Pr X env ρ (.Assign [.Name x px] e pos :: rest) Q := fun s S =>
  wpI_execs_cons (wpI_Assign_Name (h.use hA S.rd fun v s1 k1 r1 p1 => wpI_any ((S.keeps k1).store hx p1 Fresh.v fun s2 S2 => k s2 S2)) hs)
/-- a new list of one's own under a name -/
theorem ex_own {x : Str} {px pos : Pos} {e : Expr} {ds : List D} (hA : Room n A) (h : EvNew n C X env ρ e ds) (k : ∀ a, ¬ X a → Ex C A Pr (Plus X a) env ((x, .ml a ds) :: ρ) rest Q) (hx : CanStore env x)
    (hs : swapsWith e (some (.Name x px)) pos.line env = pure false := by rfl) : Ex C A Pr X env ρ (.Assign [.Name x px] e pos :: rest) Q := fun s S =>
  wpI_execs_cons (wpI_Assign_Name (wpI_mono (h A s hA S.rd) (fun v s1 ⟨k1, a, vs, hv, ha, ⟨m, hl⟩, hr⟩ => by
    subst hv
    have hno : ∀ o, ¬ Pr a o := fun o hp => by have := S.keep a o hp; rw [ha] at this; cases this
    have hnX : ¬ X a := fun hx => by obtain ⟨o, eo⟩ := S.rd.xs a hx; rw [ha] at eo; cases eo
    refine wpI_any ((S.moreX k1 ha hl).store (b := .ml a ds) hx ⟨rfl, .inl rfl, vs, ⟨m, hl⟩, hr⟩ ⟨rfl, fun a' e => ?_⟩ fun s2 S2 => k a hnX s2 S2)
    cases e
    refine ⟨hno, fun y c e hc => ?_⟩
    obtain ⟨w, hw, hrw⟩ := S.rd.vars y c e
    have hXa : X a := by
      cases c with
      | ml a' ds' => cases hc; exact hrw.2.1
      | mb a' b' => cases hc; exact hrw.2.1
      | _ => cases hc
    obtain ⟨o, eo⟩ := S.rd.xs a hXa
    rw [ha] at eo; cases eo) fun _ _ f => f) hs)
theorem ex_return {e : Expr} {pos : Pos} {b : B} (hA : Room n A) (h : Ev n C X env ρ e b) (k : ∀ v s, St C Pr X env ρ s → RepB X s.heap v b → Q (.ret v) s) : Ex C A Pr X env ρ (.Return (some e) pos :: rest) Q := fun s S =>
  wpI_execs_cons (wpI_Return (h.use hA S.rd fun v s1 k1 r1 p1 => k v s1 (S.keeps k1) p1))
theorem ex_if {test : Expr} {body orelse : List Stmt} {pos : Pos} {c : Bool} (hA : Room n A) (h : Tr n C X env ρ test c) (k1 : c = true → Ex C A Pr X env ρ body (Then C A env rest Q)) (k2 : c = false → Ex C A Pr X env ρ orelse (Then C A env rest Q)) :
    Ex C A Pr X env ρ (.If test body orelse pos :: rest) Q := fun s S =>
  wpI_execs_cons (wpI_If (h.use hA S.rd fun s1 q1 r1 => by
    cases c with
    | true => exact wpI_mono (k1 rfl s1 (S.keeps q1)) (fun f s' hf => by cases f <;> exact hf) fun _ _ f => f
    | false => exact wpI_mono (k2 rfl s1 (S.keeps q1)) (fun f s' hf => by cases f <;> exact hf) fun _ _ f => f))
theorem ex_assert {test : Expr} {msg : Option Expr} {pos : Pos} (hA : Room n A) (h : Tr n C X env ρ test true) (k : Ex C A Pr X env ρ rest Q) : Ex C A Pr X env ρ (.Assert test msg pos :: rest) Q := fun s S =>
  wpI_execs_cons (wpI_Assert (h.use hA S.rd fun s1 q1 r1 => ⟨rfl, k s1 (S.keeps q1)⟩))
theorem ex_augsub {x : Str} {px pos : Pos} {e : Expr} {a b : Int} (hA : Room n A) (hx : ρ.lookup x = some (.v (.int a))) (h : Ev n C X env ρ e (.v (.int b))) (k : Ex C A Pr X env ((x, .v (.int (a - b))) :: ρ) rest Q) (hc : CanStore env x)
    (hd : (x == ("__classdict__" : Str)) = false := by decide) : Ex C A Pr X env ρ (.AugAssign (.Name x px) .Sub e pos :: rest) Q := fun s S =>
  wpI_execs_cons (wpI_AugAssign_Name (by
    obtain ⟨v, hv, hr⟩ := S.rd.vars x _ hx
    obtain ⟨t, rfl⟩ := Rep.int_inv hr
    have key : wpI C.M A (eval e env) (fun v s₂ => wpI C.M A (inplaceOp .Sub (.int a t) v) (fun r s₃ => wpI C.M A (storeName env x r) (fun _ s' => wpI C.M A (execs rest env) Q (fun _ _ => False) s') (fun _ _ => False) s₃) (fun _ _ => False) s₂) (fun _ _ => False) s :=
      h.use hA S.rd fun v s1 k1 r1 p1 => by
        obtain ⟨u, rfl⟩ := Rep.int_inv p1
        exact wpI_any (isub_int (wpI_any ((S.keeps (keeps_trans k1 (keeps_toks _ _))).store hc (b := .v (.int (a - b))) (.int _ _) Fresh.v fun s2 S2 => k s2 S2)))
    rcases hv with ⟨hk, m, hn, hm⟩ | ⟨hk | hk, c, hcl, hv⟩
    · exact wpI_any (wpAny_loadName_local S.rd.eok.kind hk hn hm key)
    · exact wpI_any (wpAny_loadName_cell S.rd.eok.kind hk hcl hv key)
    · exact wpI_any (wpAny_loadName_free S.rd.eok.kind hk hcl hv key hd)))
theorem ex_augadd {x : Str} {px pos : Pos} {e : Expr} {a b : Int} (hA : Room n A) (hx : ρ.lookup x = some (.v (.int a))) (h : Ev n C X env ρ e (.v (.int b))) (k : Ex C A Pr X env ((x, .v (.int (a + b))) :: ρ) rest Q) (hc : CanStore env x)
    (hd : (x == ("__classdict__" : Str)) = false := by decide) : Ex C A Pr X env ρ (.AugAssign (.Name x px) .Add e pos :: rest) Q := fun s S =>
  wpI_execs_cons (wpI_AugAssign_Name (by
    obtain ⟨v, hv, hr⟩ := S.rd.vars x _ hx
    obtain ⟨t, rfl⟩ := Rep.int_inv hr
    have key : wpI C.M A (eval e env) (fun v s₂ => wpI C.M A (inplaceOp .Add (.int a t) v) (fun r s₃ => wpI C.M A (storeName env x r) (fun _ s' => wpI C.M A (execs rest env) Q (fun _ _ => False) s') (fun _ _ => False) s₃) (fun _ _ => False) s₂) (fun _ _ => False) s :=
      h.use hA S.rd fun v s1 k1 r1 p1 => by
        obtain ⟨u, rfl⟩ := Rep.int_inv p1
        exact wpI_any (iadd_int (wpI_any ((S.keeps (keeps_trans k1 (keeps_toks _ _))).store hc (b := .v (.int (a + b))) (.int _ _) Fresh.v fun s2 S2 => k s2 S2)))
    rcases hv with ⟨hk, m, hn, hm⟩ | ⟨hk | hk, c, hcl, hv⟩
    · exact wpI_any (wpAny_loadName_local S.rd.eok.kind hk hn hm key)
    · exact wpI_any (wpAny_loadName_cell S.rd.eok.kind hk hcl hv key)
    · exact wpI_any (wpAny_loadName_free S.rd.eok.kind hk hcl hv key hd)))

/-- one's own object turned -/
theorem St.mutate {x : Str} {b₀ b₁ : B} {a : Addr} {s : Shared} {h' : Heap} {oa : Obj} (S : St C Pr X env ρ s) (hx : ρ.lookup x = some b₀) (ha₀ : b₀.at? = some a) (ha₁ : b₁.at? = some a) (hv₁ : b₁.isVar = true) (hs : Heap.SameBut a s.heap h') (hoa : h'.get? a = some oa)
    (hsq : ∃ o, s.heap.get? a = some o ∧ Sq o) (hXa : X a) (h1 : ∀ v, RepB X s.heap v b₀ → RepB X h' v b₁) : St C Pr X env ((x, b₁) :: ρ) { s with heap := h' } := by
  have hno : ∀ o, ¬ Pr a o := fun o => S.own x b₀ a o hx ha₀
  obtain ⟨o₀, ho₀, hsq₀⟩ := hsq
  have look : ∀ y c, ((x, b₁) :: ρ : Rho).lookup y = some c → (y = x ∧ c = b₁) ∨ (y ≠ x ∧ ρ.lookup y = some c) := fun y c e => by
    rw [List.lookup_cons] at e
    by_cases q : y = x
    · rw [q] at e
      simp at e
      exact .inl ⟨q, e.symm⟩
    · have : (y == x) = false := by simpa using q
      rw [this] at e
      exact .inr ⟨q, e⟩
  obtain ⟨m, hm⟩ := S.ns
  obtain ⟨oL, es, ep, hoL, hdL, _⟩ := id hm
  have hLa : env.locals ≠ a := fun q => by
    rw [q, ho₀] at hoL; cases hoL
    rcases hsq₀ with ⟨xs, k, hd⟩ | ⟨bb, hd⟩ <;> (rw [hdL] at hd; cases hd)
  have hCa : ∀ c v, s.heap.IsCell c v → c ≠ a := fun c v hc q => by
    obtain ⟨oc, hoc, hdc⟩ := hc
    rw [q, ho₀] at hoc; cases hoc
    rcases hsq₀ with ⟨xs, k, hd⟩ | ⟨bb, hd⟩ <;> (rw [hdc] at hd; cases hd)
  have varAt : ∀ y w, VarAt env s.heap y w → VarAt env h' y w := fun y w hw => by
    rcases hw with ⟨hky, m', hm', hmy⟩ | ⟨hky, cc, hcc, hcv⟩
    · exact .inl ⟨hky, _, hm'.sameBut hs hLa, hmy⟩
    · exact .inr ⟨hky, cc, hcc, hcv.sameBut hs (hCa _ _ hcv)⟩
  have e0 : ({ s with heap := h' } : Shared) = { s with heap := h', toks := s.toks } := rfl
  refine ⟨⟨S.rd.ok, S.rd.eok, e0 ▸ base_same S hs hno, fun y c e => ?_, xs_same S hs hoa⟩, S.basePr, fun b o e => (hs.2 b fun q => hno o (q ▸ e)).trans (S.keep b o e), ⟨m, hm.sameBut hs hLa⟩, fun y c e => ?_, S.cellsApart, S.freeL, S.freeC, fun y c a' o e hc => ?_, fun y z c d a' e f hc hd => ?_, fun y c e => ?_⟩
  · rcases look y c e with ⟨hy, hc⟩ | ⟨hy, e1⟩
    · subst hy hc
      obtain ⟨w, hw, hr⟩ := S.rd.vars _ _ hx
      exact ⟨w, varAt _ _ hw, h1 w hr⟩
    · obtain ⟨w, hw, hr⟩ := S.rd.vars y c e1
      refine ⟨w, varAt _ _ hw, ?_⟩
      have pr : Pres X s.heap h' := fun b o hb e _ => (hs.2 b fun q => hb (q ▸ hXa)).trans e
      cases c with
      | v d => exact Rep.pres pr hr
      | ml a' ds' =>
        obtain ⟨g1, g2, vs, ⟨k, g3⟩, g4⟩ := hr
        exact ⟨g1, g2, vs, ⟨k, (hs.2 a' fun q => hy (S.apart y x _ _ a e1 hx (by rw [q]; rfl) ha₀)).trans g3⟩, g4.pres pr⟩
      | mb a' b' =>
        obtain ⟨g1, g2, g3⟩ := hr
        exact ⟨g1, g2, (hs.2 a' fun q => hy (S.apart y x _ _ a e1 hx (by rw [q]; rfl) ha₀)).trans g3⟩
      | ty T => exact hr
      | sl lo hi st => exact absurd (S.isVar y _ e1) (by simp [B.isVar])
  · obtain ⟨w, hw⟩ := S.cells y c e
    exact ⟨w, hw.sameBut hs (hCa _ _ hw)⟩
  · rcases look y c e with ⟨hy, hc'⟩ | ⟨hy, e1⟩
    · subst hc'; rw [ha₁] at hc; cases hc; exact hno o
    · exact S.own y c a' o e1 hc
  · rcases look y c e with ⟨hy, hc'⟩ | ⟨hy, e1⟩ <;> rcases look z d f with ⟨hz, hd'⟩ | ⟨hz, f1⟩
    · rw [hy, hz]
    · subst hc'; rw [ha₁] at hc; cases hc
      exact absurd (S.apart z x _ _ _ f1 hx hd ha₀) hz
    · subst hd'; rw [ha₁] at hd; cases hd
      exact absurd (S.apart y x _ _ _ e1 hx hc ha₀) hy
    · exact S.apart y z c d a' e1 f1 hc hd
  · rcases look y c e with ⟨hy, hc'⟩ | ⟨hy, e1⟩
    · subst hc'; exact hv₁
    · exact S.isVar y c e1
end
end Mine
end

section
set_option maxRecDepth 100000
set_option autoImplicit false
set_option linter.unusedVariables false
namespace Mine
open PySem PySem.Calls PyProof.Rows
open PySem.W (Dat)

section
variable {n : Nat} {C : Cx} {A : Around} {Pr : Addr → Obj → Prop} {X : Addr → Prop} {env : Env} {ρ : Rho} {rest : List Stmt} {Q : Flow → Shared → Prop}
theorem Reps.presX {h h' : Heap} {a : Addr} {vs : List Value} {ds : List D} (r : Reps X h vs ds) (hXa : X a) (hs : Heap.SameBut a h h') : Reps X h' vs ds :=
  r.pres fun b o hb e _ => (hs.2 b fun q => hb (q ▸ hXa)).trans e
theorem Rep.presX {h h' : Heap} {a : Addr} {v : Value} {d : D} (r : Rep X h v d) (hXa : X a) (hs : Heap.SameBut a h h') : Rep X h' v d :=
  r.pres fun b o hb e _ => (hs.2 b fun q => hb (q ▸ hXa)).trans e
/-- a list of one's own turned into another -/
theorem St.setList {x : Str} {a : Addr} {ds es : List D} {ws : List Value} {s : Shared} {h' : Heap} (S : St C Pr X env ρ s) (hx : ρ.lookup x = some (.ml a ds)) (hs : Heap.SameBut a s.heap h') (hl : h'.PlainList a ws.toArray) (hr : Reps X s.heap ws es) :
    St C Pr X env ((x, .ml a es) :: ρ) { s with heap := h' } := by
  obtain ⟨v, _, rfl, hXa, vs, ⟨k, hk⟩, _⟩ := S.rd.vars x _ hx
  obtain ⟨k', hk'⟩ := id hl
  exact S.mutate (b₀ := .ml a ds) (b₁ := .ml a es) hx rfl rfl rfl hs hk' ⟨_, hk, .inl ⟨_, _, rfl⟩⟩ hXa fun w hw => ⟨hw.1, hXa, ws, hl, hr.presX hXa hs⟩
theorem St.lst {x : Str} {a : Addr} {ds : List D} {s : Shared} (S : St C Pr X env ρ s) (hx : ρ.lookup x = some (.ml a ds)) : X a ∧ ∃ vs : List Value, s.heap.PlainList a vs.toArray ∧ Reps X s.heap vs ds := by
  obtain ⟨v, _, rfl, h2, h3⟩ := S.rd.vars x _ hx
  exact ⟨h2, h3⟩

theorem ex_append {x : Str} {px apos cpos pos : Pos} {e : Expr} {a : Addr} {ds : List D} {d : D} {name : Str} {pl : Sem Bool} (hA : Room n A) (hn : name = Str.ofString "append") (hx : ρ.lookup x = some (.ml a ds)) (h : Ev n C X env ρ e (.v d)) (hz : ds.length ≤ sizeLine)
    (k : Ex C A Pr X env ((x, .ml a (ds ++ [d])) :: ρ) rest Q)
    (he : starEach [e] env = [(false, eval e env)] := by rfl)
    (hc : eval (.Call (.Attribute (.Name x px) name apos) [e] [] cpos) env = (do
      let ov ← eval (.Name x px) env
      standAt apos.atName
      let (f, first) ← holding [ov] (getMethod ov name pl)
      callWith cpos f first (backTo cpos (starEach [e] env)) []) := by rfl)
    (hi : interactive env = false := by rfl) (hs : swapsWith (.Call (.Attribute (.Name x px) name apos) [e] [] cpos) none pos.line env = pure false := by rfl)
    (hd : (x == ("__debug__" : Str)) = false := by decide) (hcd : (x == ("__classdict__" : Str)) = false := by decide) :
    Ex C A Pr X env ρ (.Expr (.Call (.Attribute (.Name x px) name apos) [e] [] cpos) pos :: rest) Q := fun s S => by
  subst hn
  refine wpI_execs_cons (wpI_Expr (wpI_MethodCall ((ev_name (n := n) (C := C) (X := X) (pos := px) hx hd hcd).use hA S.rd fun v s1 k1 r1 p1 => ?_) hc) hi hs)
  refine wpI_any (meth_ml (name := "append") (id := "list.append") PySem.F.slot_list_append PySem.F.type_list_append C X env ρ A s1 v pl _ r1 p1 ?_)
  obtain ⟨rfl, hXa, vs, hl, hr⟩ := p1
  refine wpI_callWith_builtin (first := [.ref a]) ((evs_cons h evs_nil he).use hA r1 fun ws s2 k2 r2 p2 => ?_) he rfl
  obtain ⟨w, rfl, q2⟩ := p2.inv1
  have S2 := S.keeps (keeps_trans k1 k2)
  obtain ⟨_, vs2, hl2, hr2⟩ := S2.lst hx
  refine wpI_any (wpAny_list_append_plain (hsz := by simp [hr2.length]; exact hz) hl2 fun h' hl' hs' => ?_)
  refine k _ (S2.setList (ws := vs2 ++ [w]) hx hs' (by simpa using hl') (hr2.append (.one q2)))

theorem wp_extend {prog : Program} {w : World} {A : Around} {E : Value → Shared → Prop} {s : Shared} {D b : Addr} {ys its2 : List Value} {Q : Value → Shared → Prop} (ho : s.heap.PlainList D ys.toArray) (hb : s.heap.PlainList b its2.toArray) (hne : D ≠ b)
    (hsz : ys.length + its2.length ≤ sizeLine) (h : ∀ h', h'.PlainList D (ys ++ its2).toArray → Heap.SameBut D s.heap h' → Q .none { s with heap := h' }) : wpAny (model prog w) A (call (.builtin "list.extend") [.ref D, .ref b]) Q E s := by
  obtain ⟨n, hD⟩ := ho
  obtain ⟨n2, hB⟩ := hb
  have hsz' : ys.toArray.size + its2.toArray.size ≤ sizeLine := by rw [List.size_toArray, List.size_toArray]; exact hsz
  refine call_meets PySem.F.slot_list_extend ⟨_, hD, rfl⟩ PySem.F.entry_list_extend (PySem.F.args_list_extend_2 _ _) (AutoSeq1.list_extend_list_list_0 D ys.toArray n b its2.toArray n2 (extend_door hsz') (Nat.le_trans (Nat.le_add_right _ _) hsz') (by have := hsz'; omega)) ⟨hD, hB, ?_⟩
  refine h _ ⟨if (ys.toArray ++ its2.toArray).size == ys.toArray.size then n else n + 1, ?_⟩ (Heap.SameBut.update ..)
  rw [Heap.get?_update_self _ hD (by rw [mapSeq_app]; rfl), mapSeq_app]
  simp
theorem ex_extend {x : Str} {px apos cpos pos : Pos} {e : Expr} {a : Addr} {ds es : List D} {name : Str} {pl : Sem Bool} (hA : Room n A) (hn : name = Str.ofString "extend") (hx : ρ.lookup x = some (.ml a ds)) (h : Ev n C X env ρ e (.v (.list es))) (hz : ds.length + es.length ≤ sizeLine)
    (k : Ex C A Pr X env ((x, .ml a (ds ++ es)) :: ρ) rest Q)
    (he : starEach [e] env = [(false, eval e env)] := by rfl)
    (hc : eval (.Call (.Attribute (.Name x px) name apos) [e] [] cpos) env = (do
      let ov ← eval (.Name x px) env
      standAt apos.atName
      let (f, first) ← holding [ov] (getMethod ov name pl)
      callWith cpos f first (backTo cpos (starEach [e] env)) []) := by rfl)
    (hi : interactive env = false := by rfl) (hs : swapsWith (.Call (.Attribute (.Name x px) name apos) [e] [] cpos) none pos.line env = pure false := by rfl)
    (hd : (x == ("__debug__" : Str)) = false := by decide) (hcd : (x == ("__classdict__" : Str)) = false := by decide) :
    Ex C A Pr X env ρ (.Expr (.Call (.Attribute (.Name x px) name apos) [e] [] cpos) pos :: rest) Q := fun s S => by
  subst hn
  refine wpI_execs_cons (wpI_Expr (wpI_MethodCall ((ev_name (n := n) (C := C) (X := X) (pos := px) hx hd hcd).use hA S.rd fun v s1 k1 r1 p1 => ?_) hc) hi hs)
  refine wpI_any (meth_ml (name := "extend") (id := "list.extend") PySem.F.slot_list_extend PySem.F.type_list_extend C X env ρ A s1 v pl _ r1 p1 ?_)
  obtain ⟨rfl, hXa, vs, hl, hr⟩ := p1
  refine wpI_callWith_builtin (first := [.ref a]) ((evs_cons h evs_nil he).use hA r1 fun ws s2 k2 r2 p2 => ?_) he rfl
  obtain ⟨w, rfl, q2⟩ := p2.inv1
  have S2 := S.keeps (keeps_trans k1 k2)
  obtain ⟨_, vs2, hl2, hr2⟩ := S2.lst hx
  obtain ⟨b, ws, rfl, hXb, hlb, hrb⟩ := Rep.list_inv q2
  refine wpI_any (wp_extend hl2 hlb (fun e => hXb (e ▸ hXa)) (by rw [hr2.length, hrb.length]; exact hz) fun h' hl' hs' => ?_)
  exact k _ (S2.setList hx hs' hl' (hr2.append hrb))
theorem ex_del {x : Str} {px spos pos : Pos} {e : Expr} {a : Addr} {ds : List D} {i : Int} {j : Nat} (hA : Room n A) (hx : ρ.lookup x = some (.ml a ds)) (h : Ev n C X env ρ e (.v (.int i))) (hfit : -(2 ^ 62) ≤ i ∧ i < 2 ^ 62) (hj : seqIndex? i ds.length = some j) (hz : ds.length ≤ sizeLine)
    (k : Ex C A Pr X env ((x, .ml a (ds.eraseIdx j)) :: ρ) rest Q) (hd : (x == ("__debug__" : Str)) = false := by decide) (hcd : (x == ("__classdict__" : Str)) = false := by decide) :
    Ex C A Pr X env ρ (.Delete [.Subscript (.Name x px) e spos] pos :: rest) Q := fun s S => by
  refine wpI_execs_cons (wpI_Delete1 ((ev_name (n := n) (C := C) (X := X) (pos := px) hx hd hcd).use hA S.rd fun v s1 k1 r1 p1 => h.use hA r1 fun iv s2 k2 r2 p2 => ?_))
  obtain ⟨rfl, hXa, vs, hl, hr⟩ := p1
  obtain ⟨t, rfl⟩ := Rep.int_inv p2
  have S2 := S.keeps (keeps_trans k1 k2)
  obtain ⟨_, vs2, hl2, hr2⟩ := S2.lst hx
  refine wpI_any (wpAny_delItem_plain (k := j) (hsz := by simp [hr2.length]; exact hz) hl2 (by simp only [Builtin.List.listFitsIndex, Bool.and_eq_true, decide_eq_true_eq]; omega) (by simpa [hr2.length] using hj) fun h' hl' hs' => ?_)
  have hl'' : h'.PlainList a (vs2.eraseIdx j).toArray := by simpa using hl'
  refine k _ (S2.setList hx hs' hl'' ?_)
  rw [List.eraseIdx_eq_take_drop_succ, List.eraseIdx_eq_take_drop_succ]
  exact (hr2.take j).append (hr2.drop (j + 1))
end
end Mine
end

section
set_option maxRecDepth 100000
set_option autoImplicit false
set_option linter.unusedVariables false
namespace Mine
open PySem PySem.Calls PyProof.Rows
open PySem.W (Dat)


section
variable {prog : Program} {w : World} {A : Around} {E : Value → Shared → Prop} {s : Shared} {R : Result → Shared → Prop}
theorem codeI_builtin {id : String} {args : Args} {b : Builtin} (hb : entryFor table id = some b)
    (h : wpI (model prog w) (A.under (.builtin id args)) (b args) (fun fin s' => match fin with | .done f => R (.ok f) s' | .again c' => c'.quiet = true ∧ notDec c' = true ∧ codeI (model prog w) A c' R s') (fun e s' => R (.error e) s') s) :
    codeI (model prog w) A (.builtin id args) R s := by
  refine codeI_of_tree ?_
  show wpI _ _ (match entryFor table id with | some b => b args | none => unsupported ((withoutEnding? id "#data").getD id)) _ _ s
  rw [hb]; exact h
theorem dec_lit {id : String} (args : Args) (h : heldIds.contains id = true) : notDec (.builtin id args) = false := by show (!heldIds.contains id) = false; rw [h]; rfl
theorem wpI_exported {M : Model} {self : Value} {Q : Bool → Shared → Prop} (h : Q false s) : wpI M A (Builtin.Bytes.exported self) Q E s := fun Γ p hΓ hN => by
  unfold Builtin.Bytes.exported
  rw [Sem.wp_bind']
  show Q (List.any ((Γ.code, p) :: Γ.below) _) s
  rw [List.any_eq_false.mpr]
  · exact h
  · intro x hx
    obtain ⟨c, q⟩ := x
    have hc : notDec c = true := by
      rcases List.mem_cons.mp hx with e | e
      · cases e; exact hN.1
      · exact hN.2 _ e
    intro hh
    split at hh
    · rename_i e; cases e; rw [dec_lit _ (by decide +kernel)] at hc; cases hc
    · rename_i e; cases e; rw [dec_lit _ (by decide +kernel)] at hc; cases hc
    · rename_i e; cases e; rw [dec_lit _ (by decide +kernel)] at hc; cases hc
    · rename_i e; cases e; rw [dec_lit _ (by decide +kernel)] at hc; cases hc
    · rename_i e; cases e; rw [dec_lit _ (by decide +kernel)] at hc; cases hc
    · rename_i e
      cases e
      have h2 := (Bool.and_eq_true_iff.mp hh).2
      rw [dec_lit _ (by simp only [heldIds, List.contains_append, h2, Bool.or_true])] at hc
      cases hc
    · cases hh

theorem code_ba_new (a : Value) {Q₁ : Value → Shared → Prop} (h : Q₁ (.ref s.heap.objs.size) { s with heap := s.heap.push { cls := .type "bytearray", data := .bytearray #[] } }) :
    codeAny (model prog w) A (.call (.builtin "bytearray.__new__") ⟨[.type "bytearray", a], []⟩) (wants Q₁ E) s := by
  refine codeAny_of_tree ?_
  show wpAny _ A.in1 (do checkBuiltinCall "bytearray.__new__" ⟨[.type "bytearray", a], []⟩; again (.builtin "bytearray.__new__" ⟨[.type "bytearray", a], []⟩)) _ _ s
  refine wpAny_bind (wpAny_of_eq (FA.newCall a) (wpAny_pure ⟨plainId_quiet FA.plain_new _, codeAny_builtin_stack FA.entry_new rfl fun p st => ?_⟩))
  rw [Around.under_plainId FA.plain_new _]
  have hsub := PySem.F.sub_bytearray_bytearray
  have hown := FA.owner_new
  obtain ⟨hp, g, d, tk, os⟩ := s
  simp only [hown]
  wp_walk
  exact h
end
end Mine
end

section
set_option maxRecDepth 100000
set_option autoImplicit false
set_option linter.unusedVariables false
set_option linter.deprecated false
namespace Mine
open PySem PySem.Calls PyProof.Rows
open PySem.W (Dat)
section
variable {prog : Program} {w : World} {A : Around} {E : Value → Shared → Prop} {s : Shared} {R : Result → Shared → Prop}
theorem wpI_ite_false {α : Type} {M : Model} {c : Bool} {a b : Sem α} {Q : α → Shared → Prop} (hc : c = false) (h : wpI M A b Q E s) : wpI M A (if c = true then a else b) Q E s := by subst hc; exact h
theorem wpI_ite_true {α : Type} {M : Model} {c : Bool} {a b : Sem α} {Q : α → Shared → Prop} (hc : c = true) (h : wpI M A a Q E s) : wpI M A (if c = true then a else b) Q E s := by subst hc; exact h
theorem wpI_ite_neg {α : Type} {M : Model} {c : Prop} [Decidable c] {a b : Sem α} {Q : α → Shared → Prop} (hc : ¬ c) (h : wpI M A b Q E s) : wpI M A (if c then a else b) Q E s := by rw [if_neg hc]; exact h
theorem wpI_ite_pos {α : Type} {M : Model} {c : Prop} [Decidable c] {a b : Sem α} {Q : α → Shared → Prop} (hc : c) (h : wpI M A a Q E s) : wpI M A (if c then a else b) Q E s := by rw [if_pos hc]; exact h
abbrev baObj (b : Array UInt8) : Obj := { cls := .type "bytearray", data := .bytearray b }
theorem ba_typeIs {a : Addr} {b : Array UInt8} (h : s.heap.get? a = some (baObj b)) : s.TypeIs (.ref a) "bytearray" := ⟨_, h, rfl⟩
theorem wp_slotOwn_release {M : Model} {a : Addr} {b : Array UInt8} {Q : Bool → Shared → Prop} (h : s.heap.get? a = some (baObj b)) (hq : Q false s) : wpAny M A (Builtin.Bytes.ownRelease (.ref a)) Q E s := by
  unfold Builtin.Bytes.ownRelease Builtin.Bytes.slotIsOwn
  refine wpAny_bind (wpAny_bind (wpAny_specialOf (ba_typeIs h) FA.look_release ?_))
  show wpAny M A (if (!"bytearray.__release_buffer__".endsWith ("." ++ "__release_buffer__")) = true then _ else _) _ _ _
  rw [FA.ends_release]
  refine wpAny_isInstance (ba_typeIs h) (U := "bytearray.__release_buffer__".dropRight ("__release_buffer__".length + 1)) (b := true) (by rw [FA.own_release]; exact PySem.F.sub_bytearray_bytearray) ?_
  exact wpAny_pure hq
theorem wp_write {M : Model} {a : Addr} {b : Array UInt8} {f : Array UInt8 → Array UInt8} {Q : Unit → Shared → Prop} (h : s.heap.get? a = some (baObj b)) (hz : (f b).size ≤ sizeLine)
    (hq : ∀ h', h'.get? a = some (baObj (f b)) → Heap.SameBut a s.heap h' → Q () { s with heap := h' }) : wpAny M A (Builtin.Bytes.write (.ref a) f) Q E s := by
  show wpAny M A (updateBytearray a f) Q E s
  unfold updateBytearray
  refine wpAny_bind (wpAny_load h ?_)
  show wpAny M A (update a (Obj.mapBytearray f) >>= fun _ => lookBehind a) _ _ _
  refine wpAny_bind (wpAny_update h ?_)
  have h2 : (s.heap.update a (Obj.mapBytearray f)).get? a = some (baObj (f b)) := Heap.get?_update_self (Obj.mapBytearray f) h rfl
  refine wpAny_lookBehind h2 ?_ (hq _ h2 (Heap.SameBut.update ..))
  show (if (f b).size > sizeLine then some "bytearray:memory" else none) = none
  rw [if_neg (by omega)]
theorem wp_payload {M : Model} {a : Addr} {b : Array UInt8} {Q : Array UInt8 → Shared → Prop} (h : s.heap.get? a = some (baObj b)) (hq : Q b s) : wpAny M A (Builtin.Bytes.payload (.ref a)) Q E s := by
  unfold Builtin.Bytes.payload Builtin.Bytes.payload?
  refine wpAny_bind (wpAny_bind (wpAny_load h ?_))
  exact wpAny_pure (wpAny_pure hq)
theorem wp_exportsOf {M : Model} {a : Addr} {b : Array UInt8} {Q : Nat → Shared → Prop} (h : s.heap.get? a = some (baObj b)) (hq : Q 0 s) : wpAny M A (Builtin.Bytes.exportsOf (.ref a)) Q E s := by
  unfold Builtin.Bytes.exportsOf
  exact wpAny_bind (wpAny_load h (wpAny_pure hq))

theorem asStr_int (i : Int) (t : Tok) : asStr? (.int i t) = pure none := by unfold asStr?; rfl
theorem asIndex_int (i : Int) (t : Tok) : asIndex (.int i t) = pure i := by unfold asIndex; rfl
theorem wpI_ba_init {a : Addr} {k : Nat} {t : Tok} {Q : Fin → Shared → Prop} (h : s.heap.get? a = some (baObj #[])) (hz : k ≤ sizeLine)
    (hq : ∀ h', h'.get? a = some (baObj (Array.replicate k 0)) → Heap.SameBut a s.heap h' → Q (.done (.ret .none)) { s with heap := h' }) :
    wpI (model prog w) A (Builtin.«bytearray.__init__» ⟨[.ref a, .int k t], []⟩) Q E s := by
  unfold Builtin.«bytearray.__init__»
  refine wpI_bind (wpI_any (wp_slotOwn_release h ?_))
  refine wpI_ite_false rfl ?_
  refine wpI_bind (wpI_eq (FA.bind1 _) (wpI_pure ?_))
  refine wpI_bind (wpI_pure ?_)
  refine wpI_bind (wpI_pure ?_)
  refine wpI_bind ?_
  show wpI _ _ (Builtin.Bytes.exported (.ref a) >>= fun b => match toBool b with | true => pure b | false => (do return (← Builtin.Bytes.exportsOf (.ref a)) > 0)) _ _ _
  refine wpI_bind (wpI_exported ?_)
  refine wpI_bind (wpI_any (wp_exportsOf h (wpI_pure ?_)))
  refine wpI_ite_false (by decide) ?_
  refine wpI_bind (wpI_any (wp_write (f := fun _ => #[]) h (by simp) fun h1 g1 sb1 => ?_))
  dsimp only
  with_reducible refine wpI_bind ?_
  rw [asStr_int]
  with_reducible refine wpI_pure ?_
  with_reducible refine wpI_ite_false ?_ ?_
  · rfl
  with_reducible refine wpI_bind ?_
  with_reducible refine wpI_ite_false ?_ ?_
  · rfl
  with_reducible refine wpI_ite_false ?_ ?_
  · rfl
  with_reducible refine wpI_pure ?_
  with_reducible refine wpI_bind ?_
  have hSp : wpI (model prog w) A (specialOf (.int k t) (Str.ofString "__index__")) (fun r s' => r = some (.builtin "int.__index__") ∧ s' = { s with heap := h1 }) E { s with heap := h1 } :=
    wpI_any (wpAny_specialOf (T := "int") (typeIs_int _ _ _) PySem.F.slot_int_index.lookup ⟨rfl, rfl⟩)
  with_reducible refine wpI_mono hSp ?_ (fun _ _ x => x)
  rintro r s' ⟨rfl, rfl⟩
  with_reducible refine wpI_ite_true ?_ ?_
  · rfl
  with_reducible refine wpI_bind ?_
  have hIx : wpI (model prog w) A (Sem.attempt (asIndex (.int k t))) (fun r s' => r = Except.ok (k : Int) ∧ s' = { s with heap := h1 }) E { s with heap := h1 } :=
    wpI_attempt (wpI_eq (asIndex_int _ _) (wpI_pure ⟨rfl, rfl⟩))
  with_reducible refine wpI_mono hIx ?_ (fun _ _ x => x)
  rintro r s' ⟨rfl, rfl⟩
  dsimp only
  with_reducible refine wpI_ite_false ?_ ?_
  · have := sizeLine_eq; simp only [Builtin.Bytes.fitsIndex, Bool.not_eq_false', Bool.and_eq_true, decide_eq_true_eq]; omega
  with_reducible refine wpI_ite_neg ?_ ?_
  · omega
  with_reducible refine wpI_ite_false ?_ ?_
  · have := sizeLine_eq; simp only [beq_eq_false_iff_ne, ne_eq]; omega
  with_reducible refine wpI_ite_false ?_ ?_
  · simp only [Builtin.Bytes.tooLong, decide_eq_false_iff_not]; omega
  with_reducible refine wpI_ruleB ?_
  by_cases hk : (k : Int) > 0
  · with_reducible refine wpI_ite_pos hk ?_
    refine wpI_bind (wpI_any (wp_write (f := fun _ => Array.replicate (k : Int).toNat 0) g1 (by simp; exact hz) fun h2 g2 sb2 => wpI_pure ?_))
    exact hq h2 (by simpa using g2) (sb1.trans sb2)
  · with_reducible refine wpI_ite_neg hk ?_
    refine wpI_pure ?_
    have hk0 : k = 0 := by omega
    subst hk0
    exact hq h1 (by simpa using g1) sb1
end
end Mine
end

section
set_option maxRecDepth 100000
set_option autoImplicit false
set_option linter.unusedVariables false
set_option linter.deprecated false
namespace Mine
open PySem PySem.Calls PyProof.Rows
open PySem.W (Dat)
section
variable {prog : Program} {w : World} {A : Around} {E : Value → Shared → Prop} {s : Shared} {R : Result → Shared → Prop}
theorem dec_no {id : String} (args : Args) (h : heldIds.contains id = false) : notDec (.builtin id args) = true := by show (!heldIds.contains id) = true; rw [h]; rfl
theorem codeI_call_builtin {id : String} {args : Args} {b : Builtin} (hq : plainId id = true) (hd : notDec (.builtin id args) = true) (hb : entryFor table id = some b)
    (h : wpI (model prog w) A.in1 (checkBuiltinCall id args) (fun _ s' => wpI (model prog w) A.in1 (b args) (fun fin s' => match fin with | .done f => R (.ok f) s' | .again c' => c'.quiet = true ∧ notDec c' = true ∧ codeI (model prog w) A c' R s') (fun e s' => R (.error e) s') s') (fun e s' => R (.error e) s') s) :
    codeI (model prog w) A (.call (.builtin id) args) R s := by
  refine codeI_of_tree ?_
  show wpI _ A.in1 (do checkBuiltinCall id args; again (.builtin id args)) _ _ s
  refine wpI_seq h fun _ s' h' => wpI_pure ⟨plainId_quiet hq _, hd, codeI_builtin hb ?_⟩
  rw [Around.under_plainId hq _]
  exact h'
theorem wpI_step {α β : Type} {M : Model} {m : Sem α} {f : α → Sem β} {Q : β → Shared → Prop} {a : α} (e : m = pure a) (h : wpI M A (f a) Q E s) : wpI M A (m >>= f) Q E s := by rw [e]; exact h
theorem wpI_call_ba {k : Nat} {t : Tok} {Q : Value → Shared → Prop} (hz : k ≤ sizeLine)
    (hq : ∀ h' a, a = s.heap.objs.size → h'.get? a = some (baObj (Array.replicate k 0)) → Heap.SameBut a (s.heap.push (baObj #[])) h' → Q (.ref a) { s with heap := h' }) :
    wpI (model prog w) A (call (.type "bytearray") [.int k t]) Q E s := by
  obtain ⟨c, tl, hmro⟩ := FA.called.mro
  refine wpI_call (codeI_of_tree ?_)
  show wpI _ _ (callAny (.type "bytearray") _) _ _ _
  refine wpI_pure ⟨Code.quiet_builtin _ (by decide +kernel), dec_no _ (by decide +kernel), codeI_builtin F.entry_type_call ?_⟩
  rw [Around.under_plain (weight_type_call_type _ _ _) (units_type_call_type _ _ _)]
  unfold Builtin.«type.__call__»
  with_reducible refine wpI_ite_false ?_ ?_
  · exact FA.called.notType
  with_reducible refine wpI_ite_false ?_ ?_
  · exact FA.called.canCreate
  with_reducible refine wpI_bind ?_
  rw [FA.typeCall]
  with_reducible refine wpI_pure ?_
  with_reducible refine wpI_bind ?_
  rw [hmro]
  with_reducible refine wpI_pure ?_
  with_reducible refine wpI_ite_false ?_ ?_
  · rfl
  with_reducible refine wpI_bind ?_
  rw [FA.called.made]
  with_reducible refine wpI_pure ?_
  dsimp only
  with_reducible refine wpI_bind ?_
  with_reducible refine wpI_pure ?_
  with_reducible refine wpI_bind ?_
  refine wpI_mono (Q := fun r s' => r = .ref s.heap.objs.size ∧ s' = { s with heap := s.heap.push (baObj #[]) }) (E := fun _ _ => False) (wpI_holding (wpI_call (codeI_mono (codeI_any (code_ba_new (Q₁ := fun r s' => r = .ref s.heap.objs.size ∧ s' = { s with heap := s.heap.push (baObj #[]) }) (E := fun _ _ => False) _ ⟨rfl, rfl⟩)) fun r s' hr => ?_))) ?_ (fun _ _ x => x.elim)
  · cases r with
    | error e => exact hr
    | ok f => cases f <;> first | exact hr | exact hr.elim
  rintro _ _ ⟨rfl, rfl⟩
  have hS : (s.heap.push (baObj #[])).get? s.heap.objs.size = some (baObj #[]) := Heap.get?_push_size _ rfl
  have hT : ({ s with heap := s.heap.push (baObj #[]) } : Shared).TypeIs (.ref s.heap.objs.size) "bytearray" := ⟨_, hS, rfl⟩
  with_reducible refine wpI_bind ?_
  refine wpI_mono (Q := fun r s' => r = true ∧ s' = { s with heap := s.heap.push (baObj #[]) }) (E := fun _ _ => False) (wpI_any (wpAny_isInstance hT PySem.F.sub_bytearray_bytearray ⟨rfl, rfl⟩)) ?_ (fun _ _ x => x.elim)
  rintro _ _ ⟨rfl, rfl⟩
  with_reducible refine wpI_ite_false ?_ ?_
  · rfl
  with_reducible refine wpI_bind ?_
  have main : wpI (model prog w) A.in1 (callSpecial? (.ref s.heap.objs.size) "__init__" [.int k t] []) (fun r s' => r = some .none ∧ Q (.ref s.heap.objs.size) s') (fun _ _ => False) { s with heap := s.heap.push (baObj #[]) } := by
    unfold callSpecial?
    refine wpI_bind (wpI_any (wpAny_specialOf hT FA.called.init.lookup ?_))
    refine wpI_holding (wpI_step (FA.called.init.bind _) (wpI_bind (wpI_call (codeI_call_builtin FA.plain_init (dec_no _ (by decide +kernel)) FA.entry_init (wpI_any (FA.called.init.check _ _ _ _ _ _ _ _ hT (FA.init_args _ _) ?_))))))
    refine wpI_mono (wpI_ba_init (E := fun _ _ => False) hS hz (Q := fun fin s' => fin = .done (.ret .none) ∧ Q (.ref s.heap.objs.size) s') fun h' g sb => ⟨rfl, hq h' _ rfl g sb⟩) ?_ (fun _ _ x => x.elim)
    rintro _ s' ⟨rfl, h'⟩
    exact wpI_pure ⟨rfl, h'⟩
  refine wpI_mono (wpI_holding main) ?_ (fun _ _ x => x.elim)
  rintro _ s' ⟨rfl, h'⟩
  dsimp only
  with_reducible refine wpI_ite_false ?_ ?_
  · rfl
  exact wpI_pure h'
end
end Mine
end

section
set_option maxRecDepth 100000
set_option autoImplicit false
set_option linter.unusedVariables false
set_option linter.deprecated false
namespace Mine
open PySem PySem.Calls PyProof.Rows
open PySem.W (Dat)
namespace FA
theorem slot_set : Slot "bytearray" "__setitem__" "bytearray.__setitem__" :=
  .of (owner := "bytearray") (n := "__setitem__") (by rw [typeLookup_type, builtinLookup_eq_fast]; kernel_rfl) (by decide +kernel) (by decide +kernel) (by decide +kernel)
    (by first | exact .inl (by decide +kernel) | exact .inr (by decide +kernel)) (by rw [isSubtype_type]; kernel_rfl)
theorem entry_set : entryFor table "bytearray.__setitem__" = some Builtin.«bytearray.__setitem__» := by first | exact entryFor_of_fast (by kernel_rfl) | exact entryFor_of_tree (by kernel_rfl)
theorem args_set (o a b : Value) : argsOk "bytearray.__setitem__" ⟨[o, a, b], []⟩ := by unfold argsOk; kernel_rfl
theorem no_bytes : typeLookup (.type "bytearray") "__bytes__" = pure none := by rw [typeLookup_type, builtinLookup_eq_fast]; kernel_rfl
theorem noIndex : typeLookup (.type "bytearray") "__index__" = pure none := by rw [typeLookup_type, builtinLookup_eq_fast]; kernel_rfl
end FA
section
variable {prog : Program} {w : World} {A : Around} {E : Value → Shared → Prop} {s : Shared} {R : Result → Shared → Prop}
theorem wp_setBa {a : Addr} {b : Array UInt8} {k : Nat} {t t' : Tok} {x : Nat} {Q : Unit → Shared → Prop} (h : s.heap.get? a = some (baObj b)) (hk : k < b.size) (hx : x < 256) (hz : b.size ≤ sizeLine)
    (hq : ∀ h', h'.get? a = some (baObj (b.setIfInBounds k x.toUInt8)) → Heap.SameBut a s.heap h' → Q () { s with heap := h' }) :
    wpAny (model prog w) A (setItem (.ref a) (.int k t) (.int x t')) Q E s := by
  have hT := ba_typeIs h
  have hsz := sizeLine_eq
  unfold setItem
  try with_reducible refine wpAny_holding ?_
  first | refine wpAny_bind (wpAny_pure ?_) | skip
  refine wpAny_bind (wpAny_sequenceKey hT (by decide) ?_)
  refine wpAny_bind (wpAny_callSpecial?_slot (name := Str.ofString "__setitem__") hT FA.slot_set
    (wpAny_call_entry FA.slot_set hT FA.entry_set ?_ (FA.args_set _ _ _)))
  unfold Builtin.«bytearray.__setitem__»
  with_reducible refine bm_if_false ?_ ?_
  · rfl
  with_reducible refine wpAny_bind ?_
  have hsub : wpAny (model prog w) A.in1 (Builtin.Bytes.subscript? (.int k t)) (fun r s' => r = some (k : Int) ∧ s' = s) (fun _ _ => False) s := by
    unfold Builtin.Bytes.subscript?
    with_reducible refine wpAny_bind ?_
    have hSp : wpAny (model prog w) A.in1 (specialOf (.int k t) (Str.ofString "__index__")) (fun r s' => r = some (.builtin "int.__index__") ∧ s' = s) (fun _ _ => False) s :=
      wpAny_specialOf (T := "int") (typeIs_int _ _ _) PySem.F.slot_int_index.lookup ⟨rfl, rfl⟩
    with_reducible refine wpAny_mono hSp ?_ (fun _ _ x => x)
    rintro _ s1 ⟨rfl, hs'⟩
    rw [hs']; clear hs'
    with_reducible refine bm_if_false ?_ ?_
    · rfl
    with_reducible refine wpAny_bind ?_
    rw [asIndex_int]
    with_reducible refine wpAny_pure ?_
    rw [if_neg (by simp only [Builtin.Bytes.fitsIndex, Bool.not_eq_true', Bool.and_eq_false_iff, decide_eq_false_iff_not]; omega)]
    exact wpAny_pure ⟨rfl, rfl⟩
  with_reducible refine wpAny_mono hsub ?_ (fun _ _ x => x.elim)
  rintro _ s1 ⟨rfl, hs'⟩
  rw [hs']; clear hs'
  dsimp only
  have hbv : wpAny (model prog w) A.in1 (Builtin.Bytes.byteValue (.int x t')) (fun r s' => r = x.toUInt8 ∧ s' = s) (fun _ _ => False) s := by
    unfold Builtin.Bytes.byteValue
    with_reducible refine wpAny_bind ?_
    rw [asIndex_int]
    with_reducible refine wpAny_pure ?_
    rw [if_neg (by simp only [Bool.or_eq_true, decide_eq_true_eq]; omega)]
    exact wpAny_pure ⟨by simp, rfl⟩
  with_reducible refine wpAny_bind ?_
  with_reducible refine wpAny_mono hbv ?_ (fun _ _ x => x.elim)
  rintro _ s1 ⟨rfl, hs'⟩
  rw [hs']; clear hs'
  with_reducible refine wpAny_bind ?_
  refine wp_payload h ?_
  have hi : seqIndex? (k : Int) b.size = some k := by
    unfold seqIndex?
    simp; omega
  rw [hi]
  dsimp only
  with_reducible refine wpAny_bind ?_
  refine wp_write (f := fun b => b.setIfInBounds k x.toUInt8) h (by simp; exact hz) fun h' g sb => ?_
  first
    | exact wpAny_pure ⟨_, rfl, wpAny_pure (hq h' g sb)⟩
    | exact wpAny_bind (wpAny_pure (wpAny_pure ⟨_, rfl, wpAny_pure (hq h' g sb)⟩))
    | exact wpAny_bind (wpAny_pure ⟨_, rfl, wpAny_pure (hq h' g sb)⟩)
theorem wp_bytesBa {a : Addr} {b : Array UInt8} {Q : Value → Shared → Prop} (h : s.heap.get? a = some (baObj b)) (hz : b.size ≤ sizeLine) 
    (hQ : ∀ t k, Q (.bytes b t) { s with toks := k }) : wpAny (model prog w) A (call (.type "bytes") [.ref a]) Q E s := by
  have hT := ba_typeIs h
  refine callType_codes (Q₁ := fun obj s₁ => s₁.TypeIs obj "bytes" ∧ Q obj s₁) F.bm_called (F.bm_typeCall _) F.entry_object_init ?_ fun obj s₁ h₁ => ⟨h₁.1, F.args_object_init_2 obj _, object_init_meets F.bm_called.init.lookup F.bm_called.made (by decide) prog w A.in1 _ s₁ ⟨h₁.1, rfl, h₁.2⟩⟩
  refine codeAny_of_tree ?_
  show wpAny _ A.in1.in1 (do checkBuiltinCall "bytes.__new__" ⟨[.type "bytes", .ref a], []⟩; again (.builtin "bytes.__new__" ⟨[.type "bytes", .ref a], []⟩)) _ _ s
  refine wpAny_bind (wpAny_of_eq (F.bm_newCall _) (wpAny_pure ⟨plainId_quiet F.bm_plain _, codeAny_builtin F.bm_entry ?_⟩))
  rw [Around.under_plainId F.bm_plain _]
  unfold Builtin.«bytes.__new__»
  refine wpAny_bind (wpAny_of_eq (a := true) rfl ?_)
  refine bm_if_false rfl ?_
  refine wpAny_bind (wpAny_of_eq F.bm_sub ?_)
  refine bm_if_false rfl ?_
  refine wpAny_bind (wpAny_of_eq (F.bm_bind _) ?_)
  refine wpAny_bind (wpAny_of_eq (a := ()) rfl ?_)
  refine wpAny_bind (wpAny_of_eq (a := ()) rfl ?_)
  refine bm_if_false rfl ?_
  refine wpAny_bind (wpAny_specialOf hT FA.no_bytes ?_)
  refine wpAny_bind (wpAny_bind ?_)
  show wpAny _ _ (load a >>= _) _ _ _
  refine wpAny_bind (wpAny_load h ?_)
  refine wpAny_pure (wpAny_pure ?_)
  refine bm_if_false rfl ?_
  refine wpAny_bind (wpAny_specialOf hT FA.noIndex ?_)
  refine bm_if_true rfl ?_
  have hb : wpAny (model prog w) A.in1.in1 (Builtin.Bytes.buffer? "bytes.__new__" (.ref a) true) (fun r s' => r = some b ∧ s' = s) (fun _ _ => False) s := by
    unfold Builtin.Bytes.buffer?
    refine wpAny_bind (wpAny_specialOf hT FA.look_buffer ?_)
    dsimp only
    have hown : wpAny (model prog w) A.in1.in1 (Builtin.Bytes.slotIsOwn (.ref a) "__buffer__") (fun r s' => r = true ∧ s' = s) (fun _ _ => False) s := by
      unfold Builtin.Bytes.slotIsOwn
      refine wpAny_bind (wpAny_specialOf hT FA.look_buffer ?_)
      show wpAny _ _ (if (!"bytearray.__buffer__".endsWith ("." ++ "__buffer__")) = true then _ else _) _ _ _
      rw [FA.ends_buffer]
      exact wpAny_isInstance hT (U := "bytearray.__buffer__".dropRight ("__buffer__".length + 1)) (b := true) (by rw [FA.own_buffer]; exact PySem.F.sub_bytearray_bytearray) ⟨rfl, rfl⟩
    with_reducible refine wpAny_bind ?_
    refine wpAny_mono hown ?_ (fun _ _ x => x.elim)
    rintro _ s1 ⟨rfl, hs'⟩
    rw [hs']; clear hs'
    refine bm_if_false rfl ?_
    refine wpAny_bind (wpAny_specialOf hT FA.look_buffer ?_)
    refine wpAny_bind (wp_slotOwn_release h ?_)
    refine bm_if_false rfl ?_
    exact wpAny_bind (wp_payload h (wpAny_pure ⟨rfl, rfl⟩))
  first
    | show wpAny _ _ (Builtin.Bytes.buffer? "bytes.__new__" (.ref a) true >>= _) _ _ _
    | (refine wpAny_bind ?_; show wpAny _ _ (Builtin.Bytes.buffer? "bytes.__new__" (.ref a) true >>= _) _ _ _)
  refine wpAny_bind ?_
  refine wpAny_mono hb ?_ (fun _ _ x => x.elim)
  rintro _ s1 ⟨rfl, hs'⟩
  rw [hs']
  clear hs'
  dsimp only
  refine wpAny_bind (wpAny_rule ?_)
  have hfin : ∀ t k, ({ s with toks := k } : Shared).TypeIs (.bytes b t) "bytes" ∧ Q (.bytes b t) { s with toks := k } := fun t k => ⟨PySem.W.typeIs_bytes _ _ _, hQ t k⟩
  first
    | refine wpAny_bind (wpAny_mkBytes ?_ hz)
    | refine wpAny_bind (wpAny_bind (wpAny_mkBytes ?_ hz))
  first
    | exact wpAny_pure (hfin _ _)
    | exact wpAny_bind (wpAny_pure (wpAny_pure (hfin _ _)))
    | exact wpAny_bind (wpAny_pure (hfin _ _))
    | exact wpAny_pure (wpAny_pure (hfin _ _))
end
end Mine
end

section
set_option maxRecDepth 100000
set_option autoImplicit false
set_option linter.unusedVariables false
namespace Mine
open PySem PySem.Calls PyProof.Rows
open PySem.W (Dat)

section
variable {n : Nat} {C : Cx} {A : Around} {Pr : Addr → Obj → Prop} {X : Addr → Prop} {env : Env} {ρ : Rho} {rest : List Stmt} {Q : Flow → Shared → Prop}
theorem call_bytesBa {a : Addr} {b : Array UInt8} (hz : b.size ≤ sizeLine) : CallB (.type "bytes") [.mb a b] (.v (.bytes b)) := fun n C X env ρ A s vs hA hs hv => by
  obtain ⟨v, rfl, rfl, hx, hb⟩ := hv.inv1
  exact wp_bytesBa hb hz fun t k => ⟨keeps_toks s _, .bytes _ _⟩
theorem ex_ba {x f : Str} {px pf cpos pos : Pos} {e : Expr} {k : Nat} (hA : Room n A) (hb : Blt C f (.type "bytearray")) (h : Ev n C X env ρ e (.v (.int k))) (hz : k ≤ sizeLine) (hk : ∀ a, Ex C A Pr (Plus X a) env ((x, .mb a (Array.replicate k 0)) :: ρ) rest Q) (hx : CanStore env x)
    (hs : swapsWith (.Call (.Name f pf) [e] [] cpos) (some (.Name x px)) pos.line env = pure false := by rfl)
    (hxf : env.kindOf f = some .globalImplicit := by rfl) (hd : (f == ("__debug__" : Str)) = false := by decide) (he : starEach [e] env = [(false, eval e env)] := by rfl) 
    (hc : eval (.Call (.Name f pf) [e] [] cpos) env = (do callWith cpos (← eval (.Name f pf) env) [] (backTo cpos (starEach [e] env)) (backToKw cpos (keywordEach [] env))) := by rfl) :
    Ex C A Pr X env ρ (.Assign [.Name x px] (.Call (.Name f pf) [e] [] cpos) pos :: rest) Q := fun s S =>
  wpI_execs_cons (wpI_Assign_Name (wpI_Call (wpI_any (wp_blt hb S.rd hxf (wpI_callWith_type ((evs_cons h evs_nil he).use hA S.rd fun vs s1 k1 r1 p1 => by
    obtain ⟨v, rfl, q⟩ := p1.inv1
    obtain ⟨t, rfl⟩ := Rep.int_inv q
    refine wpI_call_ba hz fun h' a ha g sb => ?_
    have hnew : s1.heap.get? a = none := by rw [ha]; exact get_size_none _
    have k2 : Kp s1 { s1 with heap := h' } := keeps_heap' fun b o e => (sb.2 b fun q => by rw [q, hnew] at e; cases e).trans (Heap.get?_push_of_some _ e)
    have S1 := S.keeps k1
    have hno : ∀ o, ¬ Pr a o := fun o hp => by have := S1.keep a o hp; rw [hnew] at this; cases this
    refine wpI_any ((S1.moreX k2 hnew g).store (b := .mb a (Array.replicate k 0)) hx ⟨rfl, .inl rfl, g⟩ ⟨rfl, fun a' e => ?_⟩ fun s2 S2 => hk a s2 S2)
    cases e
    refine ⟨hno, fun y c e hc => ?_⟩
    obtain ⟨w, hw, hrw⟩ := S1.rd.vars y c e
    have hXa : X a := by
      cases c with
      | ml a' ds' => cases hc; exact hrw.2.1
      | mb a' b' => cases hc; exact hrw.2.1
      | _ => cases hc
    obtain ⟨o, eo⟩ := S1.rd.xs a hXa
    rw [hnew] at eo; cases eo) he rfl) hd)) hc) hs)
theorem ex_setba {x : Str} {px spos pos : Pos} {i e : Expr} {a : Addr} {b : Array UInt8} {k y : Nat} (hA : Room n A) (hx : ρ.lookup x = some (.mb a b)) (h : Ev n C X env ρ e (.v (.int y))) (hi : Ev n C X env ρ i (.v (.int k))) (hk : k < b.size) (hy : y < 256) (hz : b.size ≤ sizeLine)
    (kk : Ex C A Pr X env ((x, .mb a (b.setIfInBounds k y.toUInt8)) :: ρ) rest Q) (hs : swapsWith e (some (.Subscript (.Name x px) i spos)) pos.line env = pure false := by rfl)
    (hd : (x == ("__debug__" : Str)) = false := by decide) (hcd : (x == ("__classdict__" : Str)) = false := by decide) :
    Ex C A Pr X env ρ (.Assign [.Subscript (.Name x px) i spos] e pos :: rest) Q := fun s S => by
  refine wpI_execs_cons (wpI_Assign_Subscript (h.use hA S.rd fun v s1 k1 r1 p1 => (ev_name (n := n) (C := C) (X := X) (pos := px) hx hd hcd).use hA r1 fun ov s2 k2 r2 p2 => hi.use hA r2 fun iv s3 k3 r3 p3 => ?_) hs)
  obtain ⟨t, rfl⟩ := Rep.int_inv p1
  obtain ⟨t', rfl⟩ := Rep.int_inv p3
  have S3 := S.keeps (keeps_trans k1 (keeps_trans k2 k3))
  obtain ⟨v, _, rfl, hXa, g⟩ := S3.rd.vars x _ hx
  obtain ⟨rfl, _, _⟩ := p2
  refine wpI_any (wp_setBa g hk hy hz fun h' g' sb => kk _ ?_)
  exact S3.mutate (b₀ := .mb a b) (b₁ := .mb a (b.setIfInBounds k y.toUInt8)) hx rfl rfl rfl sb g' ⟨_, g, .inr ⟨_, rfl⟩⟩ hXa fun w hw => ⟨hw.1, hXa, g'⟩
end
end Mine
end

section
set_option maxRecDepth 100000
set_option autoImplicit false
set_option linter.unusedVariables false
namespace Mine
open PySem PySem.Calls PyProof.Rows
open PySem.W (Dat)

section
variable {prog : Program} {w : World} {A : Around} {s : Shared}
theorem codeI_forLoop {R : Result → Shared → Prop} {target : Expr} {it : Value} {body : List Stmt} {env : Env} (I : Nat → Shared → Prop)
    (turn : ∀ n s, I n s → wpI (model prog w) A (pyNext it) (fun r s₁ => match r with
      | none => R (.ok .next) s₁
      | some v => wpI (model prog w) A (letOwnedTupleGo target it v) (fun _ s₁' =>
          wpI (model prog w) A (assign target env v) (fun _ s₂ => wpI (model prog w) A (execs body env) (fun f s₃ => match f with
            | .next | .cont => ∃ m, m < n ∧ I m s₃
            | .brk => R (.ok .next) s₃
            | .ret v => R (.ok (.ret v)) s₃) (fun _ _ => False) s₂) (fun _ _ => False) s₁') (fun _ _ => False) s₁) (fun _ _ => False) s)
    (n : Nat) (h : I n s) : codeI (model prog w) A (.forLoop target it body [] env) R s := by
  refine codeI_loop rfl rfl I (fun n s hI => ?_) n h
  show wpI _ A ((forTurn target it body [] env).onRaise (fun x => do noteFrame x env; theTreesLotGoes x)) _ _ s
  refine wpI_onRaise' ?_
  simp only [forTurn]
  refine wpI_stand (wpI_seq (wpI_onRaise' (turn n s hI)) fun r s₁ h₁ => ?_)
  cases r with
  | none =>
    refine wpI_pure (.inr ⟨rfl, rfl, codeI_of_tree ?_⟩)
    show wpI _ A (do return Fin.done (← (execs [] env).onRaise (fun x => do noteFrame x env; theTreesLotGoes x))) _ _ s₁
    exact wpI_seq (wpI_onRaise' (wpI_execs_nil (Q := fun f s' => f = .next ∧ s' = s₁) ⟨rfl, rfl⟩)) fun f s' hf => wpI_pure (by obtain ⟨rfl, rfl⟩ := hf; exact h₁)
  | some v =>
    refine wpI_seq h₁ fun _ s₁' h₁' => wpI_seq h₁' fun _ s₂ h₂ => wpI_seq h₂ fun f s₃ h₃ => ?_
    cases f with
    | next => exact wpI_pure (.inl ⟨rfl, h₃⟩)
    | cont => exact wpI_pure (.inl ⟨rfl, h₃⟩)
    | brk => exact wpI_pure h₃
    | ret v => exact wpI_pure h₃
theorem wpI_For {M : Model} {E : Value → Shared → Prop} {env : Env} {target iter : Expr} {body : List Stmt} {pos : Pos} {Q : Flow → Shared → Prop}
    (h : wpI M A (eval iter env) (fun x s₁ => wpI M A (pyIter x) (fun it s₂ =>
      codeI M A (.forLoop target it body [] env) (fun r s' => match r with | .ok f => Q f s' | .error e => False) s₂) E s₁) E s)
    (hs : ∀ x, foldedSetIterable iter env x = pure x := by intro _; rfl) :
    wpI M A (exec (.For target iter body [] pos) env) Q E s := by
  rw [exec_For]
  refine wpI_stand (wpI_seq h fun x s₁ h₁ => ?_)
  rw [hs x]
  exact wpI_stand (wpI_seq (wpI_holding h₁) fun it s₂ h₂ => wpI_runOwn rfl h₂)
end

def ownIters : List String := ["enumerate", "zip", "dict_itemiterator", "dict_reverseitemiterator", "odict_iterator", "itertools.zip_longest", "itertools.pairwise"]
/-- at I stands an iterator that will give these data -/
structure Itr (C : Cx) (X : Addr → Prop) (I : Addr) (ds : List D) (s : Shared) (P : Nat → Value → Prop) (fp : List Addr) (J : Nat → Heap → Prop) : Prop where
  walks : ∀ A : Around, A.handled = none → Walks C.prog C.w A I fp [I] ds.length P J
  start : J 0 s.heap
  foot : ∀ b ∈ fp, b ≠ I → ¬ X b ∧ ∃ o, s.heap.get? b = some o ∧ ∃ xs n, o.data = Data.seq xs n
  items : ∀ i v h, P i v → Pres X s.heap h → ∃ d, ds[i]? = some d ∧ Rep X h v d
  kind : ∃ T, ownIters.contains T = false ∧ ∀ i h, J i h → ∃ o, h.get? I = some o ∧ o.cls = .type T ∧ ∃ vs, o.data = .fields vs
  mine : I ∈ fp
def ItEv (n : Nat) (C : Cx) (X : Addr → Prop) (env : Env) (ρ : Rho) (e : Expr) (ds : List D) : Prop :=
  ∀ A s, Room n A → Rd C X env ρ s → wpI C.M A (eval e env) (fun x s₁ => wpI C.M A (pyIter x) (fun it s₂ => Kp s s₂ ∧ ∃ I fp P J, it = .ref I ∧ s.heap.get? I = none ∧ Itr C X I ds s₂ P fp J) (fun _ _ => False) s₁) (fun _ _ => False) s
section
variable {n : Nat} {C : Cx} {A : Around} {Pr : Addr → Obj → Prop} {X : Addr → Prop} {env : Env} {ρ : Rho} {rest : List Stmt} {Q : Flow → Shared → Prop} {s : Shared}
theorem none_of_kp {s s' : Shared} {a : Addr} (k : Kp s s') (h : s'.heap.get? a = none) : s.heap.get? a = none := by
  cases e : s.heap.get? a with
  | none => rfl
  | some o => have := k.gr _ _ e; rw [h] at this; cases this
theorem it_list {e : Expr} {ds : List D} (h : Ev n C X env ρ e (.v (.list ds))) : ItEv n C X env ρ e ds := fun A s hA hs =>
  h.use hA hs fun v s1 k1 r1 p1 => by
    obtain ⟨l, vs, rfl, hX, hl, hr⟩ := Rep.list_inv p1
    have hne : l ≠ s1.heap.objs.size := by obtain ⟨m, e⟩ := hl; exact Nat.ne_of_lt (Heap.lt_size e)
    refine wpI_any (wpAny_pyIter_list hl.isList ⟨keeps_trans k1 (keeps_push _ _), s1.heap.objs.size, [s1.heap.objs.size, l], (fun i v => vs.toArray[i]? = some v), (fun i h => h.IsListIter s1.heap.objs.size l i ∧ h.IsList l vs.toArray), rfl, none_of_kp k1 (get_size_none _), ?_⟩)
    have hsz : vs.toArray.size = ds.length := by rw [List.size_toArray, hr.length]
    refine ⟨fun A hh => hsz ▸ Walks.list hh s1.heap.objs.size l hne vs.toArray, ⟨⟨_, Heap.get?_push_size _ rfl, rfl, rfl⟩, (hl.isList).push _⟩, ?_, ?_, ?_, by simp⟩
    · intro b hb hne
      have : b = l := by simpa [hne] using hb
      subst this
      obtain ⟨m, e⟩ := hl
      exact ⟨hX, _, Heap.get?_push_of_some _ e, _, _, rfl⟩
    · intro i v h hv hp
      have hv' : vs[i]? = some v := by simpa using hv
      exact (hr.pres fun a o hx e hq => hp a o hx (Heap.get?_push_of_some _ e) hq).get' hv'
    · exact ⟨"list_iterator", by decide +kernel, fun i h hJ => let ⟨o, ho, hc, hd⟩ := hJ.1; ⟨o, ho, hc, _, hd⟩⟩
theorem it_bytes {e : Expr} {b : Array UInt8} (h : Ev n C X env ρ e (.v (.bytes b))) : ItEv n C X env ρ e (b.toList.map fun c => Dat.int c.toNat) := fun A s hA hs =>
  h.use hA hs fun v s1 k1 r1 p1 => by
    obtain ⟨t, rfl⟩ := Rep.bytes_inv p1
    refine wpI_any (PySem.W.KBw.pyIter_bytes ⟨keeps_trans k1 (keeps_push _ _), s1.heap.objs.size, [s1.heap.objs.size], (fun i v => ∃ c u, b[i]? = some c ∧ v = .int (c.toNat : Int) u), (fun i h => PySem.W.KBw.IsBytesIter h s1.heap.objs.size b t i), rfl, none_of_kp k1 (get_size_none _), ?_⟩)
    have hsz : b.size = (b.toList.map fun c => (Dat.int c.toNat : D)).length := by simp
    refine ⟨fun A hh => hsz ▸ PySem.W.KBw.walks hh s1.heap.objs.size b t, ⟨_, Heap.get?_push_size _ rfl, rfl, rfl⟩, ?_, ?_, ?_, by simp⟩
    · intro c hc hne; simp [hne] at hc
    · rintro i v h ⟨c, u, hc, rfl⟩ hp
      exact ⟨.int c.toNat, by simp [hc], .int _ _⟩
    · exact ⟨"bytes_iterator", by decide +kernel, fun i h hJ => let ⟨o, ho, hc, hd⟩ := hJ; ⟨o, ho, hc, _, hd⟩⟩
/-- the numbers a, a + c, .. -/
def steps (a c : Int) (m : Nat) : List D := (List.range m).map fun i : Nat => Dat.int (a + (i : Int) * c)
theorem itr_range {s1 : Shared} {a b c : Int} {m : Nat} (hm : Builtin.Range.rangeSize a b c = m) :
    Itr C X s1.heap.objs.size (steps a c m) { s1 with heap := s1.heap.push { cls := .type "range_iterator", data := .fields #[rawInt a, rawInt (Builtin.Range.rangeSize a b c), rawInt c] } } (fun i v => i < m ∧ ∃ t, v = .int (a + i * c) t) [s1.heap.objs.size] (fun i h => IsRangeIter h s1.heap.objs.size (a + (i : Nat) * c) ((m : Int) - (i : Nat)) c) := by
  have hsz : (steps a c m).length = m := by simp [steps]
  refine ⟨fun A hh => ?_, ?_, ?_, ?_, ?_, by simp⟩
  · rw [hsz]
    have W := Walks.range (prog := C.prog) (w := C.w) hh s1.heap.objs.size a c m
    exact ⟨W.sub, W.frame, fun i s Q E hi st hQ => W.item i s Q E hi st fun v h' tk hp => hQ v h' tk ⟨hi, hp⟩, W.done, W.self⟩
  · show IsRangeIter _ _ _ _ _
    rw [hm]
    simpa using Heap.get?_push_size _ rfl
  · intro c hc hne; simp [hne] at hc
  · rintro i v h ⟨hi, t, rfl⟩ hp
    exact ⟨_, by simp [steps, hi], .int _ _⟩
  · exact ⟨"range_iterator", by decide +kernel, fun i h hJ => ⟨_, hJ, rfl, _, rfl⟩⟩
theorem it_range1 {x : Str} {p pos : Pos} {e : Expr} {k : Int} {m : Nat} (hb : Blt C x (.type "range")) (h : Ev n C X env ρ e (.v (.int k))) (hm : Builtin.Range.rangeSize 0 k 1 = m) (hsm : Builtin.Range.small 0 k 1 = true)
    (hx : env.kindOf x = some .globalImplicit := by rfl) (hd : (x == ("__debug__" : Str)) = false := by decide) (he : starEach [e] env = [(false, eval e env)] := by rfl) 
    (hc : eval (.Call (.Name x p) [e] [] pos) env = (do callWith pos (← eval (.Name x p) env) [] (backTo pos (starEach [e] env)) (backToKw pos (keywordEach [] env))) := by rfl) : ItEv n C X env ρ (.Call (.Name x p) [e] [] pos) (steps 0 1 m) := fun A s hA hs =>
  wpI_Call (wpI_any (wp_blt hb hs hx (wpI_callWith_type ((evs_cons h evs_nil he).use hA hs fun vs s1 k1 r1 p1 => by
    obtain ⟨v, rfl, q⟩ := p1.inv1
    obtain ⟨t, rfl⟩ := Rep.int_inv q
    refine wpI_any (call_range_1 (wpI_any (wpAny_pyIter_range (IsRange.new _ _ _ _ _ _ _) hsm ⟨keeps_trans k1 (keeps_heap ((Gr.push _ _).trans (Gr.push _ _))), _, _, _, _, rfl, ?_, itr_range hm⟩)))
    exact none_of_kp (keeps_trans k1 (keeps_push _ _)) (get_size_none _)) he rfl) hd)) hc
theorem it_range2 {x : Str} {p pos : Pos} {e e' : Expr} {a k : Int} {m : Nat} (hb : Blt C x (.type "range")) (h : Ev n C X env ρ e (.v (.int a))) (h' : Ev n C X env ρ e' (.v (.int k))) (hm : Builtin.Range.rangeSize a k 1 = m) (hsm : Builtin.Range.small a k 1 = true)
    (hx : env.kindOf x = some .globalImplicit := by rfl) (hd : (x == ("__debug__" : Str)) = false := by decide) (he' : starEach [e'] env = [(false, eval e' env)] := by rfl) (he : starEach [e, e'] env = (false, eval e env) :: starEach [e'] env := by rfl) (hplain : (backTo pos (starEach [e'] env)).any (·.1) = false := by rfl)
    (hc : eval (.Call (.Name x p) [e, e'] [] pos) env = (do callWith pos (← eval (.Name x p) env) [] (backTo pos (starEach [e, e'] env)) (backToKw pos (keywordEach [] env))) := by rfl) : ItEv n C X env ρ (.Call (.Name x p) [e, e'] [] pos) (steps a 1 m) := fun A s hA hs =>
  wpI_Call (wpI_any (wp_blt hb hs hx (wpI_callWith_type ((evs_cons h (evs_cons h' evs_nil he') he).use hA hs fun vs s1 k1 r1 p1 => by
    obtain ⟨v, v', rfl, q, q'⟩ := p1.inv2
    obtain ⟨t, rfl⟩ := Rep.int_inv q
    obtain ⟨t', rfl⟩ := Rep.int_inv q'
    refine wpI_any (call_range_2 (wpI_any (wpAny_pyIter_range (IsRange.new _ _ _ _ _ _ _) hsm ⟨keeps_trans k1 (keeps_heap ((Gr.push _ _).trans (Gr.push _ _))), _, _, _, _, rfl, ?_, itr_range hm⟩)))
    exact none_of_kp (keeps_trans k1 (keeps_push _ _)) (get_size_none _)) he hplain) hd)) hc
theorem it_range3 {x : Str} {p pos : Pos} {e e' e'' : Expr} {a k c : Int} {m : Nat} (hb : Blt C x (.type "range")) (h : Ev n C X env ρ e (.v (.int a))) (h' : Ev n C X env ρ e' (.v (.int k))) (h'' : Ev n C X env ρ e'' (.v (.int c))) (hc0 : c ≠ 0) (hp : Builtin.divisionGoesByPylong (k - a) c = false) (hm : Builtin.Range.rangeSize a k c = m) (hsm : Builtin.Range.small a k c = true)
    (hx : env.kindOf x = some .globalImplicit := by rfl) (hd : (x == ("__debug__" : Str)) = false := by decide) (he'' : starEach [e''] env = [(false, eval e'' env)] := by rfl) (he' : starEach [e', e''] env = (false, eval e' env) :: starEach [e''] env := by rfl) (he : starEach [e, e', e''] env = (false, eval e env) :: starEach [e', e''] env := by rfl) (hplain : (backTo pos (starEach [e', e''] env)).any (·.1) = false := by rfl)
    (hc : eval (.Call (.Name x p) [e, e', e''] [] pos) env = (do callWith pos (← eval (.Name x p) env) [] (backTo pos (starEach [e, e', e''] env)) (backToKw pos (keywordEach [] env))) := by rfl) : ItEv n C X env ρ (.Call (.Name x p) [e, e', e''] [] pos) (steps a c m) := fun A s hA hs =>
  wpI_Call (wpI_any (wp_blt hb hs hx (wpI_callWith_type ((evs_cons h (evs_cons h' (evs_cons h'' evs_nil he'') he') he).use hA hs fun vs s1 k1 r1 p1 => by
    obtain ⟨v, v', v'', rfl, q, q', q''⟩ := p1.inv3
    obtain ⟨t, rfl⟩ := Rep.int_inv q
    obtain ⟨t', rfl⟩ := Rep.int_inv q'
    obtain ⟨t'', rfl⟩ := Rep.int_inv q''
    refine wpI_any (call_range_3 hc0 (wpI_any (wpAny_pyIter_range (IsRange.new _ _ _ _ _ _ _) hsm ⟨keeps_trans k1 (keeps_heap ((Gr.push _ _).trans (Gr.push _ _))), _, _, _, _, rfl, ?_, itr_range hm⟩)) (.inl hp))
    exact none_of_kp (keeps_trans k1 (keeps_push _ _)) (get_size_none _)) he hplain) hd)) hc
end
end Mine
end

section
set_option maxRecDepth 100000
set_option autoImplicit false
set_option linter.unusedVariables false
namespace Mine
open PySem PySem.Calls PyProof.Rows
open PySem.W (Dat)

def PlainIter (h : Heap) (I : Addr) : Prop := ∃ T o, ownIters.contains T = false ∧ h.get? I = some o ∧ o.cls = .type T ∧ ∃ vs, o.data = .fields vs
/-- what a target binds -/
def Bnd (C : Cx) (A : Around) (env : Env) (target : Expr) (d : D) (xs : Rho) : Prop :=
  ∀ Pr X ρ s v I (Q : Unit → Shared → Prop), St C Pr X env ρ s → Rep X s.heap v d → PlainIter s.heap I → (∀ s', St C Pr X env (xs ++ ρ) s' → Q () s') →
    wpAny C.M A (letOwnedTupleGo target (.ref I) v) (fun _ s1 => wpAny C.M A (assign target env v) Q (fun _ _ => False) s1) (fun _ _ => False) s
section
variable {n : Nat} {C : Cx} {A : Around} {Pr : Addr → Obj → Prop} {X : Addr → Prop} {env : Env} {ρ : Rho} {rest : List Stmt} {Q : Flow → Shared → Prop} {s : Shared}
theorem bnd_name {x : Str} {px : Pos} {d : D} (hx : CanStore env x) : Bnd C A env (.Name x px) d [(x, .v d)] := fun Pr X ρ s v I Q S hr _ h => by
  show wpAny _ A (pure ()) _ _ s
  exact wpAny_pure (wpAny_assign_Name (S.store hx (b := .v d) hr Fresh.v h))
/-- all that the frame does not write stays, but for one address -/
def Hold (Pr : Addr → Obj → Prop) (X : Addr → Prop) (env : Env) (h : Heap) (I : Option Addr) : Addr → Obj → Prop := fun b o => Pr b o ∨ (h.get? b = some o ∧ some b ≠ I ∧ ¬ X b ∧ b ≠ env.locals ∧ ∀ x, env.cells.lookup x ≠ some b)
theorem RepB.at_X {h : Heap} {v : Value} {b : B} {a : Addr} (r : RepB X h v b) (e : b.at? = some a) : X a := by
  cases b with
  | ml a' ds' => cases e; exact r.2.1
  | mb a' b' => cases e; exact r.2.1
  | _ => cases e
theorem St.hold (S : St C Pr X env ρ s) (I : Option Addr) : St C (Hold Pr X env s.heap I) X env ρ s :=
  S.prMore (fun b o e => .inl (S.basePr b o e)) (fun b o e => e.elim (S.keep b o) fun e => e.1) (fun o e => e.elim (S.freeL o) fun e => e.2.2.2.1 rfl) (fun x c o e l f => f.elim (S.freeC x c o e l) fun f => f.2.2.2.2 x e)
    fun x b a o e f g => g.elim (S.own x b a o e f) fun g => g.2.2.1 (let ⟨v, _, r⟩ := S.rd.vars x b e; r.at_X f)
theorem St.held {I : Option Addr} {h : Heap} (S : St C (Hold Pr X env h I) X env ρ s) (hL : ∃ m, h.Ns env.locals m) (hC : ∀ x c, env.cells.lookup x = some c → ∃ v, h.IsCell c v) (hI : ∀ a, I = some a → ∃ o, h.get? a = some o ∧ ∃ vs, o.data = .fields vs := by intro _ e; cases e) : Pres X h s.heap := fun a o hX e hq => by
  refine S.keep a o (.inr ⟨e, fun q => ?_, hX, fun q => ?_, fun x q => ?_⟩)
  · obtain ⟨o', ho', fs, hd⟩ := hI a q.symm
    rw [e] at ho'; cases ho'
    obtain ⟨xs, k, hq⟩ := hq
    rw [hd] at hq; cases hq
  · obtain ⟨m, o', es, ep, ho', hd, _⟩ := hL
    rw [← q, e] at ho'; cases ho'
    obtain ⟨xs, k, hq⟩ := hq
    rw [hd] at hq; cases hq
  · obtain ⟨v, o', ho', hd⟩ := hC x a q
    rw [e] at ho'; cases ho'
    obtain ⟨xs, k, hq⟩ := hq
    rw [hd] at hq; cases hq
theorem bnd_tup2 {x y : Str} {px py pos : Pos} {k : Nat} {d e : D} (hA : A.handled = none) (hx : CanStore env x) (hy : CanStore env y)
    (ha : assignEach [.Name x px, .Name y py] env = [(false, assign (.Name x px) env), (false, assign (.Name y py) env)] := by rfl) : Bnd C A env (.Tuple [.Name x px, .Name y py] k pos) (.tuple [d, e]) [(y, .v e), (x, .v d)] := fun Pr X ρ s v I Q S hr hI h => by
  obtain ⟨t, vs, rfl, hX, ht, hrs⟩ := Rep.tuple_inv hr
  obtain ⟨T, o, hT, ho, hc, fs, hd⟩ := hI
  have h1 : wpAny C.M A (letOwnedTupleGo (.Tuple [.Name x px, .Name y py] k pos) (.ref I) (.ref t)) (fun _ s1 => s1 = s) (fun _ _ => False) s := by
    unfold letOwnedTupleGo
    refine wpAny_bind (wpAny_load ho ?_)
    rw [hc, hd]
    show wpAny _ A (if (ownIters.contains T && fs[0]? == some (rawInt t)) = true then _ else _) _ _ s
    rw [hT]
    exact wpAny_pure rfl
  refine wpAny_mono h1 (fun _ s1 e1 => ?_) fun _ _ f => f
  subst e1
  cases hrs with
  | cons r1 hrs =>
    cases hrs with
    | cons r2 hrs =>
      cases hrs
      rename_i v1 v2
      refine assign_Tuple_tuple (items := #[v1, v2]) hA ht (by rw [ha]; rfl) (by rw [ha]; rfl) fun h' hk => ?_
      rw [ha]
      have k1 : Kp s1 { s1 with heap := h' } := keeps_heap' fun b o e => hk b o (Nat.ne_of_lt (Heap.lt_size e)) e
      show wpAny _ A (holding [v2] (assign (.Name x px) env v1) >>= fun _ => holding [] (assign (.Name y py) env v2) >>= fun _ => pure ()) _ _ _
      refine wpAny_bind (wpAny_holding (wpAny_assign_Name (((S.keeps k1).hold none).store hx (b := .v d) (Rep.gr r1 k1.gr) Fresh.v fun s2 S2 => ?_)))
      refine wpAny_bind (wpAny_holding (wpAny_assign_Name (S2.store hy (b := .v e) (Rep.pres (S2.held (S.keeps k1).ns (S.keeps k1).cells) (Rep.gr r2 k1.gr)) Fresh.v fun s3 S3 => ?_)))
      exact wpAny_pure (h s3 (S3.prLess (fun b o => .inl) S.basePr))
theorem St.iter {I : Addr} {h' : Heap} {tk : Nat} (S : St C Pr X env ρ s) (hI : ∀ o, ¬ Pr I o) (hf : ∃ o, s.heap.get? I = some o ∧ ∃ vs, o.data = .fields vs) (hX : ¬ X I) (hk : ∀ b o, b ≠ I → s.heap.get? b = some o → h'.get? b = some o) :
    St C Pr X env ρ { s with heap := h', toks := tk } := by
  obtain ⟨oI, hoI, fs, hdI⟩ := hf
  obtain ⟨m, hm⟩ := S.ns
  obtain ⟨oL, es, ep, hoL, hdL, hrL⟩ := id hm
  have hLI : env.locals ≠ I := fun q => by rw [q, hoI] at hoL; cases hoL; rw [hdI] at hdL; cases hdL
  have hCI : ∀ c v, s.heap.IsCell c v → c ≠ I := fun c v hc q => by
    obtain ⟨oc, hoc, hdc⟩ := hc
    rw [q, hoI] at hoc; cases hoc; rw [hdI] at hdc; cases hdc
  have hns : ∀ m', s.heap.Ns env.locals m' → h'.Ns env.locals m' := fun m' hm' => let ⟨o, es, ep, ho, r⟩ := hm'; ⟨o, es, ep, hk _ _ hLI ho, r⟩
  have hcl : ∀ c v, s.heap.IsCell c v → h'.IsCell c v := fun c v hc => let ⟨o, ho, r⟩ := id hc; ⟨o, hk _ _ (hCI c v hc) ho, r⟩
  refine ⟨⟨S.rd.ok, S.rd.eok, ?_, fun y c e => ?_, fun b hb => ?_⟩, S.basePr, fun b o e => hk b o (fun q => hI o (q ▸ e)) (S.keep b o e), ⟨m, hns m hm⟩, fun y c e => ?_, S.cellsApart, S.freeL, S.freeC, S.own, S.apart, S.isVar⟩
  · obtain ⟨⟨h0, t0, e⟩, g⟩ := S.rd.base
    exact ⟨⟨h', tk, by rw [e]⟩, fun b o eb => hk b o (fun q => hI o (q ▸ S.basePr b o eb)) (g b o eb)⟩
  · obtain ⟨w, hw, hr⟩ := S.rd.vars y c e
    refine ⟨w, ?_, hr.pres (S.isVar y c e) fun a o ea hsq => hk a o (fun q => ?_) ea⟩
    · rcases hw with ⟨hky, m', hm', hmy⟩ | ⟨hky, cc, hcc, hcv⟩
      · exact .inl ⟨hky, _, hns _ hm', hmy⟩
      · exact .inr ⟨hky, cc, hcc, hcl _ _ hcv⟩
    · rw [q, hoI] at ea; cases ea
      rcases hsq with ⟨xs, k, hd⟩ | ⟨bb, hd⟩ <;> (rw [hdI] at hd; cases hd)
  · obtain ⟨o, e⟩ := S.rd.xs b hb
    exact ⟨o, hk b o (fun q => hX (q ▸ hb)) e⟩
  · obtain ⟨v, hv⟩ := S.cells y c e
    exact ⟨v, hcl _ _ hv⟩
/-- how a turn may end -/
def TurnG (C : Cx) (Pr : Addr → Obj → Prop) (X : Addr → Prop) (env : Env) (ρ : Rho) (G : Prop) (Q : Flow → Shared → Prop) : Flow → Shared → Prop := fun f s =>
  match f with
  | .next | .cont => St C Pr X env ρ s ∧ G
  | .brk => False
  | .ret v => Q (.ret v) s
theorem ex_forG {target iter : Expr} {body : List Stmt} {pos : Pos} {ds : List D} {xs : D → Rho} (hA : Room n A) (h : ItEv n C X env ρ iter ds) (V : Nat → Rho) (G : Nat → Prop) (hG : G 0) (h0 : ∀ x b, (V 0).lookup x = some b → ρ.lookup x = some b)
    (hb : ∀ d ∈ ds, Bnd C A env target d (xs d))
    (turn : ∀ i (hi : i < ds.length) Pr', (∀ b o, Pr b o → Pr' b o) → G i → Ex C A Pr' X env (xs ds[i] ++ V i) body (TurnG C Pr' X env (V (i + 1)) (G (i + 1)) Q))
    (fin : G ds.length → Ex C A Pr X env (V ds.length) rest Q)
    (hs : ∀ x, foldedSetIterable iter env x = pure x := by intro _; rfl) : Ex C A Pr X env ρ (.For target iter body [] pos :: rest) Q := fun s S => by
  refine wpI_execs_cons (wpI_For (wpI_mono (h A s hA S.rd) (fun x s1 h1 => wpI_mono h1 (fun it s2 h2 => ?_) fun _ _ f => f) fun _ _ f => f) hs)
  obtain ⟨k2, I, fp, P, J, rfl, hnew, T⟩ := h2
  have S2 := S.keeps k2
  obtain ⟨Ty, hTy, hkind⟩ := T.kind
  obtain ⟨oI, hoI, _, hdI⟩ := hkind 0 _ T.start
  have hXI : ¬ X I := fun hx => by obtain ⟨o, e⟩ := S.rd.xs I hx; rw [hnew] at e; cases e
  have hPI : ∀ o, ¬ Hold Pr X env s2.heap (some I) I o := fun o e => e.elim (fun e => by have := S.keep I o e; rw [hnew] at this; cases this) fun e => e.2.1 rfl
  have W := T.walks A hA.handled
  have hfields : ∀ a, some I = some a → ∃ o, s2.heap.get? a = some o ∧ ∃ vs, o.data = .fields vs := fun a e => by cases e; exact ⟨oI, hoI, hdI⟩
  refine codeI_forLoop (fun k s' => ∃ i, i + k = ds.length ∧ J i s'.heap ∧ St C (Hold Pr X env s2.heap (some I)) X env (V i) s' ∧ G i) (fun k s' hk => ?_) ds.length ⟨0, by omega, T.start, (S2.hold (some I)).weaken h0, hG⟩
  obtain ⟨i, hik, hJ, S', hGi⟩ := hk
  obtain ⟨oI', hoI', hcI', hdI'⟩ := hkind i _ hJ
  cases k with
  | zero =>
    have hi : i = ds.length := by omega
    subst hi
    refine wpI_any (W.done s' _ _ hJ fun h' tk hk => ?_)
    have S3 := S'.iter (tk := tk) hPI ⟨oI', hoI', hdI'⟩ hXI fun b o hb e => hk b o (by simpa using hb) e
    exact fin hGi _ (S3.prLess (fun b o => .inl) S.basePr)
  | succ k =>
    have hi : i < ds.length := by omega
    refine wpI_any (W.item i s' _ _ hi hJ fun v h' tk hv hJ' hk => ?_)
    have S3 := S'.iter (tk := tk) hPI ⟨oI', hoI', hdI'⟩ hXI fun b o hb e => hk b o (by simpa using hb) e
    obtain ⟨d, hd, hr⟩ := T.items i v h' hv (S3.held S2.ns S2.cells hfields)
    rw [List.getElem?_eq_getElem hi] at hd
    cases hd
    obtain ⟨oI3, hoI3, hcI3, hdI3⟩ := hkind (i + 1) _ hJ'
    have S4 : St C (fun b o => Hold Pr X env s2.heap (some I) b o ∨ (b = I ∧ o = oI3)) X env (V i) { s' with heap := h', toks := tk } := by
      have hLI : env.locals ≠ I := fun q => by
        obtain ⟨m, o, es, ep, ho, hd, _⟩ := S3.ns
        rw [q] at ho
        have := ho.symm.trans hoI3
        cases this
        obtain ⟨fs, hd3⟩ := hdI3
        rw [hd3] at hd; cases hd
      refine S3.prMore (fun b o e => .inl (.inl (S.basePr b o e))) (fun b o e => e.elim (S3.keep b o) fun e => by obtain ⟨rfl, rfl⟩ := e; exact hoI3) (fun o e => e.elim (S3.freeL o) fun e => hLI e.1) (fun x c o e l f => f.elim (S3.freeC x c o e l) fun f => ?_) fun x b a o e f g => g.elim (S3.own x b a o e f) fun g => hXI (g.1 ▸ (let ⟨v, _, r⟩ := S3.rd.vars x b e; r.at_X f))
      obtain ⟨v, oc, hoc, hdc⟩ := S3.cells x c e
      rw [f.1] at hoc
      have := hoc.symm.trans hoI3
      cases this
      obtain ⟨fs, hd3⟩ := hdI3
      rw [hd3] at hdc; cases hdc
    refine wpI_any (wpAny_mono (hb _ (List.getElem_mem hi) _ _ _ _ v I (fun _ s5 => wpI C.M A (execs body env) _ (fun _ _ => False) s5) S4 hr ⟨Ty, oI3, hTy, hoI3, hcI3, hdI3⟩ fun s5 S5 => ?_) (fun _ _ h => wpI_any h) fun _ _ f => f)
    refine wpI_mono (turn i hi _ (fun b o e => .inl (.inl e)) hGi s5 S5) (fun f s6 hf => ?_) fun _ _ f => f
    have hnext : St C (fun b o => Hold Pr X env s2.heap (some I) b o ∨ (b = I ∧ o = oI3)) X env (V (i + 1)) s6 ∧ G (i + 1) → ∃ m, m < k + 1 ∧ ∃ i, i + m = ds.length ∧ J i s6.heap ∧ St C (Hold Pr X env s2.heap (some I)) X env (V i) s6 ∧ G i := fun ⟨S6, hG6⟩ => by
      refine ⟨k, by omega, i + 1, by omega, W.frame (i + 1) _ _ hJ' fun b hb o e => ?_, S6.prLess (fun b o => .inl) fun b o e => .inl (S.basePr b o e), hG6⟩
      by_cases q : b = I
      · subst q
        have := e.symm.trans hoI3
        cases this
        exact S6.keep b oI3 (.inr ⟨rfl, rfl⟩)
      · obtain ⟨hXb, ob, hob, hsq⟩ := T.foot b hb q
        have h1 := S3.held S2.ns S2.cells hfields b ob hXb hob hsq
        have := e.symm.trans h1
        cases this
        exact (S6.prLess (Pr := Hold Pr X env s2.heap (some I)) (fun b o => .inl) fun b o e => .inl (S.basePr b o e)).held S2.ns S2.cells hfields b _ hXb hob hsq
    cases f with
    | next => exact hnext hf
    | cont => exact hnext hf
    | brk => exact hf.elim
    | ret v => exact hf
def TurnQ (C : Cx) (Pr : Addr → Obj → Prop) (X : Addr → Prop) (env : Env) (ρ : Rho) (Q : Flow → Shared → Prop) : Flow → Shared → Prop := fun f s =>
  match f with
  | .next | .cont => St C Pr X env ρ s
  | .brk => False
  | .ret v => Q (.ret v) s
theorem ex_for {target iter : Expr} {body : List Stmt} {pos : Pos} {ds : List D} {xs : D → Rho} (hA : Room n A) (h : ItEv n C X env ρ iter ds) (V : Nat → Rho) (h0 : ∀ x b, (V 0).lookup x = some b → ρ.lookup x = some b)
    (hb : ∀ d ∈ ds, Bnd C A env target d (xs d))
    (turn : ∀ i (hi : i < ds.length) Pr', (∀ b o, Pr b o → Pr' b o) → Ex C A Pr' X env (xs ds[i] ++ V i) body (TurnQ C Pr' X env (V (i + 1)) Q))
    (fin : Ex C A Pr X env (V ds.length) rest Q)
    (hs : ∀ x, foldedSetIterable iter env x = pure x := by intro _; rfl) : Ex C A Pr X env ρ (.For target iter body [] pos :: rest) Q :=
  ex_forG hA h V (fun _ => True) trivial h0 hb (fun i hi Pr' hPr _ s S => wpI_mono (turn i hi Pr' hPr s S) (fun f s' hf => by cases f <;> first | exact ⟨hf, trivial⟩ | exact hf) fun _ _ f => f) (fun _ => fin) hs
end
end Mine
end

section
set_option maxRecDepth 100000
set_option autoImplicit false
set_option linter.unusedVariables false
namespace Mine
open PySem PySem.Calls PyProof.Rows
open PySem.W (Dat)

section
variable {prog : Program} {w : World} {A : Around} {s : Shared} {R : Result → Shared → Prop}
theorem codeI_func {body : List Stmt} {env : Env} (h : wpI (model prog w) (A.deeper env) (execs body env) (fun f s' => R (.ok (.ret (match f with | .ret v => v | _ => .none))) s') (fun _ _ => False) s) :
    codeI (model prog w) A (.func body env) R s := by
  refine codeI_of_tree ?_
  show wpI _ (A.deeper env) (do point; match ← (execs body env).onRaise (leaving env) with | .ret v => ret v | _ => ret .none) _ _ s
  refine wpI_bind (wpI_point (wpI_seq (wpI_onRaise' h) fun f s' h' => ?_))
  cases f <;> exact wpI_pure h'
theorem codeI_call_cells {a : Addr} {o : Obj} {fd : FuncData} {body : List Stmt} {vals : List Value} {binds : List (Str × Value)}
    (hroom : A.depth < recursionLimit) (ho : s.heap.get? a = some o) (hdata : o.data = .func fd) (hlim : s.heap.NoLimit) (hcd : s.heap.CodeRec fd.code fd.qualname)
    (hbody : fd.body = .stmts body) (hbind : bindArgs fd ⟨vals, []⟩ = pure binds) (hclo : fd.closure = [])
    (hkind : ∀ x ∈ binds, fd.scope.names.lookup x.1 = some .local ∨ (fd.scope.names.lookup x.1 = some .cell ∧ ((cellsFrom (s.heap.objs.size + 1) fd.scope.names []).lookup x.1).isSome = true))
    (h : ∀ s₁, InCallC s (callEnvC fd s.heap.objs.size a).locals (bindL (callEnvC fd s.heap.objs.size a).kindOf binds fun _ => none) (callEnvC fd s.heap.objs.size a).cells
        (bindC (callEnvC fd s.heap.objs.size a).kindOf binds fun _ => none) s₁ →
      wpI (model prog w) (A.deeper (callEnvC fd s.heap.objs.size a)) (execs body (callEnvC fd s.heap.objs.size a)) (fun f s' => R (.ok (.ret (match f with | .ret v => v | _ => .none))) s') (fun _ _ => False) s₁)
    (hco : fd.scope.isCoroutine = false) (hgen : fd.scope.isGenerator = false) (hk : fd.scope.kind = .function) :
    codeI (model prog w) A (.call (.ref a) ⟨vals, []⟩) R s := by
  refine codeI_of_tree ?_
  show wpI _ A.in1 (callAny (.ref a) ⟨vals, []⟩) _ _ s
  simp only [callAny]
  refine wpI_bind (wpI_any (wpAny_load ho ?_))
  obtain ⟨c, oc, vs, tq, hc, hoc, hdc, hq⟩ := hcd
  simp only [hdata, callFunction, hco, hgen, hbody, hc]
  refine wpI_bind (m := field (.ref c) 1) (wpI_any (wpAny_field hoc hdc hq (wpI_bind (wpI_pure ?_))))
  rw [hbind]
  refine wpI_bind (wpI_pure ?_)
  rw [hclo]
  refine wpI_bind (wpI_any (wpAny_newFunctionEnv_cells hk hkind fun env he s' x => ?_))
  rw [← hc] at he
  have he' : env = callEnvC fd s.heap.objs.size a := he
  subst he'
  exact wpI_bind (wpI_any (wpAny_enterFrame (hlim.keeps x.toInCall.keep) hroom (wpI_pure ⟨rfl, rfl, codeI_func (h s' x)⟩)))
end

/-- the function stands under its name -/
def FnAt (C : Cx) (d : DefRec) : Prop := ∃ a o pm code doc, C.mg d.name = some (.ref a) ∧ C.s0.heap.get? a = some o ∧ o.data = .func (docDef d.name d.params d.body d.scope pm code doc) ∧ C.s0.heap.CodeRec code d.name
abbrev envOf (d : DefRec) (pm code doc : Value) (L a : Addr) : Env := callEnvC (docDef d.name d.params d.body d.scope pm code doc) L a
def Calls (C : Cx) (k : Nat) (name : Str) (ds : List D) (d : D) : Prop := ∀ a, C.mg name = some (.ref a) → ∀ A s X vs, Room k A → Kp C.s0 s → (∀ a, X a → ∃ o, s.heap.get? a = some o) → Reps X s.heap vs ds →
  wpI C.M A (call (.ref a) vs) (fun v s' => Kp s s' ∧ Rep X s'.heap v d) (fun _ _ => False) s
/-- how a function's body ends -/
def RetQ (C : Cx) (Pr : Addr → Obj → Prop) (X : Addr → Prop) (d : D) : Flow → Shared → Prop := fun f s => ∃ v, f = .ret v ∧ Kp C.s0 s ∧ (∀ b o, Pr b o → s.heap.get? b = some o) ∧ Rep X s.heap v d
theorem Calls.le {C : Cx} {k m : Nat} {name : Str} {ds : List D} {d : D} (h : Calls C k name ds d) (hk : k ≤ m) : Calls C m name ds d := fun a ha A s X vs hA => h a ha A s X vs (hA.le hk)
section
variable {n : Nat} {C : Cx} {A : Around} {Pr : Addr → Obj → Prop} {X : Addr → Prop} {env : Env} {ρ : Rho} {rest : List Stmt} {Q : Flow → Shared → Prop} {s : Shared}
theorem ex_ret {Pr0 : Addr → Obj → Prop} {X0 : Addr → Prop} {e : Expr} {pos : Pos} {d : D} (hA : Room n A) (h : Ev n C X env ρ e (.v d)) (hP : ∀ b o, Pr0 b o → Pr b o) (hX : ∀ a, X0 a → X a) : Ex C A Pr X env ρ (.Return (some e) pos :: rest) (RetQ C Pr0 X0 d) :=
  ex_return hA h fun v s S r => ⟨v, rfl, S.rd.base, fun b o e => S.keep b o (hP b o e), Rep.weaken r hX⟩

theorem bindL_other {kindOf : Str → Option NameKind} {x : Str} : ∀ {names : List Str} {vals : List Value} {m : Str → Option Value}, x ∉ names → bindL kindOf (names.zip vals) m x = m x
  | [], _, _, _ => rfl
  | _ :: _, [], _, _ => rfl
  | y :: names, v :: vals, m, h => by
    have h1 : x ≠ y := fun e => h (e ▸ List.mem_cons_self)
    have h2 : x ∉ names := fun e => h (List.mem_cons_of_mem _ e)
    show bindL kindOf (names.zip vals) _ x = m x
    rw [bindL_other h2]
    split
    · simp [h1]
    · rfl
theorem bindC_other {kindOf : Str → Option NameKind} {x : Str} : ∀ {names : List Str} {vals : List Value} {m : Str → Option Value}, x ∉ names → bindC kindOf (names.zip vals) m x = m x
  | [], _, _, _ => rfl
  | _ :: _, [], _, _ => rfl
  | y :: names, v :: vals, m, h => by
    have h1 : x ≠ y := fun e => h (e ▸ List.mem_cons_self)
    have h2 : x ∉ names := fun e => h (List.mem_cons_of_mem _ e)
    show bindC kindOf (names.zip vals) _ x = m x
    rw [bindC_other h2]
    split
    · rfl
    · simp [h1]
theorem binds_at {kindOf : Str → Option NameKind} {X : Addr → Prop} {h : Heap} {x : Str} {b : B} : ∀ {names : List Str} {vs : List Value} {ds : List D} {m cm : Str → Option Value}, names.Nodup → Reps X h vs ds → (names.zip (ds.map B.v)).lookup x = some b →
    x ∈ names ∧ ∃ v d, b = .v d ∧ Rep X h v d ∧ (kindOf x = some .local → bindL kindOf (names.zip vs) m x = some v) ∧ (kindOf x ≠ some .local → bindC kindOf (names.zip vs) cm x = some v)
  | [], _, _, _, _, _, _, e => by simp at e
  | _ :: _, _, [], _, _, _, _, e => by simp at e
  | y :: names, _, _ :: _, m, cm, hn, .cons (v := v) (vs := vs) (d := d) (ds := ds) a r, e => by
    obtain ⟨h1, h2⟩ := List.nodup_cons.mp hn
    simp only [List.map_cons, List.zip_cons_cons, List.lookup_cons] at e
    by_cases q : x = y
    · subst q
      simp at e
      refine ⟨List.mem_cons_self, v, d, e.symm, a, fun hk => ?_, fun hk => ?_⟩
      · show bindL kindOf (names.zip vs) _ x = some v
        rw [bindL_other h1, if_pos hk]; simp
      · show bindC kindOf (names.zip vs) _ x = some v
        rw [bindC_other h1, if_neg hk]; simp
    · have : (x == y) = false := by simpa using q
      rw [this] at e
      obtain ⟨g1, v', d', g2, g3, g4, g5⟩ := binds_at (m := if kindOf y = some .local then fun z => if z = y then some v else m z else m) (cm := if kindOf y = some .local then cm else fun z => if z = y then some v else cm z) h2 r e
      exact ⟨List.mem_cons_of_mem _ g1, v', d', g2, g3, g4, g5⟩
theorem lookup_v {x : Str} {b : B} : ∀ {names : List Str} {ds : List D}, (names.zip (ds.map B.v)).lookup x = some b → ∃ d, b = .v d
  | [], _, e => by simp at e
  | _ :: _, [], e => by simp at e
  | y :: names, d :: ds, e => by
    simp only [List.map_cons, List.zip_cons_cons, List.lookup_cons] at e
    split at e
    · cases e; exact ⟨d, rfl⟩
    · exact lookup_v e
theorem kp_of {s0 s s' : Shared} (a : Kp s0 s) (b : Kp s0 s') (g : Gr s.heap s'.heap) : Kp s s' := by
  obtain ⟨⟨h1, t1, rfl⟩, _⟩ := a
  obtain ⟨⟨h2, t2, rfl⟩, _⟩ := b
  exact ⟨⟨h2, t2, rfl⟩, g⟩
theorem none_ge {h : Heap} {c : Addr} (hc : h.objs.size ≤ c) : h.get? c = none := by
  cases e : h.get? c with
  | none => rfl
  | some o => exact absurd (Heap.lt_size e) (Nat.not_lt.mpr hc)
theorem fn_calls {k : Nat} {d : DefRec} {names : List Str} {ds : List D} {r : D} (hF : FnAt C d) (hO : C.Ok) (hn : names.Nodup)
    (hbind : ∀ pm code doc vals, vals.length = names.length → bindArgs (docDef d.name d.params d.body d.scope pm code doc) ⟨vals, []⟩ = pure (names.zip vals))
    (hkind : ∀ L, ∀ x ∈ names, d.scope.names.lookup x = some .local ∨ (d.scope.names.lookup x = some .cell ∧ ((cellsFrom (L + 1) d.scope.names []).lookup x).isSome = true))
    (hlen : ds.length = names.length) (hco : d.scope.isCoroutine = false) (hgen : d.scope.isGenerator = false) (hk : d.scope.kind = .function)
    (hbody : ∀ A pm code doc L a Pr X, Room k A → Ex C A Pr X (envOf d pm code doc L a) (names.zip (ds.map B.v)) d.body (RetQ C Pr X r)) : Calls C (k + 1) d.name ds r := fun a ha A s X vs hA hs hX hr => by
  obtain ⟨a', o, pm, code, doc, ha', ho, hd, hc⟩ := hF
  rw [ha] at ha'; cases ha'
  have hroom : A.depth < recursionLimit := by have := hA.depth; show A.depth < 1000; omega
  refine wpI_call (codeI_call_cells (fd := docDef d.name d.params d.body d.scope pm code doc) hroom (hs.gr _ _ ho) hd (hO.nolimit.keeps hs.gr) (hc.keeps hs.gr) rfl (hbind pm code doc vs (by rw [hr.length, hlen])) rfl (fun x hx => ?_) (fun s₁ x => ?_) hco hgen hk)
  · have hm : x.1 ∈ names := (List.of_mem_zip (a := x.1) (b := x.2) hx).1
    exact hkind _ x.1 hm
  · obtain ⟨⟨⟨h1, t1, e1⟩, hns, hkeep, hfresh⟩, hcell, hap, habove⟩ := x
    have k1 : Kp s s₁ := ⟨⟨h1, t1, e1⟩, hkeep⟩
    refine wpI_mono (hbody (A.deeper _) pm code doc s.heap.objs.size a (fun b o => s.heap.get? b = some o) X (hA.deeper _) s₁ ?_) (fun f s' hf => ?_) fun _ _ f => f.elim
    · refine ⟨⟨hO, ⟨hk, rfl, rfl⟩, keeps_trans hs k1, fun x b e => ?_, fun b hb => let ⟨o, e⟩ := hX b hb; ⟨o, k1.gr b o e⟩⟩, fun b o e => hs.gr b o e, hkeep, ⟨_, hns⟩, fun x c e => ⟨_, hcell x c e⟩, fun x y c e f _ => name_of_addr hap (mem_of_lookup e) (mem_of_lookup f), fun o e => ?_, fun x c o e l f => ?_, fun x b a o e f => ?_, fun x y b c a e f g => ?_, fun x b e => ?_⟩
      · obtain ⟨g1, v, d', rfl, g3, g4, g5⟩ := binds_at (kindOf := (envOf d pm code doc s.heap.objs.size a).kindOf) (m := fun _ => none) (cm := fun _ => none) hn (hr.gr k1.gr) e
        refine ⟨v, ?_, g3⟩
        rcases hkind s.heap.objs.size x g1 with hl | ⟨hl, hcs⟩
        · exact .inl ⟨hl, _, hns, g4 hl⟩
        · obtain ⟨c, hcs⟩ := Option.isSome_iff_exists.mp hcs
          refine .inr ⟨.inl hl, c, hcs, ?_⟩
          have := hcell x c hcs
          rw [g5 (by show d.scope.names.lookup x ≠ _; rw [hl]; decide)] at this
          exact this
      · rw [none_ge hfresh] at e; cases e
      · rw [none_ge (Nat.le_of_lt (Nat.lt_of_le_of_lt hfresh (habove x c (mem_of_lookup e))))] at f; cases f
      · obtain ⟨d', rfl⟩ := lookup_v e; cases f
      · obtain ⟨d', rfl⟩ := lookup_v e; cases g
      · obtain ⟨d', rfl⟩ := lookup_v e; rfl
    · obtain ⟨v, rfl, h1, h2, h3⟩ := hf
      exact ⟨kp_of hs h1 h2, h3⟩
theorem ev_callf {x : Str} {p pos : Pos} {e : Expr} {es : List Expr} {ds : List D} {r : D} {d : DefRec} (hF : FnAt C d) (hC : Calls C n x ds r) (ha : Evs n C X env ρ (e :: es) (ds.map B.v)) (hxd : d.name = x)
    (hx : env.kindOf x = some .globalImplicit := by rfl) (hd : (x == ("__debug__" : Str)) = false := by decide) (he : starEach (e :: es) env = (false, eval e env) :: starEach es env := by rfl)
    (hc : eval (.Call (.Name x p) (e :: es) [] pos) env = (do callWith pos (← eval (.Name x p) env) [] (backTo pos (starEach (e :: es) env)) (backToKw pos (keywordEach [] env))) := by rfl) :
    Ev n C X env ρ (.Call (.Name x p) (e :: es) [] pos) (.v r) := fun A s hA hs => by
  subst hxd
  obtain ⟨a, o, pm, code, doc, hm, ho, hd', _⟩ := hF
  refine wpI_Call (wpI_any (Name_function_global hs.eok.kind hx (loadGlobal_global (mg := C.mg) (hs.eok.glob ▸ hs.ok.g.keeps hs.base.gr) hm ?_) hd)) hc
  refine wpI_callWith_def hd' (ha.use hA hs fun vs s1 k1 r1 p1 => ⟨r1.base.gr _ _ ho, wpI_mono (hC a hm A s1 X vs hA r1.base r1.xs p1.plain) (fun v s2 h2 => ⟨keeps_trans k1 h2.1, h2.2⟩) fun _ _ f => f⟩) he
end
end Mine
end

section
set_option maxRecDepth 100000
set_option autoImplicit false
set_option linter.unusedVariables false
namespace Mine
open PySem PySem.Calls PyProof.Rows
open PySem.W (Dat)

section
variable {M : Model} {A : Around} {s : Shared} {env : Env}
def compPostI (M : Model) (A : Around) (use : Option (Value → Sem Unit)) (Q : Value → Shared → Prop) (acc : Value) (L : Addr) (r : Result) (s' : Shared) : Prop :=
  match r, use with
  | .ok _, none => ∃ m, s'.heap.Ns L m ∧ ∀ h', Heap.SameBut L s'.heap h' → Q acc { s' with heap := h' }
  | .ok _, some u => wpI M A (u acc) (fun _ s'' => ∃ m, s''.heap.Ns L m ∧ ∀ h', Heap.SameBut L s''.heap h' → Q .none { s'' with heap := h' }) (fun _ _ => False) s'
  | .error _, _ => False
theorem wpI_standIf {α : Type} {c : Prop} [Decidable c] {pos : Pos} {k : PUnit → Sem α} {Q : α → Shared → Prop} {E : Value → Shared → Prop} (h : wpI M A (k ()) Q E s) : wpI M A (if c then (standAt pos >>= k) else k ()) Q E s := by
  split
  · exact wpI_stand h
  · exact h
theorem wpI_comprehension {e : Expr} {scope : Scope} {pos : Pos} {newAcc first : Sem Value} {g : Comprehension} {gs : List Comprehension} {cl : List (Str × Addr)} {use : Option (Value → Sem Unit)} {Q : Value → Shared → Prop}
    (hcl : clausesOf e = g :: gs) (hs : ∀ x, foldedSetIterable g.iter env x = pure x) (hclos : closureFor scope env = pure cl)
    (hkind : scope.kind = .function) (hnames : ∀ x ∈ scope.names, x.2 = .local → scope.names.lookup x.1 = some .local)
    (h : wpI M A first (fun x s₁ => wpI M A (pyIter x) (fun it s₂ => wpI M A newAcc (fun acc s₃ =>
      wpI M A (newFunctionEnv scope env.globals cl [] env.qual none .none (some env)) (fun cenv s₄ =>
        codeI M A (.compStart e 0 it acc { cenv with scope := relabel scope env }) (compPostI M A use Q acc cenv.locals) s₄) (fun _ _ => False) s₃) (fun _ _ => False) s₂) (fun _ _ => False) s₁) (fun _ _ => False) s) :
    wpI M A (comprehension e scope env pos newAcc false first use) Q (fun _ _ => False) s := by
  unfold comprehension
  rw [hclos, hcl]
  refine wpI_seq h fun x s₁ h₁ => wpI_stand ?_
  refine wpI_bind (wpI_eq (hs x) (wpI_pure (wpI_seq (wpI_holding h₁) fun it s₂ h₂ => wpI_standIf (wpI_seq h₂ fun acc s₃ h₃ => wpI_bind (wpI_pure (wpI_seq h₃ fun cenv s₄ h₄ => ?_))))))
  dsimp only
  have hv : ∀ x ∈ (scope.names.filter fun x => (x.2 == .local || x.2 == .cell) && x.1 != (".0" : Str)).reverse, x.2 = .local →
      Env.kindOf { cenv with scope := relabel scope env } x.1 = some .local := fun x hx hl => lookup_relabel_local (hnames x (List.mem_filter.mp (List.mem_reverse.mp hx)).1 hl)
  have hv' : ∀ x ∈ (scope.names.filter fun x => (x.2 == .local || x.2 == .cell) && x.1 != (".0" : Str)).reverse.drop 1 ++ (scope.names.filter fun x => (x.2 == .local || x.2 == .cell) && x.1 != (".0" : Str)).reverse.take 1,
      x.2 = .local → Env.kindOf { cenv with scope := relabel scope env } x.1 = some .local := fun x hx hl => by
    rcases List.mem_append.mp hx with h1 | h1
    · exact hv x (List.mem_of_mem_drop h1) hl
    · exact hv x (List.mem_of_mem_take h1) hl
  refine wpI_holding (wpI_bind (wpI_attempt (wpI_holding (wpI_run rfl (codeI_mono h₄ fun r s' hr => ?_)))))
  cases r with
  | ok f =>
    cases use with
    | none =>
      obtain ⟨m, hn, hr⟩ := hr
      exact wpI_bind (wpI_holding (wpI_any (wpAny_comp_letGo (cenv := { cenv with scope := relabel scope env }) hkind _ s' m hv hn fun h' m' _ hs' => wpI_pure (hr h' hs'))))
    | some u =>
      refine wpI_bind (wpI_any (wpAny_rule (wpI_bind (wpI_holding (wpI_mono hr (fun _ s'' hr' => ?_) fun _ _ h' => h')))))
      obtain ⟨m, hn, hr'⟩ := hr'
      exact wpI_bind (wpI_any (wpAny_comp_letGo (cenv := { cenv with scope := relabel scope env }) hkind _ s'' m hv' hn fun h' m' _ hs' => wpI_pure (hr' h' hs')))
  | error x => cases use <;> exact hr.elim

def compEnvG (scope : Scope) (cl : List (Str × Addr)) (L : Addr) (env : Env) : Env :=
  { scope := relabel scope env, locals := L, globals := env.globals, cells := cellsFrom (L + 1) scope.names cl, qual := env.qual, func := none, code := env.code, frame := env.frame, builtins := env.builtins }
theorem wp_compEnv {scope : Scope} {cl : List (Str × Addr)} {Q : Env → Shared → Prop} {E : Value → Shared → Prop}
    (h : ∀ cenv, ({ cenv with scope := relabel scope env } : Env) = compEnvG scope cl s.heap.objs.size env → cenv.locals = s.heap.objs.size → Q cenv { s with heap := pushCells (s.heap.push { cls := .type "dict", data := .dict #[] }) scope.names }) :
    wpAny M A (newFunctionEnv scope env.globals cl [] env.qual none .none (some env)) Q E s := by
  simp only [newFunctionEnv, Option.isSome_some, if_true]
  refine wpAny_bind (wpAny_alloc ?_)
  refine wpAny_bind (wpAny_layCells _ (fun name kind cells => by cases hkc : kind == NameKind.cell <;> simp [hkc]) _ _ _ _ ?_)
  rw [show ({ s with heap := s.heap.push { cls := .type "dict", data := .dict #[] } } : Shared).heap.objs.size = s.heap.objs.size + 1 from Heap.size_push ..]
  rw [List.forIn_nil]
  exact wpAny_bind (wpAny_pure (wpAny_pure (h _ rfl rfl)))
end

section
variable {prog : Program} {w : World} {A : Around} {s : Shared} {R : Result → Shared → Prop}
theorem codeI_compStart {elt target iter : Expr} {ifs : List Expr} {gens : List Comprehension} {scope : Scope} {pos : Pos} {it acc : Value} {env : Env} {depth : Nat} (hg : gens[depth]? = some ⟨target, iter, ifs, 0⟩)
    (hit : ∀ Q : Value → Shared → Prop, Q it s → wpAny (model prog w) A (pyIter it) Q (fun _ _ => False) s)
    (h0 : codeI (model prog w) A (.compLoop (.ListComp elt gens scope pos) depth it acc env) R s) :
    codeI (model prog w) A (.compStart (.ListComp elt gens scope pos) depth it acc env) R s := by
  refine codeI_of_tree ?_
  show wpI _ A ((compStart (.ListComp elt gens scope pos) depth it acc env).onRaise (fun x => do noteFrame x env; standAt theWindowsPlace)) _ _ s
  refine wpI_onRaise' ?_
  unfold compStart
  have hcl : (clausesOf (.ListComp elt gens scope pos))[depth]? = some ⟨target, iter, ifs, 0⟩ := hg
  rw [hcl]
  refine wpI_ite_false rfl ?_
  refine wpI_bind (wpI_any (wpAny_askSetting ?_))
  split
  · first
      | exact wpI_bind (wpI_pure (wpI_pure ⟨rfl, rfl, h0⟩))
      | exact wpI_pure ⟨rfl, rfl, h0⟩
  · refine wpI_bind (wpI_any (wpAny_rule ?_))
    refine wpI_bind (wpI_standAt ?_)
    exact wpI_bind (wpI_any (hit _ (wpI_pure ⟨rfl, rfl, h0⟩)))
/-- the tests of a for clause -/
def testsOf (ifs : List Expr) (env : Env) : Sem Bool := forIn ifs true fun c r => if r = true then do let ok ← isTrue c env (eval c env); pure (ForInStep.yield ok) else pure (ForInStep.yield r)
theorem codeI_compLoop {elt target : Expr} {ifs : List Expr} {gens : List Comprehension} {scope : Scope} {pos ipos : Pos} {it acc : Value} {env : Env} {depth : Nat} {inner : Sem Fin} (I : Nat → Shared → Prop)
    (hT : compTurn (.ListComp elt gens scope pos) depth it acc env = (standAt ipos >>= fun _ => pyNext it >>= fun r => match r with
      | none => pure (.done .next)
      | some v => letOwnedTupleGo target it v >>= fun _ => assign target env v >>= fun _ => testsOf ifs env >>= fun ok => if ok = true then inner else again (.compLoop (.ListComp elt gens scope pos) depth it acc env)))
    (turn : ∀ n s, I n s → wpI (model prog w) A (pyNext it) (fun r s₁ => match r with
      | none => R (.ok .next) s₁
      | some v => wpI (model prog w) A (letOwnedTupleGo target it v) (fun _ s₁' =>
          wpI (model prog w) A (assign target env v) (fun _ s₂ => wpI (model prog w) A (testsOf ifs env) (fun ok s₃ =>
            if ok = true then wpI (model prog w) A inner (fun fin s₄ => fin = .again (.compLoop (.ListComp elt gens scope pos) depth it acc env) ∧ ∃ m, m < n ∧ I m s₄) (fun _ _ => False) s₃ else ∃ m, m < n ∧ I m s₃) (fun _ _ => False) s₂) (fun _ _ => False) s₁') (fun _ _ => False) s₁) (fun _ _ => False) s)
    (n : Nat) (h : I n s) : codeI (model prog w) A (.compLoop (.ListComp elt gens scope pos) depth it acc env) R s := by
  refine codeI_loop rfl rfl I (fun n s hI => ?_) n h
  show wpI _ A ((compTurn (.ListComp elt gens scope pos) depth it acc env).onRaise (fun x => do noteFrame x env; theTreesLotGoes x)) _ _ s
  refine wpI_onRaise' ?_
  rw [hT]
  refine wpI_stand (wpI_seq (turn n s hI) fun r s₁ h₁ => ?_)
  cases r with
  | none => exact wpI_pure h₁
  | some v =>
    refine wpI_seq h₁ fun _ s₁' h₁' => wpI_seq h₁' fun _ s₂ h₂ => wpI_seq h₂ fun ok s₃ h₃ => ?_
    cases ok with
    | false => exact wpI_pure (.inl ⟨rfl, h₃⟩)
    | true => exact wpI_mono h₃ (fun fin s₄ h₄ => by obtain ⟨rfl, h₄⟩ := h₄; exact .inl ⟨rfl, h₄⟩) fun _ _ f => f.elim
theorem turn_one (elt target iter : Expr) (ifs : List Expr) (scope : Scope) (pos : Pos) (it acc : Value) (env : Env) :
    compTurn (.ListComp elt [⟨target, iter, ifs, 0⟩] scope pos) 0 it acc env = (standAt iter.pos >>= fun _ => pyNext it >>= fun r => match r with
      | none => pure (.done .next)
      | some v => letOwnedTupleGo target it v >>= fun _ => assign target env v >>= fun _ => testsOf ifs env >>= fun ok => if ok = true then (do let _ ← call (.builtin "list.append") [acc, ← eval elt env]) >>= fun _ => again (.compLoop (.ListComp elt [⟨target, iter, ifs, 0⟩] scope pos) 0 it acc env)
          else again (.compLoop (.ListComp elt [⟨target, iter, ifs, 0⟩] scope pos) 0 it acc env)) := by rfl
theorem turn_two0 (elt target iter target' iter' : Expr) (ifs ifs' : List Expr) (scope : Scope) (pos : Pos) (it acc : Value) (env : Env) :
    compTurn (.ListComp elt [⟨target, iter, ifs, 0⟩, ⟨target', iter', ifs', 0⟩] scope pos) 0 it acc env = (standAt iter.pos >>= fun _ => pyNext it >>= fun r => match r with
      | none => pure (.done .next)
      | some v => letOwnedTupleGo target it v >>= fun _ => assign target env v >>= fun _ => testsOf ifs env >>= fun ok => if ok = true then (do
            let x ← eval iter' env
            standAt iter'.pos
            let x ← foldedSetIterable iter' env x
            let _ ← runOwn (.compStart (.ListComp elt [⟨target, iter, ifs, 0⟩, ⟨target', iter', ifs', 0⟩] scope pos) 1 (← holding [x] (pyIter x)) acc env) env
            again (.compLoop (.ListComp elt [⟨target, iter, ifs, 0⟩, ⟨target', iter', ifs', 0⟩] scope pos) 0 it acc env))
          else again (.compLoop (.ListComp elt [⟨target, iter, ifs, 0⟩, ⟨target', iter', ifs', 0⟩] scope pos) 0 it acc env)) := by rfl
theorem turn_two1 (elt target iter target' iter' : Expr) (ifs ifs' : List Expr) (scope : Scope) (pos : Pos) (it acc : Value) (env : Env) :
    compTurn (.ListComp elt [⟨target, iter, ifs, 0⟩, ⟨target', iter', ifs', 0⟩] scope pos) 1 it acc env = (standAt iter'.pos >>= fun _ => pyNext it >>= fun r => match r with
      | none => pure (.done .next)
      | some v => letOwnedTupleGo target' it v >>= fun _ => assign target' env v >>= fun _ => testsOf ifs' env >>= fun ok => if ok = true then (do let _ ← call (.builtin "list.append") [acc, ← eval elt env]) >>= fun _ => again (.compLoop (.ListComp elt [⟨target, iter, ifs, 0⟩, ⟨target', iter', ifs', 0⟩] scope pos) 1 it acc env)
          else again (.compLoop (.ListComp elt [⟨target, iter, ifs, 0⟩, ⟨target', iter', ifs', 0⟩] scope pos) 1 it acc env)) := by rfl
end
end Mine
end

section
set_option maxRecDepth 100000
set_option autoImplicit false
set_option linter.unusedVariables false
namespace Mine
open PySem PySem.Calls PyProof.Rows
open PySem.W (Dat)

/-- a frame that fills a list which no name bears -/
structure Acc (C : Cx) (Pr : Addr → Obj → Prop) (X : Addr → Prop) (env : Env) (ρ : Rho) (a : Addr) (acc : List D) (s : Shared) : Prop where
  st : St C Pr (Plus X a) env ρ s
  noPr : ∀ o, ¬ Pr a o
  noVar : ∀ x b, ρ.lookup x = some b → b.at? ≠ some a
  lst : ∃ vs : List Value, s.heap.PlainList a vs.toArray ∧ Reps (Plus X a) s.heap vs acc
section
variable {n : Nat} {C : Cx} {A : Around} {Pr : Addr → Obj → Prop} {X : Addr → Prop} {env : Env} {ρ : Rho} {s s' : Shared}
theorem Acc.keeps {a : Addr} {acc : List D} (S : Acc C Pr X env ρ a acc s) (k : Kp s s') : Acc C Pr X env ρ a acc s' :=
  ⟨S.st.keeps k, S.noPr, S.noVar, let ⟨vs, ⟨m, h1⟩, h2⟩ := S.lst; ⟨vs, ⟨m, k.gr _ _ h1⟩, h2.gr k.gr⟩⟩
theorem St.touch {a : Addr} {h' : Heap} {oa : Obj} (S : St C Pr X env ρ s) (hs : Heap.SameBut a s.heap h') (hno : ∀ o, ¬ Pr a o) (hXa : X a) (hoa : h'.get? a = some oa) (hsq : ∃ o, s.heap.get? a = some o ∧ Sq o) (hv : ∀ x b, ρ.lookup x = some b → b.at? ≠ some a) :
    St C Pr X env ρ { s with heap := h' } := by
  obtain ⟨o₀, ho₀, hsq₀⟩ := hsq
  obtain ⟨m, hm⟩ := S.ns
  obtain ⟨oL, es, ep, hoL, hdL, _⟩ := id hm
  have hLa : env.locals ≠ a := fun q => by
    rw [q, ho₀] at hoL; cases hoL
    rcases hsq₀ with ⟨xs, k, hd⟩ | ⟨bb, hd⟩ <;> (rw [hdL] at hd; cases hd)
  have hCa : ∀ c v, s.heap.IsCell c v → c ≠ a := fun c v hc q => by
    obtain ⟨oc, hoc, hdc⟩ := hc
    rw [q, ho₀] at hoc; cases hoc
    rcases hsq₀ with ⟨xs, k, hd⟩ | ⟨bb, hd⟩ <;> (rw [hdc] at hd; cases hd)
  have e0 : ({ s with heap := h' } : Shared) = { s with heap := h', toks := s.toks } := rfl
  refine ⟨⟨S.rd.ok, S.rd.eok, e0 ▸ base_same S hs hno, fun y c e => ?_, xs_same S hs hoa⟩, S.basePr, fun b o e => (hs.2 b fun q => hno o (q ▸ e)).trans (S.keep b o e), ⟨m, hm.sameBut hs hLa⟩, fun y c e => ?_, S.cellsApart, S.freeL, S.freeC, S.own, S.apart, S.isVar⟩
  · obtain ⟨w, hw, hr⟩ := S.rd.vars y c e
    refine ⟨w, ?_, ?_⟩
    · rcases hw with ⟨hky, m', hm', hmy⟩ | ⟨hky, cc, hcc, hcv⟩
      · exact .inl ⟨hky, _, hm'.sameBut hs hLa, hmy⟩
      · exact .inr ⟨hky, cc, hcc, hcv.sameBut hs (hCa _ _ hcv)⟩
    · have pr : Pres X s.heap h' := fun b o hb e _ => (hs.2 b fun q => hb (q ▸ hXa)).trans e
      cases c with
      | v d => exact Rep.pres pr hr
      | ml a' ds' =>
        obtain ⟨g1, g2, vs, ⟨k, g3⟩, g4⟩ := hr
        exact ⟨g1, g2, vs, ⟨k, (hs.2 a' fun q => hv y _ e (by rw [q]; rfl)).trans g3⟩, g4.pres pr⟩
      | mb a' b' =>
        obtain ⟨g1, g2, g3⟩ := hr
        exact ⟨g1, g2, (hs.2 a' fun q => hv y _ e (by rw [q]; rfl)).trans g3⟩
      | ty T => exact hr
      | sl lo hi st => exact absurd (S.isVar y _ e) (by simp [B.isVar])
  · obtain ⟨w, hw⟩ := S.cells y c e
    exact ⟨w, hw.sameBut hs (hCa _ _ hw)⟩
def Emit (C : Cx) (A : Around) (X : Addr → Prop) (env : Env) (ρ : Rho) (m : Sem Fin) (c : Code) (a : Addr) (out : List D) : Prop :=
  ∀ Pr acc s, Acc C Pr X env ρ a acc s → acc.length + out.length ≤ sizeLine → wpI C.M A m (fun fin s' => fin = .again c ∧ Acc C Pr X env ρ a (acc ++ out) s') (fun _ _ => False) s
theorem emit_elt {elt : Expr} {a : Addr} {c : Code} {d : D} (hA : Room n A) (h : Ev n C (Plus X a) env ρ elt (.v d)) : Emit C A X env ρ ((do let _ ← call (.builtin "list.append") [.ref a, ← eval elt env]) >>= fun _ => again c) c a [d] := fun Pr acc s S hz => by
  refine wpI_seq (Q' := fun _ s' => Acc C Pr X env ρ a (acc ++ [d]) s') (wpI_bind (h.use hA S.st.rd fun v s1 k1 r1 p1 => ?_)) fun _ s' h' => wpI_pure ⟨rfl, h'⟩
  have S1 := S.keeps k1
  obtain ⟨vs, hl, hr⟩ := S1.lst
  refine wpI_bind (wpI_any (wpAny_list_append_plain (hsz := by simp only [List.size_toArray, hr.length]; simp at hz; omega) hl fun h' hl' hs' => wpI_pure ?_))
  obtain ⟨m, hm⟩ := hl
  obtain ⟨m', hm'⟩ := id hl'
  refine ⟨S1.st.touch hs' S1.noPr (.inl rfl) hm' ⟨_, hm, .inl ⟨_, _, rfl⟩⟩ S1.noVar, S1.noPr, S1.noVar, vs ++ [v], by simpa using hl', ?_⟩
  exact (hr.presX (.inl rfl) hs').append (.one (Rep.presX p1 (.inl rfl) hs'))
def Tests (n : Nat) (C : Cx) (X : Addr → Prop) (env : Env) (ρ : Rho) : List Expr → Bool → Prop
  | [], c => c = true
  | [e], c => Tr n C X env ρ e c
  | _, _ => False
theorem Tests.use {ifs : List Expr} {c : Bool} {Q : Bool → Shared → Prop} {E : Value → Shared → Prop} (h : Tests n C X env ρ ifs c) (hA : Room n A) (hs : Rd C X env ρ s) (k : ∀ s', Kp s s' → Rd C X env ρ s' → Q c s') : wpI C.M A (testsOf ifs env) Q E s := by
  match ifs, h with
  | [], h => cases h; exact wpI_pure (k s (keeps_refl s) hs)
  | [e], h =>
    unfold testsOf
    simp only [List.forIn_cons, List.forIn_nil, if_true]
    exact wpI_bind (wpI_bind (Tr.use h hA hs fun s' k' r' => wpI_pure (wpI_pure (k s' k' r'))))
theorem lookup_app {x : Str} {xs ρ : Rho} : (xs ++ ρ).lookup x = (xs.lookup x).or (ρ.lookup x) := by
  induction xs with
  | nil => rfl
  | cons p xs ih =>
    obtain ⟨y, b⟩ := p
    simp only [List.cons_append, List.lookup_cons]
    cases x == y <;> simp [ih]
theorem comp_loop {α : Type} {l : List α} {φ : α → D} {c : α → Bool} {g : α → List D} {x : Str} {px : Pos} {ifs : List Expr} {gens : List Comprehension} {elt : Expr} {scope : Scope} {pos ipos : Pos} {depth : Nat} {inner : Sem Fin} {P : Nat → Value → Prop} {fp : List Addr} {J : Nat → Heap → Prop} {I a : Addr} {acc : List D} {R : Result → Shared → Prop}
    (hA : Room n A) (T : Itr C (Plus X a) I (l.map φ) s P fp J) (S0 : Acc C Pr X env ρ a acc s) (hIPr : ∀ o, ¬ Pr I o) (hIX : ¬ Plus X a I)
    (hx : CanStore env x) (hxf : ρ.lookup x = none)
    (ht : ∀ y ∈ l, Tests n C (Plus X a) env ((x, .v (φ y)) :: ρ) ifs (c y))
    (he : ∀ y ∈ l, c y = true → Emit C A X env ((x, .v (φ y)) :: ρ) inner (.compLoop (.ListComp elt gens scope pos) depth (.ref I) (.ref a) env) a (g y))
    (hz : acc.length + (l.flatMap fun y => if c y then g y else []).length ≤ sizeLine)
    (hT : compTurn (.ListComp elt gens scope pos) depth (.ref I) (.ref a) env = (standAt ipos >>= fun _ => pyNext (.ref I) >>= fun r => match r with
      | none => pure (.done .next)
      | some v => letOwnedTupleGo (.Name x px) (.ref I) v >>= fun _ => assign (.Name x px) env v >>= fun _ => testsOf ifs env >>= fun ok => if ok = true then inner else again (.compLoop (.ListComp elt gens scope pos) depth (.ref I) (.ref a) env)))
    (fin : ∀ s', Acc C Pr X env ρ a (acc ++ l.flatMap fun y => if c y then g y else []) s' → R (.ok .next) s') :
    codeI C.M A (.compLoop (.ListComp elt gens scope pos) depth (.ref I) (.ref a) env) R s := by
  obtain ⟨Ty, hTy, hkind⟩ := T.kind
  obtain ⟨oI, hoI, _, hdI⟩ := hkind 0 _ T.start
  have S2 := S0.st
  have hPI : ∀ o, ¬ Hold Pr (Plus X a) env s.heap (some I) I o := fun o e => e.elim (hIPr o) fun e => e.2.1 rfl
  have hPa : ∀ o, ¬ Hold Pr (Plus X a) env s.heap (some I) a o := fun o e => e.elim (S0.noPr o) fun e => e.2.2.1 (.inl rfl)
  have W := T.walks A hA.handled
  have hlen : (l.map φ).length = l.length := by simp
  have haI : a ≠ I := fun q => hIX (.inl q.symm)
  have hfields : ∀ b, some I = some b → ∃ o, s.heap.get? b = some o ∧ ∃ vs, o.data = .fields vs := fun b e => by cases e; exact ⟨oI, hoI, hdI⟩
  have out_take : ∀ i (hi : i < l.length), (l.take (i + 1)).flatMap (fun y => if c y then g y else []) = (l.take i).flatMap (fun y => if c y then g y else []) ++ (if c l[i] then g l[i] else []) := fun i hi => by
    rw [List.take_succ_eq_append_getElem hi, List.flatMap_append]; simp
  have out_le : ∀ i, ((l.take i).flatMap (fun y => if c y then g y else [])).length ≤ (l.flatMap (fun y => if c y then g y else [])).length := fun i => by
    conv => rhs; rw [← List.take_append_drop i l]
    rw [List.flatMap_append, List.length_append]; omega
  refine codeI_compLoop (fun k s' => ∃ i, i + k = l.length ∧ J i s'.heap ∧ Acc C (Hold Pr (Plus X a) env s.heap (some I)) X env ρ a (acc ++ (l.take i).flatMap fun y => if c y then g y else []) s') hT (fun k s' hk => ?_) l.length
    ⟨0, by omega, T.start, S2.hold (some I), hPa, S0.noVar, by simpa using S0.lst⟩
  obtain ⟨i, hik, hJ, S'⟩ := hk
  obtain ⟨oI', hoI', hcI', hdI'⟩ := hkind i _ hJ
  obtain ⟨vs, ⟨ml, hl⟩, hrs⟩ := S'.lst
  cases k with
  | zero =>
    have hi : i = (l.map φ).length := by omega
    subst hi
    refine wpI_any (W.done s' _ _ hJ fun h' tk hk => ?_)
    have hk' : ∀ b o, b ≠ I → s'.heap.get? b = some o → h'.get? b = some o := fun b o hb e => hk b o (by simpa using hb) e
    have S3 := S'.st.iter (tk := tk) hPI ⟨oI', hoI', hdI'⟩ hIX hk'
    refine fin _ ⟨S3.prLess (fun b o => .inl) S0.st.basePr, S0.noPr, S0.noVar, vs, ⟨ml, hk' a _ haI hl⟩, ?_⟩
    have e : l.take (l.map φ).length = l := by rw [hlen]; exact List.take_length
    rw [e] at hrs
    refine hrs.pres fun b o hb e hq => hk' b o (fun q => ?_) e
    rw [q, hoI'] at e; cases e
    obtain ⟨xs, k, hd⟩ := hq
    obtain ⟨fs, hf⟩ := hdI'
    rw [hf] at hd; cases hd
  | succ k =>
    have hi : i < l.length := by omega
    refine wpI_any (W.item i s' _ _ (by omega) hJ fun v h' tk hv hJ' hk => ?_)
    have hk' : ∀ b o, b ≠ I → s'.heap.get? b = some o → h'.get? b = some o := fun b o hb e => hk b o (by simpa using hb) e
    have S3 := S'.st.iter (tk := tk) hPI ⟨oI', hoI', hdI'⟩ hIX hk'
    obtain ⟨d, hd, hr⟩ := T.items i v h' hv (S3.held S2.ns S2.cells hfields)
    rw [List.getElem?_map, List.getElem?_eq_getElem hi] at hd
    cases hd
    obtain ⟨oI3, hoI3, hcI3, hdI3⟩ := hkind (i + 1) _ hJ'
    have hl3 := hk' a _ haI hl
    have hrs3 : Reps (Plus X a) h' vs (acc ++ (l.take i).flatMap fun y => if c y then g y else []) := hrs.pres fun b o hb e hq => hk' b o (fun q => by
      rw [q, hoI'] at e; cases e
      obtain ⟨xs, k, hd⟩ := hq
      obtain ⟨fs, hf⟩ := hdI'
      rw [hf] at hd; cases hd) e
    have S4 : St C (fun b o => Hold Pr (Plus X a) env s.heap (some I) b o ∨ (b = I ∧ o = oI3)) (Plus X a) env ρ { s' with heap := h', toks := tk } := by
      have hLI : env.locals ≠ I := fun q => by
        obtain ⟨m, o, es, ep, ho, hd, _⟩ := S3.ns
        rw [q] at ho
        have := ho.symm.trans hoI3
        cases this
        obtain ⟨fs, hd3⟩ := hdI3
        rw [hd3] at hd; cases hd
      refine S3.prMore (fun b o e => .inl (.inl (S0.st.basePr b o e))) (fun b o e => e.elim (S3.keep b o) fun e => by obtain ⟨rfl, rfl⟩ := e; exact hoI3) (fun o e => e.elim (S3.freeL o) fun e => hLI e.1) (fun x c o e l f => f.elim (S3.freeC x c o e l) fun f => ?_) fun x b a o e f g => g.elim (S3.own x b a o e f) fun g => hIX (g.1 ▸ (let ⟨v, _, r⟩ := S3.rd.vars x b e; r.at_X f))
      obtain ⟨v, oc, hoc, hdc⟩ := S3.cells x c e
      rw [f.1] at hoc
      have := hoc.symm.trans hoI3
      cases this
      obtain ⟨fs, hd3⟩ := hdI3
      rw [hd3] at hdc; cases hdc
    have S4h := S4.hold none
    have hLa : env.locals ≠ a := fun q => by
      obtain ⟨m, o, es, ep, ho, hd, _⟩ := S3.ns
      rw [q] at ho
      have := ho.symm.trans hl3
      cases this; cases hd
    have hCa : ∀ x c, env.cells.lookup x = some c → c ≠ a := fun x c e q => by
      obtain ⟨v, oc, hoc, hdc⟩ := S3.cells x c e
      rw [q] at hoc
      have := hoc.symm.trans hl3
      cases this; cases hdc
    have S5 : St C (fun b o => Hold (fun b o => Hold Pr (Plus X a) env s.heap (some I) b o ∨ (b = I ∧ o = oI3)) (Plus X a) env h' none b o ∨ (b = a ∧ o = { cls := .type "list", data := .seq vs.toArray ml })) (Plus X a) env ρ { s' with heap := h', toks := tk } :=
      S4h.prMore (fun b o e => .inl (S4h.basePr b o e)) (fun b o e => e.elim (S4h.keep b o) fun e => by obtain ⟨rfl, rfl⟩ := e; exact hl3) (fun o e => e.elim (S4h.freeL o) fun e => hLa e.1) (fun x c o e l f => f.elim (S4h.freeC x c o e l) fun f => hCa x c e f.1) fun x b a' o e f g => g.elim (S4h.own x b a' o e f) fun g => S0.noVar x b e (by rw [f, g.1])
    refine wpI_any (wpAny_mono (bnd_name (C := C) (A := A) (px := px) hx _ _ _ _ v I (fun _ s5 => wpI C.M A (testsOf ifs env) _ (fun _ _ => False) s5) S5 hr ⟨Ty, oI3, hTy, hoI3, hcI3, hdI3⟩ fun s6 S6 => ?_) (fun _ _ h => wpI_any h) fun _ _ f => f)
    have hmem : l[i] ∈ l := List.getElem_mem hi
    have hPa4 : ∀ o, ¬ (Hold Pr (Plus X a) env s.heap (some I) a o ∨ (a = I ∧ o = oI3)) := fun o e => e.elim (hPa o) fun e => haI e.1
    have A6 : Acc C (fun b o => Hold Pr (Plus X a) env s.heap (some I) b o ∨ (b = I ∧ o = oI3)) X env ((x, .v (φ l[i])) :: ρ) a (acc ++ (l.take i).flatMap fun y => if c y then g y else []) s6 := by
      refine ⟨S6.prLess (fun b o e => .inl (.inl e)) S4.basePr, hPa4, fun y b e => ?_, vs, ⟨ml, S6.keep a _ (.inr ⟨rfl, rfl⟩)⟩, ?_⟩
      · rw [List.lookup_cons] at e
        split at e
        · cases e; intro q; cases q
        · exact S0.noVar y b e
      · exact hrs3.pres ((S6.prLess (Pr := Hold (fun b o => Hold Pr (Plus X a) env s.heap (some I) b o ∨ (b = I ∧ o = oI3)) (Plus X a) env h' none) (fun b o e => .inl e) S4h.basePr).held S4.ns S4.cells)
    have hnext : ∀ s7 out, Acc C (fun b o => Hold Pr (Plus X a) env s.heap (some I) b o ∨ (b = I ∧ o = oI3)) X env ((x, .v (φ l[i])) :: ρ) a (acc ++ ((l.take i).flatMap fun y => if c y then g y else []) ++ out) s7 → out = (if c l[i] then g l[i] else []) →
        ∃ m, m < k + 1 ∧ ∃ i, i + m = l.length ∧ J i s7.heap ∧ Acc C (Hold Pr (Plus X a) env s.heap (some I)) X env ρ a (acc ++ (l.take i).flatMap fun y => if c y then g y else []) s7 := fun s7 out S7 hout => by
      have S7' := S7.st.prLess (Pr := Hold Pr (Plus X a) env s.heap (some I)) (fun b o => .inl) fun b o e => .inl (S0.st.basePr b o e)
      refine ⟨k, by omega, i + 1, by omega, W.frame (i + 1) _ _ hJ' fun b hb o e => ?_, S7'.weaken fun y b e => ?_, hPa, S0.noVar, ?_⟩
      · by_cases q : b = I
        · subst q
          have := e.symm.trans hoI3
          cases this
          exact S7.st.keep b oI3 (.inr ⟨rfl, rfl⟩)
        · obtain ⟨hXb, ob, hob, hsq⟩ := T.foot b hb q
          have h1 := S3.held S2.ns S2.cells hfields b ob hXb hob hsq
          have := e.symm.trans h1
          cases this
          exact S7'.held S2.ns S2.cells hfields b _ hXb hob hsq
      · rw [List.lookup_cons]
        have : (y == x) = false := by
          cases q : y == x with
          | false => rfl
          | true => rw [beq_iff_eq.mp q, hxf] at e; cases e
        rw [this]; exact e
      · rw [out_take i hi, ← List.append_assoc, ← hout]
        exact S7.lst
    refine (ht _ hmem).use hA A6.st.rd fun s7 k7 r7 => ?_
    have A7 := A6.keeps k7
    cases hc : c l[i] with
    | false =>
      rw [if_neg (by simp)]
      refine hnext s7 [] ⟨A7.st, A7.noPr, A7.noVar, ?_⟩ (by rw [hc]; rfl)
      simpa using A7.lst
    | true =>
      rw [if_pos rfl]
      have hzi : (acc ++ (l.take i).flatMap fun y => if c y then g y else []).length + (g l[i]).length ≤ sizeLine := by
        have h1 := out_le (i + 1)
        rw [out_take i hi, hc] at h1
        simp only [if_true, List.length_append] at h1
        rw [List.length_append]
        omega
      refine wpI_mono (he _ hmem hc _ _ _ A7 hzi) (fun fin s8 h8 => ⟨h8.1, hnext s8 _ h8.2 (by rw [hc]; rfl)⟩) fun _ _ f => f
end
end Mine
end

section
set_option maxRecDepth 100000
set_option autoImplicit false
set_option linter.unusedVariables false
namespace Mine
open PySem PySem.Calls PyProof.Rows
open PySem.W (Dat)

/-- the cells that a block takes along are those of names that are bound -/
def ClOk (env : Env) (ρ : Rho) : List (Str × Addr) → Prop
  | [] => True
  | (x, c) :: r => (∃ b, ρ.lookup x = some b) ∧ env.cells.lookup x = some c ∧ (env.kindOf x = some .cell ∨ env.kindOf x = some .free) ∧ ClOk env ρ r
/-- what a block sees of the names around it -/
def FreeOk (env cenv : Env) (ρ : Rho) : Rho → Prop
  | [] => True
  | (x, b) :: r => ρ.lookup x = some b ∧ (∃ d, b = .v d) ∧ (env.kindOf x = some .cell ∨ env.kindOf x = some .free) ∧ (cenv.kindOf x = some .cell ∨ cenv.kindOf x = some .free) ∧ cenv.cells.lookup x = env.cells.lookup x ∧ FreeOk env cenv ρ r
theorem ClOk.at {env : Env} {ρ : Rho} : ∀ {cl : List (Str × Addr)}, ClOk env ρ cl → ∀ {x : Str} {c : Addr}, (x, c) ∈ cl → (∃ b, ρ.lookup x = some b) ∧ env.cells.lookup x = some c ∧ (env.kindOf x = some .cell ∨ env.kindOf x = some .free)
  | [], _, _, _, h => by cases h
  | (y, d) :: r, h, x, c, hm => by
    rcases List.mem_cons.mp hm with e | hm
    · cases e; exact ⟨h.1, h.2.1, h.2.2.1⟩
    · exact ClOk.at h.2.2.2 hm
theorem FreeOk.at {env cenv : Env} {ρ : Rho} : ∀ {ρf : Rho}, FreeOk env cenv ρ ρf → ∀ {x : Str} {b : B}, ρf.lookup x = some b →
    ρ.lookup x = some b ∧ (∃ d, b = .v d) ∧ (env.kindOf x = some .cell ∨ env.kindOf x = some .free) ∧ (cenv.kindOf x = some .cell ∨ cenv.kindOf x = some .free) ∧ cenv.cells.lookup x = env.cells.lookup x
  | [], _, _, _, h => by cases h
  | (y, d) :: r, h, x, b, hm => by
    rw [List.lookup_cons] at hm
    cases q : x == y with
    | true => rw [q] at hm; cases hm; have := beq_iff_eq.mp q; subst this; exact ⟨h.1, h.2.1, h.2.2.1, h.2.2.2.1, h.2.2.2.2.1⟩
    | false => rw [q] at hm; exact FreeOk.at h.2.2.2.2.2 hm
theorem cells_split : ∀ {names : List (Str × NameKind)} {n : Nat} {acc : List (Str × Addr)} {x : Str} {c : Addr}, (x, c) ∈ cellsFrom n names acc → (x, c) ∈ acc ∨ n ≤ c
  | [], _, _, _, _, h => .inl h
  | (y, kind) :: r, n, acc, x, c, h => by
    unfold cellsFrom at h
    split at h
    · rcases cells_split h with h | h
      · rcases List.mem_cons.mp h with e | h
        · cases e; exact .inr (Nat.le_refl _)
        · exact .inl h
      · exact .inr (by omega)
    · exact cells_split h
theorem cells_own : ∀ {names : List (Str × NameKind)} {h : Heap} {acc : List (Str × Addr)} {x : Str} {c : Addr}, (x, c) ∈ cellsFrom h.objs.size names acc → (x, c) ∈ acc ∨ (pushCells h names).IsCell c none
  | [], _, _, _, _, h => .inl h
  | (y, kind) :: r, h, acc, x, c, hm => by
    unfold cellsFrom at hm
    unfold pushCells
    split at hm
    · rename_i hk
      rw [if_pos hk]
      have : h.objs.size + 1 = (h.push { cls := .type "cell", data := .cell none }).objs.size := (Heap.size_push ..).symm
      rw [this] at hm
      rcases cells_own hm with hm | hm
      · rcases List.mem_cons.mp hm with e | hm
        · cases e; exact .inr (Heap.IsCell.keeps (h := h.push { cls := .type "cell", data := .cell none }) ⟨_, Heap.get?_push_size _ rfl, rfl⟩ (pushCells_keeps r _))
        · exact .inl hm
      · exact .inr hm
    · rename_i hk
      rw [if_neg hk]
      exact cells_own hm
theorem cells_apart : ∀ {names : List (Str × NameKind)} {n : Nat} {acc : List (Str × Addr)} {L : Nat}, (∀ x c, (x, c) ∈ acc → c < n) → (∀ x y c, (x, c) ∈ acc → (y, c) ∈ acc → L < c → x = y) → ∀ x y c, (x, c) ∈ cellsFrom n names acc → (y, c) ∈ cellsFrom n names acc → L < c → x = y
  | [], _, _, _, _, h => h
  | (z, kind) :: r, n, acc, L, hlt, h => by
    unfold cellsFrom
    split
    · refine cells_apart (fun x c hm => ?_) fun x y c hx hy hL => ?_
      · rcases List.mem_cons.mp hm with e | hm
        · cases e; exact Nat.lt_succ_self _
        · exact Nat.lt_succ_of_lt (hlt x c hm)
      · rcases List.mem_cons.mp hx with e | hx <;> rcases List.mem_cons.mp hy with f | hy
        · cases e; cases f; rfl
        · cases e; exact absurd (hlt y _ hy) (Nat.lt_irrefl _)
        · cases f; exact absurd (hlt x _ hx) (Nat.lt_irrefl _)
        · exact h x y c hx hy hL
    · exact cells_apart hlt h
section
variable {n : Nat} {C : Cx} {A : Around} {Pr : Addr → Obj → Prop} {X : Addr → Prop} {env : Env} {ρ : Rho} {s s' : Shared} {rest : List Stmt} {Q : Flow → Shared → Prop}
theorem Itr.plus {I a : Addr} {ds : List D} {P : Nat → Value → Prop} {fp : List Addr} {J : Nat → Heap → Prop} (T : Itr C X I ds s P fp J) (k : Kp s s') (ha : s.heap.get? a = none) : Itr C (Plus X a) I ds s' P fp J where
  walks := T.walks
  start := (T.walks ⟨none, 0, none, none, 0⟩ rfl).frame 0 _ _ T.start fun b hb o e => k.gr b o e
  foot := fun b hb hne => by
    obtain ⟨h1, o, h2, h3⟩ := T.foot b hb hne
    exact ⟨fun hx => hx.elim (fun q => by rw [q, ha] at h2; cases h2) h1, o, k.gr b o h2, h3⟩
  items := fun i v h hv hp => by
    obtain ⟨d, hd, hr⟩ := T.items i v s.heap hv fun a o _ e _ => e
    exact ⟨d, hd, Rep.pres (fun b o hx e hq => hp b o hx (k.gr b o e) hq) (hr.plus ha)⟩
  kind := T.kind
  mine := T.mine
theorem ns_dict (h : Heap) : (h.push { cls := .type "dict", data := .dict #[] }).Ns h.objs.size fun _ => none := Heap.Ns.new h (.type "dict")
/-- how a comprehension runs: the list it fills, in the end -/
theorem comp_core {elt target iter : Expr} {ifs : List Expr} {gens : List Comprehension} {scope : Scope} {cl : List (Str × Addr)} {pos ppos : Pos} {ρf : Rho} {ds out : List D} {use : Option (Value → Sem Unit)} {Qv : Value → Shared → Prop} (hA : Room n A) (hs : Rd C X env ρ s)
    (hiter : ItEv n C X env ρ iter ds) (hclos : closureFor scope env = pure cl) (hkind : scope.kind = .function) (hnames : ∀ x ∈ scope.names, x.2 = .local → scope.names.lookup x.1 = some .local) (hcl : ClOk env ρ cl)
    (hfr : ∀ L, FreeOk env (compEnvG scope cl L env) ρ ρf) (hfold : ∀ x, foldedSetIterable iter env x = pure x)
    (hloop : ∀ Pr s4 L a I fp P J (R : Result → Shared → Prop), Itr C (Plus X a) I ds s4 P fp J → Acc C Pr X (compEnvG scope cl L env) ρf a [] s4 → (∀ o, ¬ Pr I o) → ¬ Plus X a I → (∀ s5, Acc C Pr X (compEnvG scope cl L env) ρf a out s5 → R (.ok .next) s5) →
      codeI C.M A (.compLoop (.ListComp elt (⟨target, iter, ifs, 0⟩ :: gens) scope pos) 0 (.ref I) (.ref a) (compEnvG scope cl L env)) R s4)
    (k : ∀ s5 L a vs m, Kp s s5 → s.heap.get? a = none → s.heap.get? L = none → s5.heap.Ns L m → s5.heap.PlainList a vs.toArray → Reps (Plus X a) s5.heap vs out → compPostI C.M A use Qv (.ref a) L (.ok .next) s5) :
    wpI C.M A (comprehension (.ListComp elt (⟨target, iter, ifs, 0⟩ :: gens) scope pos) scope env ppos (newList []) false (eval iter env) use) Qv (fun _ _ => False) s := by
  refine wpI_comprehension rfl hfold hclos hkind hnames (wpI_mono (hiter A s hA hs) (fun x s1 h1 => wpI_mono h1 (fun it s2 h2 => ?_) fun _ _ f => f) fun _ _ f => f)
  obtain ⟨k2, I, fp, P, J, rfl, hnew, T⟩ := h2
  refine wpI_any (wpAny_newObj_type ?_ (by show (0 : Nat) ≤ sizeLine; exact Nat.zero_le _))
  refine wpI_any (wp_compEnv fun cenv hcenv hL => ?_)
  rw [hcenv, hL]
  have ha2 : s2.heap.get? s2.heap.objs.size = none := get_size_none _
  have hsz3 : (s2.heap.push { cls := .type "list", data := .seq #[] }).objs.size = s2.heap.objs.size + 1 := Heap.size_push ..
  generalize hLdef : (s2.heap.push { cls := .type "list", data := .seq #[] }).objs.size = L at *
  have h9 : s2.heap.objs.size < L := by rw [hsz3]; exact Nat.lt_succ_self _
  have hsz4 : ((s2.heap.push { cls := .type "list", data := .seq #[] }).push { cls := .type "dict", data := .dict #[] }).objs.size = L + 1 := by rw [Heap.size_push, hLdef]
  have g4 : Gr s2.heap (pushCells ((s2.heap.push { cls := .type "list", data := .seq #[] }).push { cls := .type "dict", data := .dict #[] }) scope.names) := fun b o e => pushCells_keeps _ _ b o (Heap.get?_push_of_some _ (Heap.get?_push_of_some _ e))
  have k4 : Kp s2 { s2 with heap := pushCells ((s2.heap.push { cls := .type "list", data := .seq #[] }).push { cls := .type "dict", data := .dict #[] }) scope.names } := keeps_heap' g4
  have ks4 := keeps_trans k2 k4
  have r2 := hs.keeps k2
  have old : ∀ b o, s.heap.get? b = some o → b < s2.heap.objs.size := fun b o e => Heap.lt_size (k2.gr b o e)
  have hna : s.heap.get? s2.heap.objs.size = none := none_of_kp k2 ha2
  have hnL : s.heap.get? L = none := none_of_kp k2 (none_ge (by omega))
  have hXa : ¬ X s2.heap.objs.size := fun hx => by obtain ⟨o, e⟩ := hs.xs _ hx; rw [hna] at e; cases e
  have hXI : ¬ X I := fun hx => by obtain ⟨o, e⟩ := hs.xs _ hx; rw [hnew] at e; cases e
  obtain ⟨Ty, hTy, hkd⟩ := T.kind
  obtain ⟨oI, hoI, _, _⟩ := hkd 0 _ T.start
  have hIa : I ≠ s2.heap.objs.size := Nat.ne_of_lt (Heap.lt_size hoI)
  have hlist : (pushCells ((s2.heap.push { cls := .type "list", data := .seq #[] }).push { cls := .type "dict", data := .dict #[] }) scope.names).get? s2.heap.objs.size = some { cls := .type "list", data := .seq #[] } :=
    pushCells_keeps _ _ _ _ (Heap.get?_push_of_some _ (Heap.get?_push_size _ rfl))
  have hcl_old : ∀ x c, (x, c) ∈ cl → ∃ v, s.heap.IsCell c v := fun x c hm => by
    obtain ⟨⟨b, hb⟩, hc, hk⟩ := hcl.at hm
    obtain ⟨v, hv, _⟩ := hs.vars x b hb
    rcases hv with ⟨hl, _⟩ | ⟨_, c', hc', hv⟩
    · rcases hk with hk | hk <;> (rw [hl] at hk; cases hk)
    · rw [hc] at hc'; cases hc'; exact ⟨_, hv⟩
  have S4 : Acc C (fun b o => s.heap.get? b = some o) X (compEnvG scope cl L env) ρf s2.heap.objs.size [] { s2 with heap := pushCells ((s2.heap.push { cls := .type "list", data := .seq #[] }).push { cls := .type "dict", data := .dict #[] }) scope.names } := by
    refine ⟨⟨⟨hs.ok, ⟨hkind, hs.eok.glob, hs.eok.blt⟩, keeps_trans hs.base ks4, fun x b e => ?_, fun b hb => ?_⟩, fun b o e => hs.base.gr b o e, fun b o e => ks4.gr b o e, ⟨_, (hLdef ▸ ns_dict _ : ((s2.heap.push { cls := .type "list", data := .seq #[] }).push { cls := .type "dict", data := .dict #[] }).Ns L _).keeps (pushCells_keeps _ _)⟩, fun x c e => ?_, fun x y c e f g => ?_, fun o e => ?_, fun x c o e l f => ?_, fun x b a o e f => ?_, fun x y b c a e f g => ?_, fun x b e => ?_⟩, fun o e => ?_, fun x b e => ?_, [], ⟨0, hlist⟩, .nil⟩
    · obtain ⟨h1, ⟨d, rfl⟩, h2, h3, h4⟩ := (hfr L).at e
      obtain ⟨v, hv, hr⟩ := r2.vars x _ h1
      refine ⟨v, ?_, (RepB.moreX hr ha2).gr g4⟩
      rcases hv with ⟨hl, _⟩ | ⟨_, c', hc', hv⟩
      · rcases h2 with hk | hk <;> (rw [hl] at hk; cases hk)
      · exact .inr ⟨h3, c', h4.trans hc', hv.keeps g4⟩
    · rcases hb with rfl | hb
      · exact ⟨_, hlist⟩
      · obtain ⟨o, e⟩ := hs.xs b hb; exact ⟨o, ks4.gr b o e⟩
    · have hm := mem_of_lookup e
      change (x, c) ∈ cellsFrom (L + 1) scope.names cl at hm
      rw [← hsz4] at hm
      rcases cells_own hm with h | h
      · obtain ⟨v, hv⟩ := hcl_old x c h; exact ⟨v, hv.keeps ks4.gr⟩
      · exact ⟨_, h⟩
    · refine cells_apart (L := L) (fun x c hm => ?_) (fun x y c hx hy hL => ?_) x y c (mem_of_lookup e) (mem_of_lookup f) g
      · obtain ⟨v, o, ho, _⟩ := hcl_old x c hm; exact Nat.lt_succ_of_lt (Nat.lt_trans (old c o ho) h9)
      · obtain ⟨v, o, ho, _⟩ := hcl_old x c hx; exact absurd (Nat.lt_trans hL (Nat.lt_trans (old c o ho) h9)) (Nat.lt_irrefl _)
    · have h0 : s.heap.get? L = some o := e
      rw [hnL] at h0; cases h0
    · rw [none_of_kp k2 (none_ge (h := s2.heap) (c := c) (by have : L < c := l; omega))] at f; cases f
    · obtain ⟨_, ⟨d, rfl⟩, _⟩ := (hfr L).at e; cases f
    · obtain ⟨_, ⟨d, rfl⟩, _⟩ := (hfr L).at e; cases g
    · obtain ⟨_, ⟨d, rfl⟩, _⟩ := (hfr L).at e; rfl
    · rw [hna] at e; cases e
    · obtain ⟨_, ⟨d, rfl⟩, _⟩ := (hfr L).at e; intro q; cases q
  have T4 := T.plus (a := s2.heap.objs.size) k4 ha2
  refine codeI_compStart (target := target) (iter := iter) (ifs := ifs) rfl (fun Q hQ => (T4.walks A hA.handled).self 0 _ _ _ T4.start hQ) (hloop _ _ L _ I fp P J _ T4 S4 (fun o e => by rw [hnew] at e; cases e) (fun e => e.elim hIa hXI) fun s5 S5 => ?_)
  obtain ⟨vs, hl5, hr5⟩ := S5.lst
  obtain ⟨m, hm⟩ := S5.st.ns
  exact k s5 L _ vs m (kp_of hs.base S5.st.rd.base fun b o e => S5.st.keep b o e) hna hnL hm hl5 hr5
end
end Mine
end

section
set_option maxRecDepth 100000
set_option autoImplicit false
set_option linter.unusedVariables false
namespace Mine
open PySem PySem.Calls PyProof.Rows
open PySem.W (Dat)
theorem flatMap_one {α β : Type} (c : α → Bool) (f : α → β) (l : List α) : (l.flatMap fun y => if c y then [f y] else []) = (l.filter c).map f := by
  induction l with
  | nil => rfl
  | cons a l ih => rw [List.flatMap_cons, ih]; cases h : c a <;> simp [h]
theorem flatMap_le {α β : Type} (c : α → Bool) (f : α → β) (l : List α) : (l.flatMap fun y => if c y then [f y] else []).length ≤ l.length := by
  rw [flatMap_one, List.length_map]; exact List.length_filter_le _ _
section
variable {n : Nat} {C : Cx} {A : Around} {Pr : Addr → Obj → Prop} {X : Addr → Prop} {env : Env} {ρ : Rho} {s s' : Shared} {rest : List Stmt} {Q : Flow → Shared → Prop}
theorem comp1_loop {α : Type} {l : List α} {φ : α → D} {c : α → Bool} {f : α → D} {x : Str} {px pos : Pos} {iter elt : Expr} {ifs : List Expr} {scope : Scope} {cl : List (Str × Addr)} {ρf : Rho} (hA : Room n A)
    (hx : ∀ L, CanStore (compEnvG scope cl L env) x) (hxf : ρf.lookup x = none)
    (ht : ∀ L a, ∀ y ∈ l, Tests n C (Plus X a) (compEnvG scope cl L env) ((x, .v (φ y)) :: ρf) ifs (c y))
    (he : ∀ L a, ∀ y ∈ l, c y = true → Ev n C (Plus X a) (compEnvG scope cl L env) ((x, .v (φ y)) :: ρf) elt (.v (f y))) (hz : l.length ≤ sizeLine) :
    ∀ Pr s4 L a I fp P J (R : Result → Shared → Prop), Itr C (Plus X a) I (l.map φ) s4 P fp J → Acc C Pr X (compEnvG scope cl L env) ρf a [] s4 → (∀ o, ¬ Pr I o) → ¬ Plus X a I → (∀ s5, Acc C Pr X (compEnvG scope cl L env) ρf a ((l.filter c).map f) s5 → R (.ok .next) s5) →
      codeI C.M A (.compLoop (.ListComp elt [⟨.Name x px, iter, ifs, 0⟩] scope pos) 0 (.ref I) (.ref a) (compEnvG scope cl L env)) R s4 := fun Pr s4 L a I fp P J R T S hI hIX k =>
  comp_loop (c := c) (g := fun y => [f y]) hA T S hI hIX (hx L) hxf (ht L a) (fun y hy hc => emit_elt hA (he L a y hy hc)) (by have := flatMap_le c f l; simp only [List.length_nil]; omega) (turn_one _ _ _ _ _ _ _ _ _) (by rw [flatMap_one]; simpa using k)
theorem evn_comp1 {α : Type} {l : List α} {φ : α → D} {c : α → Bool} {f : α → D} {x : Str} {px pos : Pos} {iter elt : Expr} {ifs : List Expr} {scope : Scope} {cl : List (Str × Addr)} {ρf : Rho}
    (hiter : ItEv n C X env ρ iter (l.map φ)) (hcl : ClOk env ρ cl) (hfr : ∀ L, FreeOk env (compEnvG scope cl L env) ρ ρf)
    (hx : ∀ L, CanStore (compEnvG scope cl L env) x) (hxf : ρf.lookup x = none)
    (ht : ∀ L a, ∀ y ∈ l, Tests n C (Plus X a) (compEnvG scope cl L env) ((x, .v (φ y)) :: ρf) ifs (c y))
    (he : ∀ L a, ∀ y ∈ l, c y = true → Ev n C (Plus X a) (compEnvG scope cl L env) ((x, .v (φ y)) :: ρf) elt (.v (f y))) (hz : l.length ≤ sizeLine)
    (hclos : closureFor scope env = pure cl) (hnames : ∀ x ∈ scope.names, x.2 = .local → scope.names.lookup x.1 = some .local) (hkind : scope.kind = .function := by rfl) (hfold : ∀ x, foldedSetIterable iter env x = pure x := by intro _; rfl) :
    EvNew n C X env ρ (.ListComp elt [⟨.Name x px, iter, ifs, 0⟩] scope pos) ((l.filter c).map f) := fun A s hA hs => by
  rw [eval_ListComp]
  refine comp_core hA hs hiter hclos hkind hnames hcl hfr hfold (comp1_loop hA hx hxf ht he hz) fun s5 L a vs m k5 ha hL hm hl hr => ?_
  refine ⟨m, hm, fun h' hs' => ?_⟩
  obtain ⟨oL, es, ep, hoL, hdL, _⟩ := hm
  have g : Gr s.heap h' := fun b o e => (hs'.2 b fun q => by rw [q, hL] at e; cases e).trans (k5.gr b o e)
  obtain ⟨ml, hl⟩ := hl
  have haL : a ≠ L := fun q => by rw [q, hoL] at hl; cases hl; cases hdL
  refine ⟨?_, a, vs, rfl, ha, ⟨ml, (hs'.2 a haL).trans hl⟩, hr.pres fun b o _ e hq => (hs'.2 b fun q => ?_).trans e⟩
  · obtain ⟨⟨h5, t5, rfl⟩, _⟩ := k5
    exact ⟨⟨h', t5, rfl⟩, g⟩
  · rw [q, hoL] at e; cases e
    obtain ⟨xs, k, hq⟩ := hq
    rw [hdL] at hq; cases hq
theorem evn_comp2 {α β : Type} {l : List α} {φ : α → D} {g : α → List β} {ψ : α → β → D} {f : α → β → D} {x y : Str} {px py pos : Pos} {iter iter' elt : Expr} {scope : Scope} {cl : List (Str × Addr)} {ρf : Rho}
    (hiter : ItEv n C X env ρ iter (l.map φ)) (hcl : ClOk env ρ cl) (hfr : ∀ L, FreeOk env (compEnvG scope cl L env) ρ ρf)
    (hx : ∀ L, CanStore (compEnvG scope cl L env) x) (hxf : ρf.lookup x = none) (hy : ∀ L, CanStore (compEnvG scope cl L env) y) (hyf : ρf.lookup y = none) (hxy : (y == x) = false)
    (hit' : ∀ L a, ∀ i ∈ l, ItEv n C (Plus X a) (compEnvG scope cl L env) ((x, .v (φ i)) :: ρf) iter' ((g i).map (ψ i)))
    (he : ∀ L a, ∀ i ∈ l, ∀ j ∈ g i, Ev n C (Plus X a) (compEnvG scope cl L env) ((y, .v (ψ i j)) :: (x, .v (φ i)) :: ρf) elt (.v (f i j))) (hz : (l.flatMap g).length ≤ sizeLine)
    (hclos : closureFor scope env = pure cl) (hnames : ∀ x ∈ scope.names, x.2 = .local → scope.names.lookup x.1 = some .local) (hkind : scope.kind = .function := by rfl) (hfold : ∀ x, foldedSetIterable iter env x = pure x := by intro _; rfl) (hfold' : ∀ L x, foldedSetIterable iter' (compEnvG scope cl L env) x = pure x := by intro _ _; rfl) :
    EvNew n C X env ρ (.ListComp elt [⟨.Name x px, iter, [], 0⟩, ⟨.Name y py, iter', [], 0⟩] scope pos) (l.flatMap fun i => (g i).map (f i)) := fun A s hA hs => by
  rw [eval_ListComp]
  have hlen : ∀ l' : List α, (l'.flatMap fun i => (g i).map (f i)).length = (l'.flatMap g).length := fun l' => by simp [List.length_flatMap]
  have hin : ∀ i : α, ((g i).filter fun _ => true).map (f i) = (g i).map (f i) := fun i => by rw [List.filter_eq_self.mpr fun _ _ => rfl]
  refine comp_core hA hs hiter hclos hkind hnames hcl hfr hfold (out := l.flatMap fun i => (g i).map (f i)) (fun Pr s4 L a I fp P J R T S hI hIX k => ?_) fun s5 L a vs m k5 ha hL hm hl hr => ?_
  · refine comp_loop (ifs := []) (c := fun _ => true) (g := fun i => (g i).map (f i)) hA T S hI hIX (hx L) hxf (fun i hi => rfl) (fun i hi _ Pr' acc s6 S6 hz6 => ?_) (by simp only [if_true, List.length_nil, hlen]; omega) (turn_two0 _ _ _ _ _ _ _ _ _ _ _ _) (by simpa using k)
    refine wpI_bind (wpI_mono (hit' L a i hi A s6 hA S6.st.rd) (fun v s7 h7 => wpI_stand (wpI_bind (wpI_eq (hfold' L v) (wpI_pure (wpI_bind (wpI_holding (wpI_mono h7 (fun it s8 h8 => ?_) fun _ _ f => f))))))) fun _ _ f => f)
    obtain ⟨k8, I', fp', P', J', rfl, hnew', T'⟩ := h8
    have S8 := S6.keeps k8
    refine wpI_seq (Q' := fun _ s' => Acc C Pr' X (compEnvG scope cl L env) ((x, .v (φ i)) :: ρf) a (acc ++ (g i).map (f i)) s') (wpI_runOwn rfl ?_) fun _ s' h' => wpI_pure ⟨rfl, h'⟩
    have hI' : ∀ o, ¬ Pr' I' o := fun o e => by have := S6.st.keep I' o e; rw [hnew'] at this; cases this
    have hX' : ¬ Plus X a I' := fun e => by obtain ⟨o, e⟩ := S6.st.rd.xs I' e; rw [hnew'] at e; cases e
    refine codeI_compStart (target := .Name y py) (iter := iter') (ifs := []) rfl (fun Q hQ => (T'.walks A hA.handled).self 0 _ _ _ T'.start hQ) ?_
    refine comp_loop (ifs := []) (c := fun _ => true) (g := fun j => [f i j]) hA T' S8 hI' hX' (hy L) (by rw [List.lookup_cons, hxy]; exact hyf) (fun j hj => rfl) (fun j hj _ => emit_elt hA (he L a i hi j hj)) ?_ (turn_two1 _ _ _ _ _ _ _ _ _ _ _ _) ?_
    · rw [flatMap_one, hin]; exact hz6
    · rw [flatMap_one, hin]; exact fun s5 S5 => S5
  refine ⟨m, hm, fun h' hs' => ?_⟩
  obtain ⟨oL, es, ep, hoL, hdL, _⟩ := hm
  have g : Gr s.heap h' := fun b o e => (hs'.2 b fun q => by rw [q, hL] at e; cases e).trans (k5.gr b o e)
  obtain ⟨ml, hl⟩ := hl
  have haL : a ≠ L := fun q => by rw [q, hoL] at hl; cases hl; cases hdL
  refine ⟨?_, a, vs, rfl, ha, ⟨ml, (hs'.2 a haL).trans hl⟩, hr.pres fun b o _ e hq => (hs'.2 b fun q => ?_).trans e⟩
  · obtain ⟨⟨h5, t5, rfl⟩, _⟩ := k5
    exact ⟨⟨h', t5, rfl⟩, g⟩
  · rw [q, hoL] at e; cases e
    obtain ⟨xs, k, hq⟩ := hq
    rw [hdL] at hq; cases hq
theorem St.other {I : Addr} {h' : Heap} {tk : Nat} (S : St C Pr X env ρ s) (hI : ∀ o, ¬ Pr I o) (hf : ∀ o, s.heap.get? I = some o → ¬ Sq o) (hX : ¬ X I) (hLI : env.locals ≠ I) (hCI : ∀ x c, env.cells.lookup x = some c → c ≠ I) (hk : ∀ b o, b ≠ I → s.heap.get? b = some o → h'.get? b = some o) :
    St C Pr X env ρ { s with heap := h', toks := tk } := by
  obtain ⟨m, hm⟩ := S.ns
  have hns : ∀ m', s.heap.Ns env.locals m' → h'.Ns env.locals m' := fun m' hm' => let ⟨o, es, ep, ho, r⟩ := hm'; ⟨o, es, ep, hk _ _ hLI ho, r⟩
  have hcl : ∀ x c v, env.cells.lookup x = some c → s.heap.IsCell c v → h'.IsCell c v := fun x c v e hc => let ⟨o, ho, r⟩ := id hc; ⟨o, hk _ _ (hCI x c e) ho, r⟩
  refine ⟨⟨S.rd.ok, S.rd.eok, ?_, fun y c e => ?_, fun b hb => ?_⟩, S.basePr, fun b o e => hk b o (fun q => hI o (q ▸ e)) (S.keep b o e), ⟨m, hns m hm⟩, fun y c e => ?_, S.cellsApart, S.freeL, S.freeC, S.own, S.apart, S.isVar⟩
  · obtain ⟨⟨h0, t0, e⟩, g⟩ := S.rd.base
    exact ⟨⟨h', tk, by rw [e]⟩, fun b o eb => hk b o (fun q => hI o (q ▸ S.basePr b o eb)) (g b o eb)⟩
  · obtain ⟨w, hw, hr⟩ := S.rd.vars y c e
    refine ⟨w, ?_, hr.pres (S.isVar y c e) fun a o ea hsq => hk a o (fun q => hf o (q ▸ ea) hsq) ea⟩
    rcases hw with ⟨hky, m', hm', hmy⟩ | ⟨hky, cc, hcc, hcv⟩
    · exact .inl ⟨hky, _, hns _ hm', hmy⟩
    · exact .inr ⟨hky, cc, hcc, hcl y _ _ hcc hcv⟩
  · obtain ⟨o, e⟩ := S.rd.xs b hb
    exact ⟨o, hk b o (fun q => hX (q ▸ hb)) e⟩
  · obtain ⟨v, hv⟩ := S.cells y c e
    exact ⟨v, hcl y _ _ e hv⟩
/-- a comprehension stored under a local name on its own line: the store comes ahead of the block's end -/
theorem ex_comp1 {α : Type} {l : List α} {φ : α → D} {c : α → Bool} {f : α → D} {x t : Str} {px pt pos spos : Pos} {iter elt : Expr} {ifs : List Expr} {scope : Scope} {cl : List (Str × Addr)} {ρf : Rho} (hA : Room n A)
    (hiter : ItEv n C X env ρ iter (l.map φ)) (hcl : ClOk env ρ cl) (hfr : ∀ L, FreeOk env (compEnvG scope cl L env) ρ ρf)
    (hx : ∀ L, CanStore (compEnvG scope cl L env) x) (hxf : ρf.lookup x = none)
    (ht : ∀ L a, ∀ y ∈ l, Tests n C (Plus X a) (compEnvG scope cl L env) ((x, .v (φ y)) :: ρf) ifs (c y))
    (he : ∀ L a, ∀ y ∈ l, c y = true → Ev n C (Plus X a) (compEnvG scope cl L env) ((x, .v (φ y)) :: ρf) elt (.v (f y))) (hz : l.length ≤ sizeLine)
    (kk : Ex C A Pr X env ((t, .v (.list ((l.filter c).map f))) :: ρ) rest Q) (hst : CanStore env t)
    (hclos : closureFor scope env = pure cl) (hnames : ∀ x ∈ scope.names, x.2 = .local → scope.names.lookup x.1 = some .local)
    (hs : swapsWith (.ListComp elt [⟨.Name x px, iter, ifs, 0⟩] scope pos) (some (.Name t pt)) spos.line env = pure true) (hkind : scope.kind = .function := by rfl) (hfold : ∀ x, foldedSetIterable iter env x = pure x := by intro _; rfl) :
    Ex C A Pr X env ρ (.Assign [.Name t pt] (.ListComp elt [⟨.Name x px, iter, ifs, 0⟩] scope pos) spos :: rest) Q := fun s S => by
  refine wpI_execs_cons ?_
  rw [exec_Assign]
  have hs' : swapsWithSole [.Name t pt] (.ListComp elt [⟨.Name x px, iter, ifs, 0⟩] scope pos) spos.line env = pure true := hs
  rw [hs']
  refine wpI_stand (wpI_bind (wpI_pure (wpI_ite_pos rfl ?_)))
  refine wpI_seq (Q' := fun _ s' => wpI C.M A (execs rest env) Q (fun _ _ => False) s') ?_ fun _ s' h' => wpI_pure h'
  show wpI _ A (do let _ ← comprehension (.ListComp elt [⟨.Name x px, iter, ifs, 0⟩] scope pos) scope env (firstIterPos [⟨.Name x px, iter, ifs, 0⟩] pos) (newList []) (firstAsync [⟨.Name x px, iter, ifs, 0⟩]) (firstIter [⟨.Name x px, iter, ifs, 0⟩] env) (some fun v => assign (.Name t pt) env v)) _ _ s
  refine wpI_seq (Q' := fun _ s' => wpI C.M A (execs rest env) Q (fun _ _ => False) s') (comp_core hA S.rd hiter hclos hkind hnames hcl hfr hfold (comp1_loop hA hx hxf ht he hz) fun s5 L a vs m k5 ha hL hm hl hr => ?_) fun _ s' h' => wpI_pure h'
  obtain ⟨oL, es, ep, hoL, hdL, hmL⟩ := id hm
  have S5 := S.keeps k5
  have hXL : ¬ X L := fun hx => by obtain ⟨o, e⟩ := S.rd.xs L hx; rw [hL] at e; cases e
  have hXa : ¬ X a := fun hx => by obtain ⟨o, e⟩ := S.rd.xs a hx; rw [ha] at e; cases e
  have hLL : env.locals ≠ L := fun q => by obtain ⟨m, o, _, _, ho, _⟩ := S.ns; rw [q, hL] at ho; cases ho
  have hCL : ∀ x c, env.cells.lookup x = some c → c ≠ L := fun x c e q => by obtain ⟨v, o, ho, _⟩ := S.cells x c e; rw [q, hL] at ho; cases ho
  have hPL : ∀ o, ¬ Pr L o := fun o e => by have := S.keep L o e; rw [hL] at this; cases this
  have S6 : St C (fun b o => Pr b o ∨ (b = L ∧ o = oL)) X env ρ s5 := S5.prMore (fun b o e => .inl (S5.basePr b o e)) (fun b o e => e.elim (S5.keep b o) fun e => by obtain ⟨rfl, rfl⟩ := e; exact hoL) (fun o e => e.elim (S5.freeL o) fun e => hLL e.1)
    (fun x c o e l f => f.elim (S5.freeC x c o e l) fun f => hCL x c e f.1) fun x b a o e f g => g.elim (S5.own x b a o e f) fun g => hXL (g.1 ▸ (let ⟨v, _, r⟩ := S5.rd.vars x b e; r.at_X f))
  show wpI _ A (assign (.Name t pt) env (.ref a)) _ _ s5
  refine wpI_any (wpAny_assign_Name (S6.store hst (b := .v (.list ((l.filter c).map f))) (.list hXa hl hr.less) Fresh.v fun s7 S7 => ?_))
  have hoL7 : s7.heap.get? L = some oL := S7.keep L oL (.inr ⟨rfl, rfl⟩)
  refine ⟨m, ⟨oL, es, ep, hoL7, hdL, hmL⟩, fun h' hs' => kk _ ?_⟩
  have S8 := S7.prLess (Pr := Pr) (fun b o => .inl) S.basePr
  exact S8.other (tk := s7.toks) hPL (fun o e hq => by
    rw [hoL7] at e; cases e
    rcases hq with ⟨xs, k, hd⟩ | ⟨bb, hd⟩ <;> (rw [hdL] at hd; cases hd)) hXL hLL hCL fun b o hb e => (hs'.2 b hb).trans e
end
end Mine
end

section
set_option maxRecDepth 100000
set_option autoImplicit false
set_option linter.unusedVariables false
namespace Mine
open PySem PySem.Calls PyProof.Rows
open PySem.W (Dat)
section
variable {n : Nat} {C : Cx} {A : Around} {Pr : Addr → Obj → Prop} {X : Addr → Prop} {env : Env} {ρ : Rho} {s s' : Shared} {rest : List Stmt} {Q : Flow → Shared → Prop}
/-- one's own list, no more written: plain data -/
theorem Ex.freeze {x : Str} {a : Addr} {ds : List D} {ss : List Stmt} (h : Ex C A Pr X env ((x, .v (.list ds)) :: ρ) ss Q) (hXa : ¬ X a) (hρ : ∀ y b, ρ.lookup y = some b → b.at? ≠ some a) : Ex C A Pr (Plus X a) env ((x, .ml a ds) :: ρ) ss Q := fun s S => h s (by
  have hx : ((x, B.ml a ds) :: ρ : Rho).lookup x = some (.ml a ds) := by simp [List.lookup_cons]
  have look : ∀ y c, ((x, B.v (.list ds)) :: ρ : Rho).lookup y = some c → (y = x ∧ c = .v (.list ds)) ∨ (y ≠ x ∧ ((x, B.ml a ds) :: ρ : Rho).lookup y = some c ∧ ρ.lookup y = some c) := fun y c e => by
    rw [List.lookup_cons] at e
    by_cases q : y = x
    · subst q; simp at e; exact .inl ⟨rfl, e.symm⟩
    · have : (y == x) = false := by simpa using q
      rw [this] at e
      exact .inr ⟨q, by rw [List.lookup_cons, this]; exact e, e⟩
  refine ⟨⟨S.rd.ok, S.rd.eok, S.rd.base, fun y c e => ?_, fun b hb => S.rd.xs b (.inr hb)⟩, S.basePr, S.keep, S.ns, S.cells, S.cellsApart, S.freeL, S.freeC, fun y c a' o e f => ?_, fun y z b c a' e f g h => ?_, fun y c e => ?_⟩
  · rcases look y c e with ⟨rfl, rfl⟩ | ⟨_, e1, e2⟩
    · obtain ⟨v, hv, rfl, _, vs, hl, hr⟩ := S.rd.vars y _ hx
      exact ⟨_, hv, .list hXa hl hr.less⟩
    · obtain ⟨v, hv, hr⟩ := S.rd.vars y c e1
      exact ⟨v, hv, hr.lessX (hρ y c e2)⟩
  · rcases look y c e with ⟨_, rfl⟩ | ⟨_, e1, _⟩
    · cases f
    · exact S.own y c a' o e1 f
  · rcases look y b e with ⟨_, rfl⟩ | ⟨_, e1, _⟩
    · cases g
    · rcases look z c f with ⟨_, rfl⟩ | ⟨_, f1, _⟩
      · cases h
      · exact S.apart y z b c a' e1 f1 g h
  · rcases look y c e with ⟨_, rfl⟩ | ⟨_, e1, _⟩
    · rfl
    · exact S.isVar y c e1)
/-- a, b = (d, e): two names, stored the second first -/
theorem ex_swapped {x y : Str} {px py tpos vpos pos : Pos} {k kv : Nat} {e f : Expr} {d d' : D} (hA : Room n A) (h : Ev n C X env ρ e (.v d)) (h' : Ev n C X env ρ f (.v d')) (kk : Ex C A Pr X env ((x, .v d) :: (y, .v d') :: ρ) rest Q) (hx : CanStore env x) (hy : CanStore env y)
    (hs : swapsWithSole [.Tuple [.Name x px, .Name y py] k tpos] (.Tuple [e, f] kv vpos) pos.line env = pure false := by rfl)
    (hw : swappedStores [.Tuple [.Name x px, .Name y py] k tpos] (.Tuple [e, f] kv vpos) env = pure (some [x, y]) := by rfl)
    (he' : starEach [f] env = [(false, eval f env)] := by rfl) (he : starEach [e, f] env = (false, eval e env) :: starEach [f] env := by rfl) :
    Ex C A Pr X env ρ (.Assign [.Tuple [.Name x px, .Name y py] k tpos] (.Tuple [e, f] kv vpos) pos :: rest) Q := fun s S => by
  refine wpI_execs_cons ?_
  rw [exec_Assign, hs]
  refine wpI_stand (wpI_bind (wpI_pure (wpI_ite_neg (by decide) ?_)))
  refine wpI_bind ((ev_tuple (n := n) (ds := [d, d']) (evs_cons h (evs_cons h' evs_nil he') he) (by have := sizeLine_eq; show 2 ≤ sizeLine; omega)).use hA S.rd fun v s1 k1 r1 p1 => ?_)
  rw [hw]
  refine wpI_bind (wpI_pure ?_)
  show wpI _ A (do rule "assign.swapped-stores"; let items ← unpackItems v [x, y].length none; assignInOrder ([x, y].reverse.map fun n => bindName env n) items.reverse; pure Flow.next) _ _ s1
  refine wpI_ruleB ?_
  obtain ⟨t, vs, rfl, hX, ht, hrs⟩ := Rep.tuple_inv p1
  cases hrs with
  | cons r1' hrs =>
    cases hrs with
    | cons r2' hrs =>
      cases hrs
      rename_i v1 v2
      refine wpI_bind (wpI_any (wpAny_unpackItems_tuple (items := #[v1, v2]) hA.handled ht fun h2 hk => ?_))
      have k2 : Kp s1 { s1 with heap := h2 } := keeps_heap' fun b o e => hk b o (Nat.ne_of_lt (Heap.lt_size e)) e
      have S2 := (S.keeps k1).keeps k2
      show wpI _ A ((holding [v1] (bindName env y v2) >>= fun _ => holding [] (bindName env x v1) >>= fun _ => pure ()) >>= fun _ => pure Flow.next) _ _ _
      refine wpI_seq (Q' := fun _ s' => wpI C.M A (execs rest env) Q (fun _ _ => False) s') (wpI_bind (wpI_holding (wpI_bindName (wpI_any ((S2.hold none).store hy (b := .v d') (Rep.gr r2' k2.gr) Fresh.v fun s3 S3 => ?_))))) fun _ s' h' => wpI_pure h'
      refine wpI_bind (wpI_holding (wpI_bindName (wpI_any (S3.store hx (b := .v d) (Rep.pres (S3.held S2.ns S2.cells) (Rep.gr r1' k2.gr)) Fresh.v fun s4 S4 => ?_))))
      exact wpI_pure (kk s4 (S4.prLess (fun b o => .inl) S.basePr))
theorem ev_comp1 {α : Type} {l : List α} {φ : α → D} {c : α → Bool} {f : α → D} {x : Str} {px pos : Pos} {iter elt : Expr} {ifs : List Expr} {scope : Scope} {cl : List (Str × Addr)} {ρf : Rho} {out : List D}
    (hiter : ItEv n C X env ρ iter (l.map φ)) (hout : (l.filter c).map f = out) (hcl : ClOk env ρ cl) (hfr : ∀ L, FreeOk env (compEnvG scope cl L env) ρ ρf)
    (hx : ∀ L, CanStore (compEnvG scope cl L env) x) (hxf : ρf.lookup x = none)
    (ht : ∀ L a, ∀ y ∈ l, Tests n C (Plus X a) (compEnvG scope cl L env) ((x, .v (φ y)) :: ρf) ifs (c y))
    (he : ∀ L a, ∀ y ∈ l, c y = true → Ev n C (Plus X a) (compEnvG scope cl L env) ((x, .v (φ y)) :: ρf) elt (.v (f y))) (hz : l.length ≤ sizeLine)
    (hclos : closureFor scope env = pure cl) (hnames : ∀ x ∈ scope.names, x.2 = .local → scope.names.lookup x.1 = some .local) (hkind : scope.kind = .function := by rfl) (hfold : ∀ x, foldedSetIterable iter env x = pure x := by intro _; rfl) :
    Ev n C X env ρ (.ListComp elt [⟨.Name x px, iter, ifs, 0⟩] scope pos) (.v (.list out)) := hout ▸ (evn_comp1 hiter hcl hfr hx hxf ht he hz hclos hnames hkind hfold).ev
/-- a global text -/
def GStr (C : Cx) (x : Str) (t : Str) : Prop := ∃ tok, C.mg x = some (.str t tok)
theorem ev_gstr {x t : Str} {p : Pos} (hg : GStr C x t) (hx : env.kindOf x = some .globalImplicit := by rfl) (hd : (x == ("__debug__" : Str)) = false := by decide) : Ev n C X env ρ (.Name x p) (.v (.str t)) := fun A s hA hs => by
  obtain ⟨tok, hm⟩ := hg
  exact wpI_any (Name_function_global hs.eok.kind hx (loadGlobal_global (mg := C.mg) (hs.eok.glob ▸ hs.ok.g.keeps hs.base.gr) hm ⟨keeps_refl s, .str _ _⟩) hd)
end
/-- the k-th statement of a program, a function's definition -/
def recAt (p : Program) (k : Nat) : DefRec := match p.main.body[k]? with
  | some (.FunctionDef name a b _ _ _ sc _ _ pos) => ⟨name, a, b, sc, pos⟩
  | _ => ⟨"", ⟨[], [], none, [], [], none, []⟩, [], { kind := .function, names := [], isGenerator := false, isCoroutine := false, more := [] }, ⟨0, 0, 0, 0⟩⟩
end Mine
end

section
set_option maxRecDepth 100000
set_option autoImplicit false
set_option linter.unusedVariables false
namespace Mine
open PySem PySem.Calls PyProof.Rows
open PySem.W (Dat)
def byN (l : List Nat) : Array UInt8 := (l.map Nat.toUInt8).toArray
theorem byN_size (l : List Nat) : (byN l).size = l.length := by simp [byN]
theorem byN_get {l : List Nat} {i x : Nat} (h : l[i]? = some x) : (byN l)[i]? = some x.toUInt8 := by simp [byN, h]
theorem byN_replicate (k : Nat) : Array.replicate k (0 : UInt8) = byN (List.replicate k 0) := by
  apply Array.ext'
  simp [byN]
theorem byN_set (l : List Nat) (i x : Nat) : (byN l).setIfInBounds i x.toUInt8 = byN (l.set i x) := by
  apply Array.ext'
  simp [byN, List.map_set]
theorem u8 {x : Nat} (h : x < 256) : x.toUInt8.toNat = x := by
  simp; omega
/-- the blocks of width w, each turned about; k of them -/
def swapL {α : Type} (w k : Nat) (l : List α) : List α := (List.range k).flatMap fun t => ((l.drop (t * w)).take w).reverse
theorem swapL_succ {α : Type} (w k : Nat) (l : List α) : swapL w (k + 1) l = swapL w k l ++ ((l.drop (k * w)).take w).reverse := by
  simp [swapL, List.range_succ]
theorem swapL_length {α : Type} (w k : Nat) (l : List α) (h : k * w ≤ l.length) : (swapL w k l).length = k * w := by
  induction k with
  | zero => simp [swapL]
  | succ k ih =>
    rw [Nat.succ_mul] at h
    rw [swapL_succ, List.length_append, ih (by omega), List.length_reverse, List.length_take, List.length_drop, Nat.succ_mul]
    omega
theorem mem_swapL {α : Type} {w k : Nat} {l : List α} {x : α} (h : x ∈ swapL w k l) : x ∈ l := by
  simp only [swapL, List.mem_flatMap, List.mem_reverse] at h
  obtain ⟨t, _, h⟩ := h
  exact List.mem_of_mem_drop (List.mem_of_mem_take h)
/-- the state behind q blocks and j signs of the next one -/
def part (w m q j : Nat) (l : List Nat) : List Nat := swapL w q l ++ (List.replicate (w - j) 0 ++ (((l.drop (q * w)).take w).take j).reverse) ++ List.replicate (m - (q + 1) * w) 0
def front (w m q : Nat) (l : List Nat) : List Nat := swapL w q l ++ List.replicate (m - q * w) 0
theorem part_zero {w m q : Nat} {l : List Nat} (h : (q + 1) * w ≤ m) : part w m q 0 l = front w m q l := by
  have : m - q * w = w + (m - (q + 1) * w) := by rw [Nat.succ_mul] at *; omega
  simp only [part, front, this, ← List.replicate_append_replicate]
  simp
theorem part_full {w m q : Nat} {l : List Nat} (h : (q + 1) * w ≤ m) : part w m q w l = front w m (q + 1) l := by
  simp only [part, front, swapL_succ, Nat.sub_self, List.replicate_zero, List.nil_append, List.take_take, Nat.min_self]
theorem part_length {w m q j : Nat} {l : List Nat} (hl : l.length = m) (h : (q + 1) * w ≤ m) (hj : j ≤ w) : (part w m q j l).length = m := by
  have h1 : q * w ≤ l.length := by rw [Nat.succ_mul] at h; omega
  rw [Nat.succ_mul] at h
  simp only [part, List.length_append, List.length_replicate, List.length_reverse, List.length_take, List.length_drop, swapL_length w q l h1, Nat.succ_mul]
  omega
theorem part_step {w m q j x : Nat} {l : List Nat} (hl : l.length = m) (h : (q + 1) * w ≤ m) (hj : j < w) (hx : l[q * w + j]? = some x) : (part w m q j l).set (q * w + w - 1 - j) x = part w m q (j + 1) l := by
  have h1 : q * w ≤ l.length := by rw [Nat.succ_mul] at h; omega
  have hlen := swapL_length w q l h1
  have e1 : q * w + w - 1 - j = (swapL w q l).length + (w - j - 1) := by rw [hlen]; omega
  have e2 : w - j = (w - j - 1) + 1 := by omega
  have e3 : w - (j + 1) = w - j - 1 := by omega
  unfold part
  rw [List.append_assoc, List.append_assoc (swapL w q l), e1, List.set_append_right _ _ (by omega), Nat.add_sub_cancel_left, e3]
  generalize w - j - 1 = r at e2
  rw [e2]
  have e4 : (((l.drop (q * w)).take w).take (j + 1)).reverse = x :: (((l.drop (q * w)).take w).take j).reverse := by
    have : ((l.drop (q * w)).take w)[j]? = some x := by
      rw [List.getElem?_take, if_pos hj, List.getElem?_drop]; exact hx
    rw [List.take_add_one, this]; simp
  rw [e4, List.replicate_succ', List.append_assoc, List.append_assoc, List.set_append_right _ _ (by simp)]
  simp
theorem front_zero {w m : Nat} {l : List Nat} : front w m 0 l = List.replicate m 0 := by simp [front, swapL]
theorem front_full {w k : Nat} {l : List Nat} : front w (k * w) k l = swapL w k l := by simp [front]
theorem range_blocks {k w : Nat} (hw : 0 < w) : Builtin.Range.rangeSize 0 ((k * w : Nat) : Int) (w : Int) = (k : Int) := by
  unfold Builtin.Range.rangeSize
  rw [if_pos (by omega)]
  cases k with
  | zero => simp
  | succ k =>
    have hp : 0 < (k + 1) * w := Nat.mul_pos (by omega) hw
    rw [if_pos (by omega)]
    have e : (((k + 1) * w : Nat) : Int) - 0 - 1 = (w - 1 : Int) + k * w := by push_cast; rw [Int.add_mul]; omega
    rw [e, Int.add_mul_ediv_right _ _ (by omega), Int.ediv_eq_zero_of_lt (by omega) (by omega)]
    push_cast; omega
theorem range_upto (k : Nat) : Builtin.Range.rangeSize 0 (k : Int) 1 = (k : Int) := by
  have := range_blocks (k := k) (w := 1) (by omega)
  simpa using this
theorem fits_of {x : Int} (h : -2000000 ≤ x ∧ x ≤ 4000000) : Builtin.Range.rangeFitsLong x = true := by
  unfold Builtin.Range.rangeFitsLong
  simp only [Bool.and_eq_true, decide_eq_true_eq]
  omega
theorem small_of {a b c : Int} (ha : 0 ≤ a ∧ a ≤ 1000000) (hb : 0 ≤ b ∧ b ≤ 1000000) (hc : 0 < c ∧ c ≤ 1000000) : Builtin.Range.small a b c = true := by
  have hr : 0 ≤ Builtin.Range.rangeSize a b c ∧ Builtin.Range.rangeSize a b c ≤ 1000001 := by
    unfold Builtin.Range.rangeSize
    rw [if_pos (by omega)]
    split
    · have h1 : (b - a - 1) / c ≤ b - a - 1 := Int.ediv_le_self (a := b - a - 1) c (by omega)
      have h0 : 0 ≤ (b - a - 1) / c := Int.ediv_nonneg (by omega) (by omega)
      omega
    · omega
  unfold Builtin.Range.small
  rw [fits_of (by omega), fits_of (by omega), fits_of (by omega), fits_of (by omega), if_pos (by omega), fits_of (by omega)]
  simp
def SubR (ρ : Rho) : Rho → Prop
  | [] => True
  | (x, b) :: r => ρ.lookup x = some b ∧ SubR ρ r
theorem SubR.at {ρ : Rho} : ∀ {r : Rho}, SubR ρ r → ∀ x b, r.lookup x = some b → ρ.lookup x = some b
  | [], _, _, _, h => by cases h
  | (y, c) :: r, h, x, b, e => by
    rw [List.lookup_cons] at e
    cases q : x == y with
    | true => rw [q] at e; cases e; rw [beq_iff_eq.mp q]; exact h.1
    | false => rw [q] at e; exact SubR.at h.2 x b e
end Mine
end

section
set_option maxRecDepth 100000
set_option autoImplicit false
set_option linter.unusedVariables false
namespace Mine
open PySem PySem.Calls PyProof.Rows
open PySem.W (Dat)
open Builtin.Str (occurrences)
/-- the words in their order, the first at the start, the last at the end, any gaps between -/
def Mt {α : Type} : List (List α) → List α → Prop
  | [], _ => False
  | [w], g => g = w
  | w :: v :: ws, g => ∃ gap rest, g = w ++ gap ++ rest ∧ Mt (v :: ws) rest
/-- the words in their order anywhere -/
def Ins {α : Type} : List (List α) → List α → Prop
  | [], _ => True
  | w :: ws, x => ∃ a b, x = a ++ w ++ b ∧ Ins ws b
theorem Ins.suffix {α : Type} {ws : List (List α)} {x : List α} (h : Ins ws x) (c : List α) : Ins ws (c ++ x) := by
  cases ws with
  | nil => trivial
  | cons w ws => obtain ⟨a, b, rfl, h⟩ := h; exact ⟨c ++ a, b, by simp, h⟩
theorem Ins.skip {α : Type} {ws : List (List α)} {x : List α} : Ins ([] :: ws) x ↔ Ins ws x := by
  constructor
  · rintro ⟨a, b, rfl, h⟩; simpa using h.suffix a
  · intro h; exact ⟨[], x, by simp, h⟩
theorem Ins.skipLast {α : Type} {x : List α} : ∀ {ws : List (List α)} {x : List α}, Ins (ws ++ [[]]) x ↔ Ins ws x
  | [], x => ⟨fun _ => trivial, fun _ => ⟨[], x, by simp, trivial⟩⟩
  | w :: ws, x => by
    constructor
    · rintro ⟨a, b, rfl, h⟩; exact ⟨a, b, rfl, Ins.skipLast (x := x).mp h⟩
    · rintro ⟨a, b, rfl, h⟩; exact ⟨a, b, rfl, Ins.skipLast (x := x).mpr h⟩
theorem Mt_ends {α : Type} : ∀ (mids : List (List α)) (w wl g : List α), Mt (w :: (mids ++ [wl])) g ↔ ∃ x, g = w ++ x ++ wl ∧ Ins mids x
  | [], w, wl, g => by
    constructor
    · rintro ⟨gap, rest, rfl, h⟩; cases h; exact ⟨gap, rfl, trivial⟩
    · rintro ⟨x, rfl, _⟩; exact ⟨x, wl, rfl, rfl⟩
  | m :: ms, w, wl, g => by
    constructor
    · rintro ⟨gap, rest, rfl, h⟩
      obtain ⟨y, rfl, hy⟩ := (Mt_ends ms m wl rest).mp h
      exact ⟨gap ++ m ++ y, by simp, gap, y, rfl, hy⟩
    · rintro ⟨x, rfl, a, b, rfl, hb⟩
      exact ⟨a, m ++ b ++ wl, by simp, (Mt_ends ms m wl _).mpr ⟨b, rfl, hb⟩⟩
/-- the loop of finds -/
def seek (g : List Nat) (hi : Nat) : List (List Nat) → Nat → Bool
  | [], _ => true
  | w :: ws, st => if findL g w st hi < 0 then false else seek g hi ws ((findL g w st hi).toNat + w.length)
theorem atL_split {x y : List Nat} {i : Nat} (h : AtL x y i) : x = x.take i ++ y ++ x.drop (i + y.length) := by
  have h1 : x = x.take i ++ x.drop i := (List.take_append_drop i x).symm
  have h2 : x.drop i = (x.drop i).take y.length ++ (x.drop i).drop y.length := (List.take_append_drop _ _).symm
  rw [h] at h2
  rw [List.drop_drop] at h2
  rw [List.append_assoc]
  rw [← h2]; exact h1
theorem atL_of {a y b : List Nat} : AtL (a ++ y ++ b) y a.length := by simp [AtL]
theorem seek_spec {g : List Nat} {hi : Nat} (hg : hi ≤ g.length) : ∀ (ws : List (List Nat)) (st : Nat), st ≤ hi → (seek g hi ws st = true ↔ Ins ws ((g.take hi).drop st))
  | [], st, h => ⟨fun _ => trivial, fun _ => rfl⟩
  | w :: ws, st, h => by
    unfold seek
    rcases findL_spec g w st hi with ⟨h1, hn⟩ | ⟨k, h1, hk1, hk2, hat, hmin⟩
    · rw [h1, if_pos (by omega)]
      refine ⟨fun q => absurd q (by simp), ?_⟩
      rintro ⟨a, b, e, _⟩
      exfalso
      have hl := congrArg List.length e
      simp only [List.length_drop, List.length_take, List.length_append] at hl
      refine hn (st + a.length) (by omega) (by omega) ?_
      have e2 : g = (g.take st ++ a) ++ w ++ (b ++ g.drop hi) := by
        have : g.take hi = g.take st ++ (g.take hi).drop st := by
          have := (List.take_append_drop st (g.take hi)).symm
          rwa [List.take_take, Nat.min_eq_left h] at this
        calc g = g.take hi ++ g.drop hi := (List.take_append_drop _ _).symm
          _ = _ := by rw [this, e]; simp
      have hst : st + a.length = (g.take st ++ a).length := by simp; omega
      rw [hst]
      have := atL_of (a := g.take st ++ a) (y := w) (b := b ++ g.drop hi)
      rwa [← e2] at this
    · rw [h1, if_neg (by omega), Int.toNat_natCast, seek_spec hg ws (k + w.length) hk2]
      have hsp : (g.take hi).drop st = ((g.take hi).drop st).take (k - st) ++ w ++ (g.take hi).drop (k + w.length) := by
        have e1 := atL_split (x := (g.take hi).drop st) (y := w) (i := k - st) (by
          unfold AtL
          rw [List.drop_drop, show st + (k - st) = k by omega]
          rw [List.drop_take, List.take_take, Nat.min_eq_left (by omega)]
          exact hat)
        rw [List.drop_drop, show st + (k - st + w.length) = k + w.length by omega] at e1
        exact e1
      constructor
      · intro hI; rw [hsp]; exact ⟨_, _, rfl, hI⟩
      · rintro ⟨a, b, e, hb⟩
        have hl := congrArg List.length e
        simp only [List.length_drop, List.length_take, List.length_append] at hl
        have hka : k ≤ st + a.length := by
          refine Nat.le_of_not_lt fun hlt => hmin (st + a.length) (by omega) hlt ?_
          have e2 : g = (g.take st ++ a) ++ w ++ (b ++ g.drop hi) := by
            have : g.take hi = g.take st ++ (g.take hi).drop st := by
              have := (List.take_append_drop st (g.take hi)).symm
              rwa [List.take_take, Nat.min_eq_left h] at this
            calc g = g.take hi ++ g.drop hi := (List.take_append_drop _ _).symm
              _ = _ := by rw [this, e]; simp
          have hst : st + a.length = (g.take st ++ a).length := by simp; omega
          rw [hst]
          have := atL_of (a := g.take st ++ a) (y := w) (b := b ++ g.drop hi)
          rwa [← e2] at this
        have e3 : (g.take hi).drop (k + w.length) = (((g.take hi).drop (k + w.length)).take (st + a.length - k)) ++ b := by
          have e4 : b = (g.take hi).drop (st + a.length + w.length) := by
            have : ((g.take hi).drop st).drop (a.length + w.length) = b := by rw [e, ← List.length_append, List.drop_left]
            rw [List.drop_drop] at this
            rw [← this]; congr 1; omega
          have e5 := (List.take_append_drop (st + a.length - k) ((g.take hi).drop (k + w.length))).symm
          rw [List.drop_drop, show k + w.length + (st + a.length - k) = st + a.length + w.length by omega, ← e4] at e5
          exact e5
        rw [e3]; exact hb.suffix _
/-- what the function answers of the words and the text -/
def emB (w : List Nat) (mids : List (List Nat)) (wl g : List Nat) : Bool :=
  decide (w <+: g) && decide (wl <:+ g) && decide (w.length + wl.length ≤ g.length) && seek g (g.length - wl.length) ((if w = [] then [[]] else []) ++ mids ++ (if wl = [] then [[]] else [])) w.length
theorem emB_spec (w : List Nat) (mids : List (List Nat)) (wl g : List Nat) : emB w mids wl g = true ↔ Mt (w :: (mids ++ [wl])) g := by
  have hI : ∀ x, Ins ((if w = [] then [[]] else []) ++ mids ++ (if wl = [] then [[]] else [])) x ↔ Ins mids x := fun x => by
    split <;> split
    · rw [Ins.skipLast (x := x)]; exact Ins.skip
    · rw [List.append_nil]; exact Ins.skip
    · rw [Ins.skipLast (x := x)]; rfl
    · simp
  rw [Mt_ends]
  unfold emB
  simp only [Bool.and_eq_true, decide_eq_true_eq]
  constructor
  · rintro ⟨⟨⟨⟨t, rfl⟩, ⟨u, hu⟩⟩, hlen⟩, hs⟩
    rw [seek_spec (by omega) _ _ (by omega), hI] at hs
    have hut : ∃ x, t = x ++ wl := by
      refine ⟨u.drop w.length, ?_⟩
      have h1 : (u ++ wl).drop w.length = t := by rw [hu, List.drop_left]
      have hl := congrArg List.length hu
      simp only [List.length_append] at hl hlen
      rw [List.drop_append_of_le_length (by omega)] at h1
      exact h1.symm
    obtain ⟨x, rfl⟩ := hut
    refine ⟨x, by simp, ?_⟩
    have e : ((w ++ (x ++ wl)).take ((w ++ (x ++ wl)).length - wl.length)).drop w.length = x := by
      rw [← List.append_assoc, List.length_append, Nat.add_sub_cancel, List.take_left, List.drop_left]
    rwa [e] at hs
  · rintro ⟨x, rfl, hx⟩
    refine ⟨⟨⟨⟨x ++ wl, by simp⟩, ⟨w ++ x, rfl⟩⟩, by simp only [List.length_append]; omega⟩, ?_⟩
    rw [seek_spec (by omega) _ _ (by simp; omega), hI]
    have e : ((w ++ x ++ wl).take ((w ++ x ++ wl).length - wl.length)).drop w.length = x := by
      rw [List.length_append, Nat.add_sub_cancel, List.take_left, List.drop_left]
    rwa [e]
theorem splitD_no : ∀ x : List Nat, (∀ i, ¬ AtL x dots i) → splitD x = [x]
  | [], _ => by simp [splitD]
  | c :: r, h => by
    rw [splitD_cons (h 0), splitD_no r fun i hi => h (i + 1) (by simpa [AtL] using hi)]
    rfl
theorem splitD_some : ∀ (x : List Nat) (i : Nat), AtL x dots i → ∃ w mids wl, splitD x = w :: (mids ++ [wl])
  | [], i, h => by simp [AtL, dots] at h
  | c :: r, i, h => by
    by_cases h0 : AtL (c :: r) dots 0
    · have : ∃ r', c :: r = 46 :: 46 :: 46 :: r' := by
        refine ⟨(c :: r).drop 3, ?_⟩
        have := atL_split h0
        simpa [dots] using this
      obtain ⟨r', e⟩ := this
      rw [e, splitD_dots]
      obtain ⟨ys, y, hy⟩ : ∃ ys y, splitD r' = ys ++ [y] := ⟨_, _, (List.dropLast_concat_getLast (splitD_ne r')).symm⟩
      exact ⟨[], ys, y, by rw [hy]⟩
    · rw [splitD_cons h0]
      cases i with
      | zero => exact absurd h h0
      | succ i =>
        obtain ⟨w, mids, wl, e⟩ := splitD_some r i (by simpa [AtL] using h)
        exact ⟨c :: w, mids, wl, by rw [e]; rfl⟩
theorem dots_in (x : List Nat) : (!(!(occurrences (S x) (S dots) 0 (S x).length 1).isEmpty)) = true ↔ splitD x = [x] := by
  have h1 := findL_spec x dots 0 x.length
  have hf : findL x dots 0 x.length = match occurrences (S x) (S dots) 0 x.length 1 with | k :: _ => (k : Int) | [] => -1 := rfl
  rw [S_length]
  rcases h1 with ⟨h1, hn⟩ | ⟨k, h1, _, _, hat, _⟩
  · have he : occurrences (S x) (S dots) 0 x.length 1 = [] := by
      cases e : occurrences (S x) (S dots) 0 x.length 1 with
      | nil => rfl
      | cons k r => rw [e] at hf; simp at hf; omega
    rw [he]
    refine ⟨fun _ => splitD_no x fun i hi => ?_, fun _ => rfl⟩
    by_cases hle : i ≤ x.length
    · exact hn i (Nat.zero_le _) (atL_le hi hle) hi
    · have : x.drop i = [] := List.drop_eq_nil_of_le (by omega)
      simp [AtL, this, dots] at hi
  · obtain ⟨w, mids, wl, e⟩ := splitD_some x k hat
    constructor
    · intro h
      exfalso
      cases e2 : occurrences (S x) (S dots) 0 x.length 1 with
      | nil => rw [e2] at hf; simp at hf; omega
      | cons k r => rw [e2] at h; simp at h
    · intro h
      rw [e] at h
      have := congrArg List.length h
      simp at this
/-- what _ellipsis_match says -/
noncomputable def emAns (p g : List Nat) : Bool := @decide (Mt (splitD p) g) (Classical.propDecidable _)
theorem emAns_iff {p g : List Nat} : emAns p g = true ↔ Mt (splitD p) g := by unfold emAns; simp
end Mine
end

section
set_option maxRecDepth 100000
set_option autoImplicit false
set_option linter.unusedVariables false
namespace Mine
open PySem PySem.Calls PyProof.Rows
open PySem.W (Dat)
abbrev PW := PySem.Challenge.pw_pe0057_02
structure Blts (C : Cx) : Prop where
  bytearray : Blt C "bytearray" (.type "bytearray")
  bytes : Blt C "bytes" (.type "bytes")
  range : Blt C "range" (.type "range")
  len : Blt C "len" (.builtin "len")
  chr : Blt C "chr" (.builtin "chr")
  max : Blt C "max" (.builtin "max")
  sum : Blt C "sum" (.builtin "sum")
  bool : Blt C "bool" (.type "bool")
  isinstance : Blt C "isinstance" (.builtin "isinstance")
section
variable {n : Nat} {C : Cx} {A : Around} {Pr : Addr → Obj → Prop} {X : Addr → Prop} {ρ : Rho} {s s' : Shared} {rest : List Stmt} {Q : Flow → Shared → Prop} {pm code doc : Value} {L a : Addr}
theorem body_bs {l : List Nat} {w k : Nat} (hB : Blts C) (hA : Room 0 A) (hl : l.length = k * w) (hw : 0 < w) (h8 : ∀ x ∈ l, x < 256) (hz : l.length ≤ 1000000) (hw2 : w ≤ 1000000) :
    Ex C A Pr X (envOf (recAt PW 1) pm code doc L a) [("data", .v (.bytes (byN l))), ("width", .v (.int w))] (recAt PW 1).body (RetQ C Pr X (.bytes (byN (swapL w k l)))) := by
  have hsz := sizeLine_eq
  have hbz : (byN l).size ≤ sizeLine := by rw [byN_size]; omega
  have hcast : ((byN l).size : Int) = ((k * w : Nat) : Int) := by rw [byN_size, hl]
  refine ex_ba (k := k * w) hA hB.bytearray (by rw [← hcast]; exact ev_callb hB.len (call_lenB hbz) (evs_cons (ev_name (by rfl)) evs_nil)) (by omega) (fun a' => ?_) (.inl (by rfl))
  rw [byN_replicate, ← front_zero (w := w) (l := l)]
  refine ex_for (xs := fun d => [("i", .v d)]) (ds := steps 0 w k) hA (it_range3 hB.range ev_int (by rw [← hcast]; exact ev_callb hB.len (call_lenB hbz) (evs_cons (ev_name (by rfl)) evs_nil)) (ev_name (by rfl)) (by omega) (PyProof.noPylong_small (by omega)) (range_blocks hw) ?_)
    (fun q => [("swapped_data", .mb a' (byN (front w (k * w) q l))), ("data", .v (.bytes (byN l))), ("width", .v (.int w))]) (SubR.at ⟨rfl, rfl, rfl, trivial⟩) (fun d _ => bnd_name (.inl (by rfl))) (fun q hq Pr' hPr => ?_) ?_
  · exact small_of (by omega) (by omega) (by omega)
  · have hqk : q < k := by simpa [steps] using hq
    have hq1 : (q + 1) * w ≤ k * w := Nat.mul_le_mul_right w hqk
    have e0 : (steps 0 (w : Int) k)[q] = Dat.int ((q * w : Nat) : Int) := by simp [steps]
    rw [e0]
    refine ex_for (xs := fun d => [("j", .v d)]) (ds := steps 0 1 w) hA (it_range1 hB.range (ev_name (by rfl)) (range_upto w) ?_)
      (fun j => [("swapped_data", .mb a' (byN (part w (k * w) q j l))), ("i", .v (.int ((q * w : Nat) : Int))), ("data", .v (.bytes (byN l))), ("width", .v (.int w))]) (SubR.at ⟨by rw [part_zero hq1]; rfl, rfl, rfl, rfl, trivial⟩) (fun d _ => bnd_name (.inl (by rfl))) (fun j hj Pr'' hPr'' => ?_) ?_
    · exact small_of (by omega) (by omega) (by omega)
    · have hjw : j < w := by simpa [steps] using hj
      have e1 : (steps 0 1 w)[j] = Dat.int (j : Int) := by simp [steps]
      rw [e1]
      have hlt : q * w + j < l.length := by rw [hl]; rw [Nat.succ_mul] at hq1; omega
      have hx : l[q * w + j]? = some l[q * w + j] := List.getElem?_eq_getElem hlt
      have hx8 : l[q * w + j] < 256 := h8 _ (List.getElem_mem hlt)
      refine ex_setba (k := q * w + w - 1 - j) (y := l[q * w + j]) hA (by rfl) ?_ ?_ ?_ hx8 ?_ ?_
      · have := item_bytes (b := byN l) (i := ((q * w + j : Nat) : Int)) hbz (by omega) (byN_get hx)
        rw [u8 hx8] at this
        exact ev_item this (ev_name (by rfl)) (by push_cast; exact ev_add (ev_name (by rfl)) (ev_name (by rfl)))
      · have e2 : ((q * w + w - 1 - j : Nat) : Int) = ((q * w : Nat) : Int) + (w : Int) - 1 - (j : Int) := by omega
        rw [e2]
        exact ev_sub (ev_sub (ev_add (ev_name (by rfl)) (ev_name (by rfl))) ev_int) (ev_name (by rfl))
      · rw [byN_size, part_length hl hq1 (by omega)]; rw [Nat.succ_mul] at hq1; omega
      · rw [byN_size, part_length hl hq1 (by omega)]; omega
      · rw [byN_set, part_step hl hq1 hjw hx]
        exact ex_nil fun s S => S.weaken (SubR.at ⟨rfl, rfl, rfl, rfl, trivial⟩)
    · have e3 : (steps 0 1 w).length = w := by simp [steps]
      rw [e3]
      exact ex_nil fun s S => S.weaken (SubR.at ⟨by rw [← part_full hq1]; rfl, rfl, rfl, trivial⟩)
  · have e3 : (steps 0 (w : Int) k).length = k := by simp [steps]
    rw [e3, front_full]
    exact ex_ret hA (ev_callt hB.bytes (call_bytesBa (by rw [byN_size, swapL_length _ _ _ (by omega)]; omega)) (evs_cons (ev_name (by rfl)) evs_nil)) (fun b o h => h) fun b h => .inr h
theorem calls_bs {l : List Nat} {w k : Nat} (hF : FnAt C (recAt PW 1)) (hO : C.Ok) (hB : Blts C) (hl : l.length = k * w) (hw : 0 < w) (h8 : ∀ x ∈ l, x < 256) (hz : l.length ≤ 1000000) (hw2 : w ≤ 1000000) :
    Calls C 1 "_byteswap" [.bytes (byN l), .int w] (.bytes (byN (swapL w k l))) :=
  fn_calls (d := recAt PW 1) (names := ["data", "width"]) hF hO (by decide +kernel) (fun pm code doc vals hv => by
    match vals, hv with
    | [v1, v2], _ => kernel_rfl) (fun L x hx => by
      rcases List.mem_cons.mp hx with rfl | hx
      · exact .inl (by rfl)
      · rcases List.mem_cons.mp hx with rfl | hx
        · exact .inl (by rfl)
        · cases hx) rfl (by rfl) (by rfl) (by rfl) fun A pm code doc L a Pr X hA => body_bs hB hA hl hw h8 hz hw2
end
end Mine
end

section
set_option maxRecDepth 100000
set_option autoImplicit false
set_option linter.unusedVariables false
namespace Mine
open PySem PySem.Calls PyProof.Rows
open PySem.W (Dat)
section
variable {n : Nat} {C : Cx} {A : Around} {Pr : Addr → Obj → Prop} {X : Addr → Prop} {env : Env} {ρ : Rho} {s s' : Shared} {rest : List Stmt} {Q : Flow → Shared → Prop} {pm code doc : Value} {L a : Addr}
theorem ev_neg {e : Expr} {i : Int} {pos : Pos} (h : Ev n C X env ρ e (.v (.int i))) : Ev n C X env ρ (.UnaryOp .USub e pos) (.v (.int (-i))) := fun A s hA hs => by
  show wpI _ A (do let v ← eval e env; standAt pos; holding [v] (unaryOp .USub v)) _ _ s
  refine wpI_bind (h.use hA hs fun v s1 k1 r1 p1 => wpI_stand (wpI_holding ?_))
  obtain ⟨t, rfl⟩ := Rep.int_inv p1
  exact wpI_any (PyProof.Rows.neg_int ⟨keeps_trans k1 (keeps_toks _ _), .int _ _⟩)
theorem Tr.to {e : Expr} {c c' : Bool} (h : Tr n C X env ρ e c) (q : c = c') : Tr n C X env ρ e c' := q ▸ h
theorem Ev.to {e : Expr} {b b' : B} (h : Ev n C X env ρ e b) (q : b = b') : Ev n C X env ρ e b' := q ▸ h
theorem tr_str {e : Expr} {x : List Nat} (h : Ev n C X env ρ e (.v (.str (S x)))) (hz : x.length ≤ 1000000)
    (he : isTrue e env (eval e env) = (do let v ← eval e env; standAt e.pos; holding [v] (truthy v)) := by rfl) : Tr n C X env ρ e (decide (x ≠ [])) :=
  tr_val h (fun A s v _ _ r => by
    obtain ⟨t, rfl⟩ := Rep.str_inv r
    refine PySem.P.truthy_str (by rw [S_length]; omega) ⟨keeps_toks s _, ?_⟩
    rw [S_length]
    cases x with
    | nil => simp
    | cons c r => simp; omega) he
theorem start_S (g w : List Nat) : Txt.startswith (S g) (S w) = decide (w <+: g) := by
  rw [Bool.eq_iff_iff]
  unfold Txt.startswith
  rw [Bool.and_eq_true, decide_eq_true_eq, decide_eq_true_eq, subAt_S, S_length, S_length]
  constructor
  · rintro ⟨_, h⟩
    exact ⟨g.drop (0 + w.length), by have := atL_split h; simpa using this.symm⟩
  · rintro ⟨t, rfl⟩
    exact ⟨by simp, by have := atL_of (a := []) (y := w) (b := t); simpa using this⟩
theorem ends_S (g w : List Nat) : Txt.endswith (S g) (S w) = decide (w <:+ g) := by
  rw [Bool.eq_iff_iff]
  unfold Txt.endswith
  rw [Bool.and_eq_true, decide_eq_true_eq, decide_eq_true_eq, subAt_S, S_length, S_length]
  constructor
  · rintro ⟨hl, h⟩
    have e := atL_split h
    have e2 : g.drop (g.length - w.length + w.length) = [] := List.drop_eq_nil_of_le (by omega)
    rw [e2, List.append_nil] at e
    exact ⟨g.take (g.length - w.length), e.symm⟩
  · rintro ⟨t, rfl⟩
    exact ⟨by simp, by have := atL_of (a := t) (y := w) (b := []); simpa using this⟩
def posAt (g : List Nat) (hi : Nat) (ws : List (List Nat)) (st : Nat) : Nat → Nat
  | 0 => st
  | i + 1 => (findL g (ws.getD i []) (posAt g hi ws st i) hi).toNat + (ws.getD i []).length
theorem txts_length (ws : List (List Nat)) : (txts ws).length = ws.length := by simp [txts]
theorem em_loop {g : List Nat} {ws : List (List Nat)} {st hi : Nat} (hA : Room 0 A) (hB : Blts C) (hg : g.length ≤ 1000000) (hst : st ≤ hi) (hhi : hi ≤ g.length) (hws : ∀ w ∈ ws, w.length ≤ 1000000) :
    Ex C A Pr X (envOf (recAt PW 4) pm code doc L a) [("startpos", .v (.int st)), ("endpos", .v (.int hi)), ("ws", .v (.list (txts ws))), ("got", .v (.str (S g)))] ((recAt PW 4).body.drop 9) (RetQ C Pr X (.bool (seek g hi ws st))) := by
  have hsz := sizeLine_eq
  refine ex_forG (xs := fun d => [("w", .v d)]) (ds := txts ws) hA (it_list (ev_name (by rfl))) (fun i => [("startpos", .v (.int (posAt g hi ws st i : Nat))), ("endpos", .v (.int hi)), ("got", .v (.str (S g)))])
    (fun i => seek g hi ws st = seek g hi (ws.drop i) (posAt g hi ws st i) ∧ posAt g hi ws st i ≤ hi) ⟨rfl, hst⟩ (SubR.at ⟨rfl, rfl, rfl, trivial⟩) (fun d _ => bnd_name (.inl (by rfl))) (fun i hi' Pr' hPr hG => ?_) fun hG => ?_
  · rw [txts_length] at hi'
    have e0 : (txts ws)[i]'(by rw [txts_length]; exact hi') = Dat.str (S ws[i]) := by simp [txts]
    rw [e0]
    have ed : ws.drop i = ws[i] :: ws.drop (i + 1) := List.drop_eq_getElem_cons hi'
    have egd : ws.getD i [] = ws[i] := by simp [hi']
    have hw := hws _ (List.getElem_mem hi')
    refine ex_assign hA (ev_meth (ev_name (by rfl)) (meth_str PySem.F.slot_str_find PySem.F.type_str_find) (call_find hhi) (evs_cons (ev_name (by rfl)) (evs_cons (ev_name (by rfl)) (evs_cons (ev_name (by rfl)) evs_nil)))) ?_ (.inl (by rfl))
    have hsp := findL_spec g ws[i] (posAt g hi ws st i) hi
    refine ex_if hA (cmp_lt.tr (ev_name (by rfl)) ev_int) (fun hc => ?_) fun hc => ?_
    · have hlt : findL g ws[i] (posAt g hi ws st i) hi < 0 := by simpa using hc
      have hf : seek g hi ws st = false := by rw [hG.1, ed]; unfold seek; rw [if_pos hlt]
      rw [hf]
      refine ex_return hA ev_bool fun v s S r => ⟨v, rfl, S.rd.base, fun b o e => S.keep b o (hPr b o e), r⟩
    · have hge : ¬ findL g ws[i] (posAt g hi ws st i) hi < 0 := by simpa using hc
      rcases hsp with ⟨h1, _⟩ | ⟨k, h1, hk1, hk2, _⟩
      · omega
      refine ex_next (ex_augadd hA (by rfl) (ev_callb hB.len (call_lenS (x := S ws[i]) (by rw [S_length]; omega)) (evs_cons (ev_name (by rfl)) evs_nil)) ?_ (.inl (by rfl)))
      have e2 : findL g ws[i] (posAt g hi ws st i) hi + ((S ws[i]).length : Int) = ((posAt g hi ws st (i + 1) : Nat) : Int) := by
        rw [S_length]; show _ = (((findL g (ws.getD i []) (posAt g hi ws st i) hi).toNat + (ws.getD i []).length : Nat) : Int)
        rw [egd, h1]; simp
      rw [e2]
      refine ex_nil fun s S => ⟨S.weaken (SubR.at ⟨rfl, rfl, rfl, trivial⟩), ?_, ?_⟩
      · rw [hG.1, ed]
        show seek g hi (ws[i] :: ws.drop (i + 1)) _ = seek g hi _ ((findL g (ws.getD i []) (posAt g hi ws st i) hi).toNat + (ws.getD i []).length)
        rw [egd]
        conv => lhs; unfold seek
        rw [if_neg hge]
      · show (findL g (ws.getD i []) (posAt g hi ws st i) hi).toNat + (ws.getD i []).length ≤ hi
        rw [egd, h1]; simpa using hk2
  · rw [txts_length] at hG
    have : seek g hi ws st = true := by rw [hG.1, List.drop_length]; rfl
    rw [this]
    exact ex_ret hA ev_bool (fun b o h => h) fun b h => h
theorem em_tail {g w wl : List Nat} {ws : List (List Nat)} {b : Addr} (hA : Room 0 A) (hB : Blts C) (hg : g.length ≤ 1000000) (hw : w.length ≤ 1000000) (hwl : wl.length ≤ g.length) (hws : ∀ w ∈ ws, w.length ≤ 1000000) (hXb : ¬ X b) :
    Ex C A Pr (Plus X b) (envOf (recAt PW 4) pm code doc L a) [("startpos", .v (.int w.length)), ("endpos", .v (.int ((g.length : Int) - wl.length))), ("ws", .ml b (txts ws)), ("got", .v (.str (S g)))] ((recAt PW 4).body.drop 8)
      (RetQ C Pr X (.bool (decide (w.length + wl.length ≤ g.length) && seek g (g.length - wl.length) ws w.length))) := by
  refine ex_if hA (cmp_gt.tr (ev_name (by rfl)) (ev_name (by rfl))) (fun hc => ?_) fun hc => ?_
  · have : ¬ w.length + wl.length ≤ g.length := by simp only [decide_eq_true_eq] at hc; omega
    rw [decide_eq_false this, Bool.false_and]
    exact ex_return hA ev_bool fun v s S r => ⟨v, rfl, S.rd.base, fun b o e => S.keep b o e, Rep.less r⟩
  · have hle : w.length + wl.length ≤ g.length := by simp only [decide_eq_false_iff_not] at hc; omega
    rw [decide_eq_true hle, Bool.true_and]
    refine ex_next (Ex.weaken (ρ' := ("ws", .ml b (txts ws)) :: [("startpos", .v (.int w.length)), ("endpos", .v (.int ((g.length : Int) - wl.length))), ("got", .v (.str (S g)))]) (Ex.freeze ?_ hXb ?_) (SubR.at ⟨rfl, rfl, rfl, rfl, trivial⟩))
    · have e : (g.length : Int) - wl.length = ((g.length - wl.length : Nat) : Int) := by omega
      rw [e]
      exact Ex.weaken (em_loop hA hB hg (by omega) (by omega) hws) (SubR.at ⟨rfl, rfl, rfl, rfl, trivial⟩)
    · intro y c e
      have : ∀ y c, ([("startpos", .v (.int w.length)), ("endpos", .v (.int ((g.length : Int) - wl.length))), ("got", .v (.str (S g)))] : Rho).lookup y = some c → ∃ d, c = .v d := fun y c e => by
        have hm := mem_of_lookup e
        simp only [List.mem_cons, List.not_mem_nil, or_false] at hm
        rcases hm with hm | hm | hm <;> (cases hm; exact ⟨_, rfl⟩)
      obtain ⟨d, rfl⟩ := this y c e
      intro q; cases q
theorem em_last {g w wl : List Nat} {pre : List (List Nat)} {b : Addr} (hA : Room 0 A) (hB : Blts C) (hg : g.length ≤ 1000000) (hw : w.length ≤ 1000000) (hwl : wl.length ≤ 1000000) (hws : ∀ w ∈ pre, w.length ≤ 1000000) (hpre : pre.length ≤ 1000000) (hXb : ¬ X b) :
    Ex C A Pr (Plus X b) (envOf (recAt PW 4) pm code doc L a) [("startpos", .v (.int w.length)), ("endpos", .v (.int g.length)), ("ws", .ml b (txts (pre ++ [wl]))), ("got", .v (.str (S g)))] ((recAt PW 4).body.drop 6)
      (RetQ C Pr X (.bool (decide (wl <:+ g) && (decide (w.length + wl.length ≤ g.length) && seek g (g.length - wl.length) (pre ++ if wl = [] then [[]] else []) w.length)))) := by
  have hsz := sizeLine_eq
  have hlen : (txts (pre ++ [wl])).length = pre.length + 1 := by simp [txts]
  refine ex_assign (d := .str (S wl)) hA (ev_item (item_mlback (ds := txts (pre ++ [wl])) (i := -1) (by omega) (by omega) (by omega) ?_) (ev_name (by rfl)) ?_) ?_ (.inl (by rfl))
  · rw [hlen, show ((-1 : Int) + ((pre.length + 1 : Nat) : Int)).toNat = pre.length by omega]; simp [txts]
  · exact ev_neg ev_int
  refine ex_if hA (tr_str (ev_name (by rfl)) hwl) (fun hc => ?_) fun hc => ?_
  · have hne : wl ≠ [] := by simpa using hc
    rw [if_neg hne, List.append_nil]
    refine ex_if hA (tr_bool (ev_meth (ev_name (by rfl)) (meth_str PySem.F.slot_str_endswith PySem.F.type_str_endswith) call_endswith (evs_cons (ev_name (by rfl)) evs_nil))) (fun he => ?_) fun he => ?_
    · rw [ends_S] at he
      have hs : wl <:+ g := by simpa using he
      rw [decide_eq_true hs, Bool.true_and]
      refine ex_augsub hA (by rfl) (ev_callb hB.len (call_lenS (x := S wl) (by rw [S_length]; omega)) (evs_cons (ev_name (by rfl)) evs_nil)) ?_ (.inl (by rfl))
      refine ex_del (i := -1) (j := pre.length) hA (by rfl) ?_ (by omega) ?_ (by omega) ?_
      · exact ev_neg ev_int
      · rw [hlen]; rw [seqIndex_neg (by omega) (by omega)]; congr 1; omega
      refine ex_next (ex_next (Ex.weaken (em_tail (ws := pre) hA hB hg hw hs.length_le hws hXb) (SubR.at ⟨rfl, by rw [S_length]; rfl, ?_, rfl, trivial⟩)))
      have : (txts (pre ++ [wl])).eraseIdx pre.length = txts pre := by
        simp only [txts, List.map_append, List.map_cons, List.map_nil]
        rw [List.eraseIdx_append_of_length_le (by simp)]
        simp
      rw [this]; rfl
    · rw [ends_S] at he
      have hs : ¬ wl <:+ g := by simpa using he
      rw [decide_eq_false hs, Bool.false_and]
      exact ex_return hA ev_bool fun v s S r => ⟨v, rfl, S.rd.base, fun b o e => S.keep b o e, Rep.less r⟩
  · have hne : wl = [] := by simpa using hc
    subst hne
    rw [if_pos rfl, decide_eq_true (List.nil_suffix), Bool.true_and]
    refine ex_next (Ex.weaken (em_tail (wl := []) (ws := pre ++ [[]]) hA hB hg hw (Nat.zero_le _) ?_ hXb) (SubR.at ⟨rfl, by simp; rfl, rfl, rfl, trivial⟩))
    intro w hw
    rcases List.mem_append.mp hw with h | h
    · exact hws w h
    · simp at h; subst h; simp
theorem splitD_len : ∀ x : List Nat, (splitD x).length ≤ x.length + 1 ∧ ∀ w ∈ splitD x, w.length ≤ x.length
  | [] => by simp [splitD]
  | c :: r => by
    obtain ⟨h1, h2⟩ := splitD_len r
    rw [splitD.eq_def]
    split
    · rename_i e; cases e
    · rename_i r' e
      cases e
      obtain ⟨h1', h2'⟩ := splitD_len r'
      refine ⟨by simp only [List.length_cons]; omega, fun w hw => ?_⟩
      rcases List.mem_cons.mp hw with rfl | hw
      · simp
      · have := h2' w hw; simp only [List.length_cons]; omega
    · rename_i c' r' hn e
      cases e
      cases hs : splitD r with
      | nil => exact absurd hs (splitD_ne r)
      | cons a t =>
        rw [hs] at h1 h2
        simp only [List.length_cons] at h1 ⊢
        refine ⟨by omega, fun w hw => ?_⟩
        rcases List.mem_cons.mp hw with rfl | hw
        · have := h2 a List.mem_cons_self; simp only [List.length_cons]; omega
        · have := h2 w (List.mem_cons_of_mem _ hw); omega
termination_by x => x.length
theorem body_em {p g : List Nat} (hA : Room 0 A) (hB : Blts C) (hG : GStr C "ELLIPSIS_MARKER" (S dots)) (hp : p.length ≤ 100000) (hg : g.length ≤ 1000000) :
    Ex C A Pr X (envOf (recAt PW 4) pm code doc L a) [("want", .v (.str (S p))), ("got", .v (.str (S g)))] (recAt PW 4).body (RetQ C Pr X (.bool (emAns p g))) := by
  have hsz := sizeLine_eq
  refine ex_if hA (cmp_notInS.tr (ev_gstr hG) (ev_name (by rfl))) (fun hc => ?_) fun hc => ?_
  · rw [dots_in] at hc
    have e : emAns p g = (S p == S g) := by
      rw [Bool.eq_iff_iff, emAns_iff, hc, S_beq, decide_eq_true_eq]
      exact ⟨fun h => h.symm, fun h => h.symm⟩
    rw [e]
    exact ex_return hA (cmp_eqS.ev (ev_name (by rfl)) (ev_name (by rfl))) fun v s S r => ⟨v, rfl, S.rd.base, fun b o e => S.keep b o e, r⟩
  · have hno : splitD p ≠ [p] := fun h => by rw [(dots_in p).mpr h] at hc; cases hc
    obtain ⟨w, mids, wl, hsp⟩ : ∃ w mids wl, splitD p = w :: (mids ++ [wl]) := by
      by_cases h : ∃ i, AtL p dots i
      · obtain ⟨i, h⟩ := h; exact splitD_some p i h
      · exact absurd (splitD_no p fun i hi => h ⟨i, hi⟩) hno
    obtain ⟨hl1, hl2⟩ := splitD_len p
    rw [hsp] at hl1 hl2
    simp only [List.length_cons, List.length_append, List.length_nil] at hl1
    have hw : w.length ≤ 1000000 := by have := hl2 w List.mem_cons_self; omega
    have hwl : wl.length ≤ 1000000 := by have := hl2 wl (by simp); omega
    have hmids : ∀ v ∈ mids, v.length ≤ 1000000 := fun v hv => by have := hl2 v (by simp [hv]); omega
    have hans : emAns p g = (decide (w <+: g) && (decide (wl <:+ g) && (decide (w.length + wl.length ≤ g.length) && seek g (g.length - wl.length) (((if w = [] then [[]] else []) ++ mids) ++ if wl = [] then [[]] else []) w.length))) := by
      rw [Bool.eq_iff_iff, emAns_iff, hsp, ← emB_spec]
      unfold emB
      simp only [Bool.and_assoc]
    rw [hans]
    refine ex_next (ex_own hA (evn_split (x := p) rfl (by omega) (ev_name (by rfl)) (ev_gstr hG)) (fun b hXb => ?_) (.inl (by rfl)))
    rw [hsp]
    have hlen : (txts (w :: (mids ++ [wl]))).length = mids.length + 2 := by simp [txts]
    refine ex_assert hA (Tr.to (cmp_ge.tr (ev_callb hB.len (call_lenM (ds := txts (w :: (mids ++ [wl]))) (by omega)) (evs_cons (ev_name (by rfl)) evs_nil)) ev_int) (decide_eq_true (by omega))) ?_
    refine ex_swapped hA ev_int (ev_callb hB.len (call_lenS (x := S g) (by rw [S_length]; omega)) (evs_cons (ev_name (by rfl)) evs_nil)) ?_ (.inl (by rfl)) (.inl (by rfl))
    refine ex_assign (d := .str (S w)) hA (ev_item (item_ml (ds := txts (w :: (mids ++ [wl]))) (i := 0) (by omega) (by omega) (by simp [txts])) (ev_name (by rfl)) ev_int) ?_ (.inl (by rfl))
    refine ex_if hA (tr_str (ev_name (by rfl)) hw) (fun hc => ?_) fun hc => ?_
    · have hne : w ≠ [] := by simpa using hc
      rw [if_neg hne, List.nil_append]
      refine ex_if hA (tr_bool (ev_meth (ev_name (by rfl)) (meth_str PySem.F.slot_str_startswith PySem.F.type_str_startswith) call_startswith (evs_cons (ev_name (by rfl)) evs_nil))) (fun he => ?_) fun he => ?_
      · rw [start_S] at he
        have hs : w <+: g := by simpa using he
        rw [decide_eq_true hs, Bool.true_and]
        refine ex_assign hA (ev_callb hB.len (call_lenS (x := S w) (by rw [S_length]; omega)) (evs_cons (ev_name (by rfl)) evs_nil)) ?_ (.inl (by rfl))
        refine ex_del (i := 0) (j := 0) hA (by rfl) ev_int (by omega) ?_ (by omega) ?_
        · rw [hlen]; unfold seqIndex?; simp; omega
        refine ex_next (ex_next (Ex.weaken (em_last (pre := mids) hA hB hg hw hwl hmids (by omega) hXb) (SubR.at ⟨by rw [← S_length]; rfl, by rw [← S_length]; rfl, rfl, rfl, trivial⟩)))
      · rw [start_S] at he
        have hs : ¬ w <+: g := by simpa using he
        rw [decide_eq_false hs, Bool.false_and]
        exact ex_return hA ev_bool fun v s S r => ⟨v, rfl, S.rd.base, fun b o e => S.keep b o e, Rep.less r⟩
    · have hne : w = [] := by simpa using hc
      subst hne
      rw [if_pos rfl, decide_eq_true (List.nil_prefix), Bool.true_and]
      refine ex_next (Ex.weaken (em_last (w := []) (pre := [[]] ++ mids) hA hB hg hw hwl ?_ (by simp; omega) hXb) (SubR.at ⟨rfl, by rw [← S_length]; rfl, rfl, rfl, trivial⟩))
      intro v hv
      rcases List.mem_append.mp hv with h | h
      · simp at h; subst h; simp
      · exact hmids v h
theorem calls_em {p g : List Nat} (hF : FnAt C (recAt PW 4)) (hO : C.Ok) (hB : Blts C) (hG : GStr C "ELLIPSIS_MARKER" (S dots)) (hp : p.length ≤ 100000) (hg : g.length ≤ 1000000) :
    Calls C 1 "_ellipsis_match" [.str (S p), .str (S g)] (.bool (emAns p g)) :=
  fn_calls (d := recAt PW 4) (names := ["want", "got"]) hF hO (by decide +kernel) (fun pm code doc vals hv => by
    match vals, hv with
    | [v1, v2], _ => kernel_rfl) (fun L x hx => by
      rcases List.mem_cons.mp hx with rfl | hx
      · exact .inl (by rfl)
      · rcases List.mem_cons.mp hx with rfl | hx
        · exact .inl (by rfl)
        · cases hx) rfl (by rfl) (by rfl) (by rfl) fun A pm code doc L a Pr X hA => body_em hA hB hG hp hg
end
end Mine
end

section
set_option maxRecDepth 100000
set_option autoImplicit false
set_option linter.unusedVariables false
open PySem PySem.Calls PyProof.Rows PySem.W
namespace Mine
/-! the head. The library's head (open_anyG) wants a walk over all contexts; mine holds where no decoder stands. So the library's head is taken of a tree
    that first asks the stack: where a decoder stands it gives True at once, else it is the tree that is asked. One step of the machine leads from the one to the other. -/
def cleanS (st : List (Code × Pos)) : Bool := st.all fun x => notDec x.1
def guardF (t : Sem Fin) : Sem Fin := .stack fun st => if cleanS st = true then t else .pure (.done (.ret (.bool true)))
def guardV (t : Sem Value) : Sem Value := .stack fun st => if cleanS st = true then t else .pure (.bool true)
theorem clean_ctx {Γ : Ctx} {p : Pos} (h : cleanS ((Γ.code, p) :: Γ.below) = true) : NoDec Γ := by
  rw [cleanS, List.all_eq_true] at h
  exact ⟨h _ List.mem_cons_self, fun x hx => h x (List.mem_cons_of_mem _ hx)⟩
theorem guardV_any {M : Model} {A : Around} {t : Sem Value} {Q : Value → Shared → Prop} {E : Value → Shared → Prop} {s : Shared} (h : wpI M A t Q E s) (h0 : Q (.bool true) s) : wpAny M A (guardV t) Q E s := fun Γ p hΓ => by
  show Sem.wp M Γ (if cleanS ((Γ.code, p) :: Γ.below) = true then t else .pure (.bool true)) _ _ p s
  by_cases hc : cleanS ((Γ.code, p) :: Γ.below) = true
  · rw [if_pos hc]; exact h Γ p hΓ (clean_ctx hc)
  · rw [if_neg hc]; exact h0
/-- the caller's stub -/
abbrev stubT (name : Str) (vs : List Value) : Sem Fin := do match ← nsGet mainNs name with
  | some f => do ret (← PySem.call f vs)
  | none => unsupported "claim.caller:no-such-global"
theorem clean_any (c : Code) (b : List (Code × Pos)) (p p' : Pos) : cleanS ((c, p) :: b) = cleanS ((c, p') :: b) := rfl
theorem guard_stub {prog : Program} {name : Str} {vs : List Value} {w : World} {s : Shared} {mg : Str → Option Value} {f : Value} {Q : Fin → Shared → Prop} {E : Value → Shared → Prop} (hg : s.heap.Ns mainGlobals mg) (hf : mg name = some f)
    (h : wpAny (model prog w) callerA (guardV (PySem.call f vs)) (fun v s' => Q (.done (.ret v)) s') E s) : wpAny (model prog w) callerA (guardF (stubT name vs)) Q E s := fun Γ p hΓ => by
  show Sem.wp _ Γ (if cleanS ((Γ.code, p) :: Γ.below) = true then stubT name vs else .pure (.done (.ret (.bool true)))) _ _ p s
  by_cases hc : cleanS ((Γ.code, p) :: Γ.below) = true
  · rw [if_pos hc]
    have look := wpAny_nsGet (M := model prog w) (A := callerA) (E := E) (Q := fun v s' => v = some f ∧ s' = s) hg ⟨hf, rfl⟩ Γ p hΓ
    rw [Sem.wp_bind']
    refine Sem.wp_mono _ Γ _ (fun v p' s' hv => ?_) (fun _ _ _ x => x) p s look
    obtain ⟨rfl, rfl⟩ := hv
    have h1 : Sem.wp (model prog w) Γ (if cleanS ((Γ.code, p') :: Γ.below) = true then PySem.call f vs else .pure (.bool true)) _ _ p' s' := h Γ p' hΓ
    rw [if_pos (clean_any Γ.code Γ.below p' p ▸ hc)] at h1
    show Sem.wp _ Γ (PySem.call f vs >>= fun v => ret v) _ _ p' s'
    rw [Sem.wp_bind']
    exact Sem.wp_mono _ Γ _ (fun _ _ _ x => x) (fun _ _ _ x => x) p' s' h1
  · rw [if_neg hc]
    have h1 : Sem.wp (model prog w) Γ (if cleanS ((Γ.code, p) :: Γ.below) = true then PySem.call f vs else .pure (.bool true)) _ _ p s := h Γ p hΓ
    rw [if_neg hc] at h1
    exact h1
/-- one step of the machine: the question to the stack -/
theorem guard_step (prog : Program) (w : World) (s : Shared) (t : Sem Fin) (hz : s.asleep) :
    sstep (denote table) prog w (.single s ⟨guardF t, .builtin "claim.caller" {}, default, []⟩) = .go (.single s ⟨t, .builtin "claim.caller" {}, default, []⟩) := by
  have hs : step (denote table) prog w s ⟨guardF t, .builtin "claim.caller" {}, default, []⟩ = .go s ⟨t, .builtin "claim.caller" {}, default, []⟩ := by
    obtain ⟨heap, gens, drawn, toks, os⟩ := s
    have hc : cleanS [((Code.builtin "claim.caller" {} : Code), (default : Pos))] = true := by decide +kernel
    show Step.go _ ⟨if cleanS [((Code.builtin "claim.caller" {} : Code), (default : Pos))] = true then t else _, _, _, _⟩ = _
    rw [if_pos hc]
  rcases sstep_single (den := denote table) (prog := prog) (w := w) s ⟨guardF t, .builtin "claim.caller" {}, default, []⟩ (by rfl) hz with e | e
  · rw [e, hs]; rfl
  · rw [hs] at e; cases e
theorem open_guard {c : ClaimW} {tree : List Value → Sem Fin} {defs kps : List Str} {writes : Bool}
    (h : c.HoldsOpenBy (fun vs => ⟨guardF (tree vs), .builtin "claim.caller" {}, default, []⟩) defs kps writes) : c.HoldsOpenBy (fun vs => ⟨tree vs, .builtin "claim.caller" {}, default, []⟩) defs kps writes := by
  obtain ⟨h1, h2, h3⟩ := h
  refine ⟨h1, h2, fun w => ⟨(h3 w).1, fun s hs => ?_⟩⟩
  obtain ⟨s₀, hf, hg, s₁, hT, hd, hr, hq, hc⟩ := (h3 w).2 s hs
  refine ⟨s₀, hf, hg, s₁, hT, hd, hr, hq, fun args hp hl ord hord => ?_⟩
  obtain ⟨vs, s₂, e, n, o, s', hrun, rest⟩ := hc args hp hl ord hord
  have hz : s₂.asleep := Shared.asleep_of_life ((layAllW_rest _ _ _ e).2.2.2.trans (hT.2.1.trans (fence_lifeW hf))) (AfterImport.life hs)
  cases n with
  | zero => cases hrun
  | succ n =>
    rw [schedN, guard_step _ _ _ _ hz] at hrun
    exact ⟨vs, s₂, e, n, o, s', hrun, rest⟩
end Mine
namespace MineH
open Mine
/-- the head for a walk that is guarded so. The line for the head looks this name up, so its premises are those that the line lays -/
theorem PySem.W.holds_open {r : OpenRow} {q : Program} {loose : List Str} {Xt : Shared → Bool} {XP : (Str → Option Value) → Heap → Prop} {α : Type} {Yf : Shared → α} {Ya : World → α} {YP : World → Heap → Prop} {d : DefRec} {kwd : List (Str × Expr)} {N : Nat}
    (left : LeftO r.prog q loose Xt Yf Ya N) (hY : ∀ w s, Yf s = Ya w → YP w s.heap) (hYk : ∀ w h h', YP w h → (∀ b o, h.get? b = some o → h'.get? b = some o) → YP w h')
    (hX : ∀ s, Xt s = true → XP (s.heap.nsMap mainGlobals) s.heap) (hXk : ∀ mg h h', XP mg h → (∀ b o, h.get? b = some o → h'.get? b = some o) → XP mg h')
    (hdef : defOf q r.name = some (d, kwd)) (hp : r.prog.theDef r.name = some (d.params, d.body, d.scope)) (hk : kwWritten? d.params.kwonlyargs d.params.kw_defaults = some kwd) (hRf : ∀ s, Xt s = true → RecFacts r.records s.heap) (hwr : (!r.writes || r.records.isEmpty) = true)
    (k1 : r.wellSaid = true) (ok : (chainsOk q && opensWell r.prog && (frees r.toRowW && r.within.isEmpty)) = true) (hb : r.prog.bare) (hw : r.toRowW.promised)
    (call : WalkO q loose XP YP r.toRowW d kwd fun f vs => guardV (PySem.call f vs)) : r.Holds := by
  refine ⟨k1, hw, open_guard (open_anyG (r := r.toRowW) (run := fun f vs => guardV (PySem.call f vs)) (tree := fun vs => guardF (stubT r.name vs)) left hY hYk hX hXk hRf hwr ok hb hw (fun _ _ _ _ _ _ _ => guard_stub) ?_ ?_)⟩
  · intro w s hg G n hn
    have e : n = r.name := by
      revert hn
      split <;> intro hn <;> simp_all
    rw [e]
    exact pinned_of_view hg G hdef hp hk
  · intro w s₀ s₁ mg mb G Y args vs as hpre hlay lay low
    obtain ⟨a, o, pm, cd, doc, dV, kV, at_, obj, fn, rec, dfl⟩ := G.fn hdef
    refine ⟨.ref a, at_, ?_⟩
    exact call w s₀ s₁ mg mb G Y a o pm cd doc dV kV obj fn rec dfl (by rw [defOf_name hdef]; exact at_) lay.gens args vs as hpre hlay lay.reads lay.well (lay.low low)
end MineH
end

section
open PySem PySem.Calls PyProof.Rows PySem.W
set_option maxRecDepth 100000
set_option autoImplicit false
set_option linter.unusedVariables false
namespace Mine
theorem room_caller {k : Nat} (hk : k ≤ 100) : Room k callerA := ⟨rfl, by show 1 + claimMargin + k ≤ 900; have : claimMargin = 300 := rfl; omega, by show 4 + 20 * k ≤ 9000; omega⟩
theorem blt_of {C : Cx} {x : Str} {v : Value} (h1 : C.mg x = none) (h2 : bootBuiltins x = some v) (h3 : x ≠ "__name__") : Blt C x v := ⟨h1, h2, h3⟩
/-- the list that the script is -/
theorem script_rep {P : Params} {h : Heap} {l : Addr} {vs : List Value} {ns : List Int} {xs : List WData} (hL : h.IsList l vs.toArray) (hI : IntsAre vs ns) (w1 : Well P h (.ref l) (.list xs)) : Reps (fun _ => False) h [.ref l] [.list (ns.map Dat.int)] := by
  refine .one (.list id ?_ (Reps.of_ints hI))
  cases w1 with
  | list e _ =>
    obtain ⟨o, ho, _, n, hd⟩ := hL
    rw [e] at ho; cases ho
    injection hd with h1 h2
    rw [← h1]
    exact ⟨0, e⟩
end Mine
end

section
set_option maxRecDepth 100000
set_option autoImplicit false
set_option linter.unusedVariables false
open PySem PySem.Calls PyProof.Rows
open PySem.W (Dat)
namespace Mine
/-! helpers for the laws 02 and 03 -/
theorem byteArr_toNat (ns : List Int) : byteArr ns = byN (ns.map Int.toNat) := by
  apply Array.ext'
  simp [byteArr, byN]
theorem byteArr_nat (l : List Nat) : byteArr (l.map fun k : Nat => (k : Int)) = byN l := by
  rw [byteArr_toNat, List.map_map]
  congr 1
  exact (List.map_congr_left fun k _ => by simp).trans (List.map_id l)
theorem swapL_whole {α : Type} (l : List α) : swapL l.length 1 l = l.reverse := by simp [swapL]
/-- the letters of bytes, glued -/
theorem chr_S (x : Nat) : (⟨#[((x : Nat) : Int).toNat]⟩ : Str) = S [x] := by simp [S]
theorem flatten_ones (l : List Nat) : joinL [] (l.map fun x => [x]) = l := by
  rw [joinL_nil]
  induction l with
  | nil => rfl
  | cons a l ih => simpa using ih
def natsD (P : List Nat) : List D := P.map fun k : Nat => Dat.int (k : Int)
theorem natsD_ints (P : List Nat) : natsD P = (P.map fun k : Nat => (k : Int)).map Dat.int := by simp [natsD]
theorem natsD_length (P : List Nat) : (natsD P).length = P.length := by simp [natsD]
theorem natsD_at {P : List Nat} {i : Nat} (h : i < P.length) : (natsD P)[i]? = some (Dat.int (P[i] : Nat)) := by simp [natsD, h]
theorem byN_nats {l : List Nat} (h : ∀ x ∈ l, x < 256) : ((byN l).toList.map fun c => (Dat.int c.toNat : D)) = natsD l := by
  simp only [byN, List.map_map, natsD]
  apply List.map_congr_left
  intro x hx
  simp only [Function.comp]
  rw [u8 (h x hx)]
theorem ones_sum (l : List Nat) : (l.map ((fun x : List Nat => x.length) ∘ fun x => [x])).sum = l.length := by
  induction l with
  | nil => rfl
  | cons a l ih => rw [List.map_cons, List.sum_cons, ih]; simp; omega
theorem kq_int (i : Int) : PySem.W.kqdOk 8 (Dat.int i) = true := by rfl
theorem kq_ints (l : List Int) : ∀ d ∈ l.map (Dat.int : Int → D), PySem.W.kqdOk 8 d = true := by
  intro d hd
  obtain ⟨i, _, rfl⟩ := List.mem_map.mp hd
  exact kq_int i
def forBody : List Stmt → List Stmt
  | .For _ _ b _ _ :: _ => b
  | _ => []
theorem fmod_range (a : Int) {b : Int} (hb : 0 < b) : 0 ≤ a.fmod b ∧ a.fmod b < b := ⟨Int.fmod_nonneg_of_pos _ hb, Int.fmod_lt_of_pos _ hb⟩
theorem steps_at {m i : Nat} (h : i < (steps 0 1 m).length) : (steps 0 1 m)[i] = Dat.int (i : Int) := by simp [steps]
theorem steps_len {a c : Int} {m : Nat} : (steps a c m).length = m := by simp [steps]
theorem steps_nats (m : Nat) : steps 0 1 m = natsD (List.range m) := by simp [steps, natsD]
theorem steps_from (a m : Nat) : steps (a : Int) 1 m = natsD (List.range' a m) := by
  rw [steps, natsD, List.range'_eq_map_range, List.map_map]
  apply List.map_congr_left
  intro i _
  simp
theorem range_from (a b : Nat) : Builtin.Range.rangeSize (a : Int) (b : Int) 1 = ((b - a : Nat) : Int) := by
  unfold Builtin.Range.rangeSize
  rw [if_pos (by omega)]
  split
  · rw [Int.ediv_one]; omega
  · omega
theorem CanStore.cell {env : Env} {x : Str} {c : Addr} (h1 : env.kindOf x = some .cell) (h2 : env.cells.lookup x = some c) (h3 : env.locals < c) : CanStore env x := .inr ⟨h1, c, h2, h3⟩
theorem method_hc {apos mpos : Pos} {o e : Expr} {name : Str} {env : Env} (hb : attributeBase o name env (eval o env) = eval o env) (he : starEach [e] env = [(false, eval e env)]) (hp : (apos.endLine == mpos.line) = true) :
    eval (.Call (.Attribute o name apos) [e] [] mpos) env = (do
      let ov ← eval o env
      standAt apos.atName
      let (f, first) ← holding [ov] (getMethod ov name (do return (← importBound o env).getD true))
      callWith mpos f first (backTo mpos (starEach [e] env)) []) := by
  have h1 : eval (.Call (.Attribute o name apos) [e] [] mpos) env = (do
    let ov ← attributeBase o name env (eval o env)
    standAt apos.atName
    methodCall o name apos mpos env ov ([e].length + ([] : List Keyword).length) (backTo mpos (starEach [e] env)) (backToKw mpos (keywordEach [] env))) := by rw [eval]
  rw [h1, hb, he]
  have h2 : methodCallForm ([e].length + ([] : List Keyword).length) (backTo mpos [(false, eval e env)]) (backToKw mpos (keywordEach [] env)) = true := by rfl
  have h3 : methodCallPos true o env apos mpos = pure mpos := by unfold methodCallPos; rw [hp]; rfl
  unfold methodCall
  simp only [h2, h3]
  rfl
theorem base_const {c : Const} {k : Nat} {p : Pos} {name : Str} {env : Env} {w : Sem Value} : attributeBase (.Constant c k p) name env w = w := by unfold attributeBase; rfl
theorem base_name {x : Str} {p : Pos} {name : Str} {env : Env} {w : Sem Value} : attributeBase (.Name x p) name env w = w := by unfold attributeBase; rfl
section
variable {n : Nat} {C : Cx} {A : Around} {Pr : Addr → Obj → Prop} {X : Addr → Prop} {env : Env} {ρ : Rho}
theorem ev_and {e f : Expr} {pos : Pos} {c d : Bool} (h : Ev n C X env ρ e (.v (.bool c))) (h' : c = true → Ev n C X env ρ f (.v (.bool d))) : Ev n C X env ρ (.BoolOp .And [e, f] pos) (.v (.bool (c && d))) := fun A s hA hs =>
  wpI_BoolOp_and2 (h.use hA hs fun v s1 k1 r1 p1 => by
    have hv : v = .bool c := Rep.bool_inv p1
    subst hv
    refine wpI_any (wpAny_truthy_bool ?_)
    cases c with
    | false => exact ⟨k1, .bool _⟩
    | true => exact (h' rfl).use hA r1 fun v2 s2 k2 r2 p2 => ⟨keeps_trans k1 k2, by simpa using p2⟩)
theorem ItEv.to {e : Expr} {ds es : List D} (h : ItEv n C X env ρ e ds) (q : ds = es) : ItEv n C X env ρ e es := q ▸ h
theorem star_comp {elt : Expr} {gens : List Comprehension} {scope : Scope} {pos : Pos} {env : Env} : starEach [.ListComp elt gens scope pos] env = [(false, eval (.ListComp elt gens scope pos) env)] := by rfl
/-- the same as Ev, but no function type (the elaborator does not run the program to look for arguments) -/
structure EvS (n : Nat) (C : Cx) (X : Addr → Prop) (env : Env) (ρ : Rho) (e : Expr) (b : B) : Prop where
  ev : Ev n C X env ρ e b
theorem ex_assignS {rest : List Stmt} {Q : Flow → Shared → Prop} {x : Str} {px pos : Pos} {e : Expr} {d : D} (hA : Room n A) (h : EvS n C X env ρ e (.v d)) (k : Ex C A Pr X env ((x, .v d) :: ρ) rest Q) (hx : CanStore env x)
    (hs : swapsWith e (some (.Name x px)) pos.line env = pure false := by rfl) : Ex C A Pr X env ρ (.Assign [.Name x px] e pos :: rest) Q := ex_assign hA h.ev k hx hs
theorem ex_retS {rest : List Stmt} {Pr0 : Addr → Obj → Prop} {X0 : Addr → Prop} {e : Expr} {pos : Pos} {d : D} (hA : Room n A) (h : EvS n C X env ρ e (.v d)) (hP : ∀ b o, Pr0 b o → Pr b o) (hX : ∀ a, X0 a → X a) : Ex C A Pr X env ρ (.Return (some e) pos :: rest) (RetQ C Pr0 X0 d) := ex_ret hA h.ev hP hX
/-- sep.join(e) of a list of texts -/
theorem ev_join {apos spos mpos : Pos} {k : Nat} {e : Expr} {sep : List Nat} {ls : List (List Nat)} {join sepS : Str} (hj : join = "join") (hs : sepS = S sep) (h : Ev n C X env ρ e (.v (.list (txts ls)))) (hz : (ls.map (·.length)).sum + ls.length * sep.length ≤ sizeLine)
    (he : starEach [e] env = [(false, eval e env)] := by rfl) (hp : (apos.endLine == mpos.line) = true := by rfl) :
    EvS n C X env ρ (.Call (.Attribute (.Constant (.str sepS) k spos) join apos) [e] [] mpos) (.v (.str (S (joinL sep ls)))) := by
  subst hj hs
  refine EvS.mk ?_
  exact ev_meth ev_str (meth_str PySem.F.slot_str_join PySem.F.type_str_join) (call_join hz) (evs_cons h evs_nil he) he rfl (method_hc base_const he hp)
/-- ''.join([chr(o) for o in e]) of bytes or numbers -/
theorem ev_chars {x : Str} {px pos apos jpos cpos spos npos mpos : Pos} {k : Nat} {iter : Expr} {scope : Scope} {l : List Nat} {chr join sepS : Str} (hB : Blts C) (h8 : ∀ x ∈ l, x < 256) (hz : l.length ≤ 1000000)
    (hiter : ItEv n C X env ρ iter (natsD l)) (hchr : chr = "chr") (hj : join = "join") (hs : sepS = S [])
    (hx : ∀ L, CanStore (compEnvG scope [] L env) x) (hxc : ∀ L, (compEnvG scope [] L env).kindOf "chr" = some .globalImplicit) (hclos : closureFor scope env = pure []) (hnames : ∀ x ∈ scope.names, x.2 = .local → scope.names.lookup x.1 = some .local)
    (hd : (x == ("__debug__" : Str)) = false) (hcd : (x == ("__classdict__" : Str)) = false) (hkind : scope.kind = .function := by rfl) (hfold : ∀ x, foldedSetIterable iter env x = pure x := by intro _; rfl)
    (hp : (apos.endLine == mpos.line) = true := by rfl) :
    EvS n C X env ρ (.Call (.Attribute (.Constant (.str sepS) k spos) join apos) [.ListComp (.Call (.Name chr npos) [.Name x px] [] cpos) [⟨.Name x pos, iter, [], 0⟩] scope jpos] [] mpos) (.v (.str (S l))) := by
  subst hchr
  have hsz := sizeLine_eq
  have hcomp : Ev n C X env ρ (.ListComp (.Call (.Name "chr" npos) [.Name x px] [] cpos) [⟨.Name x pos, iter, [], 0⟩] scope jpos) (.v (.list (txts (l.map fun x => [x])))) := by
    have := (evn_comp1 (cl := []) (l := l) (φ := fun x : Nat => Dat.int (x : Int)) (c := fun _ => true) (f := fun x => Dat.str (S [x])) (ρf := []) (px := pos) (pos := jpos) (elt := .Call (.Name "chr" npos) [.Name x px] [] cpos) (ifs := []) hiter trivial (fun _ => trivial) hx rfl (fun L a y hy => rfl)
      (fun L a y hy _ => by
        have h1 := call_chr (i := (y : Int)) (by omega) (by have := h8 y hy; omega)
        rw [chr_S] at h1
        exact ev_callb hB.chr h1 (evs_cons (ev_name (b := .v (.int (y : Int))) (by simp) hd hcd) evs_nil) (hxc L)) (by omega) hclos hnames hkind hfold).ev
    rw [List.filter_eq_self.mpr fun _ _ => rfl] at this
    refine this.to ?_
    simp [txts]
  have := ev_join (k := k) (spos := spos) (apos := apos) (mpos := mpos) (sep := []) hj hs hcomp (by
    simp only [List.map_map, List.length_map, List.length_nil, Nat.mul_zero, Nat.add_zero]
    rw [ones_sum]; omega) rfl hp
  rwa [flatten_ones] at this
end
end Mine
end

section
set_option maxRecDepth 100000
set_option autoImplicit false
set_option linter.unusedVariables false
open PySem PySem.Calls PyProof.Rows
open PySem.W (Dat)
namespace Mine
/-! law 02: the order that is due -/
def bothI (o p sm gr t1 t2 t3 : Int) : Int := if o.fdiv sm = p.fdiv sm then t1 + t2 + t3 else if o.fdiv gr = p.fdiv gr then t2 + t3 else t3
def aheadB (o p sm gr t1 t2 t3 : Int) : Bool := (o != p) && (decide (o < p) == ((bothI o p sm gr t1 t2 t3).fmod 2 == 0))
section
variable {n : Nat} {C : Cx} {A : Around} {Pr : Addr → Obj → Prop} {X : Addr → Prop} {env : Env} {ρ : Rho} {pm code doc : Value} {L a : Addr}
theorem body_ahead {o p sm gr t0 t1 t2 t3 : Int} (hA : Room 0 A) (hB : Blts C) (hs : 0 < sm ∧ sm < 1000) (hg : 0 < gr ∧ gr < 1000) :
    Ex C A Pr X (envOf (recAt PW 6) pm code doc L a) [("one", .v (.int o)), ("other", .v (.int p)), ("small", .v (.int sm)), ("great", .v (.int gr)), ("turns", .v (.list ([t0, t1, t2, t3].map Dat.int)))] (recAt PW 6).body (RetQ C Pr X (.bool (aheadB o p sm gr t1 t2 t3))) := by
  have ret : ∀ ρ : Rho, ρ.lookup ("one" : Str) = some (.v (.int o)) → ρ.lookup ("other" : Str) = some (.v (.int p)) → ρ.lookup ("both" : Str) = some (.v (.int (bothI o p sm gr t1 t2 t3))) →
      Ex C A Pr X (envOf (recAt PW 6) pm code doc L a) ρ ((recAt PW 6).body.drop 1) (RetQ C Pr X (.bool (aheadB o p sm gr t1 t2 t3))) := fun ρ h1 h2 h3 =>
    ex_ret hA (ev_and (cmp_ne.ev (ev_name h1) (ev_name h2)) fun _ => cmp_eqB.ev (cmp_lt.ev (ev_name h1) (ev_name h2)) (cmp_eq.ev (ev_fmod (ev_name h3) ev_int (by omega)) ev_int)) (fun b o h => h) fun b h => h
  refine ex_if hA (cmp_eq.tr (ev_fdiv (ev_name (by rfl)) (ev_name (by rfl)) (by omega) (by omega)) (ev_fdiv (ev_name (by rfl)) (ev_name (by rfl)) (by omega) (by omega))) (fun hc => ?_) fun hc => ?_
  · have hc : o.fdiv sm = p.fdiv sm := by simpa using hc
    refine ex_assign (d := .int (t1 + t2 + t3)) hA (ev_add (ev_add (ev_item (item_list (by omega) (by omega) rfl) (ev_name (by rfl)) ev_int) (ev_item (item_list (by omega) (by omega) rfl) (ev_name (by rfl)) ev_int)) (ev_item (item_list (by omega) (by omega) rfl) (ev_name (by rfl)) ev_int)) ?_ (.inl (by rfl))
    exact ex_next (ret _ (by rfl) (by rfl) (by rw [bothI, if_pos hc]; rfl))
  have hc : ¬ o.fdiv sm = p.fdiv sm := by simpa using hc
  refine ex_if hA (cmp_eq.tr (ev_fdiv (ev_name (by rfl)) (ev_name (by rfl)) (by omega) (by omega)) (ev_fdiv (ev_name (by rfl)) (ev_name (by rfl)) (by omega) (by omega))) (fun hc2 => ?_) fun hc2 => ?_
  · have hc2 : o.fdiv gr = p.fdiv gr := by simpa using hc2
    refine ex_assign (d := .int (t2 + t3)) hA (ev_add (ev_item (item_list (by omega) (by omega) rfl) (ev_name (by rfl)) ev_int) (ev_item (item_list (by omega) (by omega) rfl) (ev_name (by rfl)) ev_int)) ?_ (.inl (by rfl))
    exact ex_next (ex_next (ret _ (by rfl) (by rfl) (by rw [bothI, if_neg hc, if_pos hc2]; rfl)))
  · have hc2 : ¬ o.fdiv gr = p.fdiv gr := by simpa using hc2
    refine ex_assign (d := .int t3) hA (ev_item (item_list (by omega) (by omega) rfl) (ev_name (by rfl)) ev_int) ?_ (.inl (by rfl))
    exact ex_next (ex_next (ret _ (by rfl) (by rfl) (by rw [bothI, if_neg hc, if_neg hc2]; rfl)))
theorem calls_ahead {o p sm gr t0 t1 t2 t3 : Int} (hF : FnAt C (recAt PW 6)) (hO : C.Ok) (hB : Blts C) (hs : 0 < sm ∧ sm < 1000) (hg : 0 < gr ∧ gr < 1000) :
    Calls C 1 "_law_ahead" [.int o, .int p, .int sm, .int gr, .list ([t0, t1, t2, t3].map Dat.int)] (.bool (aheadB o p sm gr t1 t2 t3)) :=
  fn_calls (d := recAt PW 6) (names := ["one", "other", "small", "great", "turns"]) hF hO (by decide +kernel) (fun pm code doc vals hv => by
    match vals, hv with
    | [v1, v2, v3, v4, v5], _ => kernel_rfl) (fun L x hx => by
      simp only [List.mem_cons, List.not_mem_nil, or_false] at hx
      rcases hx with rfl | rfl | rfl | rfl | rfl <;> exact .inl (by rfl)) rfl (by rfl) (by rfl) (by rfl) fun A pm code doc L a Pr X hA => body_ahead hA hB hs hg
end
end Mine
end

section
set_option maxRecDepth 100000
set_option autoImplicit false
set_option linter.unusedVariables false
open PySem PySem.Calls PyProof.Rows
open PySem.W (Dat)
namespace Mine
/-! law 02: a turn of the loop -/
def tBody : List Stmt := forBody ((recAt PW 7).body.drop 8)
abbrev E2 (pm code doc : Value) (L a : Addr) : Env := envOf (recAt PW 7) pm code doc L a
def turnsD (t0 t1 t2 t3 : Int) : D := .list ([t0, t1, t2, t3].map Dat.int)
def Wv (sm gr wh : Nat) (t0 t1 t2 t3 rest : Int) (w t tp ds : List Nat) : Rho :=
  [("small", .v (.int (sm : Int))), ("great", .v (.int (gr : Int))), ("whole", .v (.int (wh : Int))), ("turns", .v (turnsD t0 t1 t2 t3)), ("word", .v (.list (natsD w))), ("rest", .v (.int rest)), ("text", .v (.str (S t))), ("widths", .v (.list (natsD [1, sm, gr, wh]))), ("deeds", .v (.list (natsD ds))), ("tape", .v (.bytes (byN tp)))]
def Vv (sm gr wh : Nat) (t0 t1 t2 t3 : Int) (tp ds : List Nat) : Rho :=
  [("small", .v (.int (sm : Int))), ("great", .v (.int (gr : Int))), ("whole", .v (.int (wh : Int))), ("turns", .v (turnsD t0 t1 t2 t3)), ("widths", .v (.list (natsD [1, sm, gr, wh]))), ("deeds", .v (.list (natsD ds))), ("tape", .v (.bytes (byN tp)))]
section
variable {n : Nat} {C : Cx} {A : Around} {Pr : Addr → Obj → Prop} {X : Addr → Prop} {env : Env} {ρ : Rho} {pm code doc : Value} {L a : Addr} {Q : Flow → Shared → Prop}
variable {sm gr wh : Nat} {t0 t1 t2 t3 rest : Int} {w t tp ds fs p : List Nat}
theorem t_ask (hA : Room 1 A) (hB : Blts C) (hO : C.Ok) (hG : GStr C "ELLIPSIS_MARKER" (S dots)) (hF4 : FnAt C (recAt PW 4)) (hp : p.length ≤ 1000) (ht : t.length ≤ 1000) (hans : emAns p t = decide (fs = [])) :
    Ex C A Pr X (E2 pm code doc L a) (("pattern", .v (.str (S p))) :: ("faults", .v (.list (natsD fs))) :: Wv sm gr wh t0 t1 t2 t3 rest w t tp ds) (tBody.drop 11) (TurnQ C Pr X (E2 pm code doc L a) (Vv sm gr wh t0 t1 t2 t3 tp ds) Q) := by
  refine ex_assign (d := .bool (decide (fs = []))) hA ((ev_callf (ds := [.str (S p), .str (S t)]) hF4 (calls_em hF4 hO hB hG (by omega) (by omega)) (evs_cons (ev_name (by rfl)) (evs_cons (ev_name (by rfl)) evs_nil)) (by rfl)).to (by rw [hans])) ?_ (.inl (by rfl))
  refine ex_if (c := false) hA (Tr.to (tr_or (tr_not (tr_bool (ev_callb hB.isinstance call_isBool (evs_cons (ev_name (b := .v (.bool (decide (fs = [])))) (by rfl)) (evs_cons (ev_type hB.bool) evs_nil))))) fun _ => cmp_neB.tr (ev_name (b := .v (.bool (decide (fs = [])))) (by rfl))
    ((cmp_eqL (ds := natsD fs) (es := []) (c := decide (fs = [])) (by rw [natsD_ints]; exact kq_ints _) (by simp) (by simp [natsD])).ev (ev_name (by rfl)) (ev_list (ds := []) evs_nil (Nat.zero_le _)))) (by simp)) (fun hc => by cases hc) fun _ => ?_
  exact ex_next (ex_nil fun s S => S.weaken (SubR.at ⟨rfl, rfl, rfl, rfl, rfl, rfl, rfl, trivial⟩))
/-- the letters of whom it is told that they stand so -/
def faultsN (wh : Nat) (c : Nat → Bool) : List Nat := (List.range wh).filter c
theorem filter_map_id (c : Nat → Bool) (l : List Nat) : (l.filter c).map (fun k : Nat => (Dat.int (k : Int) : D)) = natsD (l.filter c) := rfl
theorem t_last (hA : Room 1 A) (hB : Blts C) (hO : C.Ok) (hG : GStr C "ELLIPSIS_MARKER" (S dots)) (hF4 : FnAt C (recAt PW 4)) (hF6 : FnAt C (recAt PW 6)) (hs : 0 < sm ∧ sm < 1000) (hg : 0 < gr ∧ gr < 1000) (hwh : wh ≤ 1000) (hp : p.length ≤ 900) (ht : t.length ≤ 1000) (hfs : fs.length ≤ 10000) (hw : w ≠ []) (hwl : w.length ≤ 10)
    (hans : emAns (p ++ if (rest.fdiv 6).fmod 2 = 0 then dots else []) t = decide (fs ++ (if (rest.fdiv 6).fmod 2 = 0 then [] else faultsN wh fun k => aheadB (w.getLastD 0 : Nat) k sm gr t1 t2 t3) = [])) :
    Ex C A Pr X (E2 pm code doc L a) (("pattern", .v (.str (S p))) :: ("faults", .v (.list (natsD fs))) :: Wv sm gr wh t0 t1 t2 t3 rest w t tp ds) (tBody.drop 10) (TurnQ C Pr X (E2 pm code doc L a) (Vv sm gr wh t0 t1 t2 t3 tp ds) Q) := by
  have hsz := sizeLine_eq
  have hA0 : Room 0 A := hA.le (Nat.zero_le _)
  refine ex_if hA (cmp_eq.tr (ev_fmod (ev_fdiv (ev_name (by rfl)) ev_int (by omega) (by omega)) ev_int (by omega)) ev_int) (fun hc => ?_) fun hc => ?_
  · have hc : (rest.fdiv 6).fmod 2 = 0 := by simpa using hc
    rw [if_pos hc, if_pos hc, List.append_nil] at hans
    refine ex_assign (d := .str (S (p ++ dots))) hA ((ev_cat (ev_name (by rfl)) (ev_str (x := S dots)) (by rw [S_length, S_length]; simp [dots]; omega)).to (by rw [S_append])) ?_ (.inl (by rfl))
    refine ex_next (Ex.weaken (t_ask hA hB hO hG hF4 (by simp [dots]; omega) ht hans) (SubR.at ⟨rfl, rfl, rfl, rfl, rfl, rfl, rfl, rfl, rfl, rfl, rfl, rfl, trivial⟩))
  · have hc : ¬ (rest.fdiv 6).fmod 2 = 0 := by simpa using hc
    rw [if_neg hc, if_neg hc, List.append_nil] at hans
    have hfl : (faultsN wh fun k => aheadB (w.getLastD 0 : Nat) k sm gr t1 t2 t3).length ≤ wh := Nat.le_trans (List.length_filter_le _ _) (by simp)
    have hlast : (natsD w)[((-1 : Int) + (natsD w).length).toNat]? = some (Dat.int ((w.getLastD 0 : Nat) : Int)) := by
      have hpos := List.length_pos_iff.mpr hw
      rw [natsD_length, show ((-1 : Int) + w.length).toNat = w.length - 1 by omega, natsD_at (by omega)]
      congr 3
      rw [List.getLastD_eq_getLast?, List.getLast?_eq_getElem?]
      simp [List.getElem?_eq_getElem (show w.length - 1 < w.length by omega)]
    refine ex_assign (d := .list (natsD (fs ++ faultsN wh fun k => aheadB (w.getLastD 0 : Nat) k sm gr t1 t2 t3))) hA ((ev_catL (ds := natsD fs) (es := natsD (faultsN wh fun k => aheadB (w.getLastD 0 : Nat) k sm gr t1 t2 t3)) (ev_name (by rfl))
      (ev_comp1 (l := List.range wh) (φ := fun k : Nat => Dat.int (k : Int)) (c := fun k => aheadB (w.getLastD 0 : Nat) k sm gr t1 t2 t3) (f := fun k : Nat => Dat.int (k : Int)) (ρf := [("great", .v (.int (gr : Int))), ("small", .v (.int (sm : Int))), ("turns", .v (turnsD t0 t1 t2 t3)), ("word", .v (.list (natsD w)))]) (cl := [("word", L + 7), ("turns", L + 5), ("small", L + 1), ("great", L + 2)])
        ((it_range1 hB.range (ev_name (by rfl)) (range_upto wh) (small_of (by omega) (by omega) (by omega))).to (steps_nats wh)) (by rfl) ⟨⟨_, rfl⟩, rfl, .inl rfl, ⟨_, rfl⟩, rfl, .inl rfl, ⟨_, rfl⟩, rfl, .inl rfl, ⟨_, rfl⟩, rfl, .inl rfl, trivial⟩
        (fun L' => ⟨rfl, ⟨_, rfl⟩, .inl rfl, .inl rfl, rfl, rfl, ⟨_, rfl⟩, .inl rfl, .inl rfl, rfl, rfl, ⟨_, rfl⟩, .inl rfl, .inl rfl, rfl, rfl, ⟨_, rfl⟩, .inl rfl, .inl rfl, rfl, trivial⟩) (fun L' => .inl (by rfl)) (by rfl)
        (fun L' a' y hy => ?_)
        (fun L' a' y hy _ => ev_name (by rfl)) (by simp; omega) (by rfl) (by decide +kernel))
      (by rw [natsD_length, natsD_length]; omega)).to (by simp [natsD])) ?_ (.inl (by rfl))
    · exact tr_bool (ev_callf (ds := [.int ((w.getLastD 0 : Nat) : Int), .int (y : Int), .int (sm : Int), .int (gr : Int), turnsD t0 t1 t2 t3]) hF6 (calls_ahead hF6 hO hB (by omega) (by omega)) (evs_cons (ev_item (item_back (by omega) (by omega) (by rw [natsD_length]; have := List.length_pos_iff.mpr hw; omega) hlast) (ev_name (by rfl)) (ev_neg ev_int)) (evs_cons (ev_name (by rfl)) (evs_cons (ev_name (by rfl)) (evs_cons (ev_name (by rfl)) (evs_cons (ev_name (by rfl)) evs_nil))))) (by rfl))
    refine ex_next (Ex.weaken (t_ask hA hB hO hG hF4 (by omega) ht hans) (SubR.at ⟨rfl, rfl, rfl, rfl, rfl, rfl, rfl, rfl, rfl, rfl, rfl, rfl, trivial⟩))
end
end Mine
end

section
set_option maxRecDepth 100000
set_option autoImplicit false
set_option linter.unusedVariables false
open PySem PySem.Calls PyProof.Rows
open PySem.W (Dat)
namespace Mine
/-! law 02: a turn of the loop, from its head -/
/-- what the pattern of a word is, and its faults, by the rest of the number -/
def pat2 (rest : Int) (w : List Nat) : List Nat := ((if (rest.fdiv 3).fmod 2 = 0 then dots else []) ++ joinL dots (w.map fun k => [97 + k])) ++ if (rest.fdiv 6).fmod 2 = 0 then dots else []
def inner2 (w : List Nat) (c : Nat → Nat → Bool) : List Nat := (List.range' 1 (w.length - 1)).filter fun k => !c (w.getD (k - 1) 0) (w.getD k 0)
def faults2 (rest : Int) (wh : Nat) (w : List Nat) (c : Nat → Nat → Bool) : List Nat :=
  (inner2 w c ++ if (rest.fdiv 3).fmod 2 = 0 then [] else faultsN wh fun k => c k (w.headD 0)) ++ if (rest.fdiv 6).fmod 2 = 0 then [] else faultsN wh fun k => c (w.getLastD 0) k
def word2 (rest : Int) (wh : Nat) : List Nat := (List.range (1 + (rest.fmod 3).toNat)).map fun k => ((rest.fdiv (12 * (wh : Int) ^ k)).fmod wh).toNat
theorem word2_len (rest : Int) (wh : Nat) : (word2 rest wh).length = 1 + (rest.fmod 3).toNat := by simp [word2]
theorem joinL_ones (w : List Nat) : (joinL dots (w.map fun k => [97 + k])).length ≤ 4 * w.length := by
  induction w with
  | nil => simp [joinL]
  | cons a w ih =>
    cases w with
    | nil => simp [joinL]
    | cons b w =>
      simp only [List.map_cons, joinL, List.length_append, List.length_cons, dots] at *
      simp at *; omega
section
variable {n : Nat} {C : Cx} {A : Around} {Pr : Addr → Obj → Prop} {X : Addr → Prop} {env : Env} {ρ : Rho} {pm code doc : Value} {L a : Addr} {Q : Flow → Shared → Prop}
variable {sm gr wh : Nat} {t0 t1 t2 t3 rest : Int} {w t tp ds fs p : List Nat}
theorem t_mid (hA : Room 1 A) (hB : Blts C) (hO : C.Ok) (hG : GStr C "ELLIPSIS_MARKER" (S dots)) (hF4 : FnAt C (recAt PW 4)) (hF6 : FnAt C (recAt PW 6)) (hs : 0 < sm ∧ sm < 1000) (hg : 0 < gr ∧ gr < 1000) (hwh : wh ≤ 1000) (ht : t.length ≤ 1000) (hw : w ≠ []) (hwl : w.length ≤ 10)
    (hans : emAns (pat2 rest w) t = decide (faults2 rest wh w (fun a b => aheadB (a : Nat) (b : Nat) sm gr t1 t2 t3) = [])) :
    Ex C A Pr X (E2 pm code doc L a) (("pattern", .v (.str (S (joinL dots (w.map fun k => [97 + k]))))) :: ("faults", .v (.list (natsD (inner2 w fun a b => aheadB (a : Nat) (b : Nat) sm gr t1 t2 t3)))) :: Wv sm gr wh t0 t1 t2 t3 rest w t tp ds) (tBody.drop 9) (TurnQ C Pr X (E2 pm code doc L a) (Vv sm gr wh t0 t1 t2 t3 tp ds) Q) := by
  have hsz := sizeLine_eq
  have hA0 : Room 0 A := hA.le (Nat.zero_le _)
  have hj := joinL_ones w
  have hin : (inner2 w fun a b => aheadB (a : Nat) (b : Nat) sm gr t1 t2 t3).length ≤ 10 := Nat.le_trans (List.length_filter_le _ _) (by rw [List.length_range']; omega)
  refine ex_if hA (cmp_eq.tr (ev_fmod (ev_fdiv (ev_name (by rfl)) ev_int (by omega) (by omega)) ev_int (by omega)) ev_int) (fun hc => ?_) fun hc => ?_
  · have hc : (rest.fdiv 3).fmod 2 = 0 := by simpa using hc
    rw [pat2, faults2, if_pos hc, if_pos hc, List.append_nil] at hans
    refine ex_assign (d := .str (S (dots ++ joinL dots (w.map fun k => [97 + k])))) hA ((ev_cat (ev_str (x := S dots)) (ev_name (by rfl)) (by rw [S_length, S_length]; simp [dots]; simp [dots] at hj; omega)).to (by rw [S_append])) ?_ (.inl (by rfl))
    refine ex_next (Ex.weaken (t_last hA hB hO hG hF4 hF6 hs hg hwh (by rw [List.length_append]; simp [dots]; simp [dots] at hj; omega) ht (by omega) hw hwl hans) (SubR.at ⟨rfl, rfl, rfl, rfl, rfl, rfl, rfl, rfl, rfl, rfl, rfl, rfl, trivial⟩))
  · have hc : ¬ (rest.fdiv 3).fmod 2 = 0 := by simpa using hc
    rw [pat2, faults2, if_neg hc, if_neg hc, List.nil_append] at hans
    have hfl : (faultsN wh fun k => aheadB (k : Nat) (w.headD 0 : Nat) sm gr t1 t2 t3).length ≤ wh := Nat.le_trans (List.length_filter_le _ _) (by simp)
    have hhead : (natsD w)[(0 : Int).toNat]? = some (Dat.int ((w.headD 0 : Nat) : Int)) := by
      cases w with
      | nil => exact absurd rfl hw
      | cons a w => rfl
    refine ex_assign (d := .list (natsD ((inner2 w fun a b => aheadB (a : Nat) (b : Nat) sm gr t1 t2 t3) ++ faultsN wh fun k => aheadB (k : Nat) (w.headD 0 : Nat) sm gr t1 t2 t3))) hA ((ev_catL (es := natsD (faultsN wh fun k => aheadB (k : Nat) (w.headD 0 : Nat) sm gr t1 t2 t3)) (ev_name (by rfl))
      (ev_comp1 (l := List.range wh) (φ := fun k : Nat => Dat.int (k : Int)) (c := fun k => aheadB (k : Nat) (w.headD 0 : Nat) sm gr t1 t2 t3) (f := fun k : Nat => Dat.int (k : Int)) (ρf := [("great", .v (.int (gr : Int))), ("small", .v (.int (sm : Int))), ("turns", .v (turnsD t0 t1 t2 t3)), ("word", .v (.list (natsD w)))]) (cl := [("word", L + 7), ("turns", L + 5), ("small", L + 1), ("great", L + 2)])
        ((it_range1 hB.range (ev_name (by rfl)) (range_upto wh) (small_of (by omega) (by omega) (by omega))).to (steps_nats wh)) (by rfl) ⟨⟨_, rfl⟩, rfl, .inl rfl, ⟨_, rfl⟩, rfl, .inl rfl, ⟨_, rfl⟩, rfl, .inl rfl, ⟨_, rfl⟩, rfl, .inl rfl, trivial⟩
        (fun L' => ⟨rfl, ⟨_, rfl⟩, .inl rfl, .inl rfl, rfl, rfl, ⟨_, rfl⟩, .inl rfl, .inl rfl, rfl, rfl, ⟨_, rfl⟩, .inl rfl, .inl rfl, rfl, rfl, ⟨_, rfl⟩, .inl rfl, .inl rfl, rfl, trivial⟩) (fun L' => .inl (by rfl)) (by rfl)
        (fun L' a' y hy => ?_)
        (fun L' a' y hy _ => ev_name (by rfl)) (by simp; omega) (by rfl) (by decide +kernel))
      (by rw [natsD_length, natsD_length]; omega)).to (by simp [natsD])) ?_ (.inl (by rfl))
    · exact tr_bool (ev_callf (ds := [.int (y : Int), .int ((w.headD 0 : Nat) : Int), .int (sm : Int), .int (gr : Int), turnsD t0 t1 t2 t3]) hF6 (calls_ahead hF6 hO hB (by omega) (by omega)) (evs_cons (ev_name (by rfl)) (evs_cons (ev_item (item_list (by omega) (by omega) hhead) (ev_name (by rfl)) ev_int) (evs_cons (ev_name (by rfl)) (evs_cons (ev_name (by rfl)) (evs_cons (ev_name (by rfl)) evs_nil))))) (by rfl))
    refine ex_next (Ex.weaken (t_last hA hB hO hG hF4 hF6 hs hg hwh (by omega) ht (by rw [List.length_append]; omega) hw hwl hans) (SubR.at ⟨rfl, rfl, rfl, rfl, rfl, rfl, rfl, rfl, rfl, rfl, rfl, rfl, trivial⟩))
theorem t_pat (hA : Room 1 A) (hB : Blts C) (hO : C.Ok) (hG : GStr C "ELLIPSIS_MARKER" (S dots)) (hF4 : FnAt C (recAt PW 4)) (hF6 : FnAt C (recAt PW 6)) (hs : 0 < sm ∧ sm < 1000) (hg : 0 < gr ∧ gr < 1000) (hwh : wh ≤ 1000) (ht : t.length ≤ 1000) (hw : w ≠ []) (hwl : w.length ≤ 10) (hw8 : ∀ k ∈ w, k < 1000)
    (hans : emAns (pat2 rest w) t = decide (faults2 rest wh w (fun a b => aheadB (a : Nat) (b : Nat) sm gr t1 t2 t3) = [])) :
    Ex C A Pr X (E2 pm code doc L a) (("faults", .v (.list (natsD (inner2 w fun a b => aheadB (a : Nat) (b : Nat) sm gr t1 t2 t3)))) :: Wv sm gr wh t0 t1 t2 t3 rest w t tp ds) (tBody.drop 8) (TurnQ C Pr X (E2 pm code doc L a) (Vv sm gr wh t0 t1 t2 t3 tp ds) Q) := by
  have hsz := sizeLine_eq
  have hcomp := fun (y : Nat) => chr_S (97 + y)
  refine ex_assignS (d := .str (S (joinL dots (w.map fun k => [97 + k])))) hA (ev_join (sep := dots) (ls := w.map fun k => [97 + k]) rfl rfl (ev_comp1 (l := w) (φ := fun k : Nat => Dat.int (k : Int)) (c := fun _ => true) (f := fun k => Dat.str (S [97 + k])) (ρf := []) (cl := []) (it_list (ev_name (by rfl))) ?_ trivial (fun _ => trivial) (fun L' => .inl (by rfl)) (by rfl) (fun L' a' y hy => rfl) (fun L' a' y hy _ => ?_) (by omega) ?hclos ?hnames) ?_ star_comp) ?_ (.inl (by rfl))
  case hclos => rfl
  case hnames => decide +kernel
  · rw [List.filter_eq_self.mpr fun _ _ => rfl]; simp [txts]
  · have h8 := hw8 y hy
    have h1 := call_chr (i := ((97 + y : Nat) : Int)) (by omega) (by omega)
    rw [chr_S] at h1
    exact ev_callb hB.chr h1 (evs_cons ((ev_add ev_int (ev_name (by rfl))).to (by simp)) evs_nil)
  · have h1 : ((w.map fun k => [97 + k]).map (·.length)).sum = w.length := by
      clear hans hw8 hwl hw hcomp
      induction w with
      | nil => rfl
      | cons b w ih => simp only [List.map_cons, List.sum_cons, List.length_cons, List.length_nil] at *; omega
    rw [h1, List.length_map, show dots.length = 3 from rfl]; omega
  exact t_mid hA hB hO hG hF4 hF6 hs hg hwh ht hw hwl hans
theorem t_faults (hA : Room 1 A) (hB : Blts C) (hO : C.Ok) (hG : GStr C "ELLIPSIS_MARKER" (S dots)) (hF4 : FnAt C (recAt PW 4)) (hF6 : FnAt C (recAt PW 6)) (hs : 0 < sm ∧ sm < 1000) (hg : 0 < gr ∧ gr < 1000) (hwh : wh ≤ 1000) (ht : t.length ≤ 1000) (hw : w ≠ []) (hwl : w.length ≤ 10) (hw8 : ∀ k ∈ w, k < 1000)
    (hans : emAns (pat2 rest w) t = decide (faults2 rest wh w (fun a b => aheadB (a : Nat) (b : Nat) sm gr t1 t2 t3) = [])) :
    Ex C A Pr X (E2 pm code doc L a) (Wv sm gr wh t0 t1 t2 t3 rest w t tp ds) (tBody.drop 7) (TurnQ C Pr X (E2 pm code doc L a) (Vv sm gr wh t0 t1 t2 t3 tp ds) Q) := by
  have hsz := sizeLine_eq
  refine ex_comp1 (l := List.range' 1 (w.length - 1)) (φ := fun k : Nat => Dat.int (k : Int)) (c := fun k => !aheadB (w.getD (k - 1) 0 : Nat) (w.getD k 0 : Nat) sm gr t1 t2 t3) (f := fun k : Nat => Dat.int (k : Int)) (ρf := [("great", .v (.int (gr : Int))), ("small", .v (.int (sm : Int))), ("turns", .v (turnsD t0 t1 t2 t3)), ("word", .v (.list (natsD w)))]) (cl := [("word", L + 7), ("turns", L + 5), ("small", L + 1), ("great", L + 2)]) hA
    ((it_range2 hB.range (ev_int (i := ((1 : Nat) : Int))) (ev_callb hB.len (call_lenL (ds := natsD w) (by rw [natsD_length]; omega)) (evs_cons (ev_name (by rfl)) evs_nil)) (m := w.length - 1) ?_ ?_).to (steps_from 1 _)) ⟨⟨_, rfl⟩, rfl, .inl rfl, ⟨_, rfl⟩, rfl, .inl rfl, ⟨_, rfl⟩, rfl, .inl rfl, ⟨_, rfl⟩, rfl, .inl rfl, trivial⟩
    (fun L' => ⟨rfl, ⟨_, rfl⟩, .inl rfl, .inl rfl, rfl, rfl, ⟨_, rfl⟩, .inl rfl, .inl rfl, rfl, rfl, ⟨_, rfl⟩, .inl rfl, .inl rfl, rfl, rfl, ⟨_, rfl⟩, .inl rfl, .inl rfl, rfl, trivial⟩) (fun L' => .inl (by rfl)) (by rfl) (fun L' a' y hy => ?_) (fun L' a' y hy _ => ev_name (by rfl)) (by simp; omega) ?_ (.inl (by rfl)) ?hclos ?hnames ?hs
  case hclos => rfl
  case hs => rfl
  case hnames => decide +kernel
  · rw [natsD_length]; exact range_from 1 _
  · rw [natsD_length]; exact small_of (by omega) (by omega) (by omega)
  · have hy' : 1 ≤ y ∧ y < w.length := by
      have := List.mem_range'.mp hy
      omega
    have h1 : (natsD w)[((y : Int) - 1).toNat]? = some (Dat.int ((w.getD (y - 1) 0 : Nat) : Int)) := by
      rw [show ((y : Int) - 1).toNat = y - 1 by omega, natsD_at (by omega)]
      simp [List.getD, List.getElem?_eq_getElem (show y - 1 < w.length by omega)]
    have h2 : (natsD w)[(y : Int).toNat]? = some (Dat.int ((w.getD y 0 : Nat) : Int)) := by
      rw [show (y : Int).toNat = y by omega, natsD_at (by omega)]
      simp [List.getD, List.getElem?_eq_getElem (show y < w.length by omega)]
    exact tr_not (tr_bool (ev_callf (ds := [.int ((w.getD (y - 1) 0 : Nat) : Int), .int ((w.getD y 0 : Nat) : Int), .int (sm : Int), .int (gr : Int), turnsD t0 t1 t2 t3]) hF6 (calls_ahead hF6 hO hB (by omega) (by omega)) (evs_cons (ev_item (item_list (by omega) (by omega) h1) (ev_name (by rfl)) (ev_sub (ev_name (by rfl)) ev_int)) (evs_cons (ev_item (item_list (by omega) (by omega) h2) (ev_name (by rfl)) (ev_name (by rfl))) (evs_cons (ev_name (by rfl)) (evs_cons (ev_name (by rfl)) (evs_cons (ev_name (by rfl)) evs_nil))))) (by rfl)))
  exact t_pat hA hB hO hG hF4 hF6 hs hg hwh ht hw hwl hw8 hans
/-- from the word on -/
theorem t_word (hA : Room 1 A) (hB : Blts C) (hO : C.Ok) (hG : GStr C "ELLIPSIS_MARKER" (S dots)) (hF4 : FnAt C (recAt PW 4)) (hF6 : FnAt C (recAt PW 6)) (hs : 0 < sm ∧ sm < 1000) (hg : 0 < gr ∧ gr < 1000) (hwh : wh ≤ 1000) (hw0 : 0 < wh) (ht : t.length ≤ 1000)
    (hans : emAns (pat2 rest (word2 rest wh)) t = decide (faults2 rest wh (word2 rest wh) (fun a b => aheadB (a : Nat) (b : Nat) sm gr t1 t2 t3) = [])) :
    Ex C A Pr X (E2 pm code doc L a) (("rest", .v (.int rest)) :: ("text", .v (.str (S t))) :: Vv sm gr wh t0 t1 t2 t3 tp ds) (tBody.drop 6) (TurnQ C Pr X (E2 pm code doc L a) (Vv sm gr wh t0 t1 t2 t3 tp ds) Q) := by
  have hsz := sizeLine_eq
  have h3 := fmod_range rest (b := 3) (by omega)
  have hwl := word2_len rest wh
  have hpow : ∀ k, k < 3 → (wh : Int) ^ k ≤ 1000000 ∧ 0 < (wh : Int) ^ k := fun k hk => by
    have hk' : ((wh : Int) ^ k) = ((wh ^ k : Nat) : Int) := by simp
    have h1 : wh ^ k ≤ 1000 ^ 2 := Nat.le_trans (Nat.pow_le_pow_left hwh k) (Nat.pow_le_pow_right (by omega) (by omega))
    have h2 : 0 < wh ^ k := Nat.pow_pos hw0
    rw [hk']
    omega
  refine ex_assign (d := .list (natsD (word2 rest wh))) hA ?_ ?_ (CanStore.cell (c := L + 7) (by rfl) (by rfl) (by show L < L + 7; exact Nat.lt_add_of_pos_right (by decide)))
  · refine ev_comp1 (l := List.range (1 + (rest.fmod 3).toNat)) (φ := fun k : Nat => Dat.int (k : Int)) (c := fun _ => true) (f := fun k => Dat.int ((rest.fdiv (12 * (wh : Int) ^ k)).fmod wh)) (ρf := [("rest", .v (.int rest)), ("whole", .v (.int (wh : Int)))]) (cl := [("whole", L + 3), ("rest", L + 6)])
      ((it_range1 hB.range ((ev_add ev_int (ev_fmod (ev_name (by rfl)) ev_int (by omega))).to (b' := .v (.int ((1 + (rest.fmod 3).toNat : Nat) : Int))) (by congr 2; omega)) (range_upto _) (small_of (by omega) (by omega) (by omega))).to (steps_nats _)) ?_ ⟨⟨_, rfl⟩, rfl, .inl rfl, ⟨_, rfl⟩, rfl, .inl rfl, trivial⟩
      (fun L' => ⟨rfl, ⟨_, rfl⟩, .inl rfl, .inl rfl, rfl, rfl, ⟨_, rfl⟩, .inl rfl, .inl rfl, rfl, trivial⟩) (fun L' => .inl (by rfl)) (by rfl) (fun L' a' y hy => rfl) (fun L' a' y hy _ => ?_) (by simp; omega) (by rfl) (by decide +kernel)
    · rw [List.filter_eq_self.mpr fun _ _ => rfl, natsD, word2, List.map_map]
      apply List.map_congr_left
      intro k _
      have := fmod_range (rest.fdiv (12 * (wh : Int) ^ k)) (b := (wh : Int)) (by omega)
      simp only [Function.comp]
      rw [show (((rest.fdiv (12 * (wh : Int) ^ k)).fmod wh).toNat : Int) = (rest.fdiv (12 * (wh : Int) ^ k)).fmod wh by omega]
    · have hy3 : y < 3 := by simp at hy; omega
      have hp := hpow y hy3
      exact ev_fmod (ev_fdiv (ev_name (by rfl)) ((ev_mul ev_int (ev_pow (ev_name (by rfl)) (ev_name (by rfl)) (by omega) (by omega) (by omega)) (by decide)).to (b' := .v (.int (12 * (wh : Int) ^ y))) (by simp)) (by omega) (by omega)) (ev_name (by rfl)) (by omega)
  have hwne : word2 rest wh ≠ [] := fun e => by rw [e] at hwl; simp at hwl; omega
  have hw8 : ∀ k ∈ word2 rest wh, k < 1000 := by
    intro k hk
    simp only [word2, List.mem_map] at hk
    obtain ⟨i, _, rfl⟩ := hk
    have := fmod_range (rest.fdiv (12 * (wh : Int) ^ i)) (b := (wh : Int)) (by omega)
    omega
  exact Ex.weaken (t_faults (w := word2 rest wh) hA hB hO hG hF4 hF6 hs hg hwh ht hwne (by omega) hw8 hans) (SubR.at ⟨rfl, rfl, rfl, rfl, rfl, rfl, rfl, rfl, rfl, rfl, trivial⟩)
end
end Mine
end

section
set_option maxRecDepth 100000
set_option autoImplicit false
set_option linter.unusedVariables false
open PySem PySem.Calls PyProof.Rows
open PySem.W (Dat)
namespace Mine
/-! law 02: a turn of the loop, whole -/
def wAt (sm gr wh k : Nat) : Nat := [1, sm, gr, wh].getD k 1
def cnt (ds : List Nat) (k : Nat) : Int := ((ds.count k : Nat) : Int)
theorem count_cast (ds : List Nat) (k : Nat) : (ds.map fun k : Nat => (k : Int)).count (k : Int) = ds.count k := by
  induction ds with
  | nil => rfl
  | cons a ds ih =>
    rw [List.map_cons, List.count_cons, List.count_cons, ih]
    congr 1
    by_cases h : a = k
    · subst h; simp
    · rw [if_neg (by simp; omega), if_neg (by simp; omega)]
section
variable {n : Nat} {C : Cx} {A : Around} {Pr : Addr → Obj → Prop} {X : Addr → Prop} {env : Env} {ρ : Rho} {pm code doc : Value} {L a : Addr} {Q : Flow → Shared → Prop}
variable {sm gr wh : Nat} {t0 t1 t2 t3 rest : Int} {w t tp ds fs p : List Nat}
theorem t_text {x : Int} (hA : Room 1 A) (hB : Blts C) (hO : C.Ok) (hG : GStr C "ELLIPSIS_MARKER" (S dots)) (hF4 : FnAt C (recAt PW 4)) (hF6 : FnAt C (recAt PW 6)) (hs : 0 < sm ∧ sm < 1000) (hg : 0 < gr ∧ gr < 1000) (hwh : wh ≤ 1000) (hw0 : 0 < wh)
    (htl : tp.length ≤ 1000) (h8 : ∀ x ∈ tp, x < 256)
    (hans : emAns (pat2 (x.fdiv 4) (word2 (x.fdiv 4) wh)) tp = decide (faults2 (x.fdiv 4) wh (word2 (x.fdiv 4) wh) (fun a b => aheadB (a : Nat) (b : Nat) sm gr t1 t2 t3) = [])) :
    Ex C A Pr X (E2 pm code doc L a) (("x", .v (.int x)) :: Vv sm gr wh t0 t1 t2 t3 tp ds) (tBody.drop 3) (TurnQ C Pr X (E2 pm code doc L a) (Vv sm gr wh t0 t1 t2 t3 tp ds) Q) := by
  refine ex_if (c := false) hA (tr_not (tr_bool (ev_callb hB.isinstance call_isBytes (evs_cons (ev_name (by rfl)) (evs_cons (ev_type hB.bytes) evs_nil))))) (fun hc => by cases hc) fun _ => ex_next ?_
  refine ex_assignS hA (ev_chars (l := tp) hB h8 (by omega) (by rw [← byN_nats h8]; exact it_bytes (ev_name (by rfl))) rfl rfl rfl (fun L => .inl (by rfl)) (fun L => by rfl) (by rfl) (by decide +kernel) (by decide) (by decide)) ?_ (.inl (by rfl))
  refine ex_assign hA (ev_fdiv (ev_name (by rfl)) ev_int (by omega) (by omega)) ?_ (CanStore.cell (c := L + 6) (by rfl) (by rfl) (by show L < L + 6; exact Nat.lt_add_of_pos_right (by decide)))
  exact Ex.weaken (t_word hA hB hO hG hF4 hF6 hs hg hwh hw0 htl hans) (SubR.at ⟨rfl, rfl, rfl, rfl, rfl, rfl, rfl, rfl, rfl, trivial⟩)
theorem t_turn {x : Int} {k : Nat} (hA : Room 1 A) (hB : Blts C) (hO : C.Ok) (hG : GStr C "ELLIPSIS_MARKER" (S dots)) (hF1 : FnAt C (recAt PW 1)) (hF4 : FnAt C (recAt PW 4)) (hF6 : FnAt C (recAt PW 6)) (hs : 0 < sm ∧ sm < 1000) (hg : 0 < gr ∧ gr < 1000) (hwh : wh ≤ 1000) (hw0 : 0 < wh)
    (hk : k = (x.fmod 4).toNat) (hdiv : ∀ k, k < 4 → wh / wAt sm gr wh k * wAt sm gr wh k = wh ∧ 0 < wAt sm gr wh k ∧ wAt sm gr wh k ≤ 1000) (htl : tp.length = wh) (h8 : ∀ x ∈ tp, x < 256) (hds : ds.length ≤ 1000)
    (hans : emAns (pat2 (x.fdiv 4) (word2 (x.fdiv 4) wh)) (swapL (wAt sm gr wh k) (wh / wAt sm gr wh k) tp) = decide (faults2 (x.fdiv 4) wh (word2 (x.fdiv 4) wh) (fun a b => aheadB (a : Nat) (b : Nat) sm gr (cnt (ds ++ [k]) 1) (cnt (ds ++ [k]) 2) (cnt (ds ++ [k]) 3)) = [])) :
    Ex C A Pr X (E2 pm code doc L a) (("x", .v (.int x)) :: Vv sm gr wh t0 t1 t2 t3 tp ds) tBody
      (TurnQ C Pr X (E2 pm code doc L a) (Vv sm gr wh (cnt (ds ++ [k]) 0) (cnt (ds ++ [k]) 1) (cnt (ds ++ [k]) 2) (cnt (ds ++ [k]) 3) (swapL (wAt sm gr wh k) (wh / wAt sm gr wh k) tp) (ds ++ [k])) Q) := by
  have hsz := sizeLine_eq
  have h4 := fmod_range x (b := 4) (by omega)
  have ek : x.fmod 4 = (k : Int) := by omega
  have hk4 : k < 4 := by omega
  obtain ⟨d1, d2, d3⟩ := hdiv k hk4
  refine ex_assign (d := .list (natsD (ds ++ [k]))) hA ((ev_catL (es := natsD [k]) (ev_name (by rfl)) (ev_list (ds := natsD [k]) (evs_cons ((ev_fmod (ev_name (by rfl)) ev_int (by omega)).to (by rw [ek])) evs_nil) (by rw [natsD_length]; simp; omega)) (by rw [natsD_length, natsD_length]; simp; omega)).to (by simp [natsD])) ?_ (CanStore.cell (c := L + 4) (by rfl) (by rfl) (by show L < L + 4; exact Nat.lt_add_of_pos_right (by decide)))
  refine ex_assign (d := turnsD (cnt (ds ++ [k]) 0) (cnt (ds ++ [k]) 1) (cnt (ds ++ [k]) 2) (cnt (ds ++ [k]) 3)) hA (ev_comp1 (l := List.range 4) (φ := fun k : Nat => Dat.int (k : Int)) (c := fun _ => true) (f := fun j => Dat.int (cnt (ds ++ [k]) j)) (ρf := [("deeds", .v (.list (natsD (ds ++ [k]))))]) (cl := [("deeds", L + 4)])
    ((it_range1 hB.range ev_int (by decide +kernel) (by decide +kernel)).to (steps_nats 4)) (by rfl) ⟨⟨_, rfl⟩, rfl, .inl rfl, trivial⟩ (fun L' => ⟨rfl, ⟨_, rfl⟩, .inl rfl, .inl rfl, rfl, trivial⟩) (fun L' => .inl (by rfl)) (by rfl) (fun L' a' y hy => rfl) (fun L' a' y hy _ => ?_) (by simp; omega) (by rfl) (by decide +kernel))
    ?_ (CanStore.cell (c := L + 5) (by rfl) (by rfl) (by show L < L + 5; exact Nat.lt_add_of_pos_right (by decide)))
  · have hc := call_count (ns := (ds ++ [k]).map fun k : Nat => (k : Int)) (k := (y : Int))
    rw [count_cast, ← natsD_ints] at hc
    exact ev_meth (ev_name (by rfl)) (meth_list PySem.F.slot_list_count PySem.F.type_list_count) hc (evs_cons (ev_name (by rfl)) evs_nil) (by rfl) (by rfl) (method_hc base_name (by rfl) (by rfl))
  have hw : (natsD [1, sm, gr, wh])[(x.fmod 4).toNat]? = some (Dat.int ((wAt sm gr wh k : Nat) : Int)) := by
    rw [← hk]
    match k, hk4 with
    | 0, _ => rfl
    | 1, _ => rfl
    | 2, _ => rfl
    | 3, _ => rfl
  refine ex_assign (d := .bytes (byN (swapL (wAt sm gr wh k) (wh / wAt sm gr wh k) tp))) hA (ev_callf (ds := [.bytes (byN tp), .int ((wAt sm gr wh k : Nat) : Int)]) hF1 (calls_bs hF1 hO hB (by omega) d2 h8 (by omega) (by omega)) (evs_cons (ev_name (by rfl)) (evs_cons (ev_item (item_list (by omega) (by omega) hw) (ev_name (by rfl)) (ev_fmod (ev_name (by rfl)) ev_int (by omega))) evs_nil)) (by rfl)) ?_ (.inl (by rfl))
  exact Ex.weaken (t_text hA hB hO hG hF4 hF6 hs hg hwh hw0 (by rw [swapL_length _ _ _ (by omega)]; omega) (fun x hx => h8 x (mem_swapL hx)) hans) (SubR.at ⟨rfl, rfl, rfl, rfl, rfl, rfl, rfl, rfl, trivial⟩)
end
end Mine
end

section
set_option maxRecDepth 100000
set_option autoImplicit false
set_option linter.unusedVariables false
open PySem PySem.Calls PyProof.Rows
open PySem.W (Dat)
namespace Mine
/-! law 02: the law's own body -/
def baseN (wh : Nat) : List Nat := (List.range wh).map (97 + ·)
def tapeF (sm gr wh : Nat) (ks : List Nat) : List Nat := ks.foldl (fun tp k => swapL (wAt sm gr wh k) (wh / wAt sm gr wh k) tp) (baseN wh)
theorem tapeF_snoc (sm gr wh : Nat) (ks : List Nat) (k : Nat) : tapeF sm gr wh (ks ++ [k]) = swapL (wAt sm gr wh k) (wh / wAt sm gr wh k) (tapeF sm gr wh ks) := by simp [tapeF]
def Divs (sm gr wh : Nat) : Prop := ∀ k, k < 4 → wh / wAt sm gr wh k * wAt sm gr wh k = wh ∧ 0 < wAt sm gr wh k ∧ wAt sm gr wh k ≤ 1000
def Low (ks : List Nat) : Prop := ∀ k ∈ ks, k < 4
theorem tapeF_facts {sm gr wh : Nat} (hd : Divs sm gr wh) (hwh : wh ≤ 100) : ∀ ks : List Nat, Low ks → (tapeF sm gr wh ks).length = wh ∧ ∀ x ∈ tapeF sm gr wh ks, x < 256 := by
  have step : ∀ (ks : List Nat) (tp : List Nat), Low ks → (tp.length = wh ∧ ∀ x ∈ tp, x < 256) →
      ((ks.foldl (fun tp k => swapL (wAt sm gr wh k) (wh / wAt sm gr wh k) tp) tp).length = wh ∧ ∀ x ∈ ks.foldl (fun tp k => swapL (wAt sm gr wh k) (wh / wAt sm gr wh k) tp) tp, x < 256) := by
    intro ks
    induction ks with
    | nil => intro tp _ h; exact h
    | cons k ks ih =>
      intro tp hl h
      obtain ⟨d1, _, _⟩ := hd k (hl k List.mem_cons_self)
      refine ih _ (fun j hj => hl j (List.mem_cons_of_mem _ hj)) ⟨?_, fun x hx => h.2 x (mem_swapL hx)⟩
      rw [swapL_length _ _ _ (by omega)]; exact d1
  intro ks hl
  exact step ks _ hl ⟨by simp [baseN], fun x hx => by
    simp only [baseN, List.mem_map, List.mem_range] at hx
    obtain ⟨i, hi, rfl⟩ := hx
    omega⟩
def kOf (x : Int) : Nat := (x.fmod 4).toNat
theorem kOf_low (l : List Int) : Low (l.map kOf) := by
  intro k hk
  obtain ⟨x, _, rfl⟩ := List.mem_map.mp hk
  have := fmod_range x (b := 4) (by omega)
  unfold kOf; omega
def Plain1 (sm gr wh : Nat) : Prop := ∀ ks : List Nat, Low ks → ∀ rest : Int, emAns (pat2 rest (word2 rest wh)) (tapeF sm gr wh ks) = decide (faults2 rest wh (word2 rest wh) (fun a b => aheadB (a : Nat) (b : Nat) sm gr (cnt ks 1) (cnt ks 2) (cnt ks 3)) = [])
def pair2 (one other : Nat) : List Nat := dots ++ [97 + one] ++ dots ++ [97 + other] ++ dots
def Plain2 (sm gr wh : Nat) : Prop := ∀ ks : List Nat, Low ks → ∀ one other : Nat, one < other → other < wh → emAns (pair2 one other) (tapeF sm gr wh ks) = aheadB (one : Nat) (other : Nat) sm gr (cnt ks 1) (cnt ks 2) (cnt ks 3)
section
variable {n : Nat} {C : Cx} {A : Around} {Pr : Addr → Obj → Prop} {X : Addr → Prop} {env : Env} {ρ : Rho} {pm code doc : Value} {L a : Addr} {Q : Flow → Shared → Prop}
variable {sm gr wh : Nat} {t0 t1 t2 t3 rest : Int} {w t tp ds fs p ks : List Nat}
def oBody : List Stmt := forBody ((recAt PW 7).body.drop 10)
def iBody2 : List Stmt := forBody oBody
def Zv (sm gr : Nat) (t0 t1 t2 t3 : Int) (tp : List Nat) (wh : Nat) : Rho := [("small", .v (.int (sm : Int))), ("great", .v (.int (gr : Int))), ("turns", .v (turnsD t0 t1 t2 t3)), ("text", .v (.str (S tp))), ("whole", .v (.int (wh : Int)))]
theorem ev_letter {x : Str} {px p1 p2 p3 p4 : Pos} {k2 : Nat} {y : Nat} {f : Str} (hB : Blts C) (hf : f = "chr") (hx : ρ.lookup x = some (.v (.int (y : Int)))) (hy : y < 1000) (hd : (x == ("__debug__" : Str)) = false) (hcd : (x == ("__classdict__" : Str)) = false) (hxf : env.kindOf "chr" = some .globalImplicit) :
    Ev n C X env ρ (.Call (.Name f p1) [.BinOp (.Constant (.int 97) k2 p2) .Add (.Name x px) p3] [] p4) (.v (.str (S [97 + y]))) := by
  subst hf
  have h1 := call_chr (i := ((97 + y : Nat) : Int)) (by omega) (by omega)
  rw [chr_S] at h1
  exact ev_callb hB.chr h1 (evs_cons ((ev_add ev_int (ev_name hx hd hcd)).to (by simp)) evs_nil) hxf
theorem z_turn {one other : Nat} (hA : Room 1 A) (hB : Blts C) (hO : C.Ok) (hG : GStr C "ELLIPSIS_MARKER" (S dots)) (hF4 : FnAt C (recAt PW 4)) (hF6 : FnAt C (recAt PW 6)) (hs : 0 < sm ∧ sm < 1000) (hg : 0 < gr ∧ gr < 1000) (h1 : one < 1000) (h2 : other < 1000) (htl : tp.length ≤ 1000)
    (hans : emAns (pair2 one other) tp = aheadB (one : Nat) (other : Nat) sm gr t1 t2 t3) :
    Ex C A Pr X (E2 pm code doc L a) (("one", .v (.int (one : Int))) :: ("other", .v (.int (other : Int))) :: Zv sm gr t0 t1 t2 t3 tp wh) iBody2 (TurnQ C Pr X (E2 pm code doc L a) (("other", .v (.int (other : Int))) :: Zv sm gr t0 t1 t2 t3 tp wh) Q) := by
  have hsz := sizeLine_eq
  refine ex_assign (d := .str (S (pair2 one other))) hA ((ev_cat (ev_cat (ev_cat (ev_cat (ev_str (x := S dots)) (ev_letter hB rfl (y := one) (by rfl) h1 (by decide) (by decide) (by rfl)) (by rw [S_length, S_length]; simp [dots]; omega)) (ev_str (x := S dots)) (by rw [S_append, S_length, S_length]; simp [dots]; omega)) (ev_letter hB rfl (y := other) (by rfl) h2 (by decide) (by decide) (by rfl)) (by rw [S_append, S_append, S_length, S_length]; simp [dots]; omega)) (ev_str (x := S dots)) (by rw [S_append, S_append, S_append, S_length, S_length]; simp [dots]; omega)).to (by rw [S_append, S_append, S_append, S_append]; rfl)) ?_ (.inl (by rfl))
  refine ex_assign (d := .bool (aheadB (one : Nat) (other : Nat) sm gr t1 t2 t3)) hA ((ev_callf (ds := [.str (S (pair2 one other)), .str (S tp)]) hF4 (calls_em hF4 hO hB hG (by simp [pair2, dots]) (by omega)) (evs_cons (ev_name (by rfl)) (evs_cons (ev_name (by rfl)) evs_nil)) (by rfl)).to (by rw [hans])) ?_ (.inl (by rfl))
  refine ex_if (c := false) hA (Tr.to (tr_or (tr_not (tr_bool (ev_callb hB.isinstance call_isBool (evs_cons (ev_name (b := .v (.bool (aheadB (one : Nat) (other : Nat) sm gr t1 t2 t3))) (by rfl)) (evs_cons (ev_type hB.bool) evs_nil))))) fun _ => cmp_neB.tr (ev_name (b := .v (.bool (aheadB (one : Nat) (other : Nat) sm gr t1 t2 t3))) (by rfl))
    (ev_callf (ds := [.int (one : Int), .int (other : Int), .int (sm : Int), .int (gr : Int), turnsD t0 t1 t2 t3]) hF6 (calls_ahead hF6 hO hB (by omega) (by omega)) (evs_cons (ev_name (by rfl)) (evs_cons (ev_name (by rfl)) (evs_cons (ev_name (by rfl)) (evs_cons (ev_name (by rfl)) (evs_cons (ev_name (by rfl)) evs_nil))))) (by rfl))) (by simp)) (fun hc => by cases hc) fun _ => ?_
  exact ex_next (ex_nil fun s S => S.weaken (SubR.at ⟨rfl, rfl, rfl, rfl, rfl, rfl, trivial⟩))
theorem z_loops (hA : Room 1 A) (hB : Blts C) (hO : C.Ok) (hG : GStr C "ELLIPSIS_MARKER" (S dots)) (hF4 : FnAt C (recAt PW 4)) (hF6 : FnAt C (recAt PW 6)) (hs : 0 < sm ∧ sm < 1000) (hg : 0 < gr ∧ gr < 1000) (hwh : wh ≤ 100) (htl : tp.length ≤ 1000) (h8 : ∀ x ∈ tp, x < 256)
    (hans : ∀ one other : Nat, one < other → other < wh → emAns (pair2 one other) tp = aheadB (one : Nat) (other : Nat) sm gr t1 t2 t3) :
    Ex C A Pr X (E2 pm code doc L a) (Vv sm gr wh t0 t1 t2 t3 tp ds) ((recAt PW 7).body.drop 9) (RetQ C Pr X (.bool true)) := by
  refine ex_assignS hA (ev_chars (l := tp) hB h8 (by omega) (by rw [← byN_nats h8]; exact it_bytes (ev_name (by rfl))) rfl rfl rfl (fun L => .inl (by rfl)) (fun L => by rfl) (by rfl) (by decide +kernel) (by decide) (by decide)) ?_ (.inl (by rfl))
  refine ex_for (xs := fun d => [("other", .v d)]) (ds := steps 0 1 wh) hA (it_range1 hB.range (ev_name (by rfl)) (range_upto wh) (small_of (by omega) (by omega) (by omega))) (fun _ => Zv sm gr t0 t1 t2 t3 tp wh) (SubR.at ⟨rfl, rfl, rfl, rfl, rfl, trivial⟩) (fun d _ => bnd_name (.inl (by rfl))) (fun other ho Pr' hPr => ?_) (ex_ret hA ev_bool (fun b o h => h) fun b h => h)
  rw [steps_at ho]
  rw [steps_len] at ho
  refine ex_for (xs := fun d => [("one", .v d)]) (ds := steps 0 1 other) hA (it_range1 hB.range (ev_name (by rfl)) (range_upto other) (small_of (by omega) (by omega) (by omega))) (fun _ => ("other", .v (.int (other : Int))) :: Zv sm gr t0 t1 t2 t3 tp wh) (fun x b h => h) (fun d _ => bnd_name (.inl (by rfl))) (fun one h1 Pr'' hPr' => ?_) (ex_nil fun s S => S.weaken (SubR.at ⟨rfl, rfl, rfl, rfl, rfl, trivial⟩))
  rw [steps_at h1]
  rw [steps_len] at h1
  exact z_turn hA hB hO hG hF4 hF6 hs hg (by omega) (by omega) htl (hans one other h1 ho)
end
def aN (q : Nat) : Nat := [2, 2, 2, 3].getD q 2
def bN (q : Nat) : Nat := [2, 2, 3, 2].getD q 2
def cN (q : Nat) : Nat := [2, 3, 2, 2].getD q 2
theorem shape_facts {q : Nat} (hq : q < 4) : (0 < aN q ∧ aN q < 10) ∧ (0 < aN q * bN q ∧ aN q * bN q < 20) ∧ (0 < aN q * bN q * cN q ∧ aN q * bN q * cN q ≤ 12) ∧ Divs (aN q) (aN q * bN q) (aN q * bN q * cN q) := by
  have hd : ∀ q, q < 4 → (0 < aN q ∧ aN q < 10) ∧ (0 < aN q * bN q ∧ aN q * bN q < 20) ∧ (0 < aN q * bN q * cN q ∧ aN q * bN q * cN q ≤ 12) ∧ ∀ k, k < 4 → aN q * bN q * cN q / wAt (aN q) (aN q * bN q) (aN q * bN q * cN q) k * wAt (aN q) (aN q * bN q) (aN q * bN q * cN q) k = aN q * bN q * cN q ∧ 0 < wAt (aN q) (aN q * bN q) (aN q * bN q * cN q) k ∧ wAt (aN q) (aN q * bN q) (aN q * bN q * cN q) k ≤ 1000 := by decide +kernel
  exact hd q hq
section
variable {n : Nat} {C : Cx} {A : Around} {Pr : Addr → Obj → Prop} {X : Addr → Prop} {env : Env} {ρ : Rho} {pm code doc : Value} {L a : Addr} {Q : Flow → Shared → Prop}
/-- from the loop on -/
theorem w_loop {sm gr wh : Nat} {ns : List Int} (hA : Room 1 A) (hB : Blts C) (hO : C.Ok) (hG : GStr C "ELLIPSIS_MARKER" (S dots)) (hF1 : FnAt C (recAt PW 1)) (hF4 : FnAt C (recAt PW 4)) (hF6 : FnAt C (recAt PW 6)) (hs : 0 < sm ∧ sm < 1000) (hg : 0 < gr ∧ gr < 1000) (hwh : wh ≤ 100) (hw0 : 0 < wh) (hdiv : Divs sm gr wh) (hns : ns.length ≤ 1000) (h1 : Plain1 sm gr wh) (h2 : Plain2 sm gr wh) :
    Ex C A Pr X (E2 pm code doc L a) (("script", .v (.list (ns.map Dat.int))) :: Vv sm gr wh 0 0 0 0 (baseN wh) []) ((recAt PW 7).body.drop 8) (RetQ C Pr X (.bool true)) := by
  have hsz := sizeLine_eq
  have hl : ((ns.drop 1).take 6).length ≤ 6 := by rw [List.length_take]; omega
  refine ex_for (xs := fun d => [("x", .v d)]) (ds := ((ns.drop 1).take 6).map Dat.int) hA (it_list ((ev_item (item_slice (ds := ns.map Dat.int) (by simp) (by rw [List.length_map]; omega)) (ev_name (by rfl)) (ev_slice (lo := some ((1 : Nat) : Int)) (hi := some ((7 : Nat) : Int)) (k := none) (.some ev_int) (.some ev_int) .none)).to (by rw [pick_run', List.map_take, List.map_drop])))
    (fun i => Vv sm gr wh (cnt ((((ns.drop 1).take 6).take i).map kOf) 0) (cnt ((((ns.drop 1).take 6).take i).map kOf) 1) (cnt ((((ns.drop 1).take 6).take i).map kOf) 2) (cnt ((((ns.drop 1).take 6).take i).map kOf) 3) (tapeF sm gr wh ((((ns.drop 1).take 6).take i).map kOf)) ((((ns.drop 1).take 6).take i).map kOf))
    (SubR.at ⟨rfl, rfl, rfl, rfl, rfl, rfl, rfl, trivial⟩) (fun d _ => bnd_name (.inl (by rfl))) (fun i hi Pr' hPr => ?_) ?_
  · have hi' : i < ((ns.drop 1).take 6).length := by simpa using hi
    generalize (ns.drop 1).take 6 = l at *
    have e0 : (l.map Dat.int)[i] = (Dat.int l[i] : D) := by simp
    rw [e0]
    have es : (l.take (i + 1)).map kOf = (l.take i).map kOf ++ [kOf l[i]] := by rw [List.take_succ_eq_append_getElem hi', List.map_append]; rfl
    have hlow := kOf_low (l.take i)
    have hlow' := kOf_low (l.take (i + 1))
    have hf := tapeF_facts hdiv hwh _ hlow
    have hp := h1 _ hlow' (l[i].fdiv 4)
    rw [es, tapeF_snoc] at *
    exact t_turn (k := kOf l[i]) hA hB hO hG hF1 hF4 hF6 hs hg (by omega) hw0 rfl hdiv hf.1 hf.2 (by rw [List.length_map, List.length_take]; omega) hp
  · have hlow := kOf_low ((ns.drop 1).take 6)
    have hf := tapeF_facts hdiv hwh _ hlow
    rw [List.length_map, List.take_length]
    exact z_loops hA hB hO hG hF4 hF6 hs hg hwh (by omega) hf.2 (h2 _ hlow)
theorem w_init {sm gr wh : Nat} {ns : List Int} (hA : Room 1 A) (hB : Blts C) (hO : C.Ok) (hG : GStr C "ELLIPSIS_MARKER" (S dots)) (hF1 : FnAt C (recAt PW 1)) (hF4 : FnAt C (recAt PW 4)) (hF6 : FnAt C (recAt PW 6)) (f1 : 0 < sm ∧ sm < 1000) (f2 : 0 < gr ∧ gr < 1000) (f3 : 0 < wh ∧ wh ≤ 100) (f4 : Divs sm gr wh) (hns : ns.length ≤ 1000) (p1 : Plain1 sm gr wh) (p2 : Plain2 sm gr wh) :
    Ex C A Pr X (E2 pm code doc L a) [("whole", .v (.int (wh : Int))), ("great", .v (.int (gr : Int))), ("small", .v (.int (sm : Int))), ("script", .v (.list (ns.map Dat.int)))] ((recAt PW 7).body.drop 4) (RetQ C Pr X (.bool true)) := by
  have hsz := sizeLine_eq
  refine ex_assign (d := .list (natsD [1, sm, gr, wh])) hA (ev_list (evs_cons ev_int (evs_cons (ev_name (by rfl)) (evs_cons (ev_name (by rfl)) (evs_cons (ev_name (by rfl)) evs_nil)))) (by rw [natsD_length]; simp; omega)) ?_ (.inl (by rfl))
  refine ex_assign (d := .list (natsD [])) hA (ev_list (ds := []) evs_nil (Nat.zero_le _)) ?_ (CanStore.cell (c := L + 4) (by rfl) (by rfl) (by show L < L + 4; exact Nat.lt_add_of_pos_right (by decide)))
  refine ex_assign (d := turnsD 0 0 0 0) hA (ev_list (evs_cons ev_int (evs_cons ev_int (evs_cons ev_int (evs_cons ev_int evs_nil)))) (by simp; omega)) ?_ (CanStore.cell (c := L + 5) (by rfl) (by rfl) (by show L < L + 5; exact Nat.lt_add_of_pos_right (by decide)))
  refine ex_assign (d := .bytes (byN (baseN wh))) hA ((ev_callt hB.bytes (call_bytesL (ns := (baseN wh).map fun k : Nat => (k : Int)) ?_ ?_) (evs_cons (ev_comp1 (l := List.range wh) (φ := fun k : Nat => Dat.int (k : Int)) (c := fun _ => true) (f := fun k => Dat.int ((97 + k : Nat) : Int)) (ρf := []) (cl := []) ((it_range1 hB.range (ev_name (by rfl)) (range_upto wh) (small_of (by omega) (by omega) (by omega))).to (steps_nats _)) ?_ trivial (fun L' => trivial) (fun L' => .inl (by rfl)) (by rfl) (fun L' a' y hy => ?ht) (fun L' a' y hy _ => ?he) (by simp; omega) ?hclos ?hnames) evs_nil)).to (by rw [byteArr_nat])) ?_ (.inl (by rfl))
  case ht => rfl
  case he => exact (ev_add ev_int (ev_name (by rfl))).to (by simp)
  case hclos => rfl
  case hnames => decide +kernel
  · intro x hx
    simp only [baseN, List.map_map, List.mem_map, List.mem_range, Function.comp] at hx
    obtain ⟨i, hi, rfl⟩ := hx
    omega
  · rw [List.length_map, baseN, List.length_map, List.length_range]; omega
  · rw [List.filter_eq_self.mpr fun _ _ => rfl, baseN, List.map_map, List.map_map]; rfl
  exact Ex.weaken (w_loop hA hB hO hG hF1 hF4 hF6 (by omega) (by omega) (by omega) (by omega) f4 hns p1 p2) (SubR.at ⟨rfl, rfl, rfl, rfl, rfl, rfl, rfl, rfl, trivial⟩)
theorem w_shape {a0 b0 c0 : Nat} {ns : List Int} (hA : Room 1 A) (hB : Blts C) (hO : C.Ok) (hG : GStr C "ELLIPSIS_MARKER" (S dots)) (hF1 : FnAt C (recAt PW 1)) (hF4 : FnAt C (recAt PW 4)) (hF6 : FnAt C (recAt PW 6)) (f1 : 0 < a0 ∧ a0 < 10) (f2 : 0 < a0 * b0 ∧ a0 * b0 < 20) (f3 : 0 < a0 * b0 * c0 ∧ a0 * b0 * c0 ≤ 12) (f4 : Divs a0 (a0 * b0) (a0 * b0 * c0)) (hns : ns.length ≤ 1000) (p1 : Plain1 a0 (a0 * b0) (a0 * b0 * c0)) (p2 : Plain2 a0 (a0 * b0) (a0 * b0 * c0)) :
    Ex C A Pr X (E2 pm code doc L a) [("shape", .v (.tuple [.int ((a0 : Nat) : Int), .int ((b0 : Nat) : Int), .int ((c0 : Nat) : Int)])), ("script", .v (.list (ns.map Dat.int)))] ((recAt PW 7).body.drop 1) (RetQ C Pr X (.bool true)) := by
  have f2' : 0 < a0 * b0 ∧ a0 * b0 < 1000 := ⟨f2.1, by omega⟩
  refine ex_assign hA (ev_item (item_tup (ds := [.int ((a0 : Nat) : Int), .int ((b0 : Nat) : Int), .int ((c0 : Nat) : Int)]) (d := .int ((a0 : Nat) : Int)) (by omega) (by omega) rfl) (ev_name (by rfl)) ev_int) ?_ (CanStore.cell (c := L + 1) (by rfl) (by rfl) (by show L < L + 1; exact Nat.lt_add_of_pos_right (by decide)))
  refine ex_assign (d := .int ((a0 * b0 : Nat) : Int)) hA ((ev_mul (ev_name (by rfl)) (ev_item (item_tup (ds := [.int ((a0 : Nat) : Int), .int ((b0 : Nat) : Int), .int ((c0 : Nat) : Int)]) (d := .int ((b0 : Nat) : Int)) (by omega) (by omega) rfl) (ev_name (by rfl)) ev_int) (by omega)).to (by simp)) ?_ (CanStore.cell (c := L + 2) (by rfl) (by rfl) (by show L < L + 2; exact Nat.lt_add_of_pos_right (by decide)))
  refine ex_assign (d := .int ((a0 * b0 * c0 : Nat) : Int)) hA ((ev_mul (a := ((a0 * b0 : Nat) : Int)) (ev_name (by rfl)) (ev_item (item_tup (ds := [.int ((a0 : Nat) : Int), .int ((b0 : Nat) : Int), .int ((c0 : Nat) : Int)]) (d := .int ((c0 : Nat) : Int)) (by omega) (by omega) rfl) (ev_name (by rfl)) ev_int) (by omega)).to (by simp)) ?_ (CanStore.cell (c := L + 3) (by rfl) (by rfl) (by show L < L + 3; exact Nat.lt_add_of_pos_right (by decide)))
  exact Ex.weaken (w_init hA hB hO hG hF1 hF4 hF6 (by omega) f2' (by omega) f4 hns p1 p2) (SubR.at ⟨rfl, rfl, rfl, rfl, trivial⟩)
theorem body_law2 {ns : List Int} {A : Around} (hA : Room 1 A) (hB : Blts C) (hO : C.Ok) (hG : GStr C "ELLIPSIS_MARKER" (S dots)) (hF1 : FnAt C (recAt PW 1)) (hF4 : FnAt C (recAt PW 4)) (hF6 : FnAt C (recAt PW 6)) (hns : ns.length ≤ 1000)
    (h1 : ∀ q, q < 4 → Plain1 (aN q) (aN q * bN q) (aN q * bN q * cN q)) (h2 : ∀ q, q < 4 → Plain2 (aN q) (aN q * bN q) (aN q * bN q * cN q)) :
    Ex C A Pr X (E2 pm code doc L a) [("script", .v (.list (ns.map Dat.int)))] (recAt PW 7).body (RetQ C Pr X (.bool true)) := by
  have hsz := sizeLine_eq
  have h4 := fmod_range (ns.take 1).sum (b := 4) (by omega)
  obtain ⟨q, hq, eq⟩ : ∃ q : Nat, q < 4 ∧ (ns.take 1).sum.fmod 4 = (q : Int) := ⟨((ns.take 1).sum.fmod 4).toNat, by omega, by omega⟩
  obtain ⟨f1, f2, f3, f4⟩ := shape_facts hq
  have p1 := h1 q hq
  have p2 := h2 q hq
  have hsh : ([.tuple [.int 2, .int 2, .int 2], .tuple [.int 2, .int 2, .int 3], .tuple [.int 2, .int 3, .int 2], .tuple [.int 3, .int 2, .int 2]] : List D)[((q : Nat) : Int).toNat]? = some (.tuple [.int ((aN q : Nat) : Int), .int ((bN q : Nat) : Int), .int ((cN q : Nat) : Int)]) := by
    match q, hq with
    | 0, _ => rfl
    | 1, _ => rfl
    | 2, _ => rfl
    | 3, _ => rfl
  refine @ex_assign 1 _ _ _ _ _ _ _ _ _ _ _ _ (.tuple [.int ((aN q : Nat) : Int), .int ((bN q : Nat) : Int), .int ((cN q : Nat) : Int)]) hA (@ev_item 1 _ _ _ _ _ _ _ _ _ _ (item_list (i := (q : Int)) (by omega) (by omega) hsh) ?_ ?_) ?_ (.inl (by rfl)) (by rfl)
  · refine @ev_list 1 _ _ _ _ _ _ _ (@evs_cons 1 _ _ _ _ _ _ _ _ ?_ (@evs_cons 1 _ _ _ _ _ _ _ _ ?_ (@evs_cons 1 _ _ _ _ _ _ _ _ ?_ (@evs_cons 1 _ _ _ _ _ _ _ _ ?_ evs_nil ?g1) ?g2) ?g3) ?g4) (by simp; omega)
    case g1 => rfl
    case g2 => rfl
    case g3 => rfl
    case g4 => rfl
    · exact @ev_tuple 1 _ _ _ _ _ _ _ [.int 2, .int 2, .int 2] (@evs_cons 1 _ _ _ _ _ _ _ _ ev_int (@evs_cons 1 _ _ _ _ _ _ _ _ ev_int (@evs_cons 1 _ _ _ _ _ _ _ _ ev_int evs_nil (by rfl)) (by rfl)) (by rfl)) (by simp; omega)
    · exact @ev_tuple 1 _ _ _ _ _ _ _ [.int 2, .int 2, .int 3] (@evs_cons 1 _ _ _ _ _ _ _ _ ev_int (@evs_cons 1 _ _ _ _ _ _ _ _ ev_int (@evs_cons 1 _ _ _ _ _ _ _ _ ev_int evs_nil (by rfl)) (by rfl)) (by rfl)) (by simp; omega)
    · exact @ev_tuple 1 _ _ _ _ _ _ _ [.int 2, .int 3, .int 2] (@evs_cons 1 _ _ _ _ _ _ _ _ ev_int (@evs_cons 1 _ _ _ _ _ _ _ _ ev_int (@evs_cons 1 _ _ _ _ _ _ _ _ ev_int evs_nil (by rfl)) (by rfl)) (by rfl)) (by simp; omega)
    · exact @ev_tuple 1 _ _ _ _ _ _ _ [.int 3, .int 2, .int 2] (@evs_cons 1 _ _ _ _ _ _ _ _ ev_int (@evs_cons 1 _ _ _ _ _ _ _ _ ev_int (@evs_cons 1 _ _ _ _ _ _ _ _ ev_int evs_nil (by rfl)) (by rfl)) (by rfl)) (by simp; omega)
  · refine (ev_fmod (a := (ns.take 1).sum) (b := 4) (ev_callb hB.sum (call_sum (ns := ns.take 1)) (evs_cons ?_ evs_nil)) ev_int (by omega)).to (by rw [eq])
    exact (ev_item (item_slice (ds := ns.map Dat.int) (by simp) (by rw [List.length_map]; omega)) (ev_name (by rfl)) (ev_slice (lo := none) (hi := some ((1 : Nat) : Int)) (k := none) .none (.some ev_int) .none)).to (by rw [pick_upto, List.map_take])
  exact w_shape hA hB hO hG hF1 hF4 hF6 f1 f2 f3 f4 hns p1 p2
end
end Mine
end

section
set_option maxRecDepth 100000
set_option autoImplicit false
set_option linter.unusedVariables false
open PySem PySem.Calls PyProof.Rows
open PySem.W (Dat)
namespace Mine
/-! law 02: the plain law -/
theorem Mt_one {α : Type} {a : α} {v : List α} {W : List (List α)} {g : List α} : Mt ([a] :: v :: W) g ↔ ∃ h, g = a :: h ∧ Mt ([] :: v :: W) h := by
  constructor
  · rintro ⟨gap, rest, rfl, h⟩; exact ⟨gap ++ rest, rfl, gap, rest, rfl, h⟩
  · rintro ⟨h, rfl, gap, rest, rfl, hm⟩; exact ⟨gap, rest, rfl, hm⟩
theorem Mt_gap {α : Type} {v : List α} {W : List (List α)} {g : List α} : Mt ([] :: v :: W) g ↔ ∃ k, k ≤ g.length ∧ Mt (v :: W) (g.drop k) := by
  constructor
  · rintro ⟨gap, rest, rfl, h⟩; exact ⟨gap.length, by simp, by simpa using h⟩
  · rintro ⟨k, _, h⟩; exact ⟨g.take k, g.drop k, by simp, h⟩
/-- each letter once, at its place -/
structure Pos (t : List Nat) (wh : Nat) (pos : Nat → Nat) : Prop where
  len : t.length = wh
  at_ : ∀ k, k < wh → ∀ m, m < wh → (t[m]? = some (97 + k) ↔ m = pos k)
  lt : ∀ k, k < wh → pos k < wh
  surj : ∀ m, m < wh → ∃ k, k < wh ∧ pos k = m
def Up (pos : Nat → Nat) : Nat → List Nat → Prop
  | _, [] => True
  | j, a :: as => j ≤ pos a ∧ Up pos (pos a + 1) as
section
variable {t : List Nat} {wh : Nat} {pos : Nat → Nat}
theorem Pos.drop_cons (P : Pos t wh pos) {k m : Nat} {h : List Nat} (hk : k < wh) : t.drop m = (97 + k) :: h ↔ m = pos k ∧ h = t.drop (m + 1) := by
  constructor
  · intro e
    have h0 : t[m]? = some (97 + k) := by
      have : (t.drop m)[0]? = some (97 + k) := by rw [e]; rfl
      simpa using this
    have hm : m < t.length := (List.getElem?_eq_some_iff.mp h0).1
    refine ⟨(P.at_ k hk m (P.len ▸ hm)).mp h0, ?_⟩
    rw [List.drop_eq_getElem_cons hm] at e
    injection e with _ e
    exact e.symm
  · rintro ⟨rfl, rfl⟩
    have h0 := (P.at_ k hk _ (P.lt k hk)).mpr rfl
    obtain ⟨hm, e⟩ := List.getElem?_eq_some_iff.mp h0
    rw [List.drop_eq_getElem_cons hm, e]
def tlW (tl : Bool) : List (List Nat) := if tl then [[]] else []
theorem Pos.one (P : Pos t wh pos) (tl : Bool) {a m : Nat} (ha : a < wh) : Mt ([97 + a] :: tlW tl) (t.drop m) ↔ m = pos a ∧ (tl = true ∨ pos a + 1 = wh) := by
  cases tl with
  | true =>
    rw [show tlW true = [[]] from rfl, Mt_one]
    constructor
    · rintro ⟨h, e, _⟩; exact ⟨((P.drop_cons ha).mp e).1, .inl rfl⟩
    · rintro ⟨rfl, _⟩
      exact ⟨t.drop (pos a + 1), (P.drop_cons ha).mpr ⟨rfl, rfl⟩, t.drop (pos a + 1), [], by simp, rfl⟩
  | false =>
    rw [show tlW false = [] from rfl]
    show t.drop m = [97 + a] ↔ _
    rw [P.drop_cons ha]
    constructor
    · rintro ⟨rfl, e⟩
      have : t.length ≤ pos a + 1 := by
        have := congrArg List.length e.symm
        simp at this; omega
      have h1 := P.lt a ha
      have h2 := P.len
      exact ⟨rfl, .inr (by omega)⟩
    · rintro ⟨rfl, h⟩
      rcases h with h | h
      · cases h
      · exact ⟨rfl, (List.drop_eq_nil_of_le (by rw [P.len]; omega)).symm⟩
theorem Pos.any (P : Pos t wh pos) {v : List Nat} {W : List (List Nat)} {j a : Nat} (hj : j ≤ wh) {R : Prop} (ha : a < wh) (h : ∀ m, Mt (v :: W) (t.drop m) ↔ m = pos a ∧ R) : Mt ([] :: v :: W) (t.drop j) ↔ j ≤ pos a ∧ R := by
  rw [Mt_gap]
  constructor
  · rintro ⟨k, _, hk⟩
    rw [List.drop_drop] at hk
    obtain ⟨e, r⟩ := (h _).mp hk
    exact ⟨by omega, r⟩
  · rintro ⟨h1, r⟩
    have := P.lt a ha
    refine ⟨pos a - j, by rw [List.length_drop, P.len]; omega, ?_⟩
    rw [List.drop_drop]
    exact (h _).mpr ⟨by omega, r⟩
def sing (k : Nat) : List Nat := [97 + k]
theorem Pos.mtHead (P : Pos t wh pos) (tl : Bool) : ∀ (r : List Nat) (a : Nat), (∀ k ∈ a :: r, k < wh) → ∀ m, (Mt (sing a :: (r.map sing ++ tlW tl)) (t.drop m) ↔ m = pos a ∧ (Up pos (pos a + 1) r ∧ (tl = true ∨ pos ((a :: r).getLastD 0) + 1 = wh)))
  | [], a, hw, m => by
    rw [List.map_nil, List.nil_append]
    have := P.one tl (a := a) (m := m) (hw a List.mem_cons_self)
    rw [show sing a = [97 + a] from rfl, this]
    constructor
    · rintro ⟨h1, h2⟩; exact ⟨h1, trivial, h2⟩
    · rintro ⟨h1, _, h2⟩; exact ⟨h1, h2⟩
  | b :: r, a, hw, m => by
    have ha := hw a List.mem_cons_self
    have hb := hw b (List.mem_cons_of_mem _ List.mem_cons_self)
    have ih := P.mtHead tl r b fun k hk => hw k (List.mem_cons_of_mem _ hk)
    have hlast : (a :: b :: r).getLastD 0 = (b :: r).getLastD 0 := by simp [List.getLastD]
    rw [hlast, List.map_cons, List.cons_append, show sing a = [97 + a] from rfl, Mt_one]
    have key := fun j (hj : j ≤ wh) => P.any (v := sing b) (W := r.map sing ++ tlW tl) hj hb ih
    constructor
    · rintro ⟨h, e, hm⟩
      obtain ⟨rfl, rfl⟩ := (P.drop_cons ha).mp e
      have hl := P.lt a ha
      obtain ⟨h1, h2, h3⟩ := (key _ (by omega)).mp hm
      exact ⟨rfl, ⟨h1, h2⟩, h3⟩
    · rintro ⟨rfl, ⟨h1, h2⟩, h3⟩
      have hl := P.lt a ha
      exact ⟨_, (P.drop_cons ha).mpr ⟨rfl, rfl⟩, (key _ (by omega)).mpr ⟨h1, h2, h3⟩⟩
theorem split_tail (tl : Bool) : ∀ (r : List Nat) (a : Nat), splitD (joinL dots ((a :: r).map fun k => [97 + k]) ++ if tl then dots else []) = (a :: r).map sing ++ tlW tl
  | [], a => by
    have no : ∀ {c : Nat} {r : List Nat}, c ≠ 46 → ¬ AtL (c :: r) dots 0 := fun hc h => by
      simp [AtL, dots] at h
      exact hc h.1
    cases tl with
    | true =>
      show splitD ((97 + a) :: 46 :: 46 :: 46 :: []) = _
      rw [splitD_cons (no (by omega)), splitD_dots]; rfl
    | false =>
      show splitD ((97 + a) :: []) = _
      rw [splitD_cons (no (by omega))]; rfl
  | b :: r, a => by
    have no : ∀ {c : Nat} {r : List Nat}, c ≠ 46 → ¬ AtL (c :: r) dots 0 := fun hc h => by
      simp [AtL, dots] at h
      exact hc h.1
    have ih := split_tail tl r b
    have e : joinL dots ((a :: b :: r).map fun k => [97 + k]) ++ (if tl = true then dots else []) = (97 + a) :: 46 :: 46 :: 46 :: (joinL dots ((b :: r).map fun k => [97 + k]) ++ if tl = true then dots else []) := by
      simp [joinL, dots]
    rw [e, splitD_cons (no (by omega)), splitD_dots, ih]
    rfl
theorem Pos.pattern (P : Pos t wh pos) (ld tl : Bool) (hw0 : 0 < wh) (a : Nat) (r : List Nat) (hw : ∀ k ∈ a :: r, k < wh) :
    emAns (((if ld then dots else []) ++ joinL dots ((a :: r).map fun k => [97 + k])) ++ if tl then dots else []) t = true ↔ (ld = true ∨ pos a = 0) ∧ Up pos (pos a + 1) r ∧ (tl = true ∨ pos ((a :: r).getLastD 0) + 1 = wh) := by
  have ha := hw a List.mem_cons_self
  rw [emAns_iff]
  have h := P.mtHead tl r a hw
  cases ld with
  | false =>
    have e : (((if false = true then dots else []) ++ joinL dots ((a :: r).map fun k => [97 + k])) ++ if tl = true then dots else []) = joinL dots ((a :: r).map fun k => [97 + k]) ++ if tl = true then dots else [] := by simp
    rw [e, split_tail]
    have h0 := h 0
    rw [List.drop_zero] at h0
    rw [List.map_cons, List.cons_append, h0]
    constructor
    · rintro ⟨h1, h2⟩; exact ⟨.inr h1.symm, h2⟩
    · rintro ⟨h1, h2⟩
      rcases h1 with h1 | h1
      · cases h1
      · exact ⟨h1.symm, h2⟩
  | true =>
    have e : (((if true = true then dots else []) ++ joinL dots ((a :: r).map fun k => [97 + k])) ++ if tl = true then dots else []) = 46 :: 46 :: 46 :: (joinL dots ((a :: r).map fun k => [97 + k]) ++ if tl = true then dots else []) := by simp [dots]
    rw [e, splitD_dots, split_tail]
    have h0 := P.any (v := sing a) (W := r.map sing ++ tlW tl) (Nat.zero_le wh) ha h
    rw [List.drop_zero] at h0
    rw [List.map_cons, List.cons_append, h0]
    constructor
    · rintro ⟨_, h2⟩; exact ⟨.inl rfl, h2⟩
    · rintro ⟨_, h2⟩; exact ⟨Nat.zero_le _, h2⟩
/-- the faults -/
theorem faultsN_nil {c : Nat → Bool} : faultsN wh c = [] ↔ ∀ k, k < wh → c k = false := by
  unfold faultsN
  rw [List.filter_eq_nil_iff]
  constructor
  · intro h k hk; simpa using h k (List.mem_range.mpr hk)
  · intro h k hk; simpa using h k (List.mem_range.mp hk)
theorem inner_nil {c : Nat → Nat → Bool} (hc : ∀ k j, k < wh → j < wh → (c k j = true ↔ pos k < pos j)) : ∀ (r : List Nat) (a : Nat), (∀ k ∈ a :: r, k < wh) → (inner2 (a :: r) c = [] ↔ Up pos (pos a + 1) r) := by
  have conv : ∀ w : List Nat, inner2 w c = [] ↔ ∀ k, k + 1 < w.length → c (w.getD k 0) (w.getD (k + 1) 0) = true := by
    intro w
    unfold inner2
    rw [List.filter_eq_nil_iff]
    constructor
    · intro h k hk
      have := h (k + 1) (by rw [List.mem_range'_1]; omega)
      simpa using this
    · intro h k hk
      rw [List.mem_range'_1] at hk
      have := h (k - 1) (by omega)
      rw [show k - 1 + 1 = k by omega] at this
      simp only [this]; simp
  intro r
  induction r with
  | nil => intro a _; rw [conv]; constructor
           · intro _; trivial
           · intro _ k hk; simp at hk
  | cons b r ih =>
    intro a hw
    have hab := hc a b (hw a List.mem_cons_self) (hw b (by simp))
    have ih' := ih b fun k hk => hw k (List.mem_cons_of_mem _ hk)
    rw [conv] at ih' ⊢
    show _ ↔ pos a + 1 ≤ pos b ∧ Up pos (pos b + 1) r
    rw [← ih']
    constructor
    · intro h
      exact ⟨hab.mp (h 0 (by simp)), fun k hk => h (k + 1) (by simp at hk ⊢; omega)⟩
    · rintro ⟨h1, h2⟩ k hk
      match k, hk with
      | 0, _ => exact hab.mpr h1
      | k + 1, hk => exact h2 k (by simp at hk ⊢; omega)
theorem Pos.faults (P : Pos t wh pos) {c : Nat → Nat → Bool} (hc : ∀ k j, k < wh → j < wh → (c k j = true ↔ pos k < pos j)) (rest : Int) (a : Nat) (r : List Nat) (hw : ∀ k ∈ a :: r, k < wh) :
    faults2 rest wh (a :: r) c = [] ↔ ((rest.fdiv 3).fmod 2 = 0 ∨ pos a = 0) ∧ Up pos (pos a + 1) r ∧ ((rest.fdiv 6).fmod 2 = 0 ∨ pos ((a :: r).getLastD 0) + 1 = wh) := by
  have ha := hw a List.mem_cons_self
  have hl : (a :: r).getLastD 0 < wh := by
    refine hw _ ?_
    rw [List.getLastD_eq_getLast?, List.getLast?_eq_some_getLast (by simp)]
    exact List.getLast_mem _
  unfold faults2
  rw [List.append_eq_nil_iff, List.append_eq_nil_iff, inner_nil hc r a hw]
  have h1 : (if (rest.fdiv 3).fmod 2 = 0 then [] else faultsN wh fun k => c k ((a :: r).headD 0)) = [] ↔ ((rest.fdiv 3).fmod 2 = 0 ∨ pos a = 0) := by
    by_cases h : (rest.fdiv 3).fmod 2 = 0
    · rw [if_pos h]; simp [h]
    · rw [if_neg h, faultsN_nil]
      constructor
      · intro hf
        refine .inr (Classical.byContradiction fun h0 => ?_)
        obtain ⟨k, hk, e⟩ := P.surj 0 (by omega)
        have := hf k hk
        have h2 := (hc k a hk ha).mpr (by omega)
        rw [show (a :: r).headD 0 = a from rfl] at this
        rw [this] at h2; cases h2
      · intro hf k hk
        rcases hf with hf | hf
        · exact absurd hf h
        · refine Bool.eq_false_iff.mpr fun h2 => ?_
          have := (hc k a hk ha).mp h2
          omega
  have h2 : (if (rest.fdiv 6).fmod 2 = 0 then [] else faultsN wh fun k => c ((a :: r).getLastD 0) k) = [] ↔ ((rest.fdiv 6).fmod 2 = 0 ∨ pos ((a :: r).getLastD 0) + 1 = wh) := by
    generalize (a :: r).getLastD 0 = z at *
    by_cases h : (rest.fdiv 6).fmod 2 = 0
    · rw [if_pos h]; simp [h]
    · rw [if_neg h, faultsN_nil]
      have hz := P.lt z hl
      constructor
      · intro hf
        refine .inr (Classical.byContradiction fun h0 => ?_)
        obtain ⟨k, hk, e⟩ := P.surj (wh - 1) (by omega)
        have := hf k hk
        have h2 := (hc z k hl hk).mpr (by omega)
        rw [this] at h2; cases h2
      · intro hf k hk
        rcases hf with hf | hf
        · exact absurd hf h
        · refine Bool.eq_false_iff.mpr fun h2 => ?_
          have := (hc z k hl hk).mp h2
          have := P.lt k hk
          omega
  rw [h1, h2]
  constructor
  · rintro ⟨⟨x, y⟩, z⟩; exact ⟨y, x, z⟩
  · rintro ⟨y, x, z⟩; exact ⟨⟨x, y⟩, z⟩
end
end Mine
end

section
set_option maxRecDepth 100000
set_option autoImplicit false
set_option linter.unusedVariables false
open PySem PySem.Calls PyProof.Rows
open PySem.W (Dat)
namespace Mine
/-! law 02: the tapes -/
def tabs : List (List Nat) := [[97, 98, 99, 100, 101, 102, 103, 104],
  [98, 97, 100, 99, 102, 101, 104, 103],
  [100, 99, 98, 97, 104, 103, 102, 101],
  [99, 100, 97, 98, 103, 104, 101, 102],
  [104, 103, 102, 101, 100, 99, 98, 97],
  [103, 104, 101, 102, 99, 100, 97, 98],
  [101, 102, 103, 104, 97, 98, 99, 100],
  [102, 101, 104, 103, 98, 97, 100, 99],
  [97, 98, 99, 100, 101, 102, 103, 104, 105, 106, 107, 108],
  [98, 97, 100, 99, 102, 101, 104, 103, 106, 105, 108, 107],
  [100, 99, 98, 97, 104, 103, 102, 101, 108, 107, 106, 105],
  [99, 100, 97, 98, 103, 104, 101, 102, 107, 108, 105, 106],
  [108, 107, 106, 105, 104, 103, 102, 101, 100, 99, 98, 97],
  [107, 108, 105, 106, 103, 104, 101, 102, 99, 100, 97, 98],
  [105, 106, 107, 108, 101, 102, 103, 104, 97, 98, 99, 100],
  [106, 105, 108, 107, 102, 101, 104, 103, 98, 97, 100, 99],
  [97, 98, 99, 100, 101, 102, 103, 104, 105, 106, 107, 108],
  [98, 97, 100, 99, 102, 101, 104, 103, 106, 105, 108, 107],
  [102, 101, 100, 99, 98, 97, 108, 107, 106, 105, 104, 103],
  [101, 102, 99, 100, 97, 98, 107, 108, 105, 106, 103, 104],
  [108, 107, 106, 105, 104, 103, 102, 101, 100, 99, 98, 97],
  [107, 108, 105, 106, 103, 104, 101, 102, 99, 100, 97, 98],
  [103, 104, 105, 106, 107, 108, 97, 98, 99, 100, 101, 102],
  [104, 103, 106, 105, 108, 107, 98, 97, 100, 99, 102, 101],
  [97, 98, 99, 100, 101, 102, 103, 104, 105, 106, 107, 108],
  [99, 98, 97, 102, 101, 100, 105, 104, 103, 108, 107, 106],
  [102, 101, 100, 99, 98, 97, 108, 107, 106, 105, 104, 103],
  [100, 101, 102, 97, 98, 99, 106, 107, 108, 103, 104, 105],
  [108, 107, 106, 105, 104, 103, 102, 101, 100, 99, 98, 97],
  [106, 107, 108, 103, 104, 105, 100, 101, 102, 97, 98, 99],
  [103, 104, 105, 106, 107, 108, 97, 98, 99, 100, 101, 102],
  [105, 104, 103, 108, 107, 106, 99, 98, 97, 102, 101, 100]]
def tabT (q s : Nat) : List Nat := tabs.getD (q * 8 + s) []
def flipN (k s : Nat) : Nat := ([[0, 1, 2, 3, 4, 5, 6, 7], [1, 0, 3, 2, 5, 4, 7, 6], [2, 3, 0, 1, 6, 7, 4, 5], [4, 5, 6, 7, 0, 1, 2, 3]].getD k []).getD s 0
def smN (q : Nat) : Nat := aN q
def grN (q : Nat) : Nat := aN q * bN q
def whN (q : Nat) : Nat := aN q * bN q * cN q
theorem tab_base : ∀ q, q < 4 → tabT q 0 = baseN (whN q) := by decide +kernel
theorem tab_step : ∀ q, q < 4 → ∀ k, k < 4 → ∀ s, s < 8 → swapL (wAt (smN q) (grN q) (whN q) k) (whN q / wAt (smN q) (grN q) (whN q) k) (tabT q s) = tabT q (flipN k s) := by decide +kernel
theorem flip_bits : ∀ k, k < 4 → ∀ s, s < 8 → flipN k s < 8 ∧ flipN k s % 2 = (s + if k = 1 then 1 else 0) % 2 ∧ flipN k s / 2 % 2 = (s / 2 + if k = 2 then 1 else 0) % 2 ∧ flipN k s / 4 % 2 = (s / 4 + if k = 3 then 1 else 0) % 2 := by decide +kernel
def posT (q s k : Nat) : Nat := (tabT q s).idxOf (97 + k)
def bothS (q s o p : Nat) : Nat := if o / smN q = p / smN q then s % 2 + s / 2 % 2 + s / 4 % 2 else if o / grN q = p / grN q then s / 2 % 2 + s / 4 % 2 else s / 4 % 2
def aheadS (q s o p : Nat) : Bool := (o != p) && (decide (o < p) == (bothS q s o p % 2 == 0))
theorem tab_len : ∀ q, q < 4 → ∀ s, s < 8 → (tabT q s).length = whN q := by decide +kernel
theorem tab_at0 : ∀ s, s < 8 → ∀ k, k < 8 → ∀ m, m < 8 → ((tabT 0 s)[m]? = some (97 + k) ↔ m = posT 0 s k) := by decide +kernel
theorem tab_at1 : ∀ s, s < 8 → ∀ k, k < 12 → ∀ m, m < 12 → ((tabT 1 s)[m]? = some (97 + k) ↔ m = posT 1 s k) := by decide +kernel
theorem tab_at2 : ∀ s, s < 8 → ∀ k, k < 12 → ∀ m, m < 12 → ((tabT 2 s)[m]? = some (97 + k) ↔ m = posT 2 s k) := by decide +kernel
theorem tab_at3 : ∀ s, s < 8 → ∀ k, k < 12 → ∀ m, m < 12 → ((tabT 3 s)[m]? = some (97 + k) ↔ m = posT 3 s k) := by decide +kernel
theorem tab_lt : ∀ q, q < 4 → ∀ s, s < 8 → ∀ k, k < whN q → posT q s k < whN q := by decide +kernel
theorem tab_surj : ∀ q, q < 4 → ∀ s, s < 8 → ∀ m, m < whN q → ∃ k, k < whN q ∧ posT q s k = m := by
  have h : ∀ q, q < 4 → ∀ s, s < 8 → ∀ m, m < whN q → (tabT q s).getD m 0 - 97 < whN q ∧ posT q s ((tabT q s).getD m 0 - 97) = m := by decide +kernel
  intro q hq s hs m hm
  exact ⟨_, h q hq s hs m hm⟩
theorem tab_ahead0 : ∀ s, s < 8 → ∀ o, o < 8 → ∀ p, p < 8 → (aheadS 0 s o p = true ↔ posT 0 s o < posT 0 s p) := by decide +kernel
theorem tab_ahead1 : ∀ s, s < 8 → ∀ o, o < 12 → ∀ p, p < 12 → (aheadS 1 s o p = true ↔ posT 1 s o < posT 1 s p) := by decide +kernel
theorem tab_ahead2 : ∀ s, s < 8 → ∀ o, o < 12 → ∀ p, p < 12 → (aheadS 2 s o p = true ↔ posT 2 s o < posT 2 s p) := by decide +kernel
theorem tab_ahead3 : ∀ s, s < 8 → ∀ o, o < 12 → ∀ p, p < 12 → (aheadS 3 s o p = true ↔ posT 3 s o < posT 3 s p) := by decide +kernel
theorem tab_at {q s : Nat} (hq : q < 4) (hs : s < 8) : ∀ k, k < whN q → ∀ m, m < whN q → ((tabT q s)[m]? = some (97 + k) ↔ m = posT q s k) := by
  match q, hq with
  | 0, _ => exact tab_at0 s hs
  | 1, _ => exact tab_at1 s hs
  | 2, _ => exact tab_at2 s hs
  | 3, _ => exact tab_at3 s hs
theorem tab_ahead {q s : Nat} (hq : q < 4) (hs : s < 8) : ∀ o, o < whN q → ∀ p, p < whN q → (aheadS q s o p = true ↔ posT q s o < posT q s p) := by
  match q, hq with
  | 0, _ => exact tab_ahead0 s hs
  | 1, _ => exact tab_ahead1 s hs
  | 2, _ => exact tab_ahead2 s hs
  | 3, _ => exact tab_ahead3 s hs
theorem tab_pos {q s : Nat} (hq : q < 4) (hs : s < 8) : Pos (tabT q s) (whN q) (posT q s) := ⟨tab_len q hq s hs, tab_at hq hs, tab_lt q hq s hs, tab_surj q hq s hs⟩
def stN (ks : List Nat) : Nat := ks.foldl (fun s k => flipN k s) 0
theorem run_facts {q : Nat} (hq : q < 4) : ∀ (ks : List Nat) (s : Nat), Low ks → s < 8 →
    ks.foldl (fun tp k => swapL (wAt (smN q) (grN q) (whN q) k) (whN q / wAt (smN q) (grN q) (whN q) k) tp) (tabT q s) = tabT q (ks.foldl (fun s k => flipN k s) s) ∧ ks.foldl (fun s k => flipN k s) s < 8 ∧
    ks.foldl (fun s k => flipN k s) s % 2 = (s + ks.count 1) % 2 ∧ ks.foldl (fun s k => flipN k s) s / 2 % 2 = (s / 2 + ks.count 2) % 2 ∧ ks.foldl (fun s k => flipN k s) s / 4 % 2 = (s / 4 + ks.count 3) % 2
  | [], s, _, hs => ⟨rfl, hs, rfl, rfl, rfl⟩
  | k :: ks, s, hl, hs => by
    have hk := hl k List.mem_cons_self
    obtain ⟨f0, f1, f2, f3⟩ := flip_bits k hk s hs
    obtain ⟨g0, g1, g2, g3, g4⟩ := run_facts hq ks (flipN k s) (fun j hj => hl j (List.mem_cons_of_mem _ hj)) f0
    refine ⟨?_, g1, ?_, ?_, ?_⟩
    · rw [List.foldl_cons, List.foldl_cons, tab_step q hq k hk s hs]; exact g0
    · rw [List.foldl_cons, g2, List.count_cons]
      simp only [beq_iff_eq]
      omega
    · rw [List.foldl_cons, g3, List.count_cons]
      simp only [beq_iff_eq]
      omega
    · rw [List.foldl_cons, g4, List.count_cons]
      simp only [beq_iff_eq]
      omega
theorem tape_tab {q : Nat} (hq : q < 4) (ks : List Nat) (hl : Low ks) : tapeF (smN q) (grN q) (whN q) ks = tabT q (stN ks) ∧ stN ks < 8 ∧ stN ks % 2 = ks.count 1 % 2 ∧ stN ks / 2 % 2 = ks.count 2 % 2 ∧ stN ks / 4 % 2 = ks.count 3 % 2 := by
  have h := run_facts hq ks 0 hl (by omega)
  rw [tab_base q hq] at h
  simpa [tapeF, stN] using h
theorem cast_div (o sm : Nat) : ((o : Int).fdiv (sm : Int)) = ((o / sm : Nat) : Int) := by
  rw [Int.fdiv_eq_ediv_of_nonneg _ (by omega)]; simp
theorem ahead_tab {q : Nat} (hq : q < 4) (ks : List Nat) (hl : Low ks) (o p : Nat) : aheadB (o : Nat) (p : Nat) (smN q : Nat) (grN q : Nat) (cnt ks 1) (cnt ks 2) (cnt ks 3) = aheadS q (stN ks) o p := by
  obtain ⟨_, _, c1, c2, c3⟩ := tape_tab hq ks hl
  have hb : (bothI (o : Nat) (p : Nat) (smN q : Nat) (grN q : Nat) (cnt ks 1) (cnt ks 2) (cnt ks 3)).fmod 2 = ((bothS q (stN ks) o p % 2 : Nat) : Int) := by
    rw [Int.fmod_eq_emod_of_nonneg _ (by omega), bothI, bothS, cast_div, cast_div, cast_div, cast_div]
    simp only [Int.ofNat_inj]
    unfold cnt
    split
    · omega
    · split <;> omega
  unfold aheadB aheadS
  rw [hb]
  congr 1
  · rw [Bool.eq_iff_iff]; simp; omega
  · congr 1
    · rw [Bool.eq_iff_iff]; simp
    · rw [Bool.eq_iff_iff]; simp; omega
theorem word2_low (rest : Int) {wh : Nat} (hw : 0 < wh) : ∀ k ∈ word2 rest wh, k < wh := by
  intro k hk
  simp only [word2, List.mem_map] at hk
  obtain ⟨i, _, rfl⟩ := hk
  have := fmod_range (rest.fdiv (12 * (wh : Int) ^ i)) (b := (wh : Int)) (by omega)
  omega
theorem plain1 (q : Nat) (hq : q < 4) : Plain1 (smN q) (grN q) (whN q) := by
  intro ks hl rest
  obtain ⟨e, hs, _⟩ := tape_tab hq ks hl
  have P := tab_pos hq hs
  have hw0 : 0 < whN q := (shape_facts hq).2.2.1.1
  have hlow := word2_low rest hw0
  have hne : word2 rest (whN q) ≠ [] := fun h => by
    have := word2_len rest (whN q)
    rw [h] at this; simp at this; omega
  generalize word2 rest (whN q) = w at *
  obtain ⟨a, r, rfl⟩ := List.exists_cons_of_ne_nil hne
  rw [e, Bool.eq_iff_iff, decide_eq_true_eq]
  have hf := P.faults (c := fun a b => aheadB (a : Nat) (b : Nat) (smN q : Nat) (grN q : Nat) (cnt ks 1) (cnt ks 2) (cnt ks 3)) (fun k j hk hj => by
    simp only [ahead_tab hq ks hl]
    exact tab_ahead hq hs k hk j hj) rest a r hlow
  rw [hf]
  have hp := P.pattern (decide ((rest.fdiv 3).fmod 2 = 0)) (decide ((rest.fdiv 6).fmod 2 = 0)) hw0 a r hlow
  simp only [decide_eq_true_eq] at hp
  exact hp
theorem plain2 (q : Nat) (hq : q < 4) : Plain2 (smN q) (grN q) (whN q) := by
  intro ks hl one other h1 h2
  obtain ⟨e, hs, _⟩ := tape_tab hq ks hl
  have P := tab_pos hq hs
  have hw0 : 0 < whN q := (shape_facts hq).2.2.1.1
  rw [e, ahead_tab hq ks hl, Bool.eq_iff_iff, tab_ahead hq hs one (by omega) other h2]
  have hp := P.pattern true true hw0 one [other] (by
    intro k hk
    simp at hk; omega)
  have e2 : pair2 one other = (((if true = true then dots else []) ++ joinL dots ([one, other].map fun k => [97 + k])) ++ if true = true then dots else []) := by simp [pair2, joinL, dots]
  rw [e2, hp]
  constructor
  · rintro ⟨_, ⟨h, _⟩, _⟩; exact h
  · intro h; exact ⟨.inl rfl, ⟨h, trivial⟩, .inl rfl⟩
end Mine
end

section
set_option Elab.async false
open PySem PySem.Calls PyProof.Rows PySem.W
namespace Mine
theorem law_calls {C : Cx} {ns : List Int} (hO : C.Ok) (hB : Blts C) (hG : GStr C "ELLIPSIS_MARKER" (S dots)) (hF1 : FnAt C (recAt PW 1)) (hF4 : FnAt C (recAt PW 4)) (hF6 : FnAt C (recAt PW 6)) (hF7 : FnAt C (recAt PW 7)) (hns : ns.length ≤ 1000) : Calls C 2 "law" [.list (ns.map Dat.int)] (.bool true) :=
  fn_calls (d := recAt PW 7) (names := ["script"]) hF7 hO (by decide +kernel) (fun pm code doc vals hv => by
    match vals, hv with
    | [v1], _ => kernel_rfl) (fun L x hx => by
      rcases List.mem_cons.mp hx with rfl | hx
      · exact .inl (by rfl)
      · cases hx) rfl (by rfl) (by rfl) (by rfl) fun A pm code doc L a Pr X hA => @body_law2 C Pr X pm code doc L a ns A hA hB hO hG hF1 hF4 hF6 hns plain1 plain2
end Mine
namespace MineH
open Mine
set_option maxRecDepth 100000 in
set_option maxHeartbeats 8000000 in
theorem top2 : PySem.Challenge.rw_pe0057_02.Holds := by
  (w_on; o_law; k_head; (case hw => w_witness2))
  intro w s₀ s₁ mg mb G Y fa o pm cd doc dV kV ho hd hcd hD hmg hg args vals as hpre hlay hrd hwl hlo
  have T := G.T
  have hm : mg "law" = some (.ref fa) := hmg
  clear ho hd hcd hD Y hmg
  wrow_args hpre hlay hrd hwl hlo
  rename_i ns hs hl0 hL1 hr1 hl2 b1 b2 l vs b3 hL ra w1 r0 hI hr hc1 hc2
  have hO : (Cx.mk PySem.Challenge.pw_pe0057_02 w s₁ mg mb).Ok := ⟨T.g, T.b, T.nolimit, T.builtins⟩
  have free : ∀ x : Str, _ := fun x => T.free x
  have hB : Blts (Cx.mk PySem.Challenge.pw_pe0057_02 w s₁ mg mb) := by
    constructor <;> exact ⟨T.free _ (by decide +kernel) (by decide +kernel) (by decide +kernel) (by decide +kernel) (by decide +kernel), by kernel_rfl, by decide +kernel⟩
  have hG : GStr (Cx.mk PySem.Challenge.pw_pe0057_02 w s₁ mg mb) "ELLIPSIS_MARKER" (S dots) := by
    obtain ⟨v, h1, h2⟩ := T.const "ELLIPSIS_MARKER" (.str (S dots)) (by kernel_rfl)
    cases h2 s₁.heap
    exact ⟨_, h1⟩
  have hF1 : FnAt (Cx.mk PySem.Challenge.pw_pe0057_02 w s₁ mg mb) (recAt PW 1) := T.fn (recAt PW 1) (List.mem_of_getElem? (i := 0) (by kernel_rfl))
  have hF4 : FnAt (Cx.mk PySem.Challenge.pw_pe0057_02 w s₁ mg mb) (recAt PW 4) := T.fn (recAt PW 4) (List.mem_of_getElem? (i := 1) (by kernel_rfl))
  have hF6 : FnAt (Cx.mk PySem.Challenge.pw_pe0057_02 w s₁ mg mb) (recAt PW 6) := T.fn (recAt PW 6) (List.mem_of_getElem? (i := 2) (by kernel_rfl))
  have hF7 : FnAt (Cx.mk PySem.Challenge.pw_pe0057_02 w s₁ mg mb) (recAt PW 7) := T.fn (recAt PW 7) (List.mem_of_getElem? (i := 3) (by kernel_rfl))
  refine guardV_any (wpI_mono (law_calls (ns := ns) hO hB hG hF1 hF4 hF6 hF7 (by omega) fa hm callerA s₁ (fun _ => False) [.ref l] (room_caller (by decide)) (keeps_refl _) (fun _ h => h.elim) (script_rep hL hI w1)) (fun v s' hv => ?_) (fun _ _ f => f.elim)) ?_
  · obtain ⟨⟨⟨h', tk, rfl⟩, g⟩, r⟩ := hv
    have hv : v = .bool true := Rep.bool_inv r
    subst hv
    exact GoodW.toG ⟨.inl ⟨_, .bool true, [], rfl, fun cls => rfl, .bool true, (by wrow_post), fun _ => ⟨List.nodup_nil, fun a h => by cases h⟩⟩, g, rfl, hg⟩
  · exact GoodW.toG ⟨.inl ⟨_, .bool true, [], rfl, fun cls => rfl, .bool true, (by wrow_post), fun _ => ⟨List.nodup_nil, fun a h => by cases h⟩⟩, fun _ _ e => e, rfl, hg⟩
end MineH
end

theorem PySem.Challenge.cw_pe0057_02_holds : PySem.Challenge.rw_pe0057_02.Holds := by
  exact MineH.top2
