import PyProof.Rows.All
import Wide.All
import OpenK.AllK
import Wide.FinOn
import Lean
import PySem.Challenge.RW_pm0034_01
set_option rowWalk.seconds 6000
set_option Elab.async false
section
local macro_rules | `(tactic| omega) => `(tactic| first | lia | omega (config := {}))
section
open PySem PySem.W PyProof.Rows PySem.Spec PySem.Calls
set_option Elab.async false
set_option maxRecDepth 100000
set_option linter.unusedVariables false
namespace Mine
def Called (Γ : PySem.Ctx) : Prop := (Γ.below.any fun x => x.1.isCaller) = true
theorem Called.enter {Γ : PySem.Ctx} (h : Called Γ) (c : Code) (hd : Option Value) (p : Pos) : Called (Γ.enter c hd p) := by
  unfold Called at *
  show ((Γ.code, p) :: Γ.below).any _ = true
  rw [List.any_cons, h, Bool.or_true]
theorem Called.goto {Γ : PySem.Ctx} (h : Called Γ) (c : Code) : Called (Γ.goto c) := h
def wpC {α : Type} (M : Model) (A : Around) (t : Sem α) (Q : α → Shared → Prop) (E : Value → Shared → Prop) (s : Shared) : Prop :=
  ∀ Γ p, Γ.In A → Called Γ → Sem.wp M Γ t (fun a _ s' => Q a s') (fun e _ s' => E e s') p s
def codeC (M : Model) (A : Around) (c : Code) (R : Result → Shared → Prop) (s : Shared) : Prop :=
  ∀ Γ p, Γ.code = c → Γ.Below A → Called Γ → wpCode M Γ R p s
section
variable {α β : Type} {M : Model} {A : Around} {E : Value → Shared → Prop} {s : Shared}
theorem wpC_any {t : Sem α} {Q : α → Shared → Prop} (h : wpAny M A t Q E s) : wpC M A t Q E s := fun Γ p hΓ _ => h Γ p hΓ
theorem codeC_any {c : Code} {R : Result → Shared → Prop} (h : codeAny M A c R s) : codeC M A c R s := fun Γ p hc hΓ _ => h Γ p hc hΓ
theorem wpC_pure {a : α} {Q : α → Shared → Prop} (h : Q a s) : wpC M A (pure a) Q E s := fun _ _ _ _ => h
theorem wpC_mono {t : Sem α} {Q Q' : α → Shared → Prop} {E' : Value → Shared → Prop} (h : wpC M A t Q E s) (hQ : ∀ a s, Q a s → Q' a s) (hE : ∀ e s, E e s → E' e s) : wpC M A t Q' E' s :=
  fun Γ p hΓ hc => Sem.wp_mono M Γ t (fun a _ s => hQ a s) (fun e _ s => hE e s) p s (h Γ p hΓ hc)
theorem codeC_mono {c : Code} {R R' : Result → Shared → Prop} (h : codeC M A c R s) (hR : ∀ r s, R r s → R' r s) : codeC M A c R' s :=
  fun Γ p hc hΓ hk => wpCode_mono hR (h Γ p hc hΓ hk)
theorem wpC_bind {m : Sem α} {f : α → Sem β} {Q : β → Shared → Prop} (h : wpC M A m (fun a s' => wpC M A (f a) Q E s') E s) : wpC M A (m >>= f) Q E s := fun Γ p hΓ hc => by
  rw [Sem.wp_bind']
  exact Sem.wp_mono M Γ m (fun a p' s' h' => h' Γ p' hΓ hc) (fun _ _ _ h' => h') p s (h Γ p hΓ hc)
theorem wpC_then {m : Sem α} {f : α → Sem β} {Q : β → Shared → Prop} (h : wpAny M A m (fun a s' => wpC M A (f a) Q E s') E s) : wpC M A (m >>= f) Q E s := wpC_bind (wpC_any h)
theorem wpC_onRaise {m : Sem α} {k : Value → Sem Unit} {Q : α → Shared → Prop} (h : wpC M A m Q (fun e s' => wpC M A (k e) (fun _ s'' => E e s'') E s') s) : wpC M A (m.onRaise k) Q E s := fun Γ p hΓ hc => by
  rw [Sem.wp_onRaise]
  exact Sem.wp_mono M Γ m (fun _ _ _ h' => h') (fun e p' s' h' => h' Γ p' hΓ hc) p s (h Γ p hΓ hc)
theorem wpC_attempt {m : Sem α} {Q : Except Value α → Shared → Prop} (h : wpC M A m (fun a => Q (.ok a)) (fun e => Q (.error e)) s) : wpC M A m.attempt Q E s := fun Γ p hΓ hc => by
  rw [Sem.wp_attempt]; exact h Γ p hΓ hc
theorem wpC_holding {vs : List Value} {m : Sem α} {Q : α → Shared → Prop} (h : wpC M A m Q E s) : wpC M A (holding vs m) Q E s :=
  fun Γ p hΓ hc => by rw [Sem.wp_holding]; exact h Γ p hΓ hc
theorem wpC_keep {vs : List Value} {m : Sem α} {Q : α → Shared → Prop} (h : wpC M A m Q E s) : wpC M A (m.keep vs) Q E s :=
  fun Γ p hΓ hc => by rw [Sem.wp_keep]; exact h Γ p hΓ hc
theorem wpC_standAt {pos : Pos} {Q : Unit → Shared → Prop} (h : Q () s) : wpC M A (standAt pos) Q E s := fun _ _ _ _ => h
theorem wpC_run {c : Code} {h : Option Value} {Q : Flow → Shared → Prop}
    (hc : codeC M (A.mark h) c (fun r s' => match r with | .ok f => Q f s' | .error e => E e s') s) (hnb : h ≠ some byPass := by intro x; cases x) : wpC M A (run c h) Q E s :=
  fun Γ p hΓ hk => by rw [Sem.wp_run]; exact hc _ p rfl (hΓ.enter c h p hnb) (hk.enter ..)
theorem wpC_call {f : Value} {pos : List Value} {kw : List (Str × Value)} {Q : Value → Shared → Prop}
    (hc : codeC M A (.call f ⟨pos, kw⟩) (fun r s' => match r with | .ok (.ret v) => Q v s' | .ok _ => False | .error e => E e s') s) : wpC M A (call f pos kw) Q E s :=
  fun Γ p hΓ hk => by
    show Sem.wp M Γ (runValue _) _ _ p s
    rw [Sem.wp_runValue]; exact hc _ p rfl (hΓ.enter _ none p (by intro x; cases x)) (hk.enter ..)
theorem codeC_of_tree {c : Code} {R : Result → Shared → Prop}
    (h : wpC M (A.under c) (M.den c) (fun fin s' => match fin with | .done f => R (.ok f) s' | .again c' => c'.quiet = true ∧ codeC M A c' R s') (fun e s' => R (.error e) s') s) : codeC M A c R s := fun Γ p hc hΓ hk => by
  rw [wpCode_iff_wp, hc]
  refine Sem.wp_mono M Γ _ (fun fin p' s' h' => ?_) (fun _ _ _ h' => h') p s (h Γ p (hc ▸ hΓ.in) hk)
  cases fin with
  | done f => exact h'
  | again c' => exact ⟨h'.1, h'.2 (Γ.goto c') p' rfl (hΓ.goto c') hk⟩
theorem wpC_markTheRefusal {own : List String} {e : Value} {Q : Unit → Shared → Prop} (h : Q () s) : wpC M A (markTheRefusal own e) Q E s := by
  intro Γ p hΓ hc
  unfold markTheRefusal
  rw [Sem.wp_bind']
  unfold stack
  rw [Sem.wp_stack, Sem.wp_pure]
  have hf : pythonCodeMadeTheCall own ((((Γ.code, p) :: Γ.below)).map (·.1)) = false := by
    have h1 : ((((Γ.code, p) :: Γ.below)).map (·.1)).any Code.isCaller = true := by
      rw [List.map_cons, List.any_cons, List.any_map]
      have h2 : (Γ.below.any (Code.isCaller ∘ fun x => x.1)) = true := hc
      rw [h2, Bool.or_true]
    have h3 : ∀ L : List Code, L.any Code.isCaller = true → pythonCodeMadeTheCall own L = false := by
      intro L hL
      unfold pythonCodeMadeTheCall
      rw [Bool.and_assoc]
      exact Bool.and_eq_false_iff.mpr (Or.inl (by
        have e : (L.any fun c => match c with | Code.builtin "claim.caller" _ => true | _ => false) = L.any Code.isCaller := rfl
        first | (rw [Bool.not_eq_false']; exact hL) | (simp only [Bool.not_eq_false']; exact hL)))
    exact h3 _ h1
  rw [hf]
  exact h
end
section
variable {prog : Program} {w : World} {A : Around} {s : Shared} {R : Result → Shared → Prop}
theorem codeC_builtin {id : String} {args : Args} {b : Builtin} (hb : entryFor table id = some b)
    (h : wpC (model prog w) (A.under (.builtin id args)) (b args) (fun fin s' => match fin with | .done f => R (.ok f) s' | .again c' => c'.quiet = true ∧ codeC (model prog w) A c' R s') (fun e s' => R (.error e) s') s) :
    codeC (model prog w) A (.builtin id args) R s := by
  refine codeC_of_tree ?_
  show wpC _ _ (match entryFor table id with | some b => b args | none => unsupported ((withoutEnding? id "#data").getD id)) _ _ s
  rw [hb]; exact h
theorem codeC_call_builtin {id : String} {args : Args} {b : Builtin} (hq : plainId id = true) (hb : entryFor table id = some b) (hk : checkBuiltinCall id args = pure ())
    (h : wpC (model prog w) A.in1 (b args) (fun fin s' => match fin with | .done f => R (.ok f) s' | .again c' => c'.quiet = true ∧ codeC (model prog w) A c' R s') (fun e s' => R (.error e) s') s) :
    codeC (model prog w) A (.call (.builtin id) args) R s := by
  refine codeC_of_tree ?_
  show wpC _ A.in1 (do checkBuiltinCall id args; again (.builtin id args)) _ _ s
  rw [hk]
  refine wpC_pure (And.intro (plainId_quiet hq args) (codeC_builtin hb ?_))
  rw [Around.under_plainId hq]
  exact h
end
end Mine
end
section
open PySem PySem.W PyProof.Rows PySem.Spec PySem.Calls
set_option Elab.async false
set_option maxRecDepth 100000
set_option maxHeartbeats 4000000
set_option linter.unusedVariables false
namespace Mine
section
variable {prog : Program} {w : World} {A : Around} {E : Value → Shared → Prop} {s : Shared}
theorem callInt_C {v : Value} {Q : Value → Shared → Prop} (h : codeC (model prog w) A.in1 (.call (.builtin "int.__new__") ⟨[.type "int", v], []⟩) (fun r s' => match r with | .ok _ => False | .error e => E e s') s) :
    wpC (model prog w) A (call (.type "int") [v]) Q E s := by
  obtain ⟨c, tl, hmro⟩ := F.called_int.mro
  have hmade := F.called_int.made
  have hsub := F.called_int.sub
  refine wpC_call (codeC_of_tree ?_)
  show wpC _ _ (callAny (.type "int") _) _ _ _
  refine wpC_pure ⟨Code.quiet_builtin _ (by decide +kernel), codeC_builtin F.entry_type_call ?_⟩
  rw [Around.under_plain (weight_type_call_type "int" [v] []) (units_type_call_type "int" [v] [])]
  have h1 := F.called_int.notType
  have h2 := F.called_int.canCreate
  unfold Builtin.«type.__call__»
  simp only [h1, h2, Bool.false_eq_true, if_false, hmro, hmade, F.typeCall_int_1, pure_bind, List.isEmpty_cons]
  refine wpC_bind (wpC_holding (wpC_call (codeC_mono h fun r s' hr => ?_)))
  cases r with
  | ok f => exact hr.elim
  | error e => exact hr
theorem intNew_C {x : Str} {t : Tok} {Q : Fin → Shared → Prop}
    (h : wpC (model prog w) A ((int_private% "intFromText") (.str x t) (numTextOf x) 10) (fun _ _ => False) E s) :
    wpC (model prog w) A (Builtin.«int.__new__» ⟨[.type "int", .str x t], []⟩) Q E s := by
  have f1 := F.conv_sub_int
  have f2 := F.madeHere_int
  have f3 := KIN.str_int
  have f4 := KIN.str_idx
  have f5 := KIN.str_trunc
  have f6 : typeOf (.str x t) = pure (.type "str") := rfl
  unfold Builtin.«int.__new__»
  have g1 : isType (.type "int") = pure true := rfl
  have g2 : ((.type "int" : Value) == .type "int") = true := by decide
  simp only [g1, f1, f2, g2, pure_bind, Bool.not_true, Bool.false_eq_true, if_false, if_true, List.isEmpty_nil, List.length_cons, List.length_nil, Bool.true_and, List.head?_cons, List.forIn_nil, Nat.zero_add, Nat.reduceAdd, Nat.reduceLT, gt_iff_lt, decide_false, List.getElem?_cons_succ, List.getElem?_nil, List.head?_nil, Option.map_none]
  show wpC _ _ (((int_private% "intFromObject") (.str x t)) >>= fun v => ret v) _ _ _
  refine wpC_bind ?_
  obtain ⟨hp, g, d, tk, os⟩ := s
  refine wpC_mono (Q := fun _ _ => False) ?_ (fun _ _ q => q.elim) fun _ _ q => q
  (with_unfolding_all refine wpC_then ?_)
  repeat (first | assumption | wp_step)
def intRefusal (x : Str) : Str := Str.ofString "invalid literal for int() with base 10: " ++ ⟨(reprText x).cps.extract 0 200⟩
theorem intText_C {x : Str} {t : Tok} (hl : x.length ≤ 640) (hz : (reprText x).length ≤ 10000) (hn : PySem.intText? x = none) (hh : A.handled = none)
    (h : ∀ h' tk tk' e, Heap.MadeExc s.heap h' e "ValueError" [.str (intRefusal x) tk'] → E (.ref e) { s with heap := h', toks := tk }) :
    wpC (model prog w) A ((int_private% "intFromText") (.str x t) (numTextOf x) 10) (fun _ _ => False) E s := by
  have hs : (numSeenOf x).length ≤ 640 := Nat.le_trans (seen_length x) hl
  have hr : (int_private% "readNumeral") 0 10 (numSeenOf x) = int_private% "Numeral.invalid" ∨
      ∃ i, (int_private% "readNumeral") 0 10 (numSeenOf x) = (int_private% "Numeral.value") i ∧ ¬ ((numSeenOf x).length == (numTextOf x).length) = true := by
    rcases read0 x hs with ⟨m, h1, h2, h3⟩ | ⟨h1, h2⟩
    · rw [hn] at h1
      cases h1
    · exact h2
  show wpC _ _ (if (numSeenOf x).length ≤ 640 then _ else _) _ _ _
  rw [if_pos hs]
  refine wpC_then (wpAny_pure ?_)
  have fin : wpC (model prog w) A (do
      rule "int.__new__.invalid-literal"
      let shown ← pyRepr (.str x t)
      let refusal ← newExc (.type "ValueError") [← mkStr (((s!"invalid literal for int() with base {10}: " : String) ++ ⟨shown.cps.extract 0 200⟩ : Str))]
      markTheRefusal ["int.__new__"] refusal
      raiseNew refusal : Sem Value) (fun _ _ => False) E s := by
    refine wpC_then (wpAny_rule ?_)
    refine wpC_then (wpAny_pyRepr_str ?_ (Nat.le_trans hz (by decide)))
    refine wpC_then (wpAny_mkStr ?_ ?_)
    · refine wpC_then (wpAny_newExc_plain plainExc_ValueError fun h' e hm => ?_)
      refine wpC_bind (wpC_markTheRefusal ?_)
      refine wpC_any (wpAny_raiseNew_none hh ?_)
      exact h h' _ _ e hm
    · show (Str.append (Str.ofString _) _).length ≤ sizeLine
      have e1 : (Str.ofString (toString "invalid literal for int() with base " ++ toString 10 ++ toString ": ")).length = 40 := by decide +kernel
      have e2 : (⟨(reprText x).cps.extract 0 200⟩ : Str).length ≤ 200 := by
        show ((reprText x).cps.extract 0 200).size ≤ 200
        rw [Array.size_extract]; omega
      have e3 := Str.length_append (Str.ofString (toString "invalid literal for int() with base " ++ toString 10 ++ toString ": ")) (⟨(reprText x).cps.extract 0 200⟩ : Str)
      have e4 : (240 : Nat) ≤ sizeLine := by decide
      exact Nat.le_trans (Nat.le_of_eq e3) (by omega)
  have hb : (int_private% "bytesOf?") (.str x t) = pure none := rfl
  dsimp only
  rcases hr with hr | ⟨i, hr, hall⟩
  · rw [hr]
    dsimp only
    rw [hb]
    refine wpC_then (wpAny_pure ?_)
    exact fin
  · rw [hr]
    dsimp only
    rw [if_neg hall]
    exact fin
theorem call_int_refused {x : Str} {t : Tok} {Q : Value → Shared → Prop} (hl : x.length ≤ 640) (hz : (reprText x).length ≤ 10000) (hn : PySem.intText? x = none) (hh : A.handled = none)
    (h : ∀ h' tk tk' e, Heap.MadeExcOf s.heap h' e (.type "ValueError") [.str (intRefusal x) tk'] → E (.ref e) { s with heap := h', toks := tk }) :
    wpC (model prog w) A (call (.type "int") [.str x t]) Q E s :=
  callInt_C (codeC_call_builtin (by decide +kernel) F.entry_int_new (F.newCall_int_1 _) (wpC_mono (Q := fun _ _ => False)
    (intNew_C (intText_C hl hz hn hh fun h' tk tk' e hm => h h' tk tk' e ⟨hm.keeps, hm.new, hm.there⟩)) (fun _ _ q => q.elim) fun _ _ q => q))
end
end Mine
end
section
open PySem PySem.W PyProof.Rows PySem.Spec PySem.Calls
set_option Elab.async false
set_option maxRecDepth 100000
set_option maxHeartbeats 4000000
set_option linter.unusedVariables false
namespace Mine
section
variable {α : Type} {M : Model} {A : Around} {E : Value → Shared → Prop} {s : Shared} {env : Env}
theorem execs_C {st : Stmt} {rest : List Stmt} {Q : Flow → Shared → Prop} (h : wpC M A (exec st env) (fun f s' => match f with | .next => wpC M A (execs rest env) Q E s' | f => Q f s') E s) :
    wpC M A (execs (st :: rest) env) Q E s := fun Γ p hΓ hc => by
  rw [execs_cons, Sem.wp_bind']
  refine Sem.wp_mono M Γ _ (fun f p' s' h' => ?_) (fun _ _ _ h' => h') _ _ (h Γ p hΓ hc)
  cases f <;> first | exact h' Γ p' hΓ hc | exact h'
theorem execs_app (rest : List Stmt) : ∀ pre : List Stmt, execs (pre ++ rest) env = (do match ← execs pre env with | .next => execs rest env | f => pure f)
  | [] => rfl
  | st :: pre => by
    have ih := execs_app rest pre
    rw [List.cons_append, execs_cons, execs_cons, ih, bind_assoc]
    congr 1
    funext f
    cases f <;> rfl
theorem execs_pre {pre rest : List Stmt} {Q : Flow → Shared → Prop} (h : wpAny M A (execs pre env) (fun f s' => match f with | .next => wpC M A (execs rest env) Q E s' | f => Q f s') E s) :
    wpC M A (execs (pre ++ rest) env) Q E s := by
  rw [execs_app]
  refine wpC_then (wpAny_mono h (fun f s' h' => ?_) fun _ _ x => x)
  cases f <;> first | exact h' | exact wpC_pure h'
theorem return_C {e : Expr} {pos : Pos} {Q : Flow → Shared → Prop} (h : wpC M A (eval e env) (fun v => Q (.ret v)) E s) : wpC M A (exec (.Return (some e) pos) env) Q E s := by
  rw [exec_Return_some]
  exact wpC_bind (wpC_standAt (wpC_bind (wpC_mono h (fun v s' hv => wpC_pure hv) fun _ _ x => x)))
theorem if_C {test : Expr} {body orelse : List Stmt} {pos : Pos} {Q : Flow → Shared → Prop}
    (h : wpC M A (isTrue test env (eval test env)) (fun b s₂ => if b then wpC M A (execs body env) Q E s₂ else wpC M A (execs orelse env) Q E s₂) E s) :
    wpC M A (exec (.If test body orelse pos) env) Q E s := by
  rw [exec_If]
  refine wpC_bind (wpC_standAt (wpC_bind (wpC_mono h (fun b s' hb => ?_) fun _ _ x => x)))
  cases b <;> exact hb
theorem ifExp_C {test body orelse : Expr} {pos : Pos} {Q : Value → Shared → Prop}
    (h : wpC M A (isTrue test env (eval test env)) (fun b s₂ => if b then wpC M A (eval body env) Q E s₂ else wpC M A (eval orelse env) Q E s₂) E s) :
    wpC M A (eval (.IfExp test body orelse pos) env) Q E s := by
  rw [arm_eval_IfExp]
  refine wpC_bind (wpC_mono h (fun b s' hb => ?_) fun _ _ x => x)
  cases b <;> exact hb
theorem assign_raises_C {x : Str} {pos' pos : Pos} {value : Expr} {Q : Flow → Shared → Prop} (h : wpC M A (eval value env) (fun _ _ => False) E s)
    (hs : swapsWith value (some (.Name x pos')) pos.line env = pure false := by rfl) : wpC M A (exec (.Assign [.Name x pos'] value pos) env) Q E s := by
  rw [exec_Assign_Name env x pos' value pos hs]
  exact wpC_bind (wpC_standAt (wpC_bind (wpC_mono h (fun _ _ x => x.elim) fun _ _ x => x)))
theorem subscript_raises_C {v i : Expr} {pos : Pos} {Q : Value → Shared → Prop} {k : Value → Sem Value} (h : wpC M A (eval v env) (fun _ _ => False) E s) (he : eval (.Subscript v i pos) env = (eval v env >>= k) := by rfl) :
    wpC M A (eval (.Subscript v i pos) env) Q E s := by
  rw [he]
  exact wpC_bind (wpC_mono h (fun _ _ x => x.elim) fun _ _ x => x)
theorem isTrue_compare_C {l r : Expr} {op : CmpOp} {pos : Pos} {whole : Sem Value} {Q : Bool → Shared → Prop}
    (h : wpC M A (eval l env) (fun a s₁ => wpAny M A (eval r env) (fun b s₂ => wpAny M A (compareOp op a b) (fun c s₃ => wpAny M A (truthy c) Q E s₃) E s₂) E s₁) E s)
    (hm : behindInMarks op r = false := by with_unfolding_all rfl) : wpC M A (isTrue (.Compare l [op] [r] pos) env whole) Q E s := fun Γ p hΓ hc => by
  simp only [isTrue_Compare1, markedBehindIn_of_false hm, Sem.wp_bind', Sem.wp_holding, Sem.wp_cmd_standAt, Sem.wp_operate]
  exact Sem.wp_mono M Γ _ (fun a p₁ s₁ h₁ => Sem.wp_mono M Γ _ (fun b _ s₂ h₂ => Sem.wp_mono M Γ _ (fun c p₃ s₃ h₃ => h₃ Γ p₃ hΓ)
    (fun _ _ _ h' => h') _ _ (h₂ Γ _ hΓ)) (fun _ _ _ h' => h') _ _ (h₁ Γ p₁ hΓ)) (fun _ _ _ h' => h') _ _ (h Γ p hΓ hc)
theorem isTrue_or_C {x : Expr} {rest : List Expr} {pos : Pos} {whole : Sem Value} {Q : Bool → Shared → Prop}
    (h : wpC M A (isTrue x env (eval x env)) (fun b s₁ => if b then Q true s₁ else wpC M A (allTrue .Or rest env) Q E s₁) E s) : wpC M A (isTrue (.BoolOp .Or (x :: rest) pos) env whole) Q E s := by
  rw [arm_isTrue_BoolOp, arm_allTrue_cons]
  refine wpC_bind (wpC_mono h (fun b s₁ h₁ => ?_) fun _ _ x => x)
  cases b with
  | true => exact wpC_pure h₁
  | false => exact h₁
theorem or_C {x : Expr} {rest : List Expr} {Q : Bool → Shared → Prop}
    (h : wpC M A (isTrue x env (eval x env)) (fun b s₁ => if b then Q true s₁ else wpC M A (allTrue .Or rest env) Q E s₁) E s) : wpC M A (allTrue .Or (x :: rest) env) Q E s := by
  rw [arm_allTrue_cons]
  refine wpC_bind (wpC_mono h (fun b s₁ h₁ => ?_) fun _ _ x => x)
  cases b with
  | true => exact wpC_pure h₁
  | false => exact h₁
theorem spliced_C {x : Sem Value} {rest : List (Bool × Sem Value)} {Q : List Value → Shared → Prop}
    (h : wpC M A x (fun v s₁ => wpC M A (spliced rest) (fun vs s₂ => Q (v :: vs) s₂) E s₁) E s) : wpC M A (spliced ((false, x) :: rest)) Q E s := by
  rw [spliced]
  refine wpC_bind (wpC_mono h (fun v s₁ h₁ => ?_) fun _ _ x => x)
  simp only [Bool.false_eq_true, if_false]
  exact wpC_bind (wpC_pure (wpC_bind (wpC_holding (wpC_mono h₁ (fun vs s₂ h₂ => wpC_pure h₂) fun _ _ x => x))))
theorem evalArgs_raises_C {f : Value} {x : Bool × Sem Value} {rest : List (Bool × Sem Value)} {keywords : List (Option Str × Sem Value)} {Q : Args → Shared → Prop}
    (h : wpC M A (spliced ((false, x.2) :: rest)) (fun _ _ => False) E s) (hx : x.1 = false) : wpC M A (evalArgs f true (x :: rest) keywords) Q E s := by
  obtain ⟨b, t⟩ := x
  cases hx
  unfold evalArgs
  show wpC M A (spliced ((false, t) :: rest) >>= _) Q E s
  exact wpC_bind (wpC_mono h (fun _ _ x => x.elim) fun _ _ x => x)
theorem callWith_C {P : Heap → Prop} {pos : Pos} {f : Value} {first : List Value} {args : List (Bool × Sem Value)} {keywords : List (Option Str × Sem Value)} {Q : Value → Shared → Prop}
    (hplain : (args.any (·.1) || keywords.any (·.1.isNone)) = false) (hk : ∀ h, P h → ∃ k, (k = Keeper.frame ∨ k = Keeper.machine ∨ k = Keeper.boundFrame) ∧ Looks M h (keeperOf f) k)
    (h : wpC M A (evalArgs f true args keywords) (fun a s₁ => P s₁.heap ∧ wpC M A (call f (first ++ a.pos) a.kw) Q E s₁) E s) : wpC M A (callWith pos f first args keywords) Q E s := by
  unfold callWith
  refine wpC_bind (wpC_holding (wpC_mono h (fun a s₁ h₁ => wpC_bind (wpC_standAt ?_)) fun _ _ x => x))
  obtain ⟨k, hk', L⟩ := hk _ h₁.1
  simp only [hplain]
  refine wpC_then (L.here ?_)
  have tail : ∀ {t : Sem Value}, wpC M A t Q E s₁ → wpC M A (t >>= fun r => holding [r] point >>= fun _ => pure r) Q E s₁ := fun ht =>
    wpC_bind (wpC_mono ht (fun r s₂ hr => wpC_then (wpAny_holding (wpAny_point (wpC_pure hr)))) fun _ _ x => x)
  have marked (mk : Value) : wpC M A (callMarked mk f (first ++ a.pos) a.kw) Q E s₁ := by unfold callMarked; exact wpC_keep h₁.2
  rcases hk' with rfl | rfl | rfl <;> dsimp only <;> first | exact tail h₁.2 | (split <;> first | exact tail h₁.2 | exact tail (marked _))
theorem callWith_raises_C {pos : Pos} {f : Value} {first : List Value} {args : List (Bool × Sem Value)} {keywords : List (Option Str × Sem Value)} {Q : Value → Shared → Prop}
    (h : wpC M A (evalArgs f true args keywords) (fun _ _ => False) E s) : wpC M A (callWith pos f first args keywords) Q E s := by
  unfold callWith
  exact wpC_bind (wpC_holding (wpC_mono h (fun _ _ x => x.elim) fun _ _ x => x))
theorem evalCall_C {func : Expr} {args : List Expr} {kws : List Keyword} {pos : Pos} {Q : Value → Shared → Prop}
    (h : wpAny M A (eval func env) (fun f s₁ => wpC M A (callWith pos f [] (backTo pos (starEach args env)) (backToKw pos (keywordEach kws env))) Q E s₁) E s)
    (he : eval (.Call func args kws pos) env = (do callWith pos (← eval func env) [] (backTo pos (starEach args env)) (backToKw pos (keywordEach kws env))) := by rfl) :
    wpC M A (eval (.Call func args kws pos) env) Q E s := by
  rw [he]; exact wpC_then h
end
section
variable {prog : Program} {w : World} {A : Around} {E : Value → Shared → Prop} {R : Result → Shared → Prop} {s : Shared} {env : Env}
theorem try_C {body orelse : List Stmt} {h₀ : ExceptHandler} {hs : List ExceptHandler} {pos : Pos} {Q : Flow → Shared → Prop}
    (h : wpC (model prog w) A (execs body env) (fun f s₁ => match f with | .next => wpAny (model prog w) A (execs orelse env) Q E s₁ | f => Q f s₁)
      (fun e s₁ => wpAny (model prog w) A (noteFrame e env) (fun _ s₂ => wpAny (model prog w) A (setFlight e none) (fun _ s₃ => wpAny (model prog w) A (handleBy e env (h₀ :: hs)) Q E s₃) E s₂) E s₁) s) :
    wpC (model prog w) A (exec (.Try body (h₀ :: hs) orelse [] pos) env) Q E s := by
  rw [arm_exec_Try]
  refine wpC_bind (wpC_standAt ?_)
  unfold tryStmt
  simp only [List.isEmpty_nil, if_true, List.isEmpty_cons, Bool.false_and, Bool.false_eq_true, if_false]
  refine wpC_bind (wpC_attempt (wpC_mono h (fun f s₁ h₁ => ?_) fun e s₁ h₁ => ?_))
  · cases f <;> first | exact wpC_any h₁ | exact wpC_pure h₁
  · exact wpC_then (wpAny_mono h₁ (fun _ _ h₂ => wpC_any (wpAny_bind h₂)) fun _ _ x => x)
theorem codeC_func {body : List Stmt}
    (h : wpC (model prog w) (A.deeper env) (execs body env) (fun f s' => R (.ok (.ret (match f with | .ret v => v | _ => .none))) s')
      (fun e s' => wpAny (model prog w) (A.deeper env) (leaving env e) (fun _ s'' => R (.error e) s'') (fun e' s'' => R (.error e') s'') s') s) :
    codeC (model prog w) A (.func body env) R s := by
  refine codeC_of_tree ?_
  show wpC _ (A.deeper env) (do point; match ← (execs body env).onRaise (leaving env) with | .ret v => ret v | _ => ret .none) _ _ s
  refine wpC_then (wpAny_point (wpC_bind (wpC_onRaise (wpC_mono h (fun f s' h' => ?_) fun _ _ h' => wpC_any h'))))
  cases f <;> exact wpC_pure h'
theorem codeC_call_function {a : Addr} {args : Args} {o : Obj} {fd : FuncData} {body : List Stmt} (hroom : A.depth < recursionLimit) (ho : s.heap.get? a = some o)
    (hd' : o.data = .func fd) (hco : fd.scope.isCoroutine = false) (hgen : fd.scope.isGenerator = false) (hbody : fd.body = .stmts body) (hcd : s.heap.CodeRec fd.code fd.qualname)
    (h : wpAny (model prog w) A.in1 (bindArgs fd args) (fun binds s₁ =>
      wpAny (model prog w) A.in1 (newFunctionEnv fd.scope fd.globals fd.closure binds (fd.qualname ++ ".<locals>.") (some a) fd.code none fd.builtins)
        (fun env s₂ => s₂.heap.NoLimit ∧ codeC (model prog w) A (.func body env) R s₂) (fun e s' => R (.error e) s') s₁) (fun e s' => R (.error e) s') s) :
    codeC (model prog w) A (.call (.ref a) args) R s := by
  refine codeC_of_tree ?_
  show wpC _ A.in1 (callAny (.ref a) args) _ _ s
  simp only [callAny]
  refine wpC_then (wpAny_load ho ?_)
  obtain ⟨c, oc, vs, tq, hc, hoc, hdc, hq⟩ := hcd
  simp only [hd', callFunction, hco, hgen, hbody, hc]
  rw [hc] at h
  refine wpC_then (m := field (.ref c) 1) (wpAny_field hoc hdc hq ?_)
  refine wpC_then (wpAny_pure ?_)
  refine wpC_then (wpAny_mono h (fun binds s₁ h₁ => wpC_then (wpAny_mono h₁ (fun env s₂ h₂ => wpC_then (wpAny_enterFrame h₂.1 hroom (wpC_pure (And.intro rfl h₂.2)))) fun _ _ h' => h')) fun _ _ h' => h')
theorem codeC_call_def {a : Addr} {o : Obj} {fd : FuncData} {body : List Stmt} {args : Args} {binds : List (Str × Value)}
    (hroom : A.depth < recursionLimit) (ho : s.heap.get? a = some o) (hdata : o.data = .func fd) (hlim : s.heap.NoLimit) (hcd : s.heap.CodeRec fd.code fd.qualname)
    (hbody : fd.body = .stmts body) (hbind : BindsTo s fd args binds)
    (hcell : ∀ x ∈ fd.scope.names, x.2 ≠ .cell) (hloc : ∀ x ∈ binds, fd.scope.names.lookup x.1 = some .local)
    (h : ∀ h₀, h₀.Ns s.heap.objs.size (fun x => binds.reverse.lookup x) → (∀ b o, s.heap.get? b = some o → h₀.get? b = some o) →
      wpC (model prog w) (A.deeper (callEnv fd s.heap.objs.size a)) (execs body (callEnv fd s.heap.objs.size a)) (fun f s' => R (.ok (.ret (match f with | .ret v => v | _ => .none))) s')
        (fun e s' => wpAny (model prog w) (A.deeper (callEnv fd s.heap.objs.size a)) (leaving (callEnv fd s.heap.objs.size a) e) (fun _ s'' => R (.error e) s'') (fun e' s'' => R (.error e') s'') s')
        { s with heap := h₀, toks := s.toks + binds.length })
    (hco : fd.scope.isCoroutine = false := by rfl) (hgen : fd.scope.isGenerator = false := by rfl) (hk : fd.scope.kind = .function := by rfl) :
    codeC (model prog w) A (.call (.ref a) args) R s := by
  refine codeC_call_function hroom ho hdata hco hgen hbody hcd (hbind _ _ _ _ ?_)
  refine wpAny_newFunctionEnv hcell hloc (fun h₀ hns₀ hsb₀ => ⟨hlim.fresh _ hsb₀, codeC_func (h h₀ hns₀ fun b o e => ?_)⟩) hk
  exact hsb₀.extBut b o (Nat.ne_of_lt (Heap.lt_size e)) (Heap.get?_push_of_some _ e)
end
section
variable {prog : Program} {w : World} {A A₀ : Around} {E : Value → Shared → Prop} {s : Shared} {K : Frag} {L : Addr} {h₀ base : Heap} {m mg mb : Str → Option Value} {news : List (Addr × Obj)} {p : Program} {loose : List Str} {mean : ExcName → Option Value} {Q : Value → Shared → Prop}
theorem code_def_C {env : Env} {outer : List Env} {R : Result → Shared → Prop} {name qual : Str} {params : Arguments} {body : List Stmt} {scope : Scope} {dV kV doc pm cdv ct oc : Value} {an od : Option Addr} {osl : Array (Option Value)} {f : Addr} {args : Args} {binds : List (Str × Value)}
    (B : Below A₀ base outer h₀) (F : Fr h₀ L s.heap m) (X₀ : K.In h₀) (N : News h₀ L s.heap news) (T : Top p loose mean mg mb h₀) (hA : A.frames = some (env :: outer)) (hf : env.frame = some L) (hke : env.scope.kind = .function)
    (ho : K.lookup f = some ⟨oc, od, .func (fnOf name qual params body scope dV kV doc pm an cdv ct), osl⟩) (hcd : codeIn K cdv qual = true) (hroom : A.depth < recursionLimit)
    (hbind : BindsTo s (fnOf name qual params body scope dV kV doc pm an cdv ct) args binds) (hloc : ∀ y ∈ binds, scope.names.lookup y.1 = some .local)
    (h : ∀ g L' h₁, Fr h₀ L g m → Fr g L' h₁ (fun y => binds.reverse.lookup y) → News g L' h₁ news → Below A base (env :: outer) g → K.In g → Top p loose mean mg mb g →
      wpC (model prog w) (A.deeper (envOf qual scope L' f cdv)) (execs body (envOf qual scope L' f cdv))
        (fun fl s' => LeaveK h₀ L m g R (match fl with | .ret v => v | _ => .none) s')
        (fun e s' => wpAny (model prog w) (A.deeper (envOf qual scope L' f cdv)) (leaving (envOf qual scope L' f cdv) e) (fun _ s'' => R (.error e) s'') (fun e' s'' => R (.error e') s'') s')
        { s with heap := h₁, toks := s.toks + binds.length })
    (hco : scope.isCoroutine = false) (hgen : scope.isGenerator = false) (hk : scope.kind = .function) (hcell : ∀ x ∈ scope.names, x.2 ≠ .cell) : codeC (model prog w) A (.call (.ref f) args) R s := by
  obtain ⟨FG, BG, st, lv⟩ := groundX (R := R) B F N hA hf hke
  refine codeC_call_def (fd := fnOf name qual params body scope dV kV doc pm an cdv ct) (body := body) (binds := binds) hroom ((X₀.keeps F.keep) _ _ ho) rfl (T.nolimit.keeps F.keep) (codeRec_of (X₀.keeps F.keep) hcd) rfl hbind hcell hloc (fun h₁ hns hk₁ => ?_) hco hgen hk
  exact wpC_mono (h _ s.heap.objs.size h₁ FG ⟨hns, fun b o e => hk₁ b o (of_hideAll _ e), Nat.le_of_eq (hideAll_size _ _)⟩
    (fun p hp => ⟨hk₁ _ _ (N p hp).1, Nat.ne_of_lt (Heap.lt_size (N p hp).1), hideAll_none _ (List.mem_map_of_mem hp)⟩) BG (X₀.keeps st) (T.keeps st)) (fun fl s' hl => lv _ _ hl) fun _ _ y => y
end
end Mine
end
section
open PySem PySem.W PyProof.Rows PySem.Spec PySem.Calls
set_option Elab.async false
set_option maxRecDepth 100000
set_option maxHeartbeats 4000000
set_option linter.unusedVariables false
namespace Mine
abbrev callerCtx : PySem.Ctx := ⟨.builtin "claim.caller" {}, none, none, [], none⟩
theorem call_at_caller {prog : Program} {w : World} {f : Value} {vs : List Value} {s : Shared} {Q E : Value → Shared → Prop}
    (h : codeC (model prog w) callerA (.call f ⟨vs, []⟩) (fun r s' => match r with | .ok (.ret v) => Q v s' | .ok _ => False | .error e => E e s') s) (p : Pos) :
    Sem.wp (model prog w) callerCtx (PySem.call f vs) (fun a _ s' => Q a s') (fun e _ s' => E e s') p s := by
  show Sem.wp (model prog w) callerCtx (runValue _) _ _ p s
  rw [Sem.wp_runValue]
  exact h _ p rfl (Ctx.In.enter caller_in _ none p (by intro x; cases x)) rfl
theorem thread_ends_C {prog : Program} {w : World} {t : Sem Fin} {s : Shared} {R : Result → Shared → Prop} (hreg : s.asleep)
    (h : Sem.wp (model prog w) callerCtx t (fun fin _ s' => ∃ f, fin = .done f ∧ (R (.ok f) s' ∧ leftWithCleanup s'.gens = false)) (fun e _ s' => R (.error e) s' ∧ leftWithCleanup s'.gens = false) default s) :
    ∃ n r s' s'', runN (denote table) prog w n s ⟨t, .builtin "claim.caller" {}, default, []⟩ = .halted (outcomeOf r) s' ∧
      schedN (denote table) prog w n (.single s ⟨t, .builtin "claim.caller" {}, default, []⟩) = .halted (outcomeOf r) s' ∧ s'.forget = s''.forget ∧ R r s'' := by
  have h' : Sem.wp (model prog w) callerCtx t (Sem.finPost (model prog w) callerCtx fun r s' => R r s' ∧ leftWithCleanup s'.gens = false)
      (fun e _ s' => R (.error e) s' ∧ leftWithCleanup s'.gens = false) default s := by
    refine Sem.wp_mono _ _ t (fun fin p' s' q => ?_) (fun _ _ _ q => q) _ _ h
    obtain ⟨f, rfl, hf⟩ := q
    exact hf
  obtain ⟨n, r, s₁, s₂, hs, hn, hfo, hR⟩ := wp_halts_full (M := model prog w) (R := R) hreg h'
  exact ⟨n, r, s₂, s₁, hn, hs, hfo, hR⟩
theorem callFrom_C {c : ClaimW} {tree : List Value → Sem Fin} {w : World} {s : Shared} {free : Addr → Prop} {gens : Prop} {kept : Heap → Prop} (hz : s.asleep) (hgens : s.gens = #[])
    (hspec : ∀ args, c.pre args = true → WData.layableAll args = true →
      ∀ ord : List DictEntry → List DictEntry, (∀ l, (ord l).Perm l) →
      ∃ vs s₁, layAllW c.records (classAt s.heap) w.params ord args s = some (vs, s₁) ∧
        Sem.wp (model c.prog w) callerCtx (tree vs) (fun fin _ s' => ∃ f, fin = .done f ∧ (c.Ends s args vs s₁ (.ok f) s' ∧ s'.os = s.os ∧ AllBare s'.gens ∧ kept s'.heap))
          (fun e _ s' => c.Ends s args vs s₁ (.error e) s' ∧ s'.os = s.os ∧ AllBare s'.gens ∧ kept s'.heap) default s₁) :
    c.CallFrom (fun vs => ⟨tree vs, .builtin "claim.caller" {}, default, []⟩) w free gens kept s := by
  intro args hpre hlay ord hord
  obtain ⟨vs, s₁, hlaid, hcode⟩ := hspec args hpre hlay ord hord
  have hal := layAllW_rest _ _ _ hlaid
  have hcode' := Sem.wp_mono _ _ _ (post' := fun fin _ s' => ∃ f, fin = PySem.Fin.done f ∧ ((c.Ends s args vs s₁ (.ok f) s' ∧ s'.os = s.os ∧ kept s'.heap) ∧ leftWithCleanup s'.gens = false))
    (exc' := fun e _ s' => (c.Ends s args vs s₁ (.error e) s' ∧ s'.os = s.os ∧ kept s'.heap) ∧ leftWithCleanup s'.gens = false)
    (fun fin _ s' ⟨f, e, h1, h2, h3, h4⟩ => ⟨f, e, ⟨h1, h2, h4⟩, leftWithCleanup_false_of_bare h3⟩)
    (fun e _ s' ⟨h1, h2, h3, h4⟩ => ⟨⟨h1, h2, h4⟩, leftWithCleanup_false_of_bare h3⟩) _ _ hcode
  obtain ⟨k, r, s', s'', hrun, hsched, hfo, hcase, hos, hkp⟩ := thread_ends_C (prog := c.prog) (w := w) (t := tree vs) (s := s₁)
    (R := fun r s' => c.Ends s args vs s₁ r s' ∧ s'.os = s.os ∧ kept s'.heap) (Shared.asleep_of_life hal.2.2.2 hz) hcode'
  obtain ⟨eh, _, _, eo, _⟩ := Shared.forget_eq hfo
  have hcase := hcase.congr eh
  rw [← eh] at hkp
  rw [← eo] at hos
  have hlife : s'.heap.life = s.heap.life := (runN_life _ _ _ hrun).trans hal.2.2.2
  refine ⟨vs, s₁, hlaid, k, _, s', hsched, ?_, (fun _ i x hx => by rw [hgens] at hx; simp at hx), hkp, by rw [hlife], Shared.rest_eq hos⟩
  rcases hcase with ⟨v, rfl, d1, d2, d3, d4, d5⟩ | ⟨e, ob, cls, rfl, d1, d2, d3, d4, d5⟩
  · exact .inl ⟨v, rfl, d1, d2, d3, fun b o y _ => d4 b o y, d5⟩
  · exact .inr ⟨e, ob, cls, rfl, d1, d2, d3, d4, fun b o y _ => d5 b o y⟩
abbrev WalkC (q : Program) (loose : List Str) (XP : (Str → Option Value) → Heap → Prop) (YP : World → Heap → Prop) (r : RowW) (d : DefRec) (kwd : List (Str × Expr)) : Prop :=
  ∀ (w : World) (s₀ s₁ : Shared) (mg mb : Str → Option Value), Ground q loose r.records XP w s₀ mg mb s₁.heap → YP w s₁.heap → ∀ (a : Addr) (o : Obj) (pm cd doc dV kV : Value), s₁.heap.get? a = some o →
    o.data = .func { docDef d.name d.params d.body d.scope pm cd doc with defaults := dV, kwdefaults := kV } → s₁.heap.CodeRec cd d.name → Dflts mg s₁.heap d.params kwd dV kV → mg d.name = some (.ref a) → s₁.gens = #[] →
    ∀ (args : List WData) (vals : List Value) (as : List Addr), r.claim.pre args = true → WData.layableAll args = true → ReadsAllW r.records (classAt s₀.heap) s₁.heap vals args as → WellAll w.params s₁.heap vals args → (∀ a ∈ as, (a == sysModules) = false) →
      codeC (model r.prog w) callerA (.call (.ref a) ⟨vals, []⟩) (GoodWG r.claim (classAt s₀.heap) (ExcName.means s₀.heap) args s₁) s₁
theorem PySem.W.holds_open {r : OpenRow} {q : Program} {loose : List Str} {Xt : Shared → Bool} {XP : (Str → Option Value) → Heap → Prop} {α : Type} {Yf : Shared → α} {Ya : World → α} {YP : World → Heap → Prop} {d : DefRec} {kwd : List (Str × Expr)} {N : Nat}
    (left : LeftO r.prog q loose Xt Yf Ya N) (hY : ∀ w s, Yf s = Ya w → YP w s.heap) (hYk : ∀ w h h', YP w h → (∀ b o, h.get? b = some o → h'.get? b = some o) → YP w h')
    (hX : ∀ s, Xt s = true → XP (s.heap.nsMap mainGlobals) s.heap) (hXk : ∀ mg h h', XP mg h → (∀ b o, h.get? b = some o → h'.get? b = some o) → XP mg h')
    (hdef : defOf q r.name = some (d, kwd)) (hp : r.prog.theDef r.name = some (d.params, d.body, d.scope)) (hk : kwWritten? d.params.kwonlyargs d.params.kw_defaults = some kwd) (hRf : ∀ s, Xt s = true → RecFacts r.records s.heap) (hwr : (!r.writes || r.records.isEmpty) = true)
    (k1 : r.wellSaid = true) (ok : (chainsOk q && opensWell r.prog && (frees r.toRowW && r.within.isEmpty)) = true) (hb : r.prog.bare) (hw : r.toRowW.promised)
    (call : WalkC q loose XP YP r.toRowW d kwd) : r.Holds := by
  obtain ⟨ok, k5⟩ := Bool.and_eq_true_iff.mp ok
  obtain ⟨hch, o1⟩ := Bool.and_eq_true_iff.mp ok
  obtain ⟨k5, k6⟩ := Bool.and_eq_true_iff.mp k5
  obtain ⟨hsame, hu, ha, hap, hm⟩ := frees_parts k5
  refine ⟨k1, hw, ⟨hb, o1, by show r.toRowW.makers.map _ = []; rw [hm]; rfl⟩, hw.witness, fun w => ⟨(left.behind hX hch w).1, fun s' hs' => ?_⟩⟩
  obtain ⟨s₀, hf, hg0, s, hT, hz, hgens, hg, G00, y⟩ := (left.behind (XP := fun mg h => XP mg h ∧ RecFacts r.records h) (fun s hs => ⟨hX s hs, hRf s hs⟩) hch w).2 s' hs'
  have G0 : Ground q loose [] XP w s (s.heap.nsMap mainGlobals) (s.heap.nsMap builtinsNs) s.heap := ⟨G00.T, G00.B, G00.D, G00.TE, G00.TD, G00.W, G00.X.1, G00.cls, G00.has, G00.apart, G00.once, G00.K⟩
  have RF := G00.X.2
  have hT' := hT
  refine ⟨s₀, hf, hg0, s, hT, fun n hn => ?_, RF.1, RF.2.1, ?_⟩
  · obtain rfl : n = r.name := by split at hn <;> simp_all
    exact pinned_of_view hg G0 hdef hp hk
  have hgens : s.gens = #[] := Array.eq_empty_of_size_eq_zero (beq_iff_eq.mp hgens)
  have G : Ground q loose r.records XP w s _ _ s.heap := RF.ground G0
  refine callFrom_C (c := r.toRowW.claim) hz hgens fun args hpre hlay ord hord => ?_
  obtain ⟨⟨vs, s₁⟩, hlaid⟩ := Option.isSome_iff_exists.mp (layAllW_isSome (P := w.params) (ord := ord) G.has args r.args s (pre_splitW hpre).1)
  have keeps := layAllW_keeps _ _ _ hlaid
  have hal := layAllW_rest _ _ _ hlaid
  obtain ⟨as, hrd, hin, hold⟩ := reads_layAllW hord _ _ _ hlaid hlay s₁.heap (fun _ _ e => e)
  have L : Laid r.records w s s₁ args vs as := ⟨⟨ord, hord, hlaid⟩, hrd, hin, hold, keeps, hal.1.trans hgens, hal.2.2.1⟩
  have G₁ := G.keeps hXk keeps
  obtain ⟨a, o, pm, cd, doc, dV, kV, h1, h2, h3, h4, h5⟩ := G₁.fn hdef
  have h := call w s s₁ _ _ G₁ (hYk _ _ _ (hY w s y) keeps) a o pm cd doc dV kV h2 h3 h4 h5 (defOf_name hdef ▸ h1) L.gens args vs as hpre hlay L.reads L.well (L.low G.low)
  have hi := ident_freeW hu ha hap
  have hwi : r.toRowW.claim.within = [] := List.isEmpty_iff.mp k6
  refine ⟨vs, s₁, hlaid, ?_⟩
  show Sem.wp (model r.prog w) callerCtx (do match ← nsGet mainNs r.name with
      | some f => do ret (← PySem.call f vs)
      | none => unsupported "claim.caller:no-such-global") _ _ default s₁
  rw [Sem.wp_bind']
  refine (Sem.wp_nsGet _ _ _ _ _ G₁.T.g _ _).mpr ?_
  rw [show s.heap.nsMap mainGlobals r.name = some (.ref a) from h1]
  show Sem.wp (model r.prog w) callerCtx (PySem.call (.ref a) vs >>= fun v => ret v) _ _ default s₁
  rw [Sem.wp_bind']
  refine Sem.wp_mono _ _ _ (fun v _ s' g => ?_) (fun e _ s' g => ?_) _ _ (call_at_caller (Q := fun v s' => GoodWG r.toRowW.claim (classAt s.heap) (ExcName.means s.heap) args s₁ (.ok (.ret v)) s')
    (E := fun e s' => GoodWG r.toRowW.claim (classAt s.heap) (ExcName.means s.heap) args s₁ (.error e) s') (codeC_mono h fun res s' g => ?_) default)
  · exact ⟨_, rfl, have z := g.laid (c := r.toRowW.claim) hsame hwi hi L; ⟨z.1, z.2.1, z.2.2, fun q => ⟨namesKept_of hT' hg _ keeps g.2.1.old, noTable hwr q⟩⟩⟩
  · exact have z := g.laid (c := r.toRowW.claim) hsame hwi hi L; ⟨z.1, z.2.1, z.2.2, fun q => ⟨namesKept_of hT' hg _ keeps g.2.1.old, noTable hwr q⟩⟩
  · rcases g.1 with ⟨v, _, _, rfl, _⟩ | ⟨e, _, _, rfl, _⟩ <;> exact g
end Mine
end
section
open PySem PySem.W PyProof.Rows PySem.Spec PySem.Calls
set_option Elab.async false
set_option maxRecDepth 100000
set_option maxHeartbeats 4000000
set_option linter.unusedVariables false
namespace Mine
section
variable {prog : Program} {w : World} {A : Around} {s : Shared}
theorem call_cells_C {R : Result → Shared → Prop} {name : Str} {params : Arguments} {body : List Stmt} {scope : Scope}
    {pm cd doc : Value} {a : Addr} {o : Obj} {args : List Value} {binds : List (Str × Value)}
    (hroom : A.depth < recursionLimit) (ho : s.heap.get? a = some o) (hdata : o.data = .func (Calls.docDef name params body scope pm cd doc)) (hlim : s.heap.NoLimit) (hcd : s.heap.CodeRec cd name)
    (hbind : bindArgs (Calls.docDef name params body scope pm cd doc) ⟨args, []⟩ = pure binds)
    (hkind : ∀ x ∈ binds, scope.names.lookup x.1 = some .local ∨ (scope.names.lookup x.1 = some .cell ∧ ((cellsFrom (s.heap.objs.size + 1) scope.names []).lookup x.1).isSome = true))
    (hnd : ((cellsFrom 0 scope.names []).map (·.1)).Nodup)
    (h : ∀ h₁ tk cells, Fr s.heap s.heap.objs.size h₁ (bindL (envOfC name scope s.heap.objs.size a cd).kindOf binds fun _ => none) → News s.heap s.heap.objs.size h₁ cells →
      CellsAre (bindC (envOfC name scope s.heap.objs.size a cd).kindOf binds fun _ => none) (cellsFrom (s.heap.objs.size + 1) scope.names []) cells →
      wpC (model prog w) (A.deeper (envOfC name scope s.heap.objs.size a cd)) (execs body (envOfC name scope s.heap.objs.size a cd))
        (fun f s' => R (.ok (.ret (match f with | .ret v => v | _ => .none))) s')
        (fun e s' => wpAny (model prog w) (A.deeper (envOfC name scope s.heap.objs.size a cd)) (leaving (envOfC name scope s.heap.objs.size a cd) e)
          (fun _ s'' => R (.error e) s'') (fun e' s'' => R (.error e') s'') s')
        { s with heap := h₁, toks := tk })
    (hco : scope.isCoroutine = false := by rfl) (hgen : scope.isGenerator = false := by rfl) (hk : scope.kind = .function := by rfl) :
    codeC (model prog w) A (.call (.ref a) ⟨args, []⟩) R s := by
  refine codeC_call_function (fd := Calls.docDef name params body scope pm cd doc) hroom ho hdata hco hgen rfl hcd ?_
  rw [hbind]
  refine wpAny_pure (wpAny_newFunctionEnv_cells hk hkind fun env he s' X => ?_)
  subst he
  refine ⟨hlim.keeps X.toInCall.keep, codeC_func ?_⟩
  obtain ⟨h₁, tk, rfl, _⟩ := X.done
  have F : Fr s.heap s.heap.objs.size h₁ _ := ⟨X.toInCall.ns, X.toInCall.keep, X.toInCall.fresh⟩
  obtain ⟨cells, N, Y⟩ := Cl.news (h₀ := s.heap) (Nat.le_refl _) fun n c hm => ⟨X.cell n c (lookup_of_mem_nodup (cellsFrom_names scope.names 0 (s.heap.objs.size + 1) [] [] rfl ▸ hnd) hm), X.above n c hm⟩
  exact h h₁ tk cells F N Y
end
end Mine
end
section
open PySem PySem.W PyProof.Rows PySem.Spec PySem.Calls
set_option Elab.async false
set_option maxRecDepth 100000
set_option maxHeartbeats 8000000
namespace Mine
section
local macro_rules | `(tactic| o_head $_) => `(tactic| assumption)
theorem KK (hh : PySem.Challenge.rw_pm0034_01.row.Holds) : PySem.Challenge.rw_pm0034_01.row.Holds := by
  k_head
end
end Mine
end
section
open PySem PySem.W PyProof.Rows PySem.Spec PySem.Calls
set_option Elab.async false
set_option maxRecDepth 100000
set_option maxHeartbeats 4000000
set_option linter.unusedVariables false
namespace Mine
abbrev PStr := PySem.Str
abbrev Ldg := List (Addr × Obj)
abbrev tupOf (vs : List Value) : Obj := { cls := .type "tuple", data := .seq vs.toArray }
theorem mem_in {x : Addr × Obj} {l : Ldg} (h : x ∈ l) : List.Mem x l := h
inductive EK where
  | reply | proto | value
  deriving DecidableEq
def p229 (r : PStr) : Except (EK × PStr) Int :=
  if (Txt.slice r none (some 3) != Str.ofString "229") = true then .error (.reply, r) else
  if Txt.find r (Str.ofString "(") < 0 then .error (.proto, r) else
  if Txt.find3 r (Str.ofString ")") (Txt.find r (Str.ofString "(") + 1) < 0 then .error (.proto, r) else
  if (Txt.item r (Txt.find r (Str.ofString "(") + 1) != Txt.item r (Txt.find3 r (Str.ofString ")") (Txt.find r (Str.ofString "(") + 1) - 1)) = true then .error (.proto, r) else
  let ps := Txt.split (Txt.slice r (some (Txt.find r (Str.ofString "(") + 1)) (some (Txt.find3 r (Str.ofString ")") (Txt.find r (Str.ofString "(") + 1)))) (Txt.item r (Txt.find r (Str.ofString "(") + 1))
  if ps.length ≠ 5 then .error (.proto, r) else
  match PySem.intText? (ps.getD 3 Str.empty) with
  | some n => .ok n
  | none => .error (.value, intRefusal (ps.getD 3 Str.empty))
section
variable {prog : Program} {w : World} {A : Around} {E : Value → Shared → Prop} {s : Shared} {x : PStr} {t : Tok} {Q : Value → Shared → Prop}
theorem call_int_reads (hl : x.length ≤ 640) (hn : PySem.intText? x ≠ none) (h : ∀ n, PySem.intText? x = some n → Q (.int n s.toks) { s with toks := s.toks + 1 }) : wpAny (model prog w) A (call (.type "int") [.str x t]) Q E s := by
  cases e : PySem.intText? x with
  | none => exact absurd e hn
  | some n => exact KIN.call_text e hl (h n e)
end
theorem p229_parts {r : PStr} (h1 : (Txt.slice r none (some 3) != Str.ofString "229") = false) (h2 : ¬ Txt.find r (Str.ofString "(") < 0)
    (h3 : ¬ Txt.find3 r (Str.ofString ")") (Txt.find r (Str.ofString "(") + 1) < 0)
    (h4 : (Txt.item r (Txt.find r (Str.ofString "(") + 1) != Txt.item r (Txt.find3 r (Str.ofString ")") (Txt.find r (Str.ofString "(") + 1) - 1)) = false) {ps : List PStr}
    (hp : ps = Txt.split (Txt.slice r (some (Txt.find r (Str.ofString "(") + 1)) (some (Txt.find3 r (Str.ofString ")") (Txt.find r (Str.ofString "(") + 1)))) (Txt.item r (Txt.find r (Str.ofString "(") + 1))) :
    p229 r = if ps.length ≠ 5 then .error (.proto, r) else match PySem.intText? (ps.getD 3 Str.empty) with
      | some n => .ok n
      | none => .error (.value, intRefusal (ps.getD 3 Str.empty)) := by
  subst hp
  unfold p229
  rw [if_neg (Bool.eq_false_iff.mp h1), if_neg h2, if_neg h3, if_neg (Bool.eq_false_iff.mp h4)]
theorem getD_len {ys : List PStr} {n k : Nat} (h : ∀ a ∈ ys, a.length ≤ n) : (ys.getD k Str.empty).length ≤ n := by
  rw [List.getD_eq_getElem?_getD]
  cases e : ys[k]? with
  | none => exact Nat.zero_le _
  | some y => exact h y (List.mem_of_getElem? e)
abbrev p229in (r : PStr) : PStr := Txt.slice r (some (Txt.find r (Str.ofString "(") + 1)) (some (Txt.find3 r (Str.ofString ")") (Txt.find r (Str.ofString "(") + 1)))
theorem p229_last {r : PStr} (h1 : (Txt.slice r none (some 3) != Str.ofString "229") = false) (h2 : ¬ Txt.find r (Str.ofString "(") < 0)
    (h3 : ¬ Txt.find3 r (Str.ofString ")") (Txt.find r (Str.ofString "(") + 1) < 0)
    (h4 : (Txt.item r (Txt.find r (Str.ofString "(") + 1) != Txt.item r (Txt.find3 r (Str.ofString ")") (Txt.find r (Str.ofString "(") + 1) - 1)) = false) {l : List (PStr × Tok)}
    (hp : l.map (·.1) = Txt.split (p229in r) (Txt.item r (Txt.find r (Str.ofString "(") + 1))) (h5 : (l.length : Int) = 5) :
    p229 r = match PySem.intText? ((l.map (·.1)).getD (Int.toNat 3) Str.empty) with
      | some n => .ok n
      | none => .error (.value, intRefusal ((l.map (·.1)).getD (Int.toNat 3) Str.empty)) := by
  rw [p229_parts h1 h2 h3 h4 hp, if_neg (by rw [List.length_map]; omega)]
  rfl
theorem p229_five {r : PStr} (h1 : (Txt.slice r none (some 3) != Str.ofString "229") = false) (h2 : ¬ Txt.find r (Str.ofString "(") < 0)
    (h3 : ¬ Txt.find3 r (Str.ofString ")") (Txt.find r (Str.ofString "(") + 1) < 0)
    (h4 : (Txt.item r (Txt.find r (Str.ofString "(") + 1) != Txt.item r (Txt.find3 r (Str.ofString ")") (Txt.find r (Str.ofString "(") + 1) - 1)) = false) {l : List (PStr × Tok)}
    (hp : l.map (·.1) = Txt.split (p229in r) (Txt.item r (Txt.find r (Str.ofString "(") + 1))) (h5 : ¬ (l.length : Int) = 5) : p229 r = .error (.proto, r) := by
  rw [p229_parts h1 h2 h3 h4 hp, if_pos (by rw [List.length_map]; omega)]
theorem p229_sep {r : PStr} (h1 : (Txt.slice r none (some 3) != Str.ofString "229") = false) (h2 : ¬ Txt.find r (Str.ofString "(") < 0)
    (h3 : ¬ Txt.find3 r (Str.ofString ")") (Txt.find r (Str.ofString "(") + 1) < 0)
    (h4 : (Txt.item r (Txt.find r (Str.ofString "(") + 1) != Txt.item r (Txt.find3 r (Str.ofString ")") (Txt.find r (Str.ofString "(") + 1) - 1)) = true) : p229 r = .error (.proto, r) := by
  unfold p229
  rw [if_neg (Bool.eq_false_iff.mp h1), if_neg h2, if_neg h3, if_pos h4]
theorem p229_close {r : PStr} (h1 : (Txt.slice r none (some 3) != Str.ofString "229") = false) (h2 : ¬ Txt.find r (Str.ofString "(") < 0)
    (h3 : Txt.find3 r (Str.ofString ")") (Txt.find r (Str.ofString "(") + 1) < 0) : p229 r = .error (.proto, r) := by
  unfold p229
  rw [if_neg (Bool.eq_false_iff.mp h1), if_neg h2, if_pos h3]
theorem p229_open {r : PStr} (h1 : (Txt.slice r none (some 3) != Str.ofString "229") = false) (h2 : Txt.find r (Str.ofString "(") < 0) : p229 r = .error (.proto, r) := by
  unfold p229
  rw [if_neg (Bool.eq_false_iff.mp h1), if_pos h2]
theorem p229_code {r : PStr} (h1 : (Txt.slice r none (some 3) != Str.ofString "229") = true) : p229 r = .error (.reply, r) := by
  unfold p229
  rw [if_pos h1]
theorem raisedS_sub {base G : Heap} {l : List Env} {e t : Addr} {cls : Value} {vs : List Value} {news news' : Ldg} {h : Heap} (R : RaisedS base G l e cls t vs news' h) (hs : ∀ p ∈ news, p ∈ news') : RaisedS base G l e cls t vs news h := by
  obtain ⟨⟨B, hB, hBG, hl, hfl, hnew⟩, htup⟩ := R
  exact ⟨⟨B, hB, hBG, fun q hq => hl q (hs q hq), hfl, hnew⟩, htup⟩
theorem raisedK_sub {base : Heap} {l : List Env} {e t : Addr} {cls : Value} {vs : List Value} {news news' : Ldg} {h : Heap} (R : RaisedK base l e cls t vs news' h) (hs : ∀ p ∈ news, p ∈ news') : RaisedK base l e cls t vs news h := by
  obtain ⟨⟨B, hB, hl, hfl, hnew⟩, htup⟩ := R
  exact ⟨⟨B, hB, fun q hq => hl q (hs q hq), hfl, hnew⟩, htup⟩
theorem news_d2 {h₀ h : Heap} {L : Addr} {x y : Addr × Obj} {news : Ldg} (N : News h₀ L h (x :: y :: news)) : News h₀ L h (x :: news) := fun p hp => N p ((List.mem_cons.mp hp).elim (fun e => e ▸ .head _) fun h => .tail _ (.tail _ h))
theorem sub_cons {x : Addr × Obj} {l l' : Ldg} (h : x ∈ l') (t : ∀ q ∈ l, q ∈ l') : ∀ q ∈ x :: l, q ∈ l' := List.forall_mem_cons.2 ⟨h, t⟩
theorem sub_app {l1 l2 l' : Ldg} (h : ∀ q ∈ l1, q ∈ l') (t : ∀ q ∈ l2, q ∈ l') : ∀ q ∈ l1 ++ l2, q ∈ l' := fun q hq => (List.mem_append.1 hq).elim (h q) (t q)
theorem sub_nil9 {l' : Ldg} : ∀ q ∈ ([] : Ldg), q ∈ l' := fun _ h => nomatch h
theorem sub_self9 {l : Ldg} : ∀ q ∈ l, q ∈ l := fun _ h => h
theorem sub_tl {x : Addr × Obj} {l l' : Ldg} (h : ∀ q ∈ l, q ∈ l') : ∀ q ∈ l, q ∈ x :: l' := fun q hq => .tail _ (h q hq)
theorem sub_l {l l1 l2 : Ldg} (h : ∀ q ∈ l, q ∈ l1) : ∀ q ∈ l, q ∈ l1 ++ l2 := fun q hq => List.mem_append_left _ (h q hq)
theorem sub_r {l l1 l2 : Ldg} (h : ∀ q ∈ l, q ∈ l2) : ∀ q ∈ l, q ∈ l1 ++ l2 := fun q hq => List.mem_append_right _ (h q hq)
theorem all_cons {x : Addr × Obj} {l : Ldg} {P : Addr × Obj → Prop} (h : P x) (t : ∀ q ∈ l, P q) : ∀ q ∈ x :: l, P q := List.forall_mem_cons.2 ⟨h, t⟩
theorem all_nil9 {P : Addr × Obj → Prop} : ∀ q ∈ ([] : Ldg), P q := fun _ h => nomatch h
theorem sub_tail {news : Ldg} {x : Addr × Obj} : ∀ p ∈ news, p ∈ x :: news := fun _ h => .tail _ h
theorem fact_find1 (x : PStr) (c : Nat) : Txt.find x ⟨#[c]⟩ = -1 ∨ (0 ≤ Txt.find x ⟨#[c]⟩ ∧ Txt.find x ⟨#[c]⟩ < x.length) := by
  rw [PyProof.Rows.find_is_find3]
  rcases StrLaws.find3_spec x c 0 with ⟨h, _⟩ | ⟨k, h, _, h2, _⟩
  · exact .inl h
  · exact .inr (by rw [h]; omega)
theorem fact_find31 (x : PStr) (c : Nat) (i : Int) (hi : 0 ≤ i) : Txt.find3 x ⟨#[c]⟩ i = -1 ∨ (i ≤ Txt.find3 x ⟨#[c]⟩ i ∧ Txt.find3 x ⟨#[c]⟩ i < x.length) := by
  rcases StrLaws.find3_spec x c i with ⟨h, _⟩ | ⟨k, h, h1, h2, _⟩
  · exact .inl h
  · refine .inr ?_
    rw [h]
    unfold fromIndex at h1
    split at h1 <;> omega
theorem open_is : Str.ofString "(" = ⟨#[40]⟩ := by decide
theorem close_is : Str.ofString ")" = ⟨#[41]⟩ := by decide
theorem fact_open (r : PStr) : Txt.find r (Str.ofString "(") = -1 ∨ (0 ≤ Txt.find r (Str.ofString "(") ∧ Txt.find r (Str.ofString "(") < r.length) := by
  rw [open_is]; exact fact_find1 r 40
theorem fact_close (r : PStr) (i : Int) (hi : 0 ≤ i) : Txt.find3 r (Str.ofString ")") i = -1 ∨ (i ≤ Txt.find3 r (Str.ofString ")") i ∧ Txt.find3 r (Str.ofString ")") i < r.length) := by
  rw [close_is]; exact fact_find31 r 41 i hi
theorem kts_dict {A : Around} {base : Heap} {outer : List Env} {h₀ g : Heap} {L : Addr} {m : PStr → Option Value} {env : Env} (B : Below A base (env :: outer) g) (D : KtsDicts (outer.filterMap (·.frame)) h₀) (F : Fr h₀ L g m) (hf : env.frame = some L) : KtsDicts ((env :: outer).filterMap (·.frame)) g := by
  intro b hb
  rw [List.filterMap_cons, hf] at hb
  rcases List.mem_cons.mp hb with rfl | hb
  · obtain ⟨o, es, n, ho, hd, _⟩ := F.ns
    exact ⟨o, es, n, ho, hd⟩
  · obtain ⟨o, es, n, ho, hd⟩ := D b hb
    exact ⟨o, es, n, F.keep b o ho, hd⟩
theorem mid_lt {l r : Nat} (h : l < r) : (l + r) / 2 < r := Nat.div_lt_of_lt_mul (Nat.two_mul r ▸ Nat.add_lt_add_right h r)
theorem mid_ge {l r : Nat} (h : l < r) : l ≤ (l + r) / 2 := (Nat.le_div_iff_mul_le (by decide)).mpr (Nat.mul_two l ▸ Nat.add_le_add_left (Nat.le_of_lt h) l)
theorem le_mid {l r f : Nat} (hf : r - l ≤ f + 1) : r ≤ f + l + 1 := Nat.add_right_comm f 1 l ▸ Nat.sub_le_iff_le_add.mp hf
theorem mid_dn {l r f : Nat} (h : l < r) (hf : r - l ≤ f + 1) : (l + r) / 2 - l ≤ f := Nat.sub_le_iff_le_add.mpr (Nat.le_of_lt_succ (Nat.lt_of_lt_of_le (mid_lt h) (le_mid hf)))
theorem mid_up {l r f : Nat} (h : l < r) (hf : r - l ≤ f + 1) : r - ((l + r) / 2 + 1) ≤ f := Nat.sub_le_iff_le_add.mpr (Nat.le_trans (le_mid hf) (Nat.succ_le_succ (Nat.add_le_add_left (mid_ge h) f)))
theorem sub_one_le {n i f : Nat} (h : n - i ≤ f + 1) : n - (i + 1) ≤ f := Nat.pred_le_pred h
theorem sub_two_le {n i f : Nat} (h : n - i ≤ f + 1) : n - (i + 2) ≤ f := Nat.le_trans (Nat.pred_le _) (sub_one_le h)
theorem sub_lt_num {a b c : Nat} (h : a < c) : a - b < c := Nat.lt_of_le_of_lt (Nat.sub_le a b) h
end Mine
end
section
open PySem PySem.W PyProof.Rows PySem.Spec PySem.Calls PyProof.V
set_option Elab.async false
set_option maxRecDepth 100000
set_option maxHeartbeats 4000000
set_option linter.all false
namespace Mine
theorem fr_to {g h : Heap} {L : Addr} {M M' : Str → Option Value} (F : Fr g L h M) (e : ∀ y, M y = M' y) : Fr g L h M' := (funext e : M = M') ▸ F
def WhlEnd {ι : Type} (μ : ι → Nat) (P : ι → Heap → Nat → Prop) (i : ι) (s : Shared) (Q : Flow → Shared → Prop) (f : Flow) (s' : Shared) : Prop :=
  match f with
  | .next | .cont => ∃ i' h' tk', s' = { s with heap := h', toks := tk' } ∧ μ i' < μ i ∧ P i' h' tk'
  | .brk => Q .next s'
  | .ret v => Q (.ret v) s'
section
variable {prog : Program} {w : World} {A : Around} {E : Value → Shared → Prop} {s : Shared} {env : Env} {test : PySem.Expr} {body orelse : List Stmt} {Q : Flow → Shared → Prop}
theorem while_my {ι : Type} (μ : ι → Nat) (P : ι → Heap → Nat → Prop) (i₀ : ι) {pos : Pos} (start : P i₀ s.heap s.toks)
    (step : ∀ i h tk, P i h tk → wpAny (model prog w) A (isTrue test env (eval test env)) (fun b s₂ => WhlIf b (wpAny (model prog w) A (execs body env) (WhlEnd μ P i s Q) E s₂) (wpAny (model prog w) A (execs orelse env) Q E s₂)) E { s with heap := h, toks := tk })
    (hE : PassesOwn (model prog w) A env E) :
    wpAny (model prog w) A (exec (.While test body orelse pos) env) Q E s := by
  refine whl_start 0 ?_
  have go : ∀ n i h tk, μ i < n → P i h tk → WhlRest prog w A E env test body orelse Q (0 + 1) { s with heap := h, toks := tk } := by
    intro n
    induction n with
    | zero => exact fun i h tk hi _ => absurd hi (Nat.not_lt_zero _)
    | succ n ih =>
      intro i h tk hi hP
      refine whl_turn hE (wpAny_mono (step i h tk hP) (fun b s₂ h₂ => ?_) fun _ _ x => x)
      cases b with
      | false => exact WhlIf.no rfl h₂
      | true =>
        refine WhlIf.yes rfl (wpAny_mono (show wpAny _ _ _ (WhlEnd μ P i s Q) E s₂ from h₂) (fun f s₃ h₃ => ?_) fun _ _ x => x)
        cases f with
        | ret v => exact h₃
        | brk => exact h₃
        | next =>
          obtain ⟨i', h', tk', rfl, hm, hP'⟩ := h₃
          exact ih i' h' tk' (Nat.lt_of_lt_of_le hm (Nat.le_of_lt_succ hi)) hP'
        | cont =>
          obtain ⟨i', h', tk', rfl, hm, hP'⟩ := h₃
          exact ih i' h' tk' (Nat.lt_of_lt_of_le hm (Nat.le_of_lt_succ hi)) hP'
  exact go _ i₀ s.heap s.toks (Nat.lt_succ_self _) start
theorem wpC_runOwn {c : Code} {h : Option Value} {Q : Flow → Shared → Prop}
    (hc : codeC (model prog w) (A.mark h) c (fun r s' => match r with | .ok f => Q f s' | .error e => cameBackBy (model prog w) A env E e s') s) (hnb : h ≠ some byPass := by intro x; cases x) :
    wpC (model prog w) A (runOwn c env h) Q E s := by
  unfold runOwn
  exact wpC_onRaise (wpC_mono (wpC_run hc hnb) (fun _ _ x => x) fun e s' x => wpC_any x)
theorem wpC_noted {α : Type} {m : Sem α} {Q : α → Shared → Prop} (h : wpC (model prog w) A m Q (notedBy (model prog w) A env E) s) : wpC (model prog w) A (m.onRaise fun x => do noteFrame x env; theTreesLotGoes x) Q E s :=
  wpC_onRaise (wpC_mono h (fun _ _ q => q) fun _ _ hx => wpC_any (wpAny_bind (wpAny_mono hx (fun _ _ e => wpAny_theTreesLotGoes e) fun _ _ e => e)))
theorem codeC_loop' {c : Code} {R : Result → Shared → Prop} (hq : c.quiet = true) (I : Nat → Shared → Prop)
    (turn : ∀ n s, I n s → wpC (model prog w) (A.under c) ((model prog w).den c)
      (fun fin s' => match fin with
        | .done f => R (.ok f) s'
        | .again c' => (c' = c ∧ ∃ m, m < n ∧ I m s') ∨ (c'.quiet = true ∧ codeC (model prog w) A c' R s')) (fun e s' => R (.error e) s') s)
    (n : Nat) (h : I n s) : codeC (model prog w) A c R s := by
  induction n using Nat.strongRecOn generalizing s with
  | ind n ih =>
    refine codeC_of_tree (wpC_mono (turn n s h) (fun fin s' hf => ?_) fun _ _ h' => h')
    cases fin with
    | done f => exact hf
    | again c' =>
      rcases hf with ⟨rfl, m, hm, hI⟩ | hf
      · exact ⟨hq, ih m hm hI⟩
      · exact hf
theorem codeC_forLoop_any {R : Result → Shared → Prop} {target : PySem.Expr} {it : Value} (I : Nat → Shared → Prop)
    (turn : ∀ n s, I n s → wpAny (model prog w) A (pyNext it) (fun r s₁ => match r with
      | none => wpAny (model prog w) A (execs orelse env) (fun f s₃ => R (.ok f) s₃) (notedBy (model prog w) A env fun e s' => R (.error e) s') s₁
      | some v => wpAny (model prog w) A (letOwnedTupleGo target it v) (fun _ s₁' =>
          wpAny (model prog w) A (assign target env v) (fun _ s₂ => wpC (model prog w) A (execs body env) (fun f s₃ => match f with
            | .next | .cont => ∃ m, m < n ∧ I m s₃
            | .brk => R (.ok .next) s₃
            | .ret v => R (.ok (.ret v)) s₃) (notedBy (model prog w) A env fun e s' => R (.error e) s') s₂) (notedBy (model prog w) A env fun e s' => R (.error e) s') s₁') (notedBy (model prog w) A env fun e s' => R (.error e) s') s₁) (notedBy (model prog w) A env fun e s' => R (.error e) s') s)
    (n : Nat) (h : I n s) : codeC (model prog w) A (.forLoop target it body orelse env) R s := by
  refine codeC_loop' rfl I (fun n s hI => ?_) n h
  show wpC _ A ((forTurn target it body orelse env).onRaise (fun x => do noteFrame x env; theTreesLotGoes x)) _ _ s
  refine wpC_noted ?_
  simp only [forTurn]
  refine wpC_bind (wpC_standAt (wpC_bind (wpC_onRaise (wpC_mono (wpC_any (turn n s hI)) (fun r s₁ h₁ => ?_) fun _ _ h' => wpC_standAt h'))))
  cases r with
  | none => exact wpC_pure (.inr ⟨rfl, codeC_any (codeAny_block h₁)⟩)
  | some v =>
    refine wpC_then (wpAny_mono h₁ (fun _ s₁' h₁' => ?_) fun _ _ h' => h')
    refine wpC_then (wpAny_mono h₁' (fun _ s₂ h₂ => wpC_bind (wpC_mono h₂ (fun f s₃ h₃ => ?_) fun _ _ h' => h')) fun _ _ h' => h')
    cases f with
    | next => exact wpC_pure (.inl ⟨rfl, h₃⟩)
    | cont => exact wpC_pure (.inl ⟨rfl, h₃⟩)
    | brk => exact wpC_pure h₃
    | ret v => exact wpC_pure h₃
end
section
variable {prog : Program} {w : World} {A : Around} {E : Value → Shared → Prop} {s : Shared} {env : Env} {h₀ : Heap} {target : PySem.Expr} {body : List Stmt} {Q : Flow → Shared → Prop}
theorem ktu_loop_C {R : Result → Shared → Prop} {I : Addr} {fp wr : List Addr} {n : Nat} {P Md : Nat → Value → Heap → Prop} {St : Nat → Heap → Prop} {m : Str → Option Value} {news : List (Addr × Obj)} (W : KTurns prog w A target I fp wr n P Md St)
    (hLf : env.locals ∉ fp) (hwr : ∀ b ∈ wr, h₀.get? b = none) (hnw : ∀ p ∈ news, p.1 ∉ wr) (hst : St 0 s.heap) (F : Fr h₀ env.locals s.heap m) (N : News h₀ env.locals s.heap news)
    (J : Nat → (Str → Option Value) → List (Addr × Obj) → Prop) (h0 : J 0 m news)
    (step : ∀ i v m₁ news₁ h₁ tk₁ own, i < n → P i v h₁ → J i m₁ news₁ → (∀ p ∈ news₁, p.1 ∉ wr) → (∀ p ∈ own, p.1 ∈ fp) → (∀ p ∈ own, h₁.get? p.1 = some p.2) → (∀ b ∈ fp, h₀.get? b = none → ∀ o, h₁.get? b = some o → (b, o) ∈ own) → St (i + 1) h₁ →
      Fr h₀ env.locals h₁ m₁ → News h₀ env.locals h₁ (own ++ news₁) →
      wpAny (model prog w) A (assign target env v) (fun _ s₂ => wpC (model prog w) A (execs body env)
        (LoopStepV h₀ env.locals wr own (J (i + 1)) { s with heap := h₁, toks := tk₁ } (fun v s' => R (.ok (.ret v)) s') fun s' => R (.ok .next) s') (notedBy (model prog w) A env fun e s' => R (.error e) s') s₂) (notedBy (model prog w) A env fun e s' => R (.error e) s') { s with heap := h₁, toks := tk₁ })
    (hR : ∀ h' tk m' news', Fr h₀ env.locals h' m' → News h₀ env.locals h' news' → (∀ p ∈ news', p.1 ∉ wr) → J n m' news' → R (.ok .next) { s with heap := h', toks := tk }) :
    codeC (model prog w) A (.forLoop target (.ref I) body [] env) R s := by
  have hLw : env.locals ∉ wr := fun h => hLf (W.sub _ h)
  have old : ∀ b o, h₀.get? b = some o → b ∉ wr := fun b o e hb => by rw [hwr b hb] at e; cases e
  refine codeC_forLoop_any
    (fun k s' => ∃ h' tk m' news' i, s' = { s with heap := h', toks := tk } ∧ St i h' ∧ Fr h₀ env.locals h' m' ∧ News h₀ env.locals h' news' ∧ (∀ p ∈ news', p.1 ∉ wr) ∧ J i m' news' ∧ i ≤ n ∧ k = n + 1 - i) ?_ (n + 1)
    ⟨s.heap, s.toks, m, news, 0, rfl, hst, F, N, hnw, h0, Nat.zero_le _, rfl⟩
  rintro k s' ⟨h', tk, m', news', i, rfl, hst', F', N', hnw', hJ, hi, rfl⟩
  have next : ∀ h₁ : Heap, (∀ b o, b ∉ wr → h'.get? b = some o → h₁.get? b = some o) → Fr h₀ env.locals h₁ m' ∧ News h₀ env.locals h₁ news' := fun h₁ hk₁ =>
    ⟨⟨F'.ns.at' fun o e => hk₁ _ o hLw e, fun b o e => hk₁ b o (old b o e) (F'.keep b o e), F'.above⟩, fun p hp => ⟨hk₁ _ _ (hnw' p hp) (N' p hp).1, (N' p hp).2⟩⟩
  by_cases hlt : i < n
  · refine W.item i _ _ _ hlt hst' fun v h₁ tk₁ hMd hk₁ => ?_
    refine W.go i v _ _ _ hMd fun h₂ hP hst₂ hk₂ => ?_
    obtain ⟨F₂, N₂⟩ := next h₂ fun b o hb x => hk₂ b o hb (hk₁ b o hb x)
    have Nown : News h₀ env.locals h₂ (PyProof.Rows.ownOf h₀ fp h₂) := news_ownOf hLf
    refine wpAny_mono (step i v m' news' h₂ tk₁ (PyProof.Rows.ownOf h₀ fp h₂) hlt hP hJ hnw' ownOf_sub (fun p hp => (Nown p hp).1) (fun b hb hn o e => mem_ownOf hb hn e) hst₂ F₂ (Nown.append N₂)) (fun _ s₂ h₂' => wpC_mono h₂' (fun f s₃ h₃ => ?_) fun _ _ e => e) fun _ _ e => e
    cases f with
    | ret v => exact h₃
    | brk => exact h₃
    | cont =>
      obtain ⟨_, h₃', tk₃, m₂, news₂, rfl, F₃, N₃, ha₃, hJ₃⟩ := h₃
      refine ⟨n + 1 - (i + 1), by omega, h₃', tk₃, m₂, news₂, i + 1, rfl, ?_, F₃, N₃.right, ha₃, hJ₃, hlt, rfl⟩
      refine W.frame _ _ _ hst₂ fun b hb o e => ?_
      cases hn : h₀.get? b with
      | some o₀ =>
        have : o₀ = o := by have q := F₂.keep b o₀ hn; rw [e] at q; exact (Option.some.inj q).symm
        exact this ▸ F₃.keep b o₀ hn
      | none => exact (N₃ _ (List.mem_append_left _ (mem_ownOf hb hn e))).1
    | next =>
      obtain ⟨_, h₃', tk₃, m₂, news₂, rfl, F₃, N₃, ha₃, hJ₃⟩ := h₃
      refine ⟨n + 1 - (i + 1), by omega, h₃', tk₃, m₂, news₂, i + 1, rfl, ?_, F₃, N₃.right, ha₃, hJ₃, hlt, rfl⟩
      refine W.frame _ _ _ hst₂ fun b hb o e => ?_
      cases hn : h₀.get? b with
      | some o₀ =>
        have : o₀ = o := by have q := F₂.keep b o₀ hn; rw [e] at q; exact (Option.some.inj q).symm
        exact this ▸ F₃.keep b o₀ hn
      | none => exact (N₃ _ (List.mem_append_left _ (mem_ownOf hb hn e))).1
  · have hin : i = n := by omega
    subst hin
    refine W.done _ _ _ hst' fun h₁ tk₁ hk₁ => wpAny_execs_nil ?_
    obtain ⟨F₁, N₁⟩ := next h₁ hk₁
    exact hR h₁ tk₁ m' news' F₁ N₁ hnw' hJ
def TurnsAtC (prog : Program) (w : World) (A : Around) (h₀ : Heap) (env : Env) (target : PySem.Expr) (body : List Stmt) (Q : Flow → Shared → Prop) (E : Value → Shared → Prop) (it : Value) (s₂ : Shared) : Prop :=
  ∃ (I : Addr) (fp wr : List Addr) (n : Nat) (P Md : Nat → Value → Heap → Prop) (St : Nat → Heap → Prop) (m : Str → Option Value) (news : List (Addr × Obj)) (J : Nat → (Str → Option Value) → List (Addr × Obj) → Prop),
    it = .ref I ∧ KTurns prog w A target I fp wr n P Md St ∧ env.locals ∉ fp ∧ (∀ b ∈ wr, h₀.get? b = none) ∧ (∀ p ∈ news, p.1 ∉ wr) ∧ St 0 s₂.heap ∧ Fr h₀ env.locals s₂.heap m ∧ News h₀ env.locals s₂.heap news ∧ J 0 m news ∧
    (∀ i v m₁ news₁ h₁ tk₁ own, i < n → P i v h₁ → J i m₁ news₁ → (∀ p ∈ news₁, p.1 ∉ wr) → (∀ p ∈ own, p.1 ∈ fp) → (∀ p ∈ own, h₁.get? p.1 = some p.2) → (∀ b ∈ fp, h₀.get? b = none → ∀ o, h₁.get? b = some o → (b, o) ∈ own) → St (i + 1) h₁ →
      Fr h₀ env.locals h₁ m₁ → News h₀ env.locals h₁ (own ++ news₁) →
      wpAny (model prog w) A (assign target env v) (fun _ s₃ => wpC (model prog w) A (execs body env)
        (LoopStepV h₀ env.locals wr own (J (i + 1)) { s₂ with heap := h₁, toks := tk₁ } (fun v s' => Q (.ret v) s') fun s' => Q .next s') E s₃) E { s₂ with heap := h₁, toks := tk₁ }) ∧
    ∀ h' tk m' news', Fr h₀ env.locals h' m' → News h₀ env.locals h' news' → (∀ p ∈ news', p.1 ∉ wr) → J n m' news' → Q .next { s₂ with heap := h', toks := tk }
theorem For_turns_C {iter : PySem.Expr} {pos : Pos} {m : Str → Option Value} (_F : Fr h₀ env.locals s.heap m)
    (h : wpAny (model prog w) A (eval iter env) (fun xv s₁ => wpAny (model prog w) A (pyIter xv) (fun it s₂ => TurnsAtC prog w A h₀ env target body Q E it s₂) E s₁) E s)
    (hs : ∀ x, foldedSetIterable iter env x = pure x := by intro _; rfl)
    (hE : PassesOwn (model prog w) A env E := by passes_own) :
    wpC (model prog w) A (exec (.For target iter body [] pos) env) Q E s := by
  rw [exec_For]
  refine wpC_bind (wpC_standAt (wpC_then (wpAny_mono h (fun x s₁ h₁ => wpC_then (wpAny_of_eq (hs x) (wpC_bind (wpC_standAt (wpC_then (wpAny_holding
    (wpAny_mono h₁ (fun it s₂ h₂ => wpC_runOwn ?_) fun _ _ h' => h'))))))) fun _ _ h' => h')))
  obtain ⟨I, fp, wr, n, P, Md, St, m, news, J, rfl, W, hLf, hwr, hnw, hst, F, N, h0, step, hQ⟩ := h₂
  exact ktu_loop_C (R := fun r s' => match r with | .ok f => Q f s' | .error e => cameBackBy (model prog w) A env E e s') W hLf hwr hnw hst F N J h0
    (fun i v m₁ news₁ h₁ tk₁ own a b c d e f g st F₁ N₁ => wpAny_mono (step i v m₁ news₁ h₁ tk₁ own a b c d e f g st F₁ N₁) (fun _ _ x => wpC_mono x (fun _ _ y => y) hE) hE) hQ
end
end Mine
end
section
open PySem PySem.W PyProof.Rows PySem.Spec PySem.Calls
set_option Elab.async false
set_option maxRecDepth 100000
set_option maxHeartbeats 4000000
set_option linter.all false
namespace Mine
section
variable {prog : Program} {w : World} {A₀ A : Around} {s : Shared} {base h₀ g₀ : Heap} {outer : List Env} {env : Env} {L : Addr} {m : Str → Option Value} {news : List (Addr × Obj)} {K : Frag} {p : Program} {loose : List Str} {mean : ExcName → Option Value} {mg mb : Str → Option Value}
    {R : Result → Shared → Prop} {name qual : Str} {params : Arguments} {body : List Stmt} {scope : Scope} {dV kV doc pm cdv ct oc : Value} {an od : Option Addr} {osl : Array (Option Value)} {f : Addr} {args : Args} {binds : List (Str × Value)}
theorem kts_enterX (B : Below A₀ base outer h₀) (F : Fr h₀ L s.heap m) (N : News h₀ L s.heap news) (hA : A.frames = some (env :: outer)) (hfr : env.frame = some L) (hke : env.scope.kind = .function) :
    ∃ oL es ep, (hideAll s.heap (news.map (·.1))).get? L = some oL ∧ oL.data = .dict es ep ∧ (∀ h', h'.get? L = some oL → Heap.Ns h' L m) ∧ (∀ (sl : Array (Option Value)) h', h'.get? L = some { oL with slots := sl } → Heap.Ns h' L m) ∧
      h₀.StaysIn (hideAll s.heap (news.map (·.1))) ∧ Below A base (env :: outer) (hideAll s.heap (news.map (·.1))) := by
  have nm : ∀ b o, h₀.get? b = some o → b ∉ news.map (·.1) := fun b o e q => by
    obtain ⟨p, hp, rfl⟩ := List.mem_map.mp q
    rw [(N p hp).2.2] at e; cases e
  have st : h₀.StaysIn (hideAll s.heap (news.map (·.1))) := fun b o e => hideAll_get _ (F.keep b o e) (nm b o e)
  obtain ⟨oL, es, ep, hL, hLd, hLk, hLf⟩ := F.ns
  have nL : L ∉ news.map (·.1) := fun q => by
    obtain ⟨p, hp, e⟩ := List.mem_map.mp q
    exact (N p hp).2.1 e
  have hLg := hideAll_get (news.map (·.1)) hL nL
  have B₁ := pushX B F hfr hke
  exact ⟨oL, es, ep, hLg, hLd, fun h' e => ⟨oL, es, ep, e, hLd, hLk, hLf⟩, fun sl h' e => ⟨_, es, ep, e, hLd, hLk, hLf⟩, st, ⟨hA, fun b o e => st b o (B.stays b o e), funFrames_hideAll B₁.frames fun env' he b hb hf => by
    cases he with
    | head => exact nL ((Option.some.inj (hfr.symm.trans hf) : L = b) ▸ hb)
    | tail _ he =>
      obtain ⟨L₁, o₁, hf₁, ho₁⟩ := funFrames_in B.frames env' he
      rw [hf₁] at hf
      exact nm L₁ o₁ ho₁ ((Option.some.inj hf : L₁ = b) ▸ hb)⟩⟩
theorem memX {b : Addr} (hfr : env.frame = some L) (hm : b ∈ ([env] : List Env).filterMap (·.frame)) : b = L := by
  rw [List.filterMap_cons, hfr] at hm
  simpa using hm
theorem leaveS0X (hfr : env.frame = some L) (B : Below A₀ base [] h₀) (F : Fr h₀ L s.heap m) (N : News h₀ L s.heap news) {oL : Obj} {es : Array DictEntry} {ep : Nat}
    (hLg : (hideAll s.heap (news.map (·.1))).get? L = some oL) (hNs : ∀ (sl : Array (Option Value)) h', h'.get? L = some { oL with slots := sl } → Heap.Ns h' L m) (st : h₀.StaysIn (hideAll s.heap (news.map (·.1))))
    {v : Value} {s' : Shared} (hl : LeaveS0 (([env] : List Env).filterMap (·.frame)) h₀ L m (hideAll s.heap (news.map (·.1))) R v s') : R (.ok (.ret v)) s' := by
  obtain ⟨g', L', m', news', T', F', N', k⟩ := hl
  have nL₀ : h₀.get? L = none := kts_self F
  obtain ⟨sl, hs⟩ := T'.up hLg
  refine k ⟨hNs sl _ (F'.keep _ _ hs), fun b o e => F'.keep b o (T'.other b o (st b o e) (fun q => by
    rw [memX hfr q, nL₀] at e
    cases e)), F.above⟩ fun p hp => ⟨(N' p hp).1, fun q => ?_, ?_⟩
  · have := (N' p hp).2.2; rw [q, hs] at this; cases this
  · cases q : h₀.get? p.1 with
    | none => rfl
    | some o =>
      obtain ⟨sl', hs'⟩ := T'.up (st _ _ q)
      have := (N' p hp).2.2
      rw [hs'] at this
      cases this
theorem code_defS0X (B : Below A₀ base [] h₀) (F : Fr h₀ L s.heap m) (X₀ : K.In h₀) (N : News h₀ L s.heap news) (T : Top p loose mean mg mb h₀) (hA : A.frames = some [env]) (hfr : env.frame = some L) (hke : env.scope.kind = .function)
    (ho : K.lookup f = some ⟨oc, od, .func (fnOf name qual params body scope dV kV doc pm an cdv ct), osl⟩) (hcd : codeIn K cdv qual = true) (hroom : A.depth < recursionLimit)
    (hbind : BindsTo s (fnOf name qual params body scope dV kV doc pm an cdv ct) args binds) (hloc : ∀ y ∈ binds, scope.names.lookup y.1 = some .local)
    (h : ∀ g L' h₁, Fr h₀ L g m → Fr g L' h₁ (fun y => binds.reverse.lookup y) → News g L' h₁ news → Below A base [env] g → K.In g → Top p loose mean mg mb g → KtsDicts (([env] : List Env).filterMap (·.frame)) g →
      wpAny (model prog w) (A.deeper (envOf qual scope L' f cdv)) (execs body (envOf qual scope L' f cdv))
        (fun fl s' => LeaveS0 (([env] : List Env).filterMap (·.frame)) h₀ L m g R (match fl with | .ret v => v | _ => .none) s')
        (fun e s' => wpAny (model prog w) (A.deeper (envOf qual scope L' f cdv)) (leaving (envOf qual scope L' f cdv) e) (fun _ s'' => R (.error e) s'') (fun e' s'' => R (.error e') s'') s')
        { s with heap := h₁, toks := s.toks + binds.length })
    (hco : scope.isCoroutine = false) (hgen : scope.isGenerator = false) (hk : scope.kind = .function)
    (hcell : ∀ x ∈ scope.names, x.2 ≠ .cell) : codeAny (model prog w) A (.call (.ref f) args) R s := by
  have X := X₀.keeps F.keep
  refine codeAny_call_def (fd := fnOf name qual params body scope dV kV doc pm an cdv ct) (body := body) (binds := binds) hroom (X _ _ ho) rfl (T.nolimit.keeps F.keep) (codeRec_of X hcd) rfl hbind hcell hloc (fun h₁ hns hk₁ => ?_) hco hgen hk
  obtain ⟨oL, es, ep, hLg, hLd, hN, hNs, st, B₂⟩ := kts_enterX B F N hA hfr hke
  exact wpAny_mono (h _ s.heap.objs.size h₁ ⟨hN _ hLg, st, F.above⟩ ⟨hns, fun b o e => hk₁ b o (of_hideAll _ e), Nat.le_of_eq (hideAll_size _ _)⟩
    (fun p hp => ⟨hk₁ _ _ (N p hp).1, Nat.ne_of_lt (Heap.lt_size (N p hp).1), hideAll_none _ (List.mem_map_of_mem hp)⟩) B₂ (X₀.keeps st) (T.keeps st) (fun b hb => by
      rw [memX hfr hb]; exact ⟨oL, es, ep, hLg, hLd⟩)) (fun fl s' hl => leaveS0X (es := es) (ep := ep) hfr B F N hLg hNs st hl) fun _ _ y => y
theorem code_defS0_C (B : Below A₀ base [] h₀) (F : Fr h₀ L s.heap m) (X₀ : K.In h₀) (N : News h₀ L s.heap news) (T : Top p loose mean mg mb h₀) (hA : A.frames = some [env]) (hfr : env.frame = some L) (hke : env.scope.kind = .function)
    (ho : K.lookup f = some ⟨oc, od, .func (fnOf name qual params body scope dV kV doc pm an cdv ct), osl⟩) (hcd : codeIn K cdv qual = true) (hroom : A.depth < recursionLimit)
    (hbind : BindsTo s (fnOf name qual params body scope dV kV doc pm an cdv ct) args binds) (hloc : ∀ y ∈ binds, scope.names.lookup y.1 = some .local)
    (h : ∀ g L' h₁, Fr h₀ L g m → Fr g L' h₁ (fun y => binds.reverse.lookup y) → News g L' h₁ news → Below A base [env] g → K.In g → Top p loose mean mg mb g → KtsDicts (([env] : List Env).filterMap (·.frame)) g →
      wpC (model prog w) (A.deeper (envOf qual scope L' f cdv)) (execs body (envOf qual scope L' f cdv))
        (fun fl s' => LeaveS0 (([env] : List Env).filterMap (·.frame)) h₀ L m g R (match fl with | .ret v => v | _ => .none) s')
        (fun e s' => wpAny (model prog w) (A.deeper (envOf qual scope L' f cdv)) (leaving (envOf qual scope L' f cdv) e) (fun _ s'' => R (.error e) s'') (fun e' s'' => R (.error e') s'') s')
        { s with heap := h₁, toks := s.toks + binds.length })
    (hco : scope.isCoroutine = false) (hgen : scope.isGenerator = false) (hk : scope.kind = .function)
    (hcell : ∀ x ∈ scope.names, x.2 ≠ .cell) : codeC (model prog w) A (.call (.ref f) args) R s := by
  have X := X₀.keeps F.keep
  refine codeC_call_def (fd := fnOf name qual params body scope dV kV doc pm an cdv ct) (body := body) (binds := binds) hroom (X _ _ ho) rfl (T.nolimit.keeps F.keep) (codeRec_of X hcd) rfl hbind hcell hloc (fun h₁ hns hk₁ => ?_) hco hgen hk
  obtain ⟨oL, es, ep, hLg, hLd, hN, hNs, st, B₂⟩ := kts_enterX B F N hA hfr hke
  exact wpC_mono (h _ s.heap.objs.size h₁ ⟨hN _ hLg, st, F.above⟩ ⟨hns, fun b o e => hk₁ b o (of_hideAll _ e), Nat.le_of_eq (hideAll_size _ _)⟩
    (fun p hp => ⟨hk₁ _ _ (N p hp).1, Nat.ne_of_lt (Heap.lt_size (N p hp).1), hideAll_none _ (List.mem_map_of_mem hp)⟩) B₂ (X₀.keeps st) (T.keeps st) (fun b hb => by
      rw [memX hfr hb]; exact ⟨oL, es, ep, hLg, hLd⟩)) (fun fl s' hl => leaveS0X (es := es) (ep := ep) hfr B F N hLg hNs st hl) fun _ _ y => y
end
end Mine
end
section
open PySem PySem.W PyProof.Rows PySem.Spec PySem.Calls
set_option Elab.async false
set_option maxRecDepth 100000
set_option maxHeartbeats 4000000
set_option linter.all false
namespace Mine
theorem news_drop1 {h₀ h : Heap} {L : Addr} {x : Addr × Obj} {news : Ldg} (N : News h₀ L h (x :: news)) : News h₀ L h news := fun p hp => N p (.tail _ hp)
theorem news_drop2 {h₀ h : Heap} {L : Addr} {x y : Addr × Obj} {news : Ldg} (N : News h₀ L h (x :: y :: news)) : News h₀ L h news := fun p hp => N p (.tail _ (.tail _ hp))
abbrev lstOf (vs : List Value) (n : Nat) : Obj := { cls := .type "list", data := .seq vs.toArray n }
theorem myIn {K : Frag} {h₀ h : Heap} {L : Addr} {m : Str → Option Value} (F : Fr h₀ L h m) (X : K.In h₀) : K.In h := X.keeps F.keep
theorem call_ValueError_made {prog : Program} {w : World} {A : Around} {E : Value → Shared → Prop} {s : Shared} {rest : List Value}
    (h : ∀ h' e, Heap.MadeExc s.heap h' e "ValueError" rest → E (.ref e) { s with heap := h' }) (hrest : rest.length ≤ sizeLine := by size_fits) :
    wpAny (model prog w) A (call (.type "ValueError") rest) (Raisable E) E s := by
  obtain ⟨hp, g, d, tk, os⟩ := s
  refine wpAny_call_exc PySem.F.excCall_ValueError (fun h' e hx => ?_) hrest
  obtain ⟨ob, t, he, hcls, hd⟩ := hx.newExc.there
  exact ⟨e, ob, _, "ValueError", _, _, excClass_ValueError, rfl, he, hcls, hd, rfl, h h' e hx⟩
theorem floordiv_pos {prog : Program} {w : World} {A : Around} {E : Value → Shared → Prop} {s : Shared} {a b : Int} {t u : Tok} {Q : Value → Shared → Prop} (hb : 0 < b) (hl : b.natAbs.log2 < 9000) (h : Q (.int (a / b) s.toks) { s with toks := s.toks + 1 }) :
    wpAny (model prog w) A (binaryOp .FloorDiv (.int a t) (.int b u)) Q E s := by
  rw [← fdiv_eq a hb] at h
  exact floordiv_int (by omega) h (Or.inl (PyProof.noPylong_of_log2 hl))
theorem whlIf_dec {p : Prop} [Decidable p] {T F : Prop} (t : p → T) (f : ¬ p → F) : WhlIf (decide p) T F := by
  by_cases h : p
  · exact WhlIf.yes (decide_eq_true h) (t h)
  · exact WhlIf.no (decide_eq_false h) (f h)
theorem lookup_if {y k : Str} {v : Value} {l : List (Str × Value)} : List.lookup y ((k, v) :: l) = if y = k then some v else List.lookup y l := by
  rw [List.lookup_cons]
  by_cases h : y = k
  · rw [if_pos h, h]; simp
  · have : (y == k) = false := by simpa using h
    rw [this, if_neg h]
theorem lookup_out {l : List (Str × Value)} {names : List Str} {y : Str} (ha : (l.map (·.1)).all (fun k => names.contains k) = true) (hy : y ∉ names) : List.lookup y l = none := by
  induction l with
  | nil => rfl
  | cons p l ih =>
    obtain ⟨k, v⟩ := p
    rw [List.map_cons, List.all_cons, Bool.and_eq_true] at ha
    rw [lookup_if, if_neg (fun e => hy (by rw [e]; exact List.contains_iff_mem.mp ha.1))]
    exact ih ha.2
theorem ne_of_out {y k : Str} {names : List Str} (hy : y ∉ names) (h : names.contains k = true) : ¬ y = k := fun e => hy (e ▸ by simpa using h)
theorem fr_map (names : List Str) {g h : Heap} {L : Addr} {M M' : Str → Option Value} (F : Fr g L h M) (h1 : ∀ n ∈ names, M n = M' n) (h2 : ∀ y, y ∉ names → M y = M' y) : Fr g L h M' :=
  fr_to F fun y => if hy : y ∈ names then h1 y hy else h2 y hy
def Hold (P : Prop) : Prop := P
theorem Hold.mk {P : Prop} (h : Hold P) : P := h
theorem Hold.out {P : Prop} (h : P) : Hold P := h
abbrev KRes := Except (EK × PStr) Int
def bis (right : Bool) (k : Nat → KRes) (x : Int) : Nat → Nat → Nat → Except (EK × PStr) Nat
  | 0, lo, _ => .ok lo
  | f + 1, lo, hi => if lo < hi then
      match k ((lo + hi) / 2) with
      | .error e => .error e
      | .ok y => if (if right then x < y else ¬ y < x) then bis right k x f lo ((lo + hi) / 2) else bis right k x f ((lo + hi) / 2 + 1) hi
    else .ok lo
def WhlFr {ι : Type} (μ : ι → Nat) (C : ι → Prop) (M : ι → Str → Option Value) (Nw : ι → Ldg) (g : Heap) (L : Addr) (i : ι) (s : Shared) (Q : Flow → Shared → Prop) (f : Flow) (s' : Shared) : Prop :=
  match f with
  | .next | .cont => ∃ i' h' tk', s' = { s with heap := h', toks := tk' } ∧ μ i' < μ i ∧ C i' ∧ Fr g L h' (M i') ∧ News g L h' (Nw i')
  | .brk => Q .next s'
  | .ret v => Q (.ret v) s'
section
variable {prog : Program} {w : World} {A : Around} {E : Value → Shared → Prop} {s : Shared} {env : Env} {test : PySem.Expr} {body orelse : List Stmt} {Q : Flow → Shared → Prop} {g : Heap} {L : Addr} {M0 : Str → Option Value} {news0 : Ldg}
theorem while_fr {ι : Type} (μ : ι → Nat) (C : ι → Prop) (M : ι → Str → Option Value) (Nw : ι → Ldg) (i₀ : ι) (names : List Str) {pos : Pos} (F : Fr g L s.heap M0) (N : News g L s.heap news0)
    (c0 : C i₀) (m1 : ∀ n ∈ names, M0 n = M i₀ n) (m2 : ∀ y, y ∉ names → M0 y = M i₀ y) (n0 : ∀ q ∈ Nw i₀, q ∈ news0)
    (step : ∀ i h tk, C i → Fr g L h (M i) → News g L h (Nw i) → wpAny (model prog w) A (isTrue test env (eval test env)) (fun b s₂ => WhlIf b (wpAny (model prog w) A (execs body env) (WhlFr μ C M Nw g L i s Q) E s₂) (wpAny (model prog w) A (execs orelse env) Q E s₂)) E { s with heap := h, toks := tk })
    (hE : PassesOwn (model prog w) A env E) : wpAny (model prog w) A (exec (.While test body orelse pos) env) Q E s :=
  while_my μ (fun i h _ => C i ∧ Fr g L h (M i) ∧ News g L h (Nw i)) i₀ ⟨c0, fr_map names F m1 m2, fun q hq => N q (n0 q hq)⟩
    (fun i h tk hP => wpAny_mono (step i h tk hP.1 hP.2.1 hP.2.2) (fun b s₂ hb => by
      cases b with
      | false => exact WhlIf.no rfl hb
      | true => exact WhlIf.yes rfl (wpAny_mono (show wpAny _ _ _ (WhlFr μ C M Nw g L i s Q) E s₂ from hb) (fun f s₃ h₃ => by cases f <;> exact h₃) fun _ _ x => x)) fun _ _ x => x) hE
theorem whlFr_next {ι : Type} {μ : ι → Nat} {C : ι → Prop} {M : ι → Str → Option Value} {Nw : ι → Ldg} {i : ι} {h' : Heap} {tk : Nat} (i' : ι) (names : List Str) (F : Fr g L h' M0) (N : News g L h' news0) (hμ : μ i' < μ i) (hc : C i')
    (m1 : ∀ n ∈ names, M0 n = M i' n) (m2 : ∀ y, y ∉ names → M0 y = M i' y) (n0 : ∀ q ∈ Nw i', q ∈ news0) : WhlFr μ C M Nw g L i s Q .next { s with heap := h', toks := tk } :=
  ⟨i', h', tk, rfl, hμ, hc, fr_map names F m1 m2, fun q hq => N q (n0 q hq)⟩
end
theorem bis_fuel {r : Bool} {k : Nat → KRes} {x : Int} : ∀ (f f' lo hi : Nat), hi - lo ≤ f → hi - lo ≤ f' → bis r k x f lo hi = bis r k x f' lo hi
  | 0, 0, _, _, _, _ => rfl
  | 0, f' + 1, lo, hi, h, _ => by simp only [bis]; rw [if_neg (Nat.not_lt.mpr (Nat.le_of_sub_eq_zero (Nat.le_zero.mp h)))]
  | f + 1, 0, lo, hi, _, h => by simp only [bis]; rw [if_neg (Nat.not_lt.mpr (Nat.le_of_sub_eq_zero (Nat.le_zero.mp h)))]
  | f + 1, f' + 1, lo, hi, h, h' => by
    simp only [bis]
    by_cases hlt : lo < hi
    · rw [if_pos hlt, if_pos hlt]
      cases k ((lo + hi) / 2) with
      | error e => rfl
      | ok y =>
        dsimp only
        rw [bis_fuel f f' lo ((lo + hi) / 2) (mid_dn hlt h) (mid_dn hlt h'), bis_fuel f f' ((lo + hi) / 2 + 1) hi (mid_up hlt h) (mid_up hlt h')]
    · rw [if_neg hlt, if_neg hlt]
theorem bis_at {r : Bool} {k : Nat → KRes} {x : Int} {l h : Nat} (hl : l < h) : bis r k x (h - l) l h = match k ((l + h) / 2) with
      | .error e => .error e
      | .ok y => if (if r then x < y else ¬ y < x) then bis r k x ((l + h) / 2 - l) l ((l + h) / 2) else bis r k x (h - ((l + h) / 2 + 1)) ((l + h) / 2 + 1) h := by
  obtain ⟨f, hf⟩ : ∃ f, h - l = f + 1 := Nat.exists_eq_succ_of_ne_zero (Nat.sub_ne_zero_of_lt hl)
  rw [hf]
  simp only [bis]
  rw [if_pos hl]
  cases k ((l + h) / 2) with
  | error e => rfl
  | ok y =>
    dsimp only
    rw [bis_fuel f ((l + h) / 2 - l) l ((l + h) / 2) (mid_dn hl (Nat.le_of_eq hf)) (Nat.le_refl _), bis_fuel f (h - ((l + h) / 2 + 1)) ((l + h) / 2 + 1) h (mid_up hl (Nat.le_of_eq hf)) (Nat.le_refl _)]
theorem half_toNat (l h : Nat) : (((l : Int) + (h : Int)) / 2).toNat = (l + h) / 2 := by
  rw [← Int.natCast_add]; rfl
section
variable {ys : List PStr} {x n : Int} {l h : Nat} {k : Nat → KRes}
theorem bisR_hi (hl : (l : Int) < h) (hk : k ((((l : Int) + (h : Int)) / 2).toNat) = .ok n) (hx : x < n) : bis true k x (h - l) l h = bis true k x ((l + h) / 2 - l) l ((l + h) / 2) := by
  rw [half_toNat] at hk
  rw [bis_at (Int.ofNat_lt.mp hl), hk]; dsimp only; rw [if_pos (by simpa using hx)]
theorem bisR_lo (hl : (l : Int) < h) (hk : k ((((l : Int) + (h : Int)) / 2).toNat) = .ok n) (hx : ¬ x < n) : bis true k x (h - l) l h = bis true k x (h - ((l + h) / 2 + 1)) ((l + h) / 2 + 1) h := by
  rw [half_toNat] at hk
  rw [bis_at (Int.ofNat_lt.mp hl), hk]; dsimp only; rw [if_neg (by simpa using hx)]
theorem bisL_lo (hl : (l : Int) < h) (hk : k ((((l : Int) + (h : Int)) / 2).toNat) = .ok n) (hx : n < x) : bis false k x (h - l) l h = bis false k x (h - ((l + h) / 2 + 1)) ((l + h) / 2 + 1) h := by
  rw [half_toNat] at hk
  rw [bis_at (Int.ofNat_lt.mp hl), hk]; dsimp only; rw [if_neg (by simpa using hx)]
theorem bisL_hi (hl : (l : Int) < h) (hk : k ((((l : Int) + (h : Int)) / 2).toNat) = .ok n) (hx : ¬ n < x) : bis false k x (h - l) l h = bis false k x ((l + h) / 2 - l) l ((l + h) / 2) := by
  rw [half_toNat] at hk
  rw [bis_at (Int.ofNat_lt.mp hl), hk]; dsimp only; rw [if_pos (by simpa using hx)]
theorem bis_err {r : Bool} {e : EK × PStr} (hl : (l : Int) < h) (hk : k ((((l : Int) + (h : Int)) / 2).toNat) = .error e) : bis r k x (h - l) l h = .error e := by
  rw [half_toNat] at hk
  rw [bis_at (Int.ofNat_lt.mp hl), hk]
theorem bis_end {r : Bool} (hl : ¬ (l : Int) < h) : bis r k x (h - l) l h = .ok l := by
  rw [Nat.sub_eq_zero_of_le (Nat.not_lt.mp fun q => hl (Int.ofNat_lt.mpr q))]; rfl
end
def RowIs (P : Addr) (kv : Value) (vs : List Value) (k : Nat → KRes) (n : Nat) : Prop :=
  (∃ ys, StrsAre vs ys ∧ kv = .ref P ∧ k = (fun i => p229 (ys.getD i Str.empty)) ∧ n = ys.length ∧ (∀ y ∈ ys, y.length ≤ 640)) ∨
  (∃ ns, IntsAre vs ns ∧ kv = .none ∧ k = (fun i => .ok (ns.getD i 0)) ∧ n = ns.length)
def HiIs (hv : Value) (hi n : Nat) : Prop := (hv = .none ∧ hi = n) ∨ (∃ t, hv = .int hi t ∧ hi ≤ n)
theorem ints_length : ∀ {vs : List Value} {ns : List Int}, IntsAre vs ns → vs.length = ns.length
  | _, _, .nil => rfl
  | _, _, .cons _ _ h => congrArg (· + 1) (ints_length h)
theorem RowIs.length {P : Addr} {kv : Value} {vs : List Value} {k : Nat → KRes} {n : Nat} (h : RowIs P kv vs k n) : vs.length = n := by
  rcases h with ⟨ys, h, _, _, e, _⟩ | ⟨ns, h, _, _, e⟩
  · rw [h.len_eq, e]
  · rw [ints_length h, e]
section
variable {prog : Program} {w : World} {A : Around} {E : Value → Shared → Prop} {s : Shared}
theorem len_intsA {a : Addr} {l : List Value} {ns : List Int} {Q : Value → Shared → Prop} (hl : s.heap.IsList a l.toArray) (hi : IntsAre l ns) (hfit : (ns.length : Int) < 9223372036854775808)
    (h : Q (.int ns.length (s.toks + 1)) { s with toks := s.toks + 1 + 1 }) : wpAny (model prog w) A (call (.builtin "len") [.ref a]) Q E s := by
  have e : l.toArray.size = ns.length := by rw [List.size_toArray]; exact ints_length hi
  refine len_list hl (by rw [e]; omega) ?_
  rw [e]
  exact h
theorem item_intsA {value slice : PySem.Expr} {a : Addr} {l : List Value} {ns : List Int} {k : Int} {u : Tok} {Q : Value → Shared → Prop} (hl : s.heap.IsList a l.toArray) (hi : IntsAre l ns)
    (h0 : 0 ≤ k) (hk : k < ns.length) (hfit : k < 2 ^ 63) (h : ∀ t', Q (.int (ns.getD k.toNat 0) t') s)
    (hs : subscripted slice false (.ref a) (.int k u) = operate [.ref a, .int k u] (getItem (.ref a) (.int k u)) := by with_unfolding_all rfl) (hg : ∀ r, letTemporaryGo value (.ref a) r = pure () := by intro _; with_unfolding_all rfl) :
    wpAny (model prog w) A (subscriptTail value slice (.ref a) (.int k u)) Q E s := by
  have hlt : k.toNat < l.length := by rw [ints_length hi]; omega
  have e : l[k.toNat]? = some l[k.toNat] := List.getElem?_eq_getElem hlt
  obtain ⟨t, ht⟩ := hi.int_at _ _ e
  exact item_listL hl h0 hfit (e.trans (congrArg some ht)) (h t) hs hg
end
theorem bis_nv {r : Bool} {k : Nat → KRes} {x : Int} {l h : Nat} {R : Except (EK × PStr) Nat} (hv : ∀ msg, R ≠ .error (.value, msg)) (e : R = bis r k x (h - l) l h) (hl : (l : Int) < h) : ∀ msg, k ((((l : Int) + (h : Int)) / 2).toNat) ≠ .error (.value, msg) :=
  fun msg q => hv msg (e.trans (bis_err hl q))
def negMsg : PStr := Str.ofString "lo must be non-negative"
def bisZ (r : Bool) (k : Nat → KRes) (x lo : Int) (hi : Nat) : Except (EK × PStr) Nat := if lo < 0 then .error (.value, negMsg) else bis r k x (hi - lo.toNat) lo.toNat hi
theorem bisZ_neg {r : Bool} {k : Nat → KRes} {x lo : Int} {hi : Nat} (h : lo < 0) : bisZ r k x lo hi = .error (.value, negMsg) := if_pos h
theorem bisZ_nat {r : Bool} {k : Nat → KRes} {x : Int} {lo hi : Nat} : bisZ r k x (lo : Int) hi = bis r k x (hi - lo) lo hi := if_neg (by omega)
theorem nat_of {z : Int} (h : ¬ z < 0) : ∃ l : Nat, z = (l : Int) := ⟨z.toNat, (Int.toNat_of_nonneg (Int.not_lt.mp h)).symm⟩
def ThingIs (P : Addr) (kv xv : Value) (kx : KRes) : Prop := (∃ r t, xv = .str r t ∧ kv = .ref P ∧ kx = p229 r ∧ r.length ≤ 640) ∨ (∃ n t, xv = .int n t ∧ kv = .none ∧ kx = .ok n)
def insZ (r : Bool) (k : Nat → KRes) (kx : KRes) (lo : Int) (hi : Nat) : Except (EK × PStr) Nat := match kx with
  | .error e => .error e
  | .ok x => bisZ r k x lo hi
theorem upd_of {d : Addr} {o o' : Obj} : ∀ {l : Ldg} {g : Obj → Ldg}, UpdF d o l g → Upd d o o' l (g o')
  | _, _, .head h => .head h
  | _, _, .tail h r => .tail h (upd_of r)
theorem updF_mem {d : Addr} {o : Obj} : ∀ {l : Ldg} {g : Obj → Ldg}, UpdF d o l g → (d, o) ∈ l
  | _, _, .head _ => .head _
  | _, _, .tail _ r => .tail _ (updF_mem r)
theorem hv_app {kx : KRes} {P : Int → Prop} (h : ∀ x, kx = .ok x → P x) {n : Int} (e : kx = .ok n) : P n := h n e
theorem insZ_ok {r : Bool} {k : Nat → KRes} {kx : KRes} {x lo : Int} {hi : Nat} (h : kx = .ok x) : insZ r k kx lo hi = bisZ r k x lo hi := by rw [h]; rfl
theorem insZ_err {r : Bool} {k : Nat → KRes} {kx : KRes} {e : EK × PStr} {lo : Int} {hi : Nat} (h : kx = .error e) : insZ r k kx lo hi = .error e := by rw [h]; rfl
theorem bis_le {r : Bool} {k : Nat → KRes} {x : Int} : ∀ (f lo hi n : Nat), bis r k x f lo hi = .ok n → lo ≤ n ∧ (n ≤ hi ∨ n = lo)
  | 0, lo, hi, n, h => by simp only [bis] at h; cases h; exact ⟨Nat.le_refl _, .inr rfl⟩
  | f + 1, lo, hi, n, h => by
    simp only [bis] at h
    by_cases hl : lo < hi
    · rw [if_pos hl] at h
      cases hk : k ((lo + hi) / 2) with
      | error e => rw [hk] at h; cases h
      | ok y =>
        rw [hk] at h
        dsimp only at h
        by_cases hc : (if r = true then x < y else ¬ y < x)
        · rw [if_pos hc] at h
          have := bis_le f _ _ n h
          exact ⟨this.1, this.2.imp (fun q => Nat.le_trans q (Nat.le_of_lt (mid_lt hl))) id⟩
        · rw [if_neg hc] at h
          have := bis_le f _ _ n h
          exact ⟨Nat.le_trans (mid_ge hl) (Nat.le_of_lt this.1), .inl (this.2.elim id (fun q => q ▸ mid_lt hl))⟩
    · rw [if_neg hl] at h; cases h; exact ⟨Nat.le_refl _, .inr rfl⟩
theorem bisZ_le {r : Bool} {k : Nat → KRes} {x lo : Int} {hi n : Nat} (h : bisZ r k x lo hi = .ok n) (hh : hi ≤ 1000) (hl : lo ≤ 1000) : n ≤ 1000 := by
  unfold bisZ at h
  split at h
  · cases h
  · have := bis_le _ _ _ n h
    omega
theorem HiIs.le {hv : Value} {hi n : Nat} (h : HiIs hv hi n) : hi ≤ n := by
  rcases h with ⟨_, rfl⟩ | ⟨_, _, h⟩
  · exact Nat.le_refl _
  · exact h
theorem fits_bis {r : Bool} {k : Nat → KRes} {x lo : Int} {hi n nn : Nat} {hv : Value} (h : bisZ r k x lo hi = .ok n) (hh : HiIs hv hi nn) (hn : nn ≤ 1000) (hl : lo ≤ 1000) : Builtin.List.listFitsIndex (n : Int) = true := by
  have h1 := bisZ_le h (Nat.le_trans hh.le hn) hl
  unfold Builtin.List.listFitsIndex
  simp only [Bool.and_eq_true, decide_eq_true_eq]
  omega
theorem room_vs {vs : List Value} {n : Nat} (h : vs.length = n) (hn : n ≤ 1000) : vs.toArray.toList.length ≤ sizeLine := by
  have e : (1000 : Nat) ≤ sizeLine := by decide
  show vs.length ≤ sizeLine
  omega
def toldTxt : EK → PStr → PStr
  | .reply, r => PySem.Str.append (Str.ofString "reply ") r
  | .proto, r => PySem.Str.append (Str.ofString "proto ") r
  | .value, r => PySem.Str.append (Str.ofString "value ") r
theorem intRefusal_len (x : PStr) : (intRefusal x).length ≤ 240 := by
  have e1 : (Str.ofString "invalid literal for int() with base 10: ").length = 40 := by decide +kernel
  have e2 : (⟨(PySem.reprText x).cps.extract 0 200⟩ : PySem.Str).length ≤ 200 := by
    show ((PySem.reprText x).cps.extract 0 200).size ≤ 200
    rw [Array.size_extract]; omega
  unfold intRefusal
  have e3 := PySem.Str.length_append (Str.ofString "invalid literal for int() with base 10: ") (⟨(PySem.reprText x).cps.extract 0 200⟩ : PySem.Str)
  exact Nat.le_trans (Nat.le_of_eq e3) (by omega)
theorem p229_err_len {r t : PStr} {k : EK} (h : p229 r = .error (k, t)) (hr : r.length ≤ 640) : t.length ≤ 700 := by
  unfold p229 at h
  repeat' split at h
  all_goals first | (cases h; omega) | skip
  dsimp only at h
  repeat' split at h
  all_goals first | (cases h; omega) | (cases h; exact Nat.le_trans (intRefusal_len _) (by decide)) | cases h
theorem bis_err_at {r : Bool} {k : Nat → KRes} {x : Int} {e : EK × PStr} : ∀ (f lo hi : Nat), bis r k x f lo hi = .error e → ∃ i, lo ≤ i ∧ i < hi ∧ k i = .error e
  | 0, lo, hi, h => by simp only [bis] at h; cases h
  | f + 1, lo, hi, h => by
    simp only [bis] at h
    by_cases hl : lo < hi
    · rw [if_pos hl] at h
      cases hk : k ((lo + hi) / 2) with
      | error e' => rw [hk] at h; cases h; exact ⟨_, mid_ge hl, mid_lt hl, hk⟩
      | ok y =>
        rw [hk] at h
        dsimp only at h
        by_cases hc : (if r = true then x < y else ¬ y < x)
        · rw [if_pos hc] at h
          obtain ⟨i, h1, h2, h3⟩ := bis_err_at f _ _ h
          exact ⟨i, h1, Nat.lt_trans h2 (mid_lt hl), h3⟩
        · rw [if_neg hc] at h
          obtain ⟨i, h1, h2, h3⟩ := bis_err_at f _ _ h
          exact ⟨i, Nat.le_trans (mid_ge hl) (Nat.le_of_lt h1), h2, h3⟩
    · rw [if_neg hl] at h; cases h
theorem negMsg_len : negMsg.length = 23 := by decide +kernel
theorem row_err_len {P : Addr} {kv : Value} {vs : List Value} {k : Nat → KRes} {n i : Nat} {ek : EK} {t : PStr} (hrow : RowIs P kv vs k n) (h : k i = .error (ek, t)) : t.length ≤ 700 := by
  rcases hrow with ⟨ys, _, _, rfl, _, h640⟩ | ⟨ns, _, _, rfl, _⟩
  · exact p229_err_len h (getD_len h640)
  · cases h
theorem bisZ_err_len {r : Bool} {P : Addr} {kv : Value} {vs : List Value} {k : Nat → KRes} {n hi : Nat} {x lo : Int} {ek : EK} {t : PStr} (hrow : RowIs P kv vs k n) (h : bisZ r k x lo hi = .error (ek, t)) : t.length ≤ 700 := by
  unfold bisZ at h
  split at h
  · cases h; rw [negMsg_len]; decide
  · obtain ⟨i, _, _, h3⟩ := bis_err_at _ _ _ h
    exact row_err_len hrow h3
theorem insZ_err_len {r : Bool} {P : Addr} {kv xv : Value} {vs : List Value} {k : Nat → KRes} {kx : KRes} {n hi : Nat} {lo : Int} {ek : EK} {t : PStr} (hrow : RowIs P kv vs k n) (hx : ThingIs P kv xv kx) (h : insZ r k kx lo hi = .error (ek, t)) : t.length ≤ 700 := by
  unfold insZ at h
  split at h
  · rename_i e
    cases h
    rcases hx with ⟨r', t', _, _, e', h640⟩ | ⟨n', t', _, _, e'⟩
    · exact p229_err_len e'.symm h640
    · cases e'
  · exact bisZ_err_len hrow h
theorem p229in_len (r : PStr) : (p229in r).length ≤ r.length := Txt.slice_le ..
theorem getD_640 {ys : List PStr} (h : ∀ y ∈ ys, y.length ≤ 640) (k : Nat) : (ys.getD k Str.empty).length ≤ 640 := getD_len h
end Mine
end
section
open PySem PySem.W PyProof.Rows PySem.Spec PySem.Calls
set_option Elab.async false
set_option maxRecDepth 100000
set_option linter.all false
namespace Mine
section
variable {M : Model} {A : Around} {E : Value → Shared → Prop} {s : Shared} {env : Env}
theorem let_AE {α : Type} {f : Env → Sem α} {Q : α → Shared → Prop} (h : let vk := env; let ak := A; wpAny M ak (f vk) Q E s) : wpAny M A (f env) Q E s := h
theorem f_QE {α : Type} {t : Sem α} {Q : α → Shared → Prop} (h : let q := Q; let e := E; wpAny M A t q e s) : wpAny M A t Q E s := h
theorem f_execs {st : Stmt} {rest : List Stmt} {Q : Flow → Shared → Prop}
    (h : let q := Q; wpAny M A (exec st env) (fun f s' => match f with | .next => wpAny M A (execs rest env) q E s' | f => q f s') E s) : wpAny M A (execs (st :: rest) env) Q E s := wpAny_execs_cons h
theorem f_BinOp {l r : PySem.Expr} {op : Operator} {pos : Pos} {Q : Value → Shared → Prop}
    (h : let q := Q; wpAny M A (eval l env) (fun a s₁ => wpAny M A (eval r env) (fun b s₂ => wpAny M A (binaryOp op a b) q E s₂) E s₁) E s) : wpAny M A (eval (.BinOp l op r pos) env) Q E s := wpAny_BinOp h
theorem f_Assign {x : Str} {pos' pos : Pos} {value : PySem.Expr} {Q : Flow → Shared → Prop}
    (h : let q := Q; wpAny M A (eval value env) (fun v s₁ => wpAny M A (storeName env x v) (fun _ => q .next) E s₁) E s)
    (hs : swapsWith value (some (.Name x pos')) pos.line env = pure false := by rfl) : wpAny M A (exec (.Assign [.Name x pos'] value pos) env) Q E s := wpAny_Assign_Name h hs
theorem f_Subscript {value slice : PySem.Expr} {pos : Pos} {Q : Value → Shared → Prop}
    (h : let q := Q; wpAny M A (eval value env) (fun o s₁ => wpAny M A (eval slice env) (fun i s₂ => wpAny M A (subscriptTail value slice o i) q E s₂) E s₁) E s) : wpAny M A (eval (.Subscript value slice pos) env) Q E s := Subscript_ h
theorem f_Compare {l r : PySem.Expr} {op : CmpOp} {pos : Pos} {whole : Sem Value} {Q : Bool → Shared → Prop}
    (h : let q := Q; wpAny M A (eval l env) (fun a s₁ => wpAny M A (eval r env) (fun b s₂ => wpAny M A (compareOp op a b) (fun c s₃ => wpAny M A (truthy c) q E s₃) E s₂) E s₁) E s)
    (hm : behindInMarks op r = false := by with_unfolding_all rfl) : wpAny M A (isTrue (.Compare l [op] [r] pos) env whole) Q E s := wpAny_isTrue_Compare1 h hm
theorem f_If {test : PySem.Expr} {body orelse : List Stmt} {pos : Pos} {Q : Flow → Shared → Prop}
    (h : let q := Q; wpAny M A (isTrue test env (eval test env)) (fun b s₂ => if b then wpAny M A (execs body env) q E s₂ else wpAny M A (execs orelse env) q E s₂) E s) : wpAny M A (exec (.If test body orelse pos) env) Q E s := wpAny_If h
theorem f_Call {func : PySem.Expr} {args : List PySem.Expr} {pos : Pos} {Q : Value → Shared → Prop}
    (h : let q := Q; wpAny M A (eval func env) (fun f s₁ => wpAny M A (callWith pos f [] (backTo pos (starEach args env)) []) q E s₁) E s)
    (he : eval (.Call func args [] pos) env = (do callWith pos (← eval func env) [] (backTo pos (starEach args env)) (backToKw pos (keywordEach [] env))) := by rfl) : wpAny M A (eval (.Call func args [] pos) env) Q E s := Call_ h he
theorem f_args {e : PySem.Expr} {rest : List PySem.Expr} {pos : Pos} {Q : List Value → Shared → Prop}
    (h : let q := Q; wpAny M A (eval e env) (fun v s₁ => wpAny M A (spliced (backTo pos (starEach rest env))) (fun vs s₂ => q (v :: vs) s₂) E s₁) E s)
    (he : starEach (e :: rest) env = (false, eval e env) :: starEach rest env := by rfl) : wpAny M A (spliced (backTo pos (starEach (e :: rest) env))) Q E s := args_cons h he
theorem f_method1 {pos : Pos} {id : String} {o : Value} {e : PySem.Expr} {rest : List PySem.Expr} {Q : Value → Shared → Prop}
    (h : let q := Q; wpAny M A (spliced (backTo pos (starEach (e :: rest) env))) (fun vs s₁ => wpAny M A (call (.builtin id) (o :: vs)) q E s₁) E s)
    (he : starEach (e :: rest) env = (false, eval e env) :: starEach rest env := by rfl) (hplain : (backTo pos (starEach rest env)).any (·.1) = false := by rfl) :
    wpAny M A (callWith pos (.builtin id) [o] (backTo pos (starEach (e :: rest) env)) []) Q E s := callWith_method1 (first := [o]) h he hplain
theorem f_Return {e : PySem.Expr} {pos : Pos} {Q : Flow → Shared → Prop} (h : let q := Q; wpAny M A (eval e env) (fun v => q (.ret v)) E s) : wpAny M A (exec (.Return (some e) pos) env) Q E s := wpAny_Return_some h
theorem f_Tuple {elts : List PySem.Expr} {k : Nat} {pos : Pos} {Q : Value → Shared → Prop}
    (h : let q := Q; wpAny M A (spliced (backTo pos (starEach elts env))) (fun vs s₁ => wpAny M A (newTuple vs) q E s₁) E s) : wpAny M A (eval (.Tuple elts k pos) env) Q E s := Tuple_ h
theorem f_List {elts : List PySem.Expr} {pos : Pos} {Q : Value → Shared → Prop}
    (h : let q := Q; wpAny M A (spliced (backTo pos (starEach elts env))) (fun vs s₁ => wpAny M A (newList vs) q E s₁) E s) : wpAny M A (eval (.List elts pos) env) Q E s := List_ h
theorem f_IfExp {test body orelse : PySem.Expr} {pos : Pos} {Q : Value → Shared → Prop}
    (h : let q := Q; wpAny M A (isTrue test env (eval test env)) (fun c s₂ => if c then wpAny M A (eval body env) q E s₂ else wpAny M A (eval orelse env) q E s₂) E s) : wpAny M A (eval (.IfExp test body orelse pos) env) Q E s := IfExp_ h
end
section
variable {M : Model} {A : Around} {E : Value → Shared → Prop} {s : Shared} {h₀ : Heap} {L a : Addr} {m : Str → Option Value} {cn : Str} {cs : Scope} {ccd : Value} {cl : List (Str × Addr)} {x : Str} {v : Value} {news : Ldg} {Q : Unit → Shared → Prop}
theorem f_store (F : Fr h₀ L s.heap m) (N : News h₀ L s.heap news)
    (h : let m' := fun y => if y = x then some v else m y; ∀ h', Fr h₀ L h' m' → News h₀ L h' news → Q () { s with heap := h', toks := s.toks + 1 })
    (hk : cs.kind = .function := by rfl) (hx : (envX cn cs L a ccd cl).kindOf x = some .local := by rfl) : wpAny M A (storeName (envX cn cs L a ccd cl) x v) Q E s :=
  storeX_L F N h hk hx
end
theorem room00 {a c l : Nat} (h : a + c < l) : a < l := Nat.lt_of_le_of_lt (Nat.le_add_right a c) h
theorem room0 {a b c l : Nat} (h : a + c < l) (hb : Nat.ble b c = true) : a + b < l := Nat.lt_of_le_of_lt (Nat.add_le_add_left (Nat.le_of_ble_eq_true hb) a) h
theorem room1 {a b c k l : Nat} (h : a + c < l) (hb : Nat.ble (k + b) c = true) : a + k + b < l := Nat.add_assoc a k b ▸ room0 h hb
theorem room2 {a b c k e l : Nat} (h : a + c < l) (hb : Nat.ble (k + b + e) c = true) : a + k + b + e < l := by
  have := room1 (k := k + b) (b := e) h hb
  rwa [← Nat.add_assoc] at this
theorem le_num {x c k : Nat} (h : x ≤ c) (hb : Nat.ble c k = true) : x ≤ k := Nat.le_trans h (Nat.le_of_ble_eq_true hb)
theorem eq_num {x c k : Nat} (h : x = c) (hb : Nat.ble c k = true) : x ≤ k := h ▸ Nat.le_of_ble_eq_true hb
theorem num_le {c k : Nat} (hb : Nat.ble c k = true) : c ≤ k := Nat.le_of_ble_eq_true hb
theorem num_lt {c k : Nat} (hb : Nat.ble (c + 1) k = true) : c < k := Nat.le_of_ble_eq_true hb
theorem map_same {m m' : Str → Option Value} : ∀ {names : List Str}, names.map m = names.map m' → ∀ n ∈ names, m n = m' n
  | [], _, _, h => nomatch h
  | n :: names, e, k, h => by
    simp only [List.map_cons, List.cons.injEq] at e
    rcases List.mem_cons.mp h with rfl | h
    · exact e.1
    · exact map_same e.2 k h
def SameOut (names : List Str) (m b : Str → Option Value) : Prop := ∀ y, y ∉ names → m y = b y
theorem SameOut.both {names : List Str} {m m' b : Str → Option Value} (h : SameOut names m b) (h' : SameOut names m' b) : ∀ y, y ∉ names → m y = m' y := fun y hy => (h y hy).trans (h' y hy).symm
theorem SameOut.upd {names : List Str} {m b : Str → Option Value} {k : Str} {v : Option Value} (h : SameOut names m b) (hk : names.contains k = true) : SameOut names (fun y => if y = k then v else m y) b :=
  fun y hy => (if_neg (ne_of_out hy hk)).trans (h y hy)
theorem SameOut.lookup {names : List Str} {l : List (Str × Value)} (ha : (l.map (·.1)).all (fun k => names.contains k) = true) : SameOut names (fun y => List.lookup y l) (fun _ => none) :=
  fun _ hy => lookup_out ha hy
theorem SameOut.skip {names : List Str} {m b : Str → Option Value} {k : Str} {v : Option Value} (h : SameOut names m b) : SameOut names (fun y => if y = k then v else m y) (fun y => if y = k then v else b y) :=
  fun y hy => by by_cases e : y = k <;> simp [e] <;> first | exact h y hy | skip
theorem SameOut.refl {names : List Str} {m : Str → Option Value} : SameOut names m m := fun _ _ => rfl
end Mine
end
section
open PySem PySem.W PyProof.Rows PySem.Spec PySem.Calls
open Builtin Builtin.Str Builtin.BaseException Builtin.Exceptions
set_option Elab.async false
set_option maxRecDepth 100000
set_option maxHeartbeats 4000000
set_option linter.all false
namespace Mine
theorem bs_kind : builtinKind "BaseException.__str__" = some .slot := by decide +kernel
theorem bs_split : splitId "BaseException.__str__" = some ("BaseException", "__str__") := by decide +kernel
theorem bs_plain : plainId "BaseException.__str__" = true := by decide +kernel
section
variable {prog : Program} {w : World} {A : Around} {E : Value → Shared → Prop} {s : Shared} {e t C L : Addr} {h₀ : Heap} {news : List (Addr × Obj)} {K : Frag} {m : PySem.Str} {u : Tok}
theorem bexcArgs_got {M : Model} {items : List Value} {Q : Value × List Value → Shared → Prop} (N : News h₀ L s.heap news) (G : Got news e t (.ref C) items) (hq : Q (.ref t, items) s) :
    wpAny M A (bexcArgs (.ref e)) Q E s := by
  obtain ⟨oe, ot, ws, nt, h1, h2, _, hd, h0, _, htd⟩ := G
  unfold bexcArgs
  refine wpAny_bind (wpAny_field (N _ h1).1 hd h0 (wpAny_bind (wpAny_seqItems (N _ h2).1 htd ?_)))
  have : items.toArray.toList = items := by simp
  show wpAny M A (pure (Value.ref t, items.toArray.toList)) Q E s
  rw [this]; exact wpAny_pure hq
theorem bexcStr_got {Q : Fin → Shared → Prop} (N : News h₀ L s.heap news) (G : Got news e t (.ref C) [.str m u]) (hq : Q (.done (.ret (.str m u))) s) :
    wpAny (model prog w) A (Builtin.«BaseException.__str__» ⟨[.ref e], []⟩) Q E s := by
  unfold Builtin.«BaseException.__str__»
  repeat (first | with_reducible refine bexcArgs_got N G ?_ | wp_step)
  exact hq
theorem own_strOf {Q : Value → Shared → Prop} (hu : A.units < cLine) (X : K.In s.heap) (N : News h₀ L s.heap news) (G : Got news e t (.ref C) [.str m u])
    (hs : findIn K (.ref C) "__str__" = some (some (.builtin "BaseException.__str__"))) (hm : mroIn K C (.type "BaseException") = some true) (hq : Q (.str m u) s) :
    wpAny (model prog w) A (PySem.Builtin.Str.strOf (.ref e)) Q E s := by
  have G' := G
  obtain ⟨oe, ot, ws, nt, h1, h2, hc, _⟩ := G'
  have t1 : Looks (model prog w) s.heap (typeOf (.ref e)) (.ref C) := by
    rw [← hc]; exact (Looks.ld (N _ h1).1).andThen .now
  have t2 : Looks (model prog w) s.heap (isInstance (.ref e) (.type "BaseException")) true := t1.andThen (looks_mroIn X hm)
  unfold PySem.Builtin.Str.strOf
  rw [show isExactStr (.ref e) = false from rfl]
  refine wpAny_bind (m := cRoomFor _ _) (wpAny_cRoomFor hu ?_)
  refine wpAny_bind (m := callSpecial? (.ref e) (Str.ofString "__str__")) ?_
  refine wpAny_bind (wpAny_bind (t1.here ((looks_findIn X hs).here (wpAny_holding (wpAny_bind ?_)))))
  rw [PySem.F.excStr_ValueError.str.bind]
  refine wpAny_pure (wpAny_bind ?_)
  refine wpAny_call (codeAny_call_builtin bs_plain F.entry_bexc_str (@check_slot (model prog w) _ _ _ "BaseException.__str__" "BaseException" "__str__" (.ref e) [] [] _ bs_kind bs_split t2 (F.args_bexc_str (.ref e)) ?_))
  refine bexcStr_got N G ?_
  exact wpAny_pure (wpAny_pure hq)
theorem str_own {Q : Value → Shared → Prop} (hu : A.in1.in1.units < cLine) (X : K.In s.heap) (N : News h₀ L s.heap news) (G : Got news e t (.ref C) [.str m u])
    (hs : findIn K (.ref C) "__str__" = some (some (.builtin "BaseException.__str__"))) (hm : mroIn K C (.type "BaseException") = some true) (hq : Q (.str m u) s) :
    wpAny (model prog w) A (call (.type "str") [.ref e]) Q E s := by
  refine callType_codes (T := "str") (Bi := Builtin.«object.__init__») (Q₁ := fun r s₁ => ∃ y u, r = .str y u ∧ Q r s₁) PySem.F.called_str (PySem.F.typeCall_str_1 _) PySem.F.entry_object_init ?_ ?_
  · refine codeAny_of_tree ?_
    show wpAny _ A.in1.in1 (do checkBuiltinCall "str.__new__" ⟨[.type "str", .ref e], []⟩; again (.builtin "str.__new__" ⟨[.type "str", .ref e], []⟩)) _ _ s
    refine wpAny_bind (wpAny_of_eq (PySem.F.newCall_str_1 _) (wpAny_pure ⟨plainId_quiet (by decide +kernel) _, codeAny_builtin PySem.F.entry_str_new ?_⟩))
    rw [Around.under_plainId (by decide +kernel) _]
    rw [str_new_tree]
    refine wpAny_bind (wpAny_pure ?_)
    refine wpAny_bind (wpAny_of_eq isSubtype_str_str ?_)
    exact wpAny_bind (own_strOf hu X N G hs hm (wpAny_pure ⟨_, _, rfl, hq⟩))
  · rintro obj s₁ ⟨y, u, rfl, hq⟩
    exact ⟨typeIs_str _ _ _, PySem.F.args_object_init_2 _ _, object_init_meets PySem.F.called_str.init.lookup PySem.F.called_str.made (by decide) prog w A.in1 _ s₁ ⟨typeIs_str _ _ _, rfl, hq⟩⟩
end
end Mine
end
section
open PySem PySem.W PyProof.Rows PySem.Spec PySem.Calls
set_option Elab.async false
set_option maxRecDepth 100000
set_option maxHeartbeats 4000000
set_option linter.all false
namespace Mine
section
variable {prog : Program} {w : World} {A : Around} {E : Value → Shared → Prop} {s : Shared}
def TokGe {α : Type} (n : Nat) (Q : α → Shared → Prop) (a : α) (s' : Shared) : Prop := n ≤ s'.toks → Q a s'
theorem tok_wrap {α : Type} {t : Sem α} {Q : α → Shared → Prop} {n : Nat} (hn : n ≤ s.toks) (h : wpAny (model prog w) A t (TokGe n Q) E s) : wpAny (model prog w) A t Q E s :=
  wpAny_with_toks hn (wpAny_mono h (fun _ _ x => x) fun _ _ x _ => x)
end
theorem add_lb {prog : Program} {w : World} {A : Around} {E : Value → Shared → Prop} {s : Shared} {x y : PStr} {t u : Tok} {Q : Value → Shared → Prop} {K L : Nat} (hx : x.length ≤ K) (hy : y.length ≤ L) (hs : K + L ≤ 16777216)
    (h : ∀ t' k, s.toks ≤ k → x.length + y.length ≤ (x ++ y).length ∧ (x ++ y).length ≤ x.length + y.length → Q (.str (x ++ y) t') { s with toks := k }) : wpAny (model prog w) A (binaryOp .Add (.str x t) (.str y u)) Q E s :=
  wpAny_with_toks (Nat.le_refl _) (wpAny_mono (KXadd.add (t := t) (u := u) (Q := fun v s' => s.toks ≤ s'.toks → Q v s') (E := E) hx hy hs fun t' k hl hk => h t' k hk hl) (fun _ _ x => x) fun _ _ x _ => x)
theorem replace_len (x y z : PStr) : (Txt.replace x y z).length ≤ x.length + (x.length + 1) * z.length := by
  have h1 := StrLaws.occ_length_le x y 0 x.length (x.length + 1)
  have hy : (Builtin.Str.glued y (Builtin.Str.partsBetween x (Builtin.Str.occurrences x y 0 x.length (x.length + 1)) y.length)).length = x.length := by rw [StrLaws.glued_between_self]
  rw [size_glued, length_partsBetween, Nat.add_sub_cancel] at hy
  have h2 : (Builtin.Str.occurrences x y 0 x.length (x.length + 1)).length * z.length ≤ (x.length + 1) * z.length := Nat.mul_le_mul_right _ h1
  unfold Txt.replace
  split
  · omega
  · rw [size_glued, length_partsBetween, Nat.add_sub_cancel]
    omega
theorem replace_small {prog : Program} {w : World} {A : Around} {E : Value → Shared → Prop} {s : Shared} {x y z : PStr} {t u v : Tok} {Q : Value → Shared → Prop} (hu : u ≠ 0) (hv : v ≠ 0) (huv : u ≠ v) (hyz : (y == z) = false) (hx : x.length ≤ 40) (hz : z.length ≤ 10)
    (hq : ∀ t' k, (Txt.replace x y z).length ≤ 450 → Q (.str (Txt.replace x y z) t') { s with toks := k }) : wpAny (model prog w) A (call (.builtin "str.replace") [.str x t, .str y u, .str z v]) Q E s :=
  SC.replaceW hu hv huv hyz (by omega) (by omega) fun t' k => hq t' k (by
    have h1 := replace_len x y z
    have h2 : (x.length + 1) * z.length ≤ 41 * 10 := Nat.mul_le_mul (by omega) hz
    omega)
def IsTxt (g e : PStr) : Prop := g = e
theorem IsTxt.eq {g e : PStr} (h : IsTxt g e) : g = e := h
def go257 (r : PStr) : Nat → Nat → PStr → PStr
  | 0, _, d => d
  | f + 1, i, d => if i < r.length then
      if (Txt.item r i == Str.ofString "\"") = true then
        if i + 1 < r.length then
          if (Txt.item r ((i : Int) + 1) != Str.ofString "\"") = true then d else go257 r f (i + 2) (d ++ Txt.item r i)
        else d
      else go257 r f (i + 1) (d ++ Txt.item r i)
    else d
theorem go_fuel {r : PStr} : ∀ (f f' i : Nat) (d : PStr), r.length - i ≤ f → r.length - i ≤ f' → go257 r f i d = go257 r f' i d
  | 0, 0, _, _, _, _ => rfl
  | 0, f' + 1, i, d, h, _ => by simp only [go257]; rw [if_neg (Nat.not_lt.mpr (Nat.le_of_sub_eq_zero (Nat.le_zero.mp h)))]
  | f + 1, 0, i, d, _, h => by simp only [go257]; rw [if_neg (Nat.not_lt.mpr (Nat.le_of_sub_eq_zero (Nat.le_zero.mp h)))]
  | f + 1, f' + 1, i, d, h, h' => by
    simp only [go257]
    rw [go_fuel f f' (i + 2) _ (sub_two_le h) (sub_two_le h'), go_fuel f f' (i + 1) _ (sub_one_le h) (sub_one_le h')]
section
variable {r d : PStr} {i : Nat}
theorem go_at (h : i < r.length) : go257 r (r.length - i) i d = if (Txt.item r i == Str.ofString "\"") = true then
        if i + 1 < r.length then
          if (Txt.item r ((i : Int) + 1) != Str.ofString "\"") = true then d else go257 r (r.length - (i + 2)) (i + 2) (d ++ Txt.item r i)
        else d
      else go257 r (r.length - (i + 1)) (i + 1) (d ++ Txt.item r i) := by
  obtain ⟨f, hf⟩ : ∃ f, r.length - i = f + 1 := Nat.exists_eq_succ_of_ne_zero (Nat.sub_ne_zero_of_lt h)
  rw [hf]
  simp only [go257]
  rw [if_pos h, go_fuel f (r.length - (i + 2)) (i + 2) _ (sub_two_le (Nat.le_of_eq hf)) (Nat.le_refl _), go_fuel f (r.length - (i + 1)) (i + 1) _ (sub_one_le (Nat.le_of_eq hf)) (Nat.le_refl _)]
theorem go_stop1 (h : (i : Int) < r.length) (q : (Txt.item r i == Str.ofString "\"") = true) (h2 : (r.length : Int) ≤ (i : Int) + 1) : go257 r (r.length - i) i d = d := by
  rw [go_at (Int.ofNat_lt.mp h), if_pos q, if_neg (Nat.not_lt.mpr (Int.ofNat_le.mp h2))]
theorem go_stop2 (h : (i : Int) < r.length) (q : (Txt.item r i == Str.ofString "\"") = true) (h2 : ¬ (r.length : Int) ≤ (i : Int) + 1) (q2 : (Txt.item r ((i : Int) + 1) != Str.ofString "\"") = true) : go257 r (r.length - i) i d = d := by
  rw [go_at (Int.ofNat_lt.mp h), if_pos q, if_pos (Nat.lt_of_not_le fun z => h2 (Int.ofNat_le.mpr z)), if_pos q2]
theorem go_pair (h : (i : Int) < r.length) (q : (Txt.item r i == Str.ofString "\"") = true) (h2 : ¬ (r.length : Int) ≤ (i : Int) + 1) (q2 : (Txt.item r ((i : Int) + 1) != Str.ofString "\"") = false) :
    go257 r (r.length - i) i d = go257 r (r.length - (i + 2)) (i + 2) (d ++ Txt.item r i) := by
  rw [go_at (Int.ofNat_lt.mp h), if_pos q, if_pos (Nat.lt_of_not_le fun z => h2 (Int.ofNat_le.mpr z)), if_neg (Bool.eq_false_iff.mp q2)]
theorem go_plain (h : (i : Int) < r.length) (q : (Txt.item r i == Str.ofString "\"") = false) : go257 r (r.length - i) i d = go257 r (r.length - (i + 1)) (i + 1) (d ++ Txt.item r i) := by
  rw [go_at (Int.ofNat_lt.mp h), if_neg (Bool.eq_false_iff.mp q)]
theorem go_end (h : ¬ (i : Int) < r.length) : go257 r (r.length - i) i d = d := by rw [Nat.sub_eq_zero_of_le (Nat.not_lt.mp fun q => h (Int.ofNat_lt.mpr q))]; rfl
end
theorem whlFr_brk {ι : Type} {μ : ι → Nat} {C : ι → Prop} {M : ι → Str → Option Value} {Nw : ι → Ldg} {g : Heap} {L : Addr} {i : ι} {s s' : Shared} {Q : Flow → Shared → Prop} (h : Q .next s') : WhlFr μ C M Nw g L i s Q .brk s' := h
def p257 (r : PStr) : Except (EK × PStr) PStr :=
  if (Txt.slice r none (some 3) != Str.ofString "257") = true then .error (.reply, r) else
  if (Txt.slice r (some 3) (some 5) != Str.ofString " \"") = true then .ok Str.empty else
  .ok (go257 r (r.length - 5) 5 Str.empty)
end Mine
end
section
open PySem PySem.W PyProof.Rows PySem.Spec PySem.Calls
set_option Elab.async false
set_option maxRecDepth 100000
set_option maxHeartbeats 4000000
set_option linter.all false
namespace Mine
section
variable {M : Model} {prog : Program} {w : World} {A : Around} {E : Value → Shared → Prop} {s : Shared} {K : Frag} {env : Env} {pos p : Pos} {f : Value} {first : List Value} {Q : Value → Shared → Prop} {h₀ : Heap} {e : PySem.Expr} {rest : List PySem.Expr}
theorem callWith_K_C (_X : K.In h₀) (hk : keepIn K f = true) (h : wpAny M A (spliced (backTo pos (starEach (e :: rest) env))) (fun vs s₁ => K.In s₁.heap ∧ wpC M A (call f (first ++ vs)) Q E s₁) E s)
    (he : starEach (e :: rest) env = (false, eval e env) :: starEach rest env := by rfl) (hplain : (backTo pos (starEach rest env)).any (·.1) = false := by rfl) :
    wpC M A (callWith pos f first (backTo pos (starEach (e :: rest) env)) []) Q E s := by
  rw [he] at h ⊢
  exact callWith_C (by show ((false || (backTo pos (starEach rest env)).any (·.1)) || false) = false; rw [hplain]; rfl) (keeps_K hk) (wpC_any (evalArgs_plain h))
theorem callWith_KW_C {kws : List Keyword} (_X : K.In h₀) (hk : keepIn K f = true) (hall : (backToKw pos (keywordEach kws env)).all (·.1.isSome) = true)
    (h : wpAny M A (spliced (backTo pos (starEach (e :: rest) env))) (fun vs s₁ => wpAny M A (evalAll ((backToKw pos (keywordEach kws env)).map (·.2)))
      (fun ks s₂ => K.In s₂.heap ∧ wpC M A (call f (first ++ vs) (((backToKw pos (keywordEach kws env)).filterMap (·.1)).zip ks)) Q E s₂) E s₁) E s)
    (hplain : ((backTo pos (starEach (e :: rest) env)).any (·.1) || (backToKw pos (keywordEach kws env)).any (·.1.isNone)) = false := by rfl) (he : starEach (e :: rest) env = (false, eval e env) :: starEach rest env := by rfl) :
    wpC M A (callWith pos f first (backTo pos (starEach (e :: rest) env)) (backToKw pos (keywordEach kws env))) Q E s :=
  callWith_C hplain (keeps_K hk) (wpC_any (evalArgs_kw2 hall h he))
theorem looks_type {h : Heap} {T : String} : ∃ k, (k = Keeper.frame ∨ k = Keeper.machine ∨ k = Keeper.boundFrame) ∧ Looks M h (keeperOf (.type T)) k := ⟨.machine, .inr (.inl rfl), .now⟩
theorem callWith_type1_C {T : String}
    (h : wpAny M A (spliced (backTo pos (starEach (e :: rest) env))) (fun vs s₁ => wpC M A (call (.type T) (first ++ vs)) Q E s₁) E s)
    (he : starEach (e :: rest) env = (false, eval e env) :: starEach rest env := by rfl) (hplain : (backTo pos (starEach rest env)).any (·.1) = false := by rfl) :
    wpC M A (callWith pos (.type T) first (backTo pos (starEach (e :: rest) env)) []) Q E s := by
  rw [he] at h ⊢
  exact callWith_C (P := fun _ => True) (by show ((false || (backTo pos (starEach rest env)).any (·.1)) || false) = false; rw [hplain]; rfl) (fun _ _ => looks_type)
    (wpC_any (evalArgs_plain (wpAny_mono h (fun vs s₁ h₁ => ⟨True.intro, h₁⟩) fun _ _ x => x)))
theorem call_name_C {x : PStr} {args : List PySem.Expr} (h : wpAny M A (eval (.Name x p) env) (fun f s₁ => wpC M A (callWith pos f [] (backTo pos (starEach args env)) []) Q E s₁) E s) :
    wpC M A (eval (.Call (.Name x p) args [] pos) env) Q E s := evalCall_C h
theorem call_name_KW_C {x : PStr} {args : List PySem.Expr} {kws : List Keyword} (h : wpAny M A (eval (.Name x p) env) (fun f s₁ => wpC M A (callWith pos f [] (backTo pos (starEach args env)) (backToKw pos (keywordEach kws env))) Q E s₁) E s) :
    wpC M A (eval (.Call (.Name x p) args kws pos) env) Q E s := evalCall_C h
end
theorem p229_val {r msg x : PStr} (hval : p229 r = .error (.value, msg)) (e : p229 r = match PySem.intText? x with | some n => .ok n | none => .error (.value, intRefusal x)) : PySem.intText? x = none ∧ msg = intRefusal x := by
  rw [e] at hval
  cases q : PySem.intText? x with
  | some n => rw [q] at hval; cases hval
  | none => rw [q] at hval; cases hval; exact ⟨rfl, rfl⟩
theorem val_not {r msg : PStr} {k : EK} {t : PStr} (hval : p229 r = .error (.value, msg)) (e : p229 r = .error (k, t)) (hk : k ≠ .value) : False := by
  rw [e] at hval; cases hval; exact hk rfl
def p229part (r : PStr) : PStr := (Txt.split (p229in r) (Txt.item r (Txt.find r (Str.ofString "(") + 1))).getD 3 Str.empty
structure RepOk (r : PStr) : Prop where
  len : (PySem.reprText (p229part r)).length ≤ 10000
theorem RepOk.part {r : PStr} (h : RepOk r) {l : List (PStr × Tok)} (hp : l.map (·.1) = Txt.split (p229in r) (Txt.item r (Txt.find r (Str.ofString "(") + 1))) : (PySem.reprText ((l.map (·.1)).getD (Int.toNat 3) Str.empty)).length ≤ 10000 := by
  rw [hp]; exact h.len
end Mine
end
section
open PySem PySem.W PyProof.Rows PySem.Spec PySem.Calls
set_option Elab.async false
set_option maxRecDepth 100000
set_option maxHeartbeats 4000000
set_option linter.all false
namespace Mine
section
variable {M : Model} {A : Around} {E : Value → Shared → Prop} {s : Shared} {env : Env} {pos p : Pos} {f : Value} {first : List Value} {Q : Value → Shared → Prop} {e e2 : PySem.Expr} {rest : List PySem.Expr}
theorem callWith_args_C {kws : List (Option Str × Sem Value)} (h : wpAny M A (eval e env) (fun _ s₁ => wpC M A (eval e2 env) (fun _ _ => False) E s₁) E s)
    (he : starEach (e :: e2 :: rest) env = (false, eval e env) :: (false, eval e2 env) :: starEach rest env := by rfl) :
    wpC M A (callWith pos f first (backTo pos (starEach (e :: e2 :: rest) env)) kws) Q E s := by
  rw [he]
  show wpC M A (callWith pos f first ((false, eval e env) :: (false, eval e2 env) :: backTo pos (starEach rest env)) kws) Q E s
  refine callWith_raises_C (evalArgs_raises_C ?_ rfl)
  refine spliced_C ?_
  exact wpC_any (wpAny_mono h (fun v s₁ h₁ => spliced_C (wpC_mono h₁ (fun _ _ x => x.elim) fun _ _ x => x)) fun _ _ x => x)
end
end Mine
end
section
open PySem PySem.W PyProof.Rows PySem.Spec PySem.Calls
set_option Elab.async false
set_option maxRecDepth 100000
set_option maxHeartbeats 4000000
set_option linter.all false
namespace Mine
section
variable {prog : Program} {w : World} {A : Around} {E : Value → Shared → Prop} {s : Shared} {h₀ : Heap} {L a b : Addr} {m : Str → Option Value} {news : Ldg} {vs ws : List Value} {e1 e2 : Nat} {Q : Value → Shared → Prop}
theorem add_listsN (F : Fr h₀ L s.heap m) (N : News h₀ L s.heap news) (ha : (a, lstOf vs e1) ∈ news) (hb : (b, lstOf ws e2) ∈ news) (hz : vs.length + ws.length ≤ 1000)
    (h : ∀ D h', Fr h₀ L h' m → News h₀ L h' ((D, lstOf (vs ++ ws) 0) :: news) → (∀ p ∈ news, p.1 < D) → Q (.ref D) { s with heap := h' }) : wpAny (model prog w) A (binaryOp .Add (.ref a) (.ref b)) Q E s :=
  add_lists F N (News.isList N ha) (News.isList N hb) (fun h' F' N' => h _ h' F' N' fun p hp => Heap.lt_size (N p hp).1) (Nat.le_trans (by simpa using hz) (by decide))
theorem add_listsA (F : Fr h₀ L s.heap m) (N : News h₀ L s.heap news) (ha : (a, lstOf vs e1) ∈ news) (hb : (b, lstOf ws e2) ∈ news) (hz : vs.length + ws.length ≤ 1000)
    (h : ∀ D h', Fr h₀ L h' m → News h₀ L h' ((D, lstOf (vs ++ ws) 0) :: news) → AllLt D news → Q (.ref D) { s with heap := h' }) : wpAny (model prog w) A (binaryOp .Add (.ref a) (.ref b)) Q E s :=
  add_listsN F N ha hb hz (fun D h' F' N' l1 => h D h' F' N' (allLt_of l1))
end
end Mine
end
section
open PySem PySem.W PyProof.Rows PySem.Spec PySem.Calls
set_option Elab.async false
set_option maxRecDepth 100000
set_option maxHeartbeats 4000000
set_option linter.all false
namespace Mine
noncomputable def TurnFr {ι : Type} (C : ι → Prop) (M : ι → Str → Option Value) (Nw : ι → Ldg) (own : Addr × Obj) (g : Heap) (L : Addr) (s : Shared) (Q : Flow → Shared → Prop) (f : Flow) (s' : Shared) : Prop :=
  match f with
  | .next | .cont => ∃ σ h' tk', s' = { s with heap := h', toks := tk' } ∧ C σ ∧ Fr g L h' (M σ) ∧ News g L h' (own :: Nw σ) ∧ ∀ p ∈ Nw σ, p.1 ≠ own.1
  | .brk => Q .next s'
  | .ret v => Q (.ret v) s'
theorem turnFr_next {ι : Type} {C : ι → Prop} {M : ι → Str → Option Value} {Nw : ι → Ldg} {own : Addr × Obj} {g h' : Heap} {L : Addr} {s : Shared} {Q : Flow → Shared → Prop} {tk : Nat} {M0 : Str → Option Value} {news0 : Ldg} (σ : ι) (names : List Str) (F : Fr g L h' M0) (N : News g L h' news0) (hc : C σ)
    (m1 : ∀ n ∈ names, M0 n = M σ n) (m2 : ∀ y, y ∉ names → M0 y = M σ y) (n0 : ∀ q ∈ own :: Nw σ, q ∈ news0) (hd : ∀ p ∈ Nw σ, p.1 ≠ own.1) : TurnFr C M Nw own g L s Q .next { s with heap := h', toks := tk } :=
  ⟨σ, h', tk, rfl, hc, fr_map names F m1 m2, fun q hq => N q (n0 q hq), hd⟩
theorem rangeSize_one (n : Nat) : Builtin.Range.rangeSize 0 (n : Int) 1 = (n : Int) := by
  unfold Builtin.Range.rangeSize
  split
  · split <;> omega
  · omega
section
variable {prog : Program} {w : World} {A : Around} {E : Value → Shared → Prop} {s : Shared} {env : Env} {h₀ : Heap} {body : List Stmt} {Q : Flow → Shared → Prop} {x : Str} {px : Pos} {m₀ : Str → Option Value} {news : Ldg}
theorem pyIter_rangeC {ι : Type} (C : Nat → ι → Prop) (M : Nat → ι → Str → Option Value) (Nw : Nat → ι → Ldg) (n : Nat) (σ₀ : ι) (names : List Str) {r : Addr} {t₀ u₀ v₀ : Tok} (F : Fr h₀ env.locals s.heap m₀) (N : News h₀ env.locals s.heap news)
    (hr : IsRange s.heap r 0 (n : Int) 1 t₀ u₀ v₀) (hh : A.handled = none) (hn : n ≤ 1000) (c0 : C 0 σ₀) (m1 : ∀ n ∈ names, m₀ n = M 0 σ₀ n) (m2 : ∀ y, y ∉ names → m₀ y = M 0 σ₀ y) (n0 : ∀ q ∈ Nw 0 σ₀, q ∈ news)
    (turn : ∀ i σ h tk t own, i < n → C i σ → (∀ p ∈ Nw i σ, p.1 ≠ own.1) → Fr h₀ env.locals h (M i σ) → News h₀ env.locals h (own :: Nw i σ) →
      wpAny (model prog w) A (assign (.Name x px) env (.int i t)) (fun _ s₃ => wpC (model prog w) A (execs body env) (TurnFr (C (i + 1)) (M (i + 1)) (Nw (i + 1)) own h₀ env.locals s Q) E s₃) E { s with heap := h, toks := tk })
    (done : ∀ σ h tk, C n σ → Fr h₀ env.locals h (M n σ) → News h₀ env.locals h (Nw n σ) → Q .next { s with heap := h, toks := tk }) :
    wpAny (model prog w) A (pyIter (.ref r)) (fun it s₂ => TurnsAtC prog w A h₀ env (.Name x px) body Q E it s₂) E s := by
  refine wpAny_pyIter_range hr (small_one (by omega) (by omega) (by omega) (by omega)) ?_
  rw [rangeSize_one]
  have hI := next_is_new F
  have hne : ∀ p ∈ Nw 0 σ₀, p.1 ≠ s.heap.objs.size := fun p hp => Nat.ne_of_lt (Heap.lt_size (N p (n0 p hp)).1)
  refine ⟨s.heap.objs.size, [s.heap.objs.size], [s.heap.objs.size], n, _, _, _, M 0 σ₀, Nw 0 σ₀, fun i m nx => ∃ σ, C i σ ∧ m = M i σ ∧ nx = Nw i σ, rfl, KTurns.ofWalks (LCg.range_walks hh 0 n) (fun i v s Q E _ h => wpAny_pure h), ?_, ?_, ?_, ?_, fr_map names (F.push _) m1 m2, ?_, ⟨σ₀, c0, rfl, rfl⟩, ?_, ?_⟩
  · intro hm
    exact absurd F.ns.lt ((List.mem_singleton.mp hm) ▸ Nat.lt_irrefl _)
  · intro b hb
    rw [List.mem_singleton.mp hb]; exact hI
  · intro p hp hq
    exact hne p hp (List.mem_singleton.mp hq)
  · show IsRangeIter _ _ _ _ _
    simpa using Heap.get?_push_size _ rfl
  · exact fun p hp => ⟨Heap.get?_push_of_some _ (N p (n0 p hp)).1, (N p (n0 p hp)).2⟩
  · rintro i v m₁ news₁ h₁ tk₁ own hi ⟨t, rfl⟩ ⟨σ, hc, rfl, rfl⟩ hw hfp hget hown hst F₁ N₁
    obtain ⟨oI, hIo⟩ : ∃ o, h₁.get? s.heap.objs.size = some o := ⟨_, hst⟩
    have hmem := hown s.heap.objs.size (List.mem_singleton.mpr rfl) hI _ hIo
    rw [Int.zero_add]
    refine wpAny_mono (turn i σ h₁ tk₁ t (s.heap.objs.size, oI) hi hc (fun p hp e => hw p hp (List.mem_singleton.mpr e)) F₁ (fun p hp => N₁ p (List.mem_append.mpr ?_))) (fun _ s₃ h₃ => wpC_mono h₃ (fun f s₄ h₄ => ?_) fun _ _ e => e) fun _ _ e => e
    · rcases List.mem_cons.mp hp with rfl | hp
      · exact .inl hmem
      · exact .inr hp
    · have fin : (∃ σ h' tk', s₄ = { s with heap := h', toks := tk' } ∧ C (i + 1) σ ∧ Fr h₀ env.locals h' (M (i + 1) σ) ∧ News h₀ env.locals h' ((s.heap.objs.size, oI) :: Nw (i + 1) σ) ∧ ∀ p ∈ Nw (i + 1) σ, p.1 ≠ s.heap.objs.size) → _ := fun ⟨σ', h', tk', e, c', F', N', hd⟩ =>
        (⟨rfl, h', tk', M (i + 1) σ', Nw (i + 1) σ', e, F', fun p hp => by
          rcases List.mem_append.mp hp with hp | hp
          · have e1 := List.mem_singleton.mp (hfp p hp)
            have e2 := hget p hp
            rw [e1, hIo] at e2
            have e3 : p = (s.heap.objs.size, p.2) := by rw [← e1]
            rw [e3, ← Option.some.inj e2]
            exact N' _ (.head _)
          · exact N' _ (.tail _ hp), fun p hp hq => hd p hp (List.mem_singleton.mp hq), σ', c', rfl, rfl⟩ : LoopStepU h₀ env.locals [s.heap.objs.size] own (fun m nx => ∃ σ, C (i + 1) σ ∧ m = M (i + 1) σ ∧ nx = Nw (i + 1) σ) { s with heap := h₁, toks := tk₁ } .next s₄)
      cases f with
      | ret v => exact h₄
      | brk => exact h₄
      | next => exact .next (fin h₄)
      | cont => exact .cont (fin h₄)
  · rintro h' tk m' news' F' N' _ ⟨σ, hc, rfl, rfl⟩
    exact done σ h' tk hc F' N'
theorem pyIter_rangeA {ι : Type} (C : Nat → ι → Prop) (M : Nat → ι → Str → Option Value) (Nw : Nat → ι → Ldg) (n : Nat) (σ₀ : ι) (names : List Str) {r : Addr} {t₀ u₀ v₀ : Tok} (F : Fr h₀ env.locals s.heap m₀) (N : News h₀ env.locals s.heap news)
    (hr : IsRange s.heap r 0 (n : Int) 1 t₀ u₀ v₀) (hh : A.handled = none) (hn : n ≤ 1000) (c0 : C 0 σ₀) (m1 : ∀ n ∈ names, m₀ n = M 0 σ₀ n) (m2 : ∀ y, y ∉ names → m₀ y = M 0 σ₀ y) (n0 : ∀ q ∈ Nw 0 σ₀, q ∈ news)
    (turn : ∀ i σ h tk t own, i < n → C i σ → (∀ p ∈ Nw i σ, p.1 ≠ own.1) → Fr h₀ env.locals h (M i σ) → News h₀ env.locals h (own :: Nw i σ) →
      wpAny (model prog w) A (assign (.Name x px) env (.int i t)) (fun _ s₃ => wpAny (model prog w) A (execs body env) (TurnFr (C (i + 1)) (M (i + 1)) (Nw (i + 1)) own h₀ env.locals s Q) E s₃) E { s with heap := h, toks := tk })
    (done : ∀ σ h tk, C n σ → Fr h₀ env.locals h (M n σ) → News h₀ env.locals h (Nw n σ) → Q .next { s with heap := h, toks := tk }) :
    wpAny (model prog w) A (pyIter (.ref r)) (fun it s₂ => TurnsAt prog w A h₀ env (.Name x px) body Q E it s₂) E s := by
  refine wpAny_pyIter_range hr (small_one (by omega) (by omega) (by omega) (by omega)) ?_
  rw [rangeSize_one]
  have hI := next_is_new F
  have hne : ∀ p ∈ Nw 0 σ₀, p.1 ≠ s.heap.objs.size := fun p hp => Nat.ne_of_lt (Heap.lt_size (N p (n0 p hp)).1)
  refine ⟨s.heap.objs.size, [s.heap.objs.size], [s.heap.objs.size], n, _, _, _, M 0 σ₀, Nw 0 σ₀, fun i m nx => ∃ σ, C i σ ∧ m = M i σ ∧ nx = Nw i σ, rfl, KTurns.ofWalks (LCg.range_walks hh 0 n) (fun i v s Q E _ h => wpAny_pure h), ?_, ?_, ?_, ?_, fr_map names (F.push _) m1 m2, ?_, ⟨σ₀, c0, rfl, rfl⟩, ?_, ?_⟩
  · intro hm
    exact absurd F.ns.lt ((List.mem_singleton.mp hm) ▸ Nat.lt_irrefl _)
  · intro b hb
    rw [List.mem_singleton.mp hb]; exact hI
  · intro p hp hq
    exact hne p hp (List.mem_singleton.mp hq)
  · show IsRangeIter _ _ _ _ _
    simpa using Heap.get?_push_size _ rfl
  · exact fun p hp => ⟨Heap.get?_push_of_some _ (N p (n0 p hp)).1, (N p (n0 p hp)).2⟩
  · rintro i v m₁ news₁ h₁ tk₁ own hi ⟨t, rfl⟩ ⟨σ, hc, rfl, rfl⟩ hw hfp hget hown hst F₁ N₁
    obtain ⟨oI, hIo⟩ : ∃ o, h₁.get? s.heap.objs.size = some o := ⟨_, hst⟩
    have hmem := hown s.heap.objs.size (List.mem_singleton.mpr rfl) hI _ hIo
    rw [Int.zero_add]
    refine wpAny_mono (turn i σ h₁ tk₁ t (s.heap.objs.size, oI) hi hc (fun p hp e => hw p hp (List.mem_singleton.mpr e)) F₁ (fun p hp => N₁ p (List.mem_append.mpr ?_))) (fun _ s₃ h₃ => wpAny_mono h₃ (fun f s₄ h₄ => ?_) fun _ _ e => e) fun _ _ e => e
    · rcases List.mem_cons.mp hp with rfl | hp
      · exact .inl hmem
      · exact .inr hp
    · have fin : (∃ σ h' tk', s₄ = { s with heap := h', toks := tk' } ∧ C (i + 1) σ ∧ Fr h₀ env.locals h' (M (i + 1) σ) ∧ News h₀ env.locals h' ((s.heap.objs.size, oI) :: Nw (i + 1) σ) ∧ ∀ p ∈ Nw (i + 1) σ, p.1 ≠ s.heap.objs.size) → _ := fun ⟨σ', h', tk', e, c', F', N', hd⟩ =>
        (⟨rfl, h', tk', M (i + 1) σ', Nw (i + 1) σ', e, F', fun p hp => by
          rcases List.mem_append.mp hp with hp | hp
          · have e1 := List.mem_singleton.mp (hfp p hp)
            have e2 := hget p hp
            rw [e1, hIo] at e2
            have e3 : p = (s.heap.objs.size, p.2) := by rw [← e1]
            rw [e3, ← Option.some.inj e2]
            exact N' _ (.head _)
          · exact N' _ (.tail _ hp), fun p hp hq => hd p hp (List.mem_singleton.mp hq), σ', c', rfl, rfl⟩ : LoopStepU h₀ env.locals [s.heap.objs.size] own (fun m nx => ∃ σ, C (i + 1) σ ∧ m = M (i + 1) σ ∧ nx = Nw (i + 1) σ) { s with heap := h₁, toks := tk₁ } .next s₄)
      cases f with
      | ret v => exact h₄
      | brk => exact h₄
      | next => exact .next (fin h₄)
      | cont => exact .cont (fin h₄)
  · rintro h' tk m' news' F' N' _ ⟨σ, hc, rfl, rfl⟩
    exact done σ h' tk hc F' N'
end
end Mine
end
section
open PySem PySem.W PyProof.Rows PySem.Spec PySem.Calls
set_option Elab.async false
set_option maxRecDepth 100000
set_option maxHeartbeats 4000000
set_option linter.all false
namespace Mine
theorem str_toList (a b : PStr) : (a ++ b).cps.toList = a.cps.toList ++ b.cps.toList := by
  show (a.cps ++ b.cps).toList = _
  rw [Array.toList_append]
abbrev q257 : PStr := Str.ofString "257 \""
theorem q257_list : q257.cps.toList = [50, 53, 55, 32, 34] := by decide +kernel
theorem q257_take {t : PStr} : Txt.slice (q257 ++ t) none (some 3) = Str.ofString "257" := by
  have h := StrLaws.sliceText_to (x := q257 ++ t) (j := 3) ⟨by decide, by rw [str_toList, q257_list]; simp only [List.length_append, List.length_cons, List.length_nil]; omega⟩
  refine (show Txt.slice (q257 ++ t) none (some 3) = _ from h).trans ?_
  rw [str_toList, q257_list]
  show (⟨([50, 53, 55] : List Nat).toArray⟩ : PStr) = _
  decide +kernel
theorem q257_mid {t : PStr} : Txt.slice (q257 ++ t) (some 3) (some 5) = Str.ofString " \"" := by
  have h := StrLaws.sliceText_plain (x := q257 ++ t) (i := 3) (j := 5) ⟨by decide, by decide, by rw [str_toList, q257_list]; simp only [List.length_append, List.length_cons, List.length_nil]; omega⟩
  refine (show Txt.slice (q257 ++ t) (some 3) (some 5) = _ from h).trans ?_
  rw [str_toList, q257_list]
  show (⟨([32, 34] : List Nat).toArray⟩ : PStr) = _
  decide +kernel
noncomputable def quo (t : PStr) : PStr := go257 (q257 ++ t) t.length 5 Str.empty
theorem q257_len (t : PStr) : (q257 ++ t).length = 5 + t.length := (PySem.Str.length_append _ _).trans (by rw [show q257.length = 5 by decide +kernel])
theorem p257_quo (t : PStr) : p257 (q257 ++ t) = .ok (quo t) := by
  unfold p257
  rw [q257_take, q257_mid, if_neg (by simp), if_neg (by simp), q257_len, Nat.add_sub_cancel_left]
  rfl
end Mine
end
section
open PySem PySem.W PyProof.Rows PySem.Spec PySem.Calls
set_option Elab.async false
set_option maxRecDepth 100000
set_option maxHeartbeats 4000000
set_option linter.all false
namespace Mine
theorem intsAre_append : ∀ {vs ws : List Value} {ns ms : List Int}, IntsAre vs ns → IntsAre ws ms → IntsAre (vs ++ ws) (ns ++ ms)
  | _, _, _, _, .nil, h => h
  | _, _, _, _, .cons a t r, h => .cons a t (intsAre_append r h)
theorem kms_from {vs : List Value} {x : Int} (h : 0 ≤ x) : kms_pick vs (some x) none = vs.drop x.toNat := by
  unfold kms_pick kms_lo kms_hi
  simp only [if_neg (show ¬ x < 0 by omega)]
  by_cases hl : x.toNat ≤ vs.length
  · rw [Nat.min_eq_left hl, List.take_of_length_le (by rw [List.length_drop]; exact Nat.le_refl _)]
  · rw [Nat.min_eq_right (by omega), List.drop_eq_nil_of_le (Nat.le_refl _), List.drop_eq_nil_of_le (by omega), List.take_nil]
section
variable {prog : Program} {w : World} {A : Around} {E : Value → Shared → Prop} {s : Shared} {h₀ : Heap} {L l : Addr} {m : Str → Option Value} {news : Ldg} {vs zs : List Value} {ep : Nat} {Q : Value → Shared → Prop} {value slice : PySem.Expr} {vl vu : Value} {lo hi : Option Int}
theorem slice_L (F : Fr h₀ L s.heap m) (N : News h₀ L s.heap news) (hl : (l, lstOf vs ep) ∈ news) (pl : IsPart vl lo) (pu : IsPart vu hi) (hz : vs.length ≤ 1000) (e : kms_pick vs lo hi = zs)
    (h : ∀ D h', Fr h₀ L h' m → News h₀ L h' ((D, lstOf zs 0) :: news) → (∀ p ∈ news, p.1 < D) → Q (.ref D) { s with heap := h' })
    (hs : subscripted slice false (.ref l) (.ref s.heap.objs.size) = operate [.ref s.heap.objs.size, .ref l] (getItem (.ref l) (.ref s.heap.objs.size)) := by with_unfolding_all rfl) :
    wpAny (model prog w) A (subscriptTail value slice (.ref l) (.ref s.heap.objs.size)) Q E { s with heap := s.heap.push { cls := .type "slice", data := .fields #[vl, vu, .none] } } :=
  kba_turn (value' := PySem.Expr.Name (Str.ofString "_") ⟨0, 0, 0, 0⟩) (fun _ => rfl) (kms_slice_lit F N (News.isList N hl) pl pu (by simpa using e) h hs (fun _ => rfl) (Nat.le_trans (by simpa using hz) (by decide)))
theorem slice_LA (F : Fr h₀ L s.heap m) (N : News h₀ L s.heap news) (hl : (l, lstOf vs ep) ∈ news) (pl : IsPart vl lo) (pu : IsPart vu hi) (hz : vs.length ≤ 1000) (e : kms_pick vs lo hi = zs)
    (h : ∀ D h', Fr h₀ L h' m → News h₀ L h' ((D, lstOf zs 0) :: news) → AllLt D news → Q (.ref D) { s with heap := h' })
    (hs : subscripted slice false (.ref l) (.ref s.heap.objs.size) = operate [.ref s.heap.objs.size, .ref l] (getItem (.ref l) (.ref s.heap.objs.size)) := by with_unfolding_all rfl) :
    wpAny (model prog w) A (subscriptTail value slice (.ref l) (.ref s.heap.objs.size)) Q E { s with heap := s.heap.push { cls := .type "slice", data := .fields #[vl, vu, .none] } } :=
  slice_L F N hl pl pu hz e (fun D h' F' N' l1 => h D h' F' N' (allLt_of l1)) hs
end
end Mine
end
section
open PySem PySem.W PyProof.Rows PySem.Spec PySem.Calls
set_option Elab.async false
set_option maxRecDepth 100000
set_option maxHeartbeats 4000000
set_option linter.all false
namespace Mine
theorem news_sub {h₀ h : Heap} {L : Addr} {l l' : Ldg} (N : News h₀ L h l) (s : ∀ p ∈ l', p ∈ l) : News h₀ L h l' := fun p hp => N p (s p hp)
section
variable {prog : Program} {w : World} {A : Around} {E : Value → Shared → Prop} {s : Shared} {h₀ : Heap} {L : Addr} {m : Str → Option Value} {news : Ldg} {vs : List Value} {fs : List (Int × Int)} {ep : Nat} {Q : Value → Shared → Prop}
theorem append_L {D : Addr} {v : Value} {gN : Obj → Ldg} (F : Fr h₀ L s.heap m) (N : News h₀ L s.heap news) (U : UpdF D (lstOf vs ep) news gN) (hz : vs.length ≤ 1000)
    (h : ∀ h', Fr h₀ L h' m → News h₀ L h' (gN (lstOf (vs ++ [v]) (ep + 1))) → Q .none { s with heap := h' }) : wpAny (model prog w) A (call (.builtin "list.append") [.ref D, v]) Q E s := by
  refine append_K (its := vs.toArray) (n := ep) F N (news' := gN (lstOf (vs ++ [v]) (ep + 1))) ?_ h (Nat.le_trans (by simpa using hz) (by decide))
  have := upd_of (o' := lstOf (vs ++ [v]) (ep + 1)) U
  rw [List.push_toArray]
  exact this
theorem list_of_L {b : Addr} (F : Fr h₀ L s.heap m) (N : News h₀ L s.heap news) (hb : (b, lstOf vs ep) ∈ news) (hz : vs.length ≤ 1000)
    (h : ∀ D c h', Fr h₀ L h' m → News h₀ L h' ((D, lstOf vs c) :: news) → (∀ p ∈ news, p.1 < D) → Q (.ref D) { s with heap := h' }) : wpAny (model prog w) A (call (.type "list") [.ref b]) Q E s :=
  kup_listOf (its2 := vs.toArray) (n2 := ep) F N hb (show vs.toArray.toList = vs from rfl) h (Nat.le_trans (by simpa using hz) (by decide))
theorem ne_str_same {x : PStr} {t u : Tok} (h : Q (.bool false) s) : wpAny (model prog w) A (compareOp .NotEq (.str x t) (.str x u)) Q E s := PyProof.Rows.ne_str (by rw [bne_self_eq_false]; exact h)
theorem strs_at : ∀ {vs : List Value} {xs : List PStr}, StrsAre vs xs → ∀ (j : Nat) (h : j < vs.length), ∃ t, vs[j] = .str (xs.getD j Str.empty) t
  | _, _, .cons _ t r, 0, _ => ⟨t, rfl⟩
  | _, _, .cons _ t r, j + 1, h => strs_at r j (Nat.lt_of_succ_lt_succ h)
theorem all_getD : ∀ (xs ys : List PStr), xs.length = ys.length → (List.range xs.length).all (fun j => xs.getD j Str.empty == ys.getD j Str.empty) = decide (xs = ys) := by
  intro xs ys hl
  rw [Bool.eq_iff_iff, List.all_eq_true, decide_eq_true_iff]
  constructor
  · intro h
    apply List.ext_getElem hl
    intro j h1 h2
    have := h j (List.mem_range.mpr h1)
    rw [List.getD_eq_getElem?_getD, List.getD_eq_getElem?_getD, List.getElem?_eq_getElem h1, List.getElem?_eq_getElem h2] at this
    exact eq_of_beq this
  · rintro rfl j _
    exact beq_self_eq_true _
theorem ne_strs_L {x y : Addr} {ws : List Value} {xs ys : List PStr} {e2 : Nat} (N : News h₀ L s.heap news) (hx : (x, lstOf vs ep) ∈ news) (hy : (y, lstOf ws e2) ∈ news) (h1 : StrsAre vs xs) (h2 : StrsAre ws ys) (hu : A.units + 64 < cLine)
    (h : Q (.bool (!decide (xs = ys))) s) : wpAny (model prog w) A (compareOp .NotEq (.ref x) (.ref y)) Q E s := by
  have l1 := h1.len_eq
  have l2 := h2.len_eq
  by_cases hl : xs.length = ys.length
  · refine PySem.SeqAt.RcNeAt.lists (e := fun j => xs.getD j Str.empty == ys.getD j Str.empty) (News.isList N hx) (News.isList N hy) (by simp; omega) (by omega) (fun j j1 j2 => ?_) prog w E Q ?_
    · obtain ⟨t, e1⟩ := strs_at h1 j (by simpa using j1)
      obtain ⟨u, e2⟩ := strs_at h2 j (by simpa using j2)
      simp only [List.getElem_toArray, e1, e2]
      exact PySem.SeqAt.EqAt.str_str _ _ _ _
    · have : vs.toArray.size = xs.length := by simp; omega
      rw [this, all_getD xs ys hl]
      exact h
  · refine PySem.SeqAt.RcNeAt.lists_lengths (News.isList N hx) (News.isList N hy) (by simp; omega) (by omega) prog w E Q ?_
    have : (!decide (xs = ys)) = true := by
      simp only [Bool.not_eq_true', decide_eq_false_iff_not]
      exact fun e => hl (by rw [e])
    rw [this] at h
    exact h
theorem ne_strs_same {x y : Addr} {e2 : Nat} {xs : List PStr} (N : News h₀ L s.heap news) (hx : (x, lstOf vs ep) ∈ news) (hy : (y, lstOf vs e2) ∈ news) (h1 : StrsAre vs xs) (hu : A.units + 64 < cLine)
    (h : Q (.bool false) s) : wpAny (model prog w) A (compareOp .NotEq (.ref x) (.ref y)) Q E s := by
  exact ne_strs_L N hx hy h1 h1 hu (by rw [decide_eq_true rfl]; exact h)
theorem or_one_C {M : Model} {env : Env} {x : PySem.Expr} {Q : Bool → Shared → Prop} (h : wpAny M A (isTrue x env (eval x env)) Q E s) : wpC M A (allTrue .Or [x] env) Q E s :=
  or_C (wpC_any (wpAny_mono h (fun b s' hb => by
    cases b with
    | true => exact hb
    | false =>
      show wpC M A (allTrue .Or [] env) Q E s'
      exact wpC_pure hb) fun _ _ y => y))
end
end Mine
end
section
open PySem PySem.W PyProof.Rows PySem.Spec PySem.Calls
set_option Elab.async false
set_option maxRecDepth 100000
set_option maxHeartbeats 4000000
set_option linter.all false
namespace Mine
noncomputable def hvs : List Bool → PStr → Prop
  | [], _ => True
  | b :: bs, t => Txt.mul (quo t) 2 ++ (if b = true then Str.ofString "\"" else Str.ofString "") = t ∧ hvs bs (quo t)
theorem ne_str_of {prog : Program} {w : World} {A : Around} {E : Value → Shared → Prop} {s : Shared} {x y : PStr} {t u : Tok} {Q : Value → Shared → Prop} (e : x = y) (h : Q (.bool false) s) : wpAny (model prog w) A (compareOp .NotEq (.str x t) (.str y u)) Q E s := by
  subst e
  exact ne_str_same h
end Mine
end
section
open PySem PySem.W PyProof.Rows PySem.Spec PySem.Calls
set_option Elab.async false
set_option maxRecDepth 100000
set_option maxHeartbeats 4000000
set_option linter.all false
namespace Mine
section
variable {prog : Program} {w : World} {A : Around} {E : Value → Shared → Prop} {s : Shared} {h₀ : Heap} {L : Addr} {m : Str → Option Value} {news : Ldg}
theorem len_L {l : Addr} {vs : List Value} {ep : Nat} {Q : Value → Shared → Prop} (N : News h₀ L s.heap news) (hm : (l, lstOf vs ep) ∈ news) (hz : vs.length ≤ 1000)
    (h : Q (.int vs.length (s.toks + 1)) { s with toks := s.toks + 1 + 1 }) : wpAny (model prog w) A (call (.builtin "len") [.ref l]) Q E s := by
  have e : vs.toArray.size = vs.length := by simp
  refine len_list (News.isList N hm) (by rw [e]; omega) ?_
  rw [e]
  exact h
theorem comp_ind {env : Env} {elt : PySem.Expr} {x : Str} {scope : Scope} {cl : List (Str × Addr)} {S : Ldg → Prop} {P : Nat → Value → Prop} {Fin : List Value → Ldg → Prop} {n : Nat} (J : Nat → List Value → Ldg → Prop) (hJ : J 0 [] news)
    (turn : ∀ i v I oI C oC D m₂ ys nw h tk (E' : Value → Shared → Prop), i < n → P i v → J i ys nw → LCg.NsObj oC m₂ → m₂ x = some v → Fr h₀ L h m → News h₀ L h ((I, oI) :: (C, oC) :: (D, LCg.lst ys) :: nw) → LCg.Off3 I C D nw → ((@Ne Nat I C) ∧ (@Ne Nat I D) ∧ (@Ne Nat C D)) →
      wpAny (model prog w) A (eval elt (compEnvC scope cl C env)) (LCg.CompEnd h₀ L m { s with heap := h, toks := tk } I oI C oC D (LCg.lst ys) S (fun y nw' => J (i + 1) (ys ++ [y]) nw')) E' { s with heap := h, toks := tk })
    (fin : ∀ ys nw, J n ys nw → Fin ys nw) : LCg.CompRest prog w A h₀ L m env elt x scope cl s S P Fin n 0 [] news := by
  have key : ∀ (j i : Nat) (ys : List Value) (nw : Ldg), i + j = n → J i ys nw → LCg.CompRest prog w A h₀ L m env elt x scope cl s S P Fin j i ys nw := by
    intro j
    induction j with
    | zero =>
      intro i ys nw hi hy
      have e : i = n := by omega
      subst e
      exact LCg.CompRest.zero (fin ys nw hy)
    | succ j ih =>
      intro i ys nw hi hy
      refine LCg.CompRest.succ ?_
      intro v I oI C oC D m₂ h tk E' hv hC hx F N off ne
      refine wpAny_mono (turn i v I oI C oC D m₂ ys nw h tk E' (by omega) hv hy hC hx F N off ne) (fun y s₂ hq => ?_) fun _ _ e => e
      obtain ⟨h', tk', nw', e, F', N', off', hS, hj⟩ := hq
      exact ⟨h', tk', nw', e, F', N', off', hS, ih (i + 1) _ nw' (by omega) hj⟩
  exact key n 0 [] news (by omega) hJ
end
end Mine
end
section
open PySem PySem.W PyProof.Rows PySem.Spec PySem.Calls
set_option Elab.async false
set_option maxRecDepth 100000
set_option maxHeartbeats 4000000
set_option linter.all false
namespace Mine
theorem fr_ext {g h : Heap} {L : Addr} {M : PStr → Option Value} (F : Fr g L h M) : ∃ M', M' = M ∧ Fr g L h M' := ⟨M, rfl, F⟩
section
variable {M : Model} {A : Around} {E : Value → Shared → Prop} {s : Shared} {env : Env} {Q : Flow → Shared → Prop}
theorem chunk_any {l : List Stmt} {k : Nat} (n : Nat) (h : wpAny M A (execs ((l.drop k).take n) env) (fun f s' => match f with | .next => wpC M A (execs (l.drop (k + n)) env) Q E s' | f => Q f s') E s) : wpC M A (execs (l.drop k) env) Q E s := by
  have e : l.drop k = (l.drop k).take n ++ l.drop (k + n) := by rw [← List.drop_drop, List.take_append_drop]
  rw [e]
  exact execs_pre h
theorem chunk_C {l : List Stmt} {k : Nat} (n : Nat) (h : wpC M A (execs ((l.drop k).take n) env) (fun f s' => match f with | .next => wpC M A (execs (l.drop (k + n)) env) Q E s' | f => Q f s') E s) : wpC M A (execs (l.drop k) env) Q E s := by
  have e : l.drop k = (l.drop k).take n ++ l.drop (k + n) := by rw [← List.drop_drop, List.take_append_drop]
  rw [e, execs_app]
  refine wpC_bind (wpC_mono h (fun f s' h' => ?_) fun _ _ x => x)
  cases f <;> first | exact h' | exact wpC_pure h'
end
section
variable {prog : Program} {w : World} {A : Around} {E : Value → Shared → Prop} {s : Shared} {env : Env} {h₀ : Heap} {body : List Stmt} {Q : Flow → Shared → Prop} {m₀ : Str → Option Value} {news : Ldg}
theorem items_tupG {α ι : Type} {target : PySem.Expr} (val : α → Value) (C : List α → ι → Prop) (M : ι → Str → Option Value) (Nw : ι → Ldg) {I : Addr} {kp : Addr × Obj} {cl : String} (hk : ∀ as σ, C as σ → kp ∈ Nw σ)
    (turn : ∀ a as σ h tk o, C (a :: as) σ → (∀ p ∈ Nw σ, p.1 ≠ I) → Fr h₀ env.locals h (M σ) → News h₀ env.locals h ((I, o) :: Nw σ) →
      wpAny (model prog w) A (assign target env (val a)) (fun _ s₃ => wpAny (model prog w) A (execs body env) (TurnFr (C as) M Nw (I, o) h₀ env.locals s Q) E s₃) E { s with heap := h, toks := tk })
    (done : ∀ σ h tk, C [] σ → Fr h₀ env.locals h (M σ) → News h₀ env.locals h (Nw σ) → Q .next { s with heap := h, toks := tk }) :
    ∀ (xs : List α) (σ : ι), C xs σ → (∀ p ∈ Nw σ, p.1 ≠ I) → ItemsRest prog w A E h₀ env target body Q s [(I, cl)] [kp] (xs.map fun a => .val (val a)) (M σ) (Nw σ)
  | [], σ, c, _ => ItemsRest.zero (fun h tk F N => done σ h tk c F N)
  | a :: as, σ, c, hne => by
    refine ItemsRest.val (fun h tk F => AllObj.cons fun o ho => AllObj.nil fun N => ?_)
    refine wpAny_mono (turn a as σ h tk o c hne F N) (fun _ s₃ h₃ => wpAny_mono h₃ (fun f s₄ h₄ => ?_) fun _ _ e => e) fun _ _ e => e
    cases f with
    | ret v => exact h₄
    | brk => exact h₄
    | next =>
      obtain ⟨σ', h', tk', e, c', F', N', hd⟩ := h₄
      exact ⟨h', tk', M σ', Nw σ', e, F', N', fun p hp q hq => by rw [List.mem_singleton.mp hq]; exact hd p hp, And.intro (hk _ _ c') trivial, items_tupG val C M Nw hk turn done as σ' c' hd⟩
    | cont =>
      obtain ⟨σ', h', tk', e, c', F', N', hd⟩ := h₄
      exact ⟨h', tk', M σ', Nw σ', e, F', N', fun p hp q hq => by rw [List.mem_singleton.mp hq]; exact hd p hp, And.intro (hk _ _ c') trivial, items_tupG val C M Nw hk turn done as σ' c' hd⟩
theorem pyIter_tupG {α ι : Type} {target : PySem.Expr} (val : α → Value) (C : List α → ι → Prop) (M : ι → Str → Option Value) (Nw : ι → Ldg) (xs : List α) (σ₀ : ι) (names : List Str) {ax : Addr} {vs : List Value} (hv : vs = xs.map val) (F : Fr h₀ env.locals s.heap m₀) (N : News h₀ env.locals s.heap news) (hm : (ax, tupOf vs) ∈ news) (hh : A.handled = none)
    (hk : ∀ as σ, C as σ → (ax, tupOf vs) ∈ Nw σ) (c0 : C xs σ₀) (m1 : ∀ n ∈ names, m₀ n = M σ₀ n) (m2 : ∀ y, y ∉ names → m₀ y = M σ₀ y) (n0 : Nw σ₀ = news)
    (turn : ∀ a as σ h tk own, C (a :: as) σ → (∀ p ∈ Nw σ, p.1 ≠ own.1) → Fr h₀ env.locals h (M σ) → News h₀ env.locals h (own :: Nw σ) →
      wpAny (model prog w) A (assign target env (val a)) (fun _ s₃ => wpAny (model prog w) A (execs body env) (TurnFr (C as) M Nw own h₀ env.locals s Q) E s₃) E { s with heap := h, toks := tk })
    (done : ∀ σ h tk, C [] σ → Fr h₀ env.locals h (M σ) → News h₀ env.locals h (Nw σ) → Q .next { s with heap := h, toks := tk }) :
    wpAny (model prog w) A (pyIter (.ref ax)) (fun it s₂ => TurnsAt prog w A h₀ env target body Q E it s₂) E s := by
  subst hv
  refine iter_tupTurns hh (fr_map names F m1 m2) N hm rfl rfl (fun I hI => ?_)
  rw [List.map_map, ← n0]
  have hne : ∀ p ∈ Nw σ₀, p.1 ≠ I := fun p hp => Nat.ne_of_lt (hI p (n0 ▸ hp))
  exact items_tupG (kp := (ax, tupOf (xs.map val))) val C M Nw hk (fun a as σ h tk o c hd F N => turn a as σ h tk (I, o) c hd F N) done xs σ₀ c0 hne
theorem pyIter_rangeG {ι : Type} {x : Str} {px : Pos} (C : Nat → ι → Prop) (M : Nat → ι → Str → Option Value) (Nw : Nat → ι → Ldg) (n : Nat) (σ₀ : ι) (names : List Str) {r : Addr} {a b st : Int} {t₀ u₀ v₀ : Tok} (F : Fr h₀ env.locals s.heap m₀) (N : News h₀ env.locals s.heap news)
    (hr : IsRange s.heap r a b st t₀ u₀ v₀) (hh : A.handled = none) (hsm : Builtin.Range.small a b st = true) (hsz : Builtin.Range.rangeSize a b st = (n : Int)) (c0 : C 0 σ₀) (m1 : ∀ n ∈ names, m₀ n = M 0 σ₀ n) (m2 : ∀ y, y ∉ names → m₀ y = M 0 σ₀ y) (n0 : ∀ q ∈ Nw 0 σ₀, q ∈ news)
    (turn : ∀ i σ h tk t own, i < n → C i σ → (∀ p ∈ Nw i σ, p.1 ≠ own.1) → Fr h₀ env.locals h (M i σ) → News h₀ env.locals h (own :: Nw i σ) →
      wpAny (model prog w) A (assign (.Name x px) env (.int (a + (i : Int) * st) t)) (fun _ s₃ => wpAny (model prog w) A (execs body env) (TurnFr (C (i + 1)) (M (i + 1)) (Nw (i + 1)) own h₀ env.locals s Q) E s₃) E { s with heap := h, toks := tk })
    (done : ∀ σ h tk, C n σ → Fr h₀ env.locals h (M n σ) → News h₀ env.locals h (Nw n σ) → Q .next { s with heap := h, toks := tk }) :
    wpAny (model prog w) A (pyIter (.ref r)) (fun it s₂ => TurnsAt prog w A h₀ env (.Name x px) body Q E it s₂) E s := by
  refine wpAny_pyIter_range hr hsm ?_
  rw [hsz]
  have hI := next_is_new F
  have hne : ∀ p ∈ Nw 0 σ₀, p.1 ≠ s.heap.objs.size := fun p hp => Nat.ne_of_lt (Heap.lt_size (N p (n0 p hp)).1)
  refine ⟨s.heap.objs.size, [s.heap.objs.size], [s.heap.objs.size], n, _, _, _, M 0 σ₀, Nw 0 σ₀, fun i m nx => ∃ σ, C i σ ∧ m = M i σ ∧ nx = Nw i σ, rfl, KTurns.ofWalks (Walks.range hh s.heap.objs.size a st n) (fun i v s Q E _ h => wpAny_pure h), ?_, ?_, ?_, ?_, fr_map names (F.push _) m1 m2, ?_, ⟨σ₀, c0, rfl, rfl⟩, ?_, ?_⟩
  · intro hm
    exact absurd F.ns.lt ((List.mem_singleton.mp hm) ▸ Nat.lt_irrefl _)
  · intro b hb
    rw [List.mem_singleton.mp hb]; exact hI
  · intro p hp hq
    exact hne p hp (List.mem_singleton.mp hq)
  · show IsRangeIter _ _ _ _ _
    simpa using Heap.get?_push_size _ rfl
  · exact fun p hp => ⟨Heap.get?_push_of_some _ (N p (n0 p hp)).1, (N p (n0 p hp)).2⟩
  · rintro i v m₁ news₁ h₁ tk₁ own hi ⟨t, rfl⟩ ⟨σ, hc, rfl, rfl⟩ hw hfp hget hown hst F₁ N₁
    obtain ⟨oI, hIo⟩ : ∃ o, h₁.get? s.heap.objs.size = some o := ⟨_, hst⟩
    have hmem := hown s.heap.objs.size (List.mem_singleton.mpr rfl) hI _ hIo
    refine wpAny_mono (turn i σ h₁ tk₁ t (s.heap.objs.size, oI) hi hc (fun p hp e => hw p hp (List.mem_singleton.mpr e)) F₁ (fun p hp => N₁ p (List.mem_append.mpr ?_))) (fun _ s₃ h₃ => wpAny_mono h₃ (fun f s₄ h₄ => ?_) fun _ _ e => e) fun _ _ e => e
    · rcases List.mem_cons.mp hp with rfl | hp
      · exact .inl hmem
      · exact .inr hp
    · have fin : (∃ σ h' tk', s₄ = { s with heap := h', toks := tk' } ∧ C (i + 1) σ ∧ Fr h₀ env.locals h' (M (i + 1) σ) ∧ News h₀ env.locals h' ((s.heap.objs.size, oI) :: Nw (i + 1) σ) ∧ ∀ p ∈ Nw (i + 1) σ, p.1 ≠ s.heap.objs.size) → _ := fun ⟨σ', h', tk', e, c', F', N', hd⟩ =>
        (⟨rfl, h', tk', M (i + 1) σ', Nw (i + 1) σ', e, F', fun p hp => by
          rcases List.mem_append.mp hp with hp | hp
          · have e1 := List.mem_singleton.mp (hfp p hp)
            have e2 := hget p hp
            rw [e1, hIo] at e2
            have e3 : p = (s.heap.objs.size, p.2) := by rw [← e1]
            rw [e3, ← Option.some.inj e2]
            exact N' _ (.head _)
          · exact N' _ (.tail _ hp), fun p hp hq => hd p hp (List.mem_singleton.mp hq), σ', c', rfl, rfl⟩ : LoopStepU h₀ env.locals [s.heap.objs.size] own (fun m nx => ∃ σ, C (i + 1) σ ∧ m = M (i + 1) σ ∧ nx = Nw (i + 1) σ) { s with heap := h₁, toks := tk₁ } .next s₄)
      cases f with
      | ret v => exact h₄
      | brk => exact h₄
      | next => exact .next (fin h₄)
      | cont => exact .cont (fin h₄)
  · rintro h' tk m' news' F' N' _ ⟨σ, hc, rfl, rfl⟩
    exact done σ h' tk hc F' N'
end
abbrev rngOf (a b c : Int) (t u v : Tok) : Obj := { cls := .type "range", data := .fields #[.int a t, .int b u, .int c v] }
section
variable {prog : Program} {w : World} {A : Around} {E : Value → Shared → Prop} {s : Shared} {h₀ : Heap} {L : Addr} {m : Str → Option Value} {news : Ldg}
theorem rng2_L {a b : Int} {t u : Tok} {Q : Value → Shared → Prop} (F : Fr h₀ L s.heap m) (N : News h₀ L s.heap news)
    (h : ∀ D h' tk v, Fr h₀ L h' m → News h₀ L h' ((D, rngOf a b 1 t u v) :: news) → (∀ p ∈ news, p.1 < D) → Q (.ref D) { s with heap := h', toks := tk }) : wpAny (model prog w) A (call (.type "range") [.int a t, .int b u]) Q E s :=
  call_range_2 (h _ _ _ _ (F.push _) (N.push F _) fun p hp => Heap.lt_size (N p hp).1)
theorem rng3_L {a b c : Int} {t u v : Tok} {Q : Value → Shared → Prop} (F : Fr h₀ L s.heap m) (N : News h₀ L s.heap news) (hc : c ≠ 0) (hp : Builtin.divisionGoesByPylong (b - a) c = false)
    (h : ∀ D h' tk v, Fr h₀ L h' m → News h₀ L h' ((D, rngOf a b c t u v) :: news) → (∀ p ∈ news, p.1 < D) → Q (.ref D) { s with heap := h', toks := tk }) : wpAny (model prog w) A (call (.type "range") [.int a t, .int b u, .int c v]) Q E s :=
  call_range_3 hc (h _ _ _ _ (F.push _) (N.push F _) fun p hp => Heap.lt_size (N p hp).1) (.inl hp)
theorem rng_at {h : Heap} {D : Addr} {a b c : Int} {t u v : Tok} (N : News h₀ L h news) (hm : (D, rngOf a b c t u v) ∈ news) : IsRange h D a b c t u v := (N _ hm).1
end
theorem rangeSize_up {a b : Int} {n : Nat} (h : b - a = (n : Int)) : Builtin.Range.rangeSize a b 1 = (n : Int) := by
  unfold Builtin.Range.rangeSize
  split
  · split <;> omega
  · omega
theorem rangeSize_dn {a b : Int} {n : Nat} (h : a - b = (n : Int)) : Builtin.Range.rangeSize a b (-1) = (n : Int) := by
  unfold Builtin.Range.rangeSize
  rw [show (- -1 : Int) = 1 by decide]
  split
  · omega
  · split <;> omega
theorem small_of {a b c : Int} {n : Nat} (ha : -1000 ≤ a ∧ a ≤ 1000) (hb : -1000 ≤ b ∧ b ≤ 1000) (hc : c = 1 ∨ c = -1) (hn : Builtin.Range.rangeSize a b c = (n : Int)) (hn2 : n ≤ 1000) : Builtin.Range.small a b c = true := by
  unfold Builtin.Range.small
  rw [hn]
  unfold Builtin.Range.rangeFitsLong
  rcases hc with rfl | rfl <;> simp only [Bool.and_eq_true, Bool.or_eq_true, decide_eq_true_eq, beq_iff_eq] <;> (repeat' refine And.intro ?_ ?_) <;> first | omega | (refine Or.inr ?_; split <;> (simp only [Bool.and_eq_true, decide_eq_true_eq]; omega)) | skip
theorem cut_at : ∀ (l : List Value) (k : Nat) (h : k < l.length), kl_cut l k = some (l.take k, l[k], l.drop (k + 1))
  | [], k, h => absurd h (Nat.not_lt_zero _)
  | x :: r, 0, _ => rfl
  | x :: r, k + 1, h => by
    have := cut_at r k (Nat.lt_of_succ_lt_succ h)
    show (match kl_cut r k with | some (p, y, q) => some (x :: p, y, q) | none => none) = _
    rw [this]; rfl
theorem pop_L {prog : Program} {w : World} {A : Around} {E : Value → Shared → Prop} {s : Shared} {h₀ : Heap} {L : Addr} {m : Str → Option Value} {news : Ldg} {vs : List Value} {ep : Nat}
    {D : Addr} {x : Int} {k : Nat} {u : Tok} {Q : Value → Shared → Prop} {gN : Obj → Ldg} (F : Fr h₀ L s.heap m) (N : News h₀ L s.heap news) (U : UpdF D (lstOf vs ep) news gN) (hx : x = (k : Int)) (hk : k < vs.length) (hz : vs.length ≤ 1000)
    (h : ∀ h', Fr h₀ L h' m → News h₀ L h' (gN (lstOf (vs.eraseIdx k) (ep + 1))) → Q vs[k] { s with heap := h' }) : wpAny (model prog w) A (call (.builtin "list.pop") [.ref D, .int x u]) Q E s := by
  subst hx
  refine kl_popAt (its := vs.toArray) (n := ep) F N (by unfold Builtin.List.listFitsIndex; simp only [Bool.and_eq_true, decide_eq_true_eq]; omega) (StrLaws.seqIndex_nonneg (by omega) (by simp; omega)) (cut_at vs k hk) ?_ (Nat.le_trans (by simpa using hz) (by decide)) h
  rw [← List.eraseIdx_eq_take_drop_succ]
  exact upd_of U
end Mine
end
section
open PySem PySem.W PyProof.Rows PySem.Spec PySem.Calls
set_option Elab.async false
set_option maxRecDepth 100000
set_option maxHeartbeats 4000000
set_option linter.all false
namespace Mine
theorem below_cnt {α : Type} (q : α → Bool) : ∀ (l : List α), (l.Pairwise fun y z => q z = true → q y = true) → ∀ (i : Nat) (h : i < l.length), (q l[i] = true ↔ i < (l.filter q).length)
  | [], _, i, h => absurd h (Nat.not_lt_zero _)
  | y :: l, hp, i, h => by
    obtain ⟨h1, h2⟩ := List.pairwise_cons.mp hp
    cases hy : q y with
    | true =>
      rw [List.filter_cons_of_pos hy, List.length_cons]
      cases i with
      | zero => exact ⟨fun _ => Nat.succ_pos _, fun _ => hy⟩
      | succ i =>
        have := below_cnt q l h2 i (Nat.lt_of_succ_lt_succ h)
        rw [List.getElem_cons_succ, this]; omega
    | false =>
      have hn : ∀ z ∈ l, q z = false := fun z hz => by
        cases e : q z with
        | false => rfl
        | true => have := h1 z hz e; rw [hy] at this; cases this
      have hf : l.filter q = [] := List.filter_eq_nil_iff.mpr fun z hz => by rw [hn z hz]; exact Bool.false_ne_true
      rw [List.filter_cons_of_neg (by rw [hy]; exact Bool.false_ne_true), hf]
      cases i with
      | zero => simp [hy]
      | succ i =>
        rw [List.getElem_cons_succ, hn _ (List.getElem_mem ..)]
        simp
theorem bis_at_in {r : Bool} {ky : Nat → Int} {k : Nat → KRes} {x : Int} {c l h : Nat} (hk : ∀ i, l ≤ i → i < h → k i = .ok (ky i)) (hc : ∀ i, l ≤ i → i < h → ((if r then x < ky i else ¬ ky i < x) ↔ c ≤ i)) :
    ∀ (f lo hi : Nat), hi - lo ≤ f → l ≤ lo → lo ≤ c → c ≤ hi → hi ≤ h → bis r k x f lo hi = .ok c
  | 0, lo, hi, h0, _, h1, h2, _ => by
    have : lo = c := Nat.le_antisymm h1 (Nat.le_trans h2 (Nat.le_of_sub_eq_zero (Nat.le_zero.mp h0)))
    rw [this]; rfl
  | f + 1, lo, hi, h0, hl, h1, h2, h3 => by
    by_cases hlt : lo < hi
    · have hlm := Nat.le_trans hl (mid_ge hlt)
      have hmh := Nat.lt_of_lt_of_le (mid_lt hlt) h3
      rw [bis, if_pos hlt, hk _ hlm hmh]
      have hm := hc ((lo + hi) / 2) hlm hmh
      by_cases hq : (if r then x < ky ((lo + hi) / 2) else ¬ ky ((lo + hi) / 2) < x)
      · simp only [hq, if_true]
        exact bis_at_in hk hc f lo _ (mid_dn hlt h0) hl h1 (hm.mp hq) (Nat.le_of_lt hmh)
      · simp only [hq, if_false]
        exact bis_at_in hk hc f _ hi (mid_up hlt h0) (Nat.le_succ_of_le hlm) (Nat.lt_of_not_le fun q => hq (hm.mpr q)) h2 h3
    · rw [bis, if_neg hlt, Nat.le_antisymm h1 (Nat.le_trans h2 (Nat.not_lt.mp hlt))]
section
variable (p : Nat → Int)
noncomputable def Bfr (i j : Nat) : Prop := p i < p j ∨ (p i = p j ∧ i < j)
noncomputable def Ord (R : List Nat) : Prop := R.Pairwise (Bfr p)
noncomputable def cnt (r : Bool) (x : Int) (R : List Nat) : Nat := (R.filter fun i => if r then decide (p i ≤ x) else decide (p i < x)).length
noncomputable def putM (r : Bool) (b : Nat) (R : List Nat) : List Nat := R.take (cnt p r (p b) R) ++ b :: R.drop (cnt p r (p b) R)
variable {p}
theorem Bfr.le {i j : Nat} (h : Bfr p i j) : p i ≤ p j := by rcases h with h | h <;> omega
theorem Bfr.anti {i j : Nat} (h : Bfr p i j) (h' : Bfr p j i) : i = j := by rcases h with h | h <;> rcases h' with h' | h' <;> omega
theorem cnt_le {r : Bool} {x : Int} {R : List Nat} : cnt p r x R ≤ R.length := List.length_filter_le ..
theorem cnt_at {r : Bool} {x : Int} {R : List Nat} (h : Ord p R) {i : Nat} (hi : i < R.length) : (if r then x < p R[i] else ¬ p R[i] < x) ↔ cnt p r x R ≤ i := by
  have := below_cnt (fun i => if r then decide (p i ≤ x) else decide (p i < x)) R (h.imp fun {y z} hyz e => by
    cases r with
    | true => exact decide_eq_true (Int.le_trans hyz.le (of_decide_eq_true e))
    | false => exact decide_eq_true (Int.lt_of_le_of_lt hyz.le (of_decide_eq_true e))) i hi
  cases r with
  | true => exact (Int.not_le.symm.trans (not_congr (decide_eq_true_iff.symm.trans this))).trans Nat.not_lt
  | false => exact (not_congr (decide_eq_true_iff.symm.trans this)).trans Nat.not_lt
theorem put_perm {r : Bool} {b : Nat} {R : List Nat} : (putM p r b R).Perm (b :: R) := by
  unfold putM
  refine List.perm_middle.trans ?_
  rw [List.take_append_drop]
theorem bfr_of {r : Bool} {y b : Nat} (h3 : ¬ (if r then p b < p y else ¬ p y < p b)) (hm : p y = p b → if r then y < b else b < y) : Bfr p y b := by
  cases r with
  | true =>
    have h3 : ¬ p b < p y := h3
    by_cases e : p y = p b
    · exact .inr ⟨e, hm e⟩
    · exact .inl (Int.lt_iff_le_and_ne.mpr ⟨Int.not_lt.mp h3, e⟩)
  | false => exact .inl (Decidable.not_not.mp h3)
theorem bfr_of' {r : Bool} {y b : Nat} (h3 : if r then p b < p y else ¬ p y < p b) (hm : p y = p b → if r then y < b else b < y) : Bfr p b y := by
  cases r with
  | true => exact .inl h3
  | false =>
    have h3 : ¬ p y < p b := h3
    by_cases e : p y = p b
    · exact .inr ⟨e.symm, hm e⟩
    · exact .inl (Int.lt_iff_le_and_ne.mpr ⟨Int.not_lt.mp h3, Ne.symm e⟩)
theorem put_ord {r : Bool} {b : Nat} {R : List Nat} (h : Ord p R) (hb : ∀ i ∈ R, p i = p b → if r then i < b else b < i) : Ord p (putM p r b R) := by
  unfold putM Ord
  have hs : (R.take (cnt p r (p b) R) ++ R.drop (cnt p r (p b) R)).Pairwise (Bfr p) := by rw [List.take_append_drop]; exact h
  obtain ⟨s1, s2, s3⟩ := List.pairwise_append.mp hs
  have ha : ∀ y ∈ R.take (cnt p r (p b) R), Bfr p y b := fun y hy => by
    obtain ⟨j, hj, e⟩ := List.getElem_of_mem hy
    rw [List.length_take] at hj
    have hj' := Nat.lt_min.mp hj
    rw [List.getElem_take] at e
    have := cnt_at (r := r) (x := p b) h hj'.2
    rw [e] at this
    exact bfr_of (fun q => Nat.not_le.mpr hj'.1 (this.mp q)) (hb y (List.mem_of_mem_take hy))
  have hd : ∀ y ∈ R.drop (cnt p r (p b) R), Bfr p b y := fun y hy => by
    obtain ⟨j, hj, e⟩ := List.getElem_of_mem hy
    rw [List.length_drop] at hj
    rw [List.getElem_drop] at e
    have := cnt_at (r := r) (x := p b) h (i := cnt p r (p b) R + j) (Nat.add_lt_of_lt_sub' hj)
    rw [e] at this
    exact bfr_of' (this.mpr (Nat.le_add_right _ _)) (hb y (List.mem_of_mem_drop hy))
  rw [List.pairwise_append, List.pairwise_cons]
  refine ⟨s1, ⟨hd, s2⟩, fun y hy z hz => ?_⟩
  rcases List.mem_cons.mp hz with rfl | hz
  · exact ha y hy
  · exact s3 y hy z hz
theorem ord_uniq : ∀ {l l' : List Nat}, Ord p l → Ord p l' → l.Perm l' → l = l'
  | [], l', _, _, h => (List.nil_perm.mp h).symm
  | a :: l, [], _, _, h => absurd (List.perm_nil.mp h) (by simp)
  | a :: l, b :: l', h1, h2, h => by
    obtain ⟨a1, a2⟩ := List.pairwise_cons.mp h1
    obtain ⟨b1, b2⟩ := List.pairwise_cons.mp h2
    have hab : a = b := by
      have ma : a ∈ b :: l' := h.mem_iff.mp (List.mem_cons_self ..)
      have mb : b ∈ a :: l := h.mem_iff.mpr (List.mem_cons_self ..)
      rcases List.mem_cons.mp ma with e | ma
      · exact e
      · rcases List.mem_cons.mp mb with e | mb
        · exact e.symm
        · exact (a1 b mb).anti (b1 a ma)
    subst hab
    rw [ord_uniq a2 b2 (List.Perm.cons_inv h)]
variable (p)
noncomputable def srtM (off n : Nat) : List Nat := (List.range' off n).foldl (fun R b => putM p true b R) []
noncomputable def mergeM (earlier : Bool) (A B : List Nat) : List Nat := if earlier then A.foldr (fun a R => putM p false a R) B else B.foldl (fun R b => putM p true b R) A
variable {p}
theorem foldl_put : ∀ (B A : List Nat), Ord p A → B.Pairwise (fun b c => p b = p c → b < c) → (∀ a ∈ A, ∀ b ∈ B, p a = p b → a < b) → Ord p (B.foldl (fun R b => putM p true b R) A) ∧ (B.foldl (fun R b => putM p true b R) A).Perm (A ++ B)
  | [], A, h, _, _ => ⟨h, by simp⟩
  | b :: B, A, h, hB, hlt => by
    obtain ⟨b1, b2⟩ := List.pairwise_cons.mp hB
    have hm : ∀ a ∈ putM p true b A, ∀ c ∈ B, p a = p c → a < c := fun a ha c hc => by
      rcases List.mem_cons.mp (put_perm.mem_iff.mp ha) with rfl | ha
      · exact b1 c hc
      · exact hlt a ha c (.tail _ hc)
    obtain ⟨h1, h2⟩ := foldl_put B (putM p true b A) (put_ord h fun i hi e => hlt i hi b (.head _) e) b2 hm
    refine ⟨h1, h2.trans ?_⟩
    refine (put_perm.append_right B).trans ?_
    simpa using List.perm_middle.symm
theorem foldr_put : ∀ (A B : List Nat), Ord p B → A.Pairwise (fun a c => p a = p c → a < c) → (∀ a ∈ A, ∀ b ∈ B, p a = p b → a < b) → Ord p (A.foldr (fun a R => putM p false a R) B) ∧ (A.foldr (fun a R => putM p false a R) B).Perm (A ++ B)
  | [], B, h, _, _ => ⟨h, List.Perm.refl _⟩
  | a :: A, B, h, hA, hlt => by
    obtain ⟨a1, a2⟩ := List.pairwise_cons.mp hA
    obtain ⟨h1, h2⟩ := foldr_put A B h a2 (fun x hx b hb => hlt x (.tail _ hx) b hb)
    refine ⟨put_ord h1 fun i hi e => ?_, ?_⟩
    · show a < i
      rcases List.mem_append.mp (h2.mem_iff.mp hi) with hi | hi
      · exact a1 i hi e.symm
      · exact hlt a (.head _) i hi e.symm
    · exact put_perm.trans (List.Perm.cons a h2)
theorem srt_ok (off n : Nat) : Ord p (srtM p off n) ∧ (srtM p off n).Perm (List.range' off n) := by
  have hp : (List.range' off n).Pairwise (fun b c => p b = p c → b < c) := by
    have h := List.pairwise_lt_range' (s := off) (n := n) (step := 1)
    exact List.Pairwise.imp (S := fun b c => p b = p c → b < c) (fun {a b} hab => fun _ => hab) h
  have := foldl_put (p := p) (List.range' off n) [] .nil hp (fun a ha => nomatch ha)
  simpa [srtM] using this
theorem srt_len (off n : Nat) : (srtM p off n).length = n := by rw [(srt_ok off n).2.length_eq, List.length_range']
theorem srt_mem {off n i : Nat} : i ∈ srtM p off n ↔ off ≤ i ∧ i < off + n := by
  rw [(srt_ok off n).2.mem_iff, List.mem_range'_1]
theorem ord_imp {l : List Nat} (h : Ord p l) : l.Pairwise (fun b c => p b = p c → b < c) := h.imp fun {a b} hab e => by rcases hab with h | h <;> omega
theorem merge_srt (e : Bool) (off s t : Nat) : mergeM p e (srtM p off s) (srtM p (off + s) t) = srtM p off (s + t) := by
  have hlt : ∀ a ∈ srtM p off s, ∀ b ∈ srtM p (off + s) t, p a = p b → a < b := fun a ha b hb _ => by
    have := srt_mem.mp ha
    have := srt_mem.mp hb
    omega
  have hP : (srtM p off s ++ srtM p (off + s) t).Perm (List.range' off (s + t)) := by
    refine ((srt_ok off s).2.append (srt_ok (off + s) t).2).trans ?_
    rw [List.range'_append_1]
  have key : Ord p (mergeM p e (srtM p off s) (srtM p (off + s) t)) ∧ (mergeM p e (srtM p off s) (srtM p (off + s) t)).Perm (srtM p off s ++ srtM p (off + s) t) := by
    unfold mergeM
    cases e with
    | true => exact foldr_put _ _ (srt_ok _ _).1 (ord_imp (srt_ok _ _).1) hlt
    | false => exact foldl_put _ _ (srt_ok _ _).1 (ord_imp (srt_ok _ _).1) hlt
  exact ord_uniq key.1 (srt_ok _ _).1 ((key.2.trans hP).trans (srt_ok _ _).2.symm)
variable (p)
noncomputable def blk (n : Nat) : List Nat := (if n / 8 % 2 = 1 then srtM p (n / 16 * 16) 8 else []) ++ (if n / 4 % 2 = 1 then srtM p (n / 8 * 8) 4 else []) ++ (if n / 2 % 2 = 1 then srtM p (n / 4 * 4) 2 else []) ++ (if n % 2 = 1 then srtM p (n / 2 * 2) 1 else [])
variable {p}
noncomputable def sgs (n : Nat) : List (Nat × Nat) := (if n / 8 % 2 = 1 then [(n / 16 * 16, 8)] else []) ++ (if n / 4 % 2 = 1 then [(n / 8 * 8, 4)] else []) ++ (if n / 2 % 2 = 1 then [(n / 4 * 4, 2)] else []) ++ (if n % 2 = 1 then [(n / 2 * 2, 1)] else [])
theorem sgs_one {c : Prop} [Decidable c] {a b : Nat} : (if c then [(a, b)] else []).flatMap (fun s : Nat × Nat => srtM p s.1 s.2) = if c then srtM p a b else [] := by
  by_cases h : c
  · rw [if_pos h, if_pos h]; exact List.append_nil _
  · rw [if_neg h, if_neg h]; rfl
theorem blk_sgs (n : Nat) : blk p n = (sgs n).flatMap fun s => srtM p s.1 s.2 := by
  unfold blk sgs
  rw [List.flatMap_append, List.flatMap_append, List.flatMap_append, sgs_one, sgs_one, sgs_one, sgs_one]
theorem tab_sgs : ((List.range 16).all fun n => ((sgs n).map (·.2)).sum == n && (sgs n).all fun s => decide (s.1 + s.2 ≤ n)) = true := by decide +kernel
theorem sgs_at {n : Nat} (h : n < 16) : ((sgs n).map (·.2)).sum = n ∧ ∀ s ∈ sgs n, s.1 + s.2 ≤ n := by
  have := List.all_eq_true.mp tab_sgs n (List.mem_range.mpr h)
  rw [Bool.and_eq_true, beq_iff_eq, List.all_eq_true] at this
  exact ⟨this.1, fun s hs => of_decide_eq_true (this.2 s hs)⟩
theorem blk_len (n : Nat) (h : n < 16) : (blk p n).length = n := by
  rw [blk_sgs, List.length_flatMap, List.map_congr_left (g := (·.2)) fun s _ => srt_len s.1 s.2]
  exact (sgs_at h).1
theorem blk_mem {n i : Nat} (h : n < 16) : i ∈ blk p n → i < n := by
  rw [blk_sgs, List.mem_flatMap]
  rintro ⟨s, hs, hi⟩
  exact Nat.lt_of_lt_of_le (srt_mem.mp hi).2 ((sgs_at h).2 s hs)
theorem srt_one (off : Nat) : srtM p off 1 = [off] := rfl
theorem sgs_snoc {n m a b : Nat} (h : sgs n = sgs m ++ [(a, b)]) : blk p n = blk p m ++ srtM p a b := by
  rw [blk_sgs, blk_sgs, h, List.flatMap_append]
  congr 1
  exact List.append_nil _
theorem tab_split : ((List.range 16).all fun n => (List.range 3).all fun k => n % 2 ^ (k + 1) != 0 || n == 0 || sgs (n - 2 ^ k) == sgs (n - 2 ^ (k + 1)) ++ [(n - 2 ^ (k + 1), 2 ^ k)]) = true := by decide +kernel
theorem blk_split (n1 k : Nat) (hn : n1 < 16) (hk : k < 3) (hd : 2 ^ (k + 1) ∣ n1) (h0 : 0 < n1) : blk p (n1 - 2 ^ k) = blk p (n1 - 2 ^ (k + 1)) ++ srtM p (n1 - 2 ^ (k + 1)) (2 ^ k) := by
  have := List.all_eq_true.mp (List.all_eq_true.mp tab_split n1 (List.mem_range.mpr hn)) k (List.mem_range.mpr hk)
  rw [Nat.mod_eq_zero_of_dvd hd, beq_false_of_ne (Nat.ne_of_gt h0)] at this
  exact sgs_snoc (eq_of_beq this)
theorem tab_full : ((List.range 16).all fun n => (List.range 4).all fun k => n / 2 ^ k % 2 != 1 || n % 2 ^ k != 0 || sgs n == sgs (n - 2 ^ k) ++ [(n - 2 ^ k, 2 ^ k)]) = true := by decide +kernel
theorem blk_full (n1 k : Nat) (hn : n1 < 16) (hk : k < 4) (hd : n1 / 2 ^ k % 2 = 1) (hz : n1 % 2 ^ k = 0) : blk p (n1 - 2 ^ k) ++ srtM p (n1 - 2 ^ k) (2 ^ k) = blk p n1 := by
  have := List.all_eq_true.mp (List.all_eq_true.mp tab_full n1 (List.mem_range.mpr hn)) k (List.mem_range.mpr hk)
  rw [hd, hz] at this
  exact (sgs_snoc (eq_of_beq this)).symm
end
end Mine
end
section
open PySem PySem.W PyProof.Rows PySem.Spec PySem.Calls
set_option Elab.async false
set_option maxRecDepth 100000
set_option maxHeartbeats 4000000
set_option linter.all false
namespace Mine
section
variable {p : Nat → Int} {rep : Nat → PStr}
structure RepG (p : Nat → Int) (rep : Nat → PStr) (n : Nat) : Prop where
  port : ∀ i, i < n → p229 (rep i) = .ok (p i)
  len : ∀ i, i < n → (rep i).length ≤ 640
noncomputable def RowW (p : Nat → Int) (rep : Nat → PStr) (kv : Value) (W : List Nat) (vs : List Value) : Prop :=
  (kv = .ref 108 ∧ StrsAre vs (W.map rep)) ∨ (kv = .none ∧ IntsAre vs (W.map p))
theorem ints_get : ∀ {vs : List Value} {ns : List Int} {i : Nat} {v : Value}, IntsAre vs ns → vs[i]? = some v → ∃ y t, v = .int y t ∧ ns[i]? = some y
  | _, _, 0, _, .cons y t _, h => ⟨y, t, (Option.some.inj h).symm, rfl⟩
  | _, _, i + 1, _, .cons _ _ r, h => ints_get (i := i) r (by simpa using h)
theorem strs_get : ∀ {vs : List Value} {ys : List PStr} {i : Nat} {v : Value}, StrsAre vs ys → vs[i]? = some v → ∃ y t, v = .str y t ∧ ys[i]? = some y
  | _, _, 0, _, .cons y t _, h => ⟨y, t, (Option.some.inj h).symm, rfl⟩
  | _, _, i + 1, _, .cons _ _ r, h => strs_get (i := i) r (by simpa using h)
theorem ints_erase {vs : List Value} {ns : List Int} : ∀ (n : Nat), IntsAre vs ns → IntsAre (vs.eraseIdx n) (ns.eraseIdx n) := by
  intro n h
  induction h generalizing n with
  | nil => exact .nil
  | cons k t hs ih =>
    cases n with
    | zero => exact hs
    | succ n => exact .cons k t (ih n)
theorem strs_erase {vs : List Value} {ys : List PStr} : ∀ (n : Nat), StrsAre vs ys → StrsAre (vs.eraseIdx n) (ys.eraseIdx n) := by
  intro n h
  induction h generalizing n with
  | nil => exact .nil
  | cons k t hs ih =>
    cases n with
    | zero => exact hs
    | succ n => exact .cons k t (ih n)
theorem map_eraseIdx {α β : Type} (f : α → β) : ∀ (l : List α) (n : Nat), (l.eraseIdx n).map f = (l.map f).eraseIdx n
  | [], _ => rfl
  | _ :: _, 0 => rfl
  | a :: l, n + 1 => congrArg (f a :: ·) (map_eraseIdx f l n)
theorem ints_take : ∀ {vs : List Value} {ns : List Int} (n : Nat), IntsAre vs ns → IntsAre (vs.take n) (ns.take n)
  | _, _, 0, _ => .nil
  | _, _, _ + 1, .nil => .nil
  | _, _, n + 1, .cons k t h => .cons k t (ints_take n h)
theorem ints_drop' : ∀ {vs : List Value} {ns : List Int} (n : Nat), IntsAre vs ns → IntsAre (vs.drop n) (ns.drop n)
  | _, _, 0, h => h
  | _, _, _ + 1, .nil => .nil
  | _, _, n + 1, .cons _ _ h => ints_drop' n h
theorem kl_ins_nat {l : List Value} {n : Nat} {x : Int} {y : Value} (hx : x = (n : Int)) (h : n ≤ l.length) : kl_ins l x y = l.take n ++ y :: l.drop n := by
  subst hx
  unfold kl_ins
  rw [if_neg (by omega), show min ((n : Int)).toNat l.length = n by omega]
theorem RowW.len {kv : Value} {W : List Nat} {vs : List Value} (h : RowW p rep kv W vs) : vs.length = W.length := by
  rcases h with ⟨_, h⟩ | ⟨_, h⟩
  · rw [h.len_eq, List.length_map]
  · rw [ints_length h, List.length_map]
theorem RowW.is {kv : Value} {W : List Nat} {vs : List Value} {n : Nat} (h : RowW p rep kv W vs) (hr : RepG p rep n) (hW : ∀ i ∈ W, i < n) : ∃ k, RowIs 108 kv vs k W.length ∧ ∀ i, i < W.length → k i = .ok (p (W.getD i 0)) := by
  rcases h with ⟨e, h⟩ | ⟨e, h⟩
  · refine ⟨_, .inl ⟨_, h, e, rfl, (List.length_map _).symm, fun y hy => ?_⟩, fun i hi => ?_⟩
    · obtain ⟨j, hj, rfl⟩ := List.mem_map.mp hy
      exact hr.len j (hW j hj)
    · have e2 : (W.map rep).getD i Str.empty = rep (W.getD i 0) := by
        rw [List.getD_eq_getElem?_getD, List.getD_eq_getElem?_getD, List.getElem?_map, List.getElem?_eq_getElem hi]; rfl
      show p229 ((W.map rep).getD i Str.empty) = _
      rw [e2]
      refine hr.port _ (hW _ ?_)
      rw [List.getD_eq_getElem?_getD, List.getElem?_eq_getElem hi]
      exact List.getElem_mem ..
  · refine ⟨_, .inr ⟨_, h, e, rfl, (List.length_map _).symm⟩, fun i hi => ?_⟩
    show Except.ok ((W.map p).getD i 0) = _
    rw [List.getD_eq_getElem?_getD, List.getD_eq_getElem?_getD, List.getElem?_map, List.getElem?_eq_getElem hi]; rfl
theorem RowW.thing {kv v : Value} {W : List Nat} {vs : List Value} {n i j : Nat} (h : RowW p rep kv W vs) (hr : RepG p rep n) (hW : ∀ i ∈ W, i < n) (hv : vs[i]? = some v) (hj : W[i]? = some j) : ThingIs 108 kv v (.ok (p j)) := by
  rcases h with ⟨e, h⟩ | ⟨e, h⟩
  · obtain ⟨y, t, rfl, hy⟩ := strs_get h hv
    rw [List.getElem?_map, hj] at hy
    obtain rfl := Option.some.inj hy
    exact .inl ⟨_, _, rfl, e, (hr.port j (hW j (List.mem_of_getElem? hj))).symm, hr.len j (hW j (List.mem_of_getElem? hj))⟩
  · obtain ⟨y, t, rfl, hy⟩ := ints_get h hv
    rw [List.getElem?_map, hj] at hy
    obtain rfl := Option.some.inj hy
    exact .inr ⟨_, _, rfl, e, rfl⟩
theorem RowW.erase {kv : Value} {W : List Nat} {vs : List Value} (h : RowW p rep kv W vs) (i : Nat) : RowW p rep kv (W.eraseIdx i) (vs.eraseIdx i) := by
  rcases h with ⟨e, h⟩ | ⟨e, h⟩
  · exact .inl ⟨e, by rw [map_eraseIdx]; exact strs_erase i h⟩
  · exact .inr ⟨e, by rw [map_eraseIdx]; exact ints_erase i h⟩
theorem RowW.put {kv v : Value} {W X : List Nat} {vs us : List Value} {i j c : Nat} {x : Int} (h : RowW p rep kv W vs) (hv : vs[i]? = some v) (hj : W[i]? = some j) (g : RowW p rep kv X us) (hx : x = (c : Int)) (hc : c ≤ X.length) : RowW p rep kv (X.take c ++ j :: X.drop c) (kl_ins us x v) := by
  have gl := g.len
  rw [kl_ins_nat hx (by omega)]
  rcases h with ⟨e, h⟩ | ⟨e, h⟩
  · obtain ⟨y, t, rfl, hy⟩ := strs_get h hv
    rw [List.getElem?_map, hj] at hy
    obtain rfl := Option.some.inj hy
    rcases g with ⟨e2, g⟩ | ⟨e2, g⟩
    · refine .inl ⟨e, ?_⟩
      rw [List.map_append, List.map_cons, List.map_take, List.map_drop]
      exact (g.take' c).append' (.cons _ t (g.drop' c))
    · rw [e] at e2; cases e2
  · obtain ⟨y, t, rfl, hy⟩ := ints_get h hv
    rw [List.getElem?_map, hj] at hy
    obtain rfl := Option.some.inj hy
    rcases g with ⟨e2, g⟩ | ⟨e2, g⟩
    · rw [e] at e2; cases e2
    · refine .inr ⟨e, ?_⟩
      rw [List.map_append, List.map_cons, List.map_take, List.map_drop]
      exact intsAre_append (ints_take c g) (.cons _ t (ints_drop' c g))
theorem ins_in {r : Bool} {k : Nat → KRes} {x lo : Int} {hi : Nat} {X R Y W : List Nat} (hW : W = X ++ R ++ Y) (hk : ∀ i, i < W.length → k i = .ok (p (W.getD i 0))) (hR : Ord p R) (hlo : lo = (X.length : Int)) (hhi : hi = X.length + R.length) :
    insZ r k (.ok x) lo hi = .ok (X.length + cnt p r x R) := by
  subst hW hlo hhi
  have hc := cnt_le (p := p) (r := r) (x := x) (R := R)
  show bisZ r k x (X.length : Int) _ = _
  rw [bisZ_nat]
  refine bis_at_in (l := X.length) (h := X.length + R.length) (ky := fun i => p ((X ++ R ++ Y).getD i 0)) (fun i h1 h2 => hk i (by simp; omega)) (fun i h1 h2 => ?_) _ _ _ (Nat.le_refl _) (Nat.le_refl _) (by omega) (by omega) (Nat.le_refl _)
  obtain ⟨j, rfl⟩ := Nat.exists_eq_add_of_le h1
  have hj : j < R.length := by omega
  have e : (X ++ R ++ Y).getD (X.length + j) 0 = R[j] := by
    rw [List.getD_eq_getElem?_getD, List.append_assoc, List.getElem?_append_right (by omega), Nat.add_sub_cancel_left, List.getElem?_append_left hj, List.getElem?_eq_getElem hj]; rfl
  show (if r then x < p ((X ++ R ++ Y).getD (X.length + j) 0) else ¬ p ((X ++ R ++ Y).getD (X.length + j) 0) < x) ↔ _
  rw [e, cnt_at hR hj]
  omega
variable (p)
noncomputable def rgtM (A B : List Nat) (i : Nat) : List Nat := (B.take i).foldl (fun R b => putM p true b R) A
noncomputable def lftM (A B : List Nat) (i : Nat) : List Nat := (A.drop (A.length - i)).foldr (fun a R => putM p false a R) B
variable {p}
theorem rgt_step {A B : List Nat} {i b : Nat} (h : B[i]? = some b) : rgtM p A B (i + 1) = putM p true b (rgtM p A B i) := by
  unfold rgtM
  rw [List.take_add_one, h, List.foldl_append]
  rfl
theorem lft_step {A B : List Nat} {i a : Nat} (hi : i < A.length) (h : A[A.length - 1 - i]? = some a) : lftM p A B (i + 1) = putM p false a (lftM p A B i) := by
  unfold lftM
  have e : A.drop (A.length - (i + 1)) = a :: A.drop (A.length - i) := by
    rw [show A.length - (i + 1) = A.length - 1 - i by omega, show A.length - i = A.length - 1 - i + 1 by omega]
    have hlt : A.length - 1 - i < A.length := by omega
    rw [List.drop_eq_getElem_cons hlt]
    congr 1
    rw [List.getElem?_eq_getElem hlt] at h
    exact Option.some.inj h
  rw [e]
  rfl
theorem rgt_all {A B : List Nat} {n : Nat} (h : B.length = n) : rgtM p A B n = mergeM p false A B := by
  unfold rgtM mergeM
  rw [List.take_of_length_le (by omega)]
  rfl
theorem lft_all {A B : List Nat} {n : Nat} (h : A.length = n) : lftM p A B n = mergeM p true A B := by
  unfold lftM mergeM
  rw [h, Nat.sub_self]
  rfl
theorem rgt_ok {off s : Nat} (i : Nat) (hi : i ≤ s) : Ord p (rgtM p (srtM p off s) (srtM p (off + s) s) i) ∧ (rgtM p (srtM p off s) (srtM p (off + s) s) i).length = s + i := by
  have hB : Ord p ((srtM p (off + s) s).take i) := (srt_ok (off + s) s).1.sublist (List.take_sublist ..)
  have := foldl_put (p := p) ((srtM p (off + s) s).take i) (srtM p off s) (srt_ok _ _).1 (ord_imp hB) (fun a ha b hb _ => by
    have := srt_mem.mp ha
    have := srt_mem.mp (List.mem_of_mem_take hb)
    omega)
  refine ⟨this.1, ?_⟩
  unfold rgtM
  rw [this.2.length_eq, List.length_append, List.length_take, srt_len, srt_len]
  omega
theorem lft_ok {off s : Nat} (i : Nat) (hi : i ≤ s) : Ord p (lftM p (srtM p off s) (srtM p (off + s) s) i) ∧ (lftM p (srtM p off s) (srtM p (off + s) s) i).length = s + i := by
  have hA : Ord p ((srtM p off s).drop ((srtM p off s).length - i)) := (srt_ok off s).1.sublist (List.drop_sublist ..)
  have := foldr_put (p := p) ((srtM p off s).drop ((srtM p off s).length - i)) (srtM p (off + s) s) (srt_ok _ _).1 (ord_imp hA) (fun a ha b hb _ => by
    have := srt_mem.mp (List.mem_of_mem_drop ha)
    have := srt_mem.mp hb
    omega)
  refine ⟨this.1, ?_⟩
  unfold lftM
  rw [this.2.length_eq, List.length_append, List.length_drop, srt_len, srt_len]
  omega
noncomputable def rowR (p : Nat → Int) (pre : List Nat) (off s i : Nat) : List Nat := pre ++ rgtM p (srtM p off s) (srtM p (off + s) s) i ++ (srtM p (off + s) s).drop i
noncomputable def rowL (p : Nat → Int) (pre : List Nat) (off s i : Nat) : List Nat := pre ++ (srtM p off s).take (s - i) ++ lftM p (srtM p off s) (srtM p (off + s) s) i
theorem rowR_zero {pre : List Nat} {off s : Nat} : rowR p pre off s 0 = pre ++ srtM p off s ++ srtM p (off + s) s := by
  unfold rowR rgtM; rfl
theorem rowL_zero {pre : List Nat} {off s : Nat} : rowL p pre off s 0 = pre ++ srtM p off s ++ srtM p (off + s) s := by
  unfold rowL lftM
  rw [Nat.sub_zero, List.take_of_length_le (by rw [srt_len]; omega), Nat.sub_zero, List.drop_of_length_le (Nat.le_refl _)]
  rfl
theorem rowR_all {pre : List Nat} {off s : Nat} : rowR p pre off s s = pre ++ srtM p off (s + s) := by
  unfold rowR
  rw [rgt_all (srt_len _ _), merge_srt, List.drop_of_length_le (by rw [srt_len]; omega), List.append_nil]
theorem rowL_all {pre : List Nat} {off s : Nat} : rowL p pre off s s = pre ++ srtM p off (s + s) := by
  unfold rowL
  rw [lft_all (srt_len _ _), merge_srt, Nat.sub_self, List.take_zero, List.append_nil]
theorem rowR_len {pre : List Nat} {off s i : Nat} (hi : i ≤ s) : (rowR p pre off s i).length = pre.length + 2 * s := by
  unfold rowR
  rw [List.length_append, List.length_append, (rgt_ok i hi).2, List.length_drop, srt_len]
  omega
theorem rowL_len {pre : List Nat} {off s i : Nat} (hi : i ≤ s) : (rowL p pre off s i).length = pre.length + 2 * s := by
  unfold rowL
  rw [List.length_append, List.length_append, (lft_ok i hi).2, List.length_take, srt_len]
  omega
theorem put_eq {r : Bool} {b : Nat} {X R Y : List Nat} : (X ++ R ++ Y).take (X.length + cnt p r (p b) R) ++ b :: (X ++ R ++ Y).drop (X.length + cnt p r (p b) R) = X ++ putM p r b R ++ Y := by
  have hc := cnt_le (p := p) (r := r) (x := p b) (R := R)
  unfold putM
  rw [List.append_assoc, List.take_length_add_append, List.drop_length_add_append, List.take_append_of_le_length hc, List.drop_append_of_le_length hc]
  simp
theorem rowR_step {pre : List Nat} {off s i : Nat} (hi : i < s) : ∃ b, (rowR p pre off s i)[pre.length + s + i]? = some b ∧ (rowR p pre off s i).eraseIdx (pre.length + s + i) = pre ++ rgtM p (srtM p off s) (srtM p (off + s) s) i ++ (srtM p (off + s) s).drop (i + 1) ∧
    pre ++ putM p true b (rgtM p (srtM p off s) (srtM p (off + s) s) i) ++ (srtM p (off + s) s).drop (i + 1) = rowR p pre off s (i + 1) := by
  have hl := (rgt_ok (p := p) (off := off) i (Nat.le_of_lt hi)).2
  have hB : i < (srtM p (off + s) s).length := by rw [srt_len]; exact hi
  have e : (pre ++ rgtM p (srtM p off s) (srtM p (off + s) s) i).length = pre.length + s + i := by rw [List.length_append, hl]; omega
  refine ⟨(srtM p (off + s) s)[i], ?_, ?_, ?_⟩
  · unfold rowR
    rw [List.getElem?_append_right (by omega), e, Nat.sub_self, List.getElem?_drop, Nat.add_zero, List.getElem?_eq_getElem hB]
  · unfold rowR
    rw [List.eraseIdx_append_of_length_le (by omega), e, Nat.sub_self, List.drop_eq_getElem_cons hB]
    rfl
  · unfold rowR
    rw [rgt_step (List.getElem?_eq_getElem hB)]
theorem rowL_step {pre : List Nat} {off s i : Nat} (hi : i < s) : ∃ a, (rowL p pre off s i)[pre.length + (s - 1 - i)]? = some a ∧ (rowL p pre off s i).eraseIdx (pre.length + (s - 1 - i)) = pre ++ (srtM p off s).take (s - 1 - i) ++ lftM p (srtM p off s) (srtM p (off + s) s) i ∧
    pre ++ (srtM p off s).take (s - 1 - i) ++ putM p false a (lftM p (srtM p off s) (srtM p (off + s) s) i) = rowL p pre off s (i + 1) := by
  have hA : s - 1 - i < (srtM p off s).length := by rw [srt_len]; omega
  have e1 : (srtM p off s).take (s - i) = (srtM p off s).take (s - 1 - i) ++ [(srtM p off s)[s - 1 - i]] := by
    rw [show s - i = s - 1 - i + 1 by omega, List.take_add_one, List.getElem?_eq_getElem hA]
    rfl
  have e2 : (pre ++ (srtM p off s).take (s - 1 - i)).length = pre.length + (s - 1 - i) := by rw [List.length_append, List.length_take, srt_len]; omega
  refine ⟨(srtM p off s)[s - 1 - i], ?_, ?_, ?_⟩
  · unfold rowL
    rw [e1, ← List.append_assoc, List.append_assoc _ [_] _, List.getElem?_append_right (by omega), e2, Nat.sub_self]
    rfl
  · unfold rowL
    rw [e1, ← List.append_assoc, List.append_assoc _ [_] _, List.eraseIdx_append_of_length_le (by omega), e2, Nat.sub_self]
    rfl
  · unfold rowL
    rw [lft_step (by rw [srt_len]; exact hi) (by rw [srt_len]; exact List.getElem?_eq_getElem hA), show s - (i + 1) = s - 1 - i by omega]
end
end Mine
end
section
open PySem PySem.W PyProof.Rows PySem.Spec PySem.Calls
set_option Elab.async false
set_option maxRecDepth 100000
set_option maxHeartbeats 4000000
set_option linter.all false
namespace Mine
theorem qt_eq : Str.ofString "\"" = ⟨#[34]⟩ := by decide +kernel
theorem str_eq {x y : PStr} (h : x.cps.toList = y.cps.toList) : x = y := PySem.Str.ext' (Array.toList_inj.mp h)
theorem len_list (x : PStr) : x.length = x.cps.toList.length := by simp [PySem.Str.length]
noncomputable def rdQ : List Nat → List Nat
  | [] => []
  | c :: r => if c = 34 then (match r with | [] => [] | k :: r' => if k = 34 then 34 :: rdQ r' else []) else c :: rdQ r
theorem rdQ_plain {c : Nat} {r : List Nat} (h : c ≠ 34) : rdQ (c :: r) = c :: rdQ r := by cases r <;> simp [rdQ, h]
theorem rdQ_pair {r : List Nat} : rdQ (34 :: 34 :: r) = 34 :: rdQ r := by simp [rdQ]
theorem rdQ_end {t : List Nat} (h : t.head? ≠ some 34) : rdQ (34 :: t) = [] := by
  cases t with
  | nil => simp [rdQ]
  | cons k r =>
    have : k ≠ 34 := fun e => h (by rw [e]; rfl)
    simp [rdQ, this]
theorem item_list {r : PStr} {i : Nat} {c : Nat} {t : List Nat} (h : r.cps.toList.drop i = c :: t) : Txt.item r (i : Int) = ⟨#[c]⟩ ∧ i < r.length ∧ r.cps.toList.drop (i + 1) = t := by
  have hi : i < r.cps.toList.length := by
    rcases Nat.lt_or_ge i r.cps.toList.length with h' | h'
    · exact h'
    · rw [List.drop_eq_nil_of_le h'] at h; cases h
  have hc : r.cps.toList[i]? = some c := by
    have := List.head?_drop (l := r.cps.toList) (i := i)
    rw [h] at this
    exact this.symm
  refine ⟨?_, by rw [len_list]; exact hi, ?_⟩
  · refine (item_at (x := r) (i := (i : Int)) (n := i) (by omega) (by rw [len_list]; omega) rfl).trans ?_
    rw [StrLaws.getD_of_getElem? hc]
  · rw [← List.drop_drop, h]; rfl
theorem q_beq {c : Nat} : ((⟨#[c]⟩ : PStr) == Str.ofString "\"") = decide (c = 34) := by rw [qt_eq]; exact one_beq
theorem go_rdQ {r : PStr} : ∀ (n i : Nat) (d : PStr), r.length - i ≤ n → go257 r (r.length - i) i d = d ++ ⟨(rdQ (r.cps.toList.drop i)).toArray⟩
  | 0, i, d, h => by
    have hl : r.cps.toList.drop i = [] := List.drop_eq_nil_of_le (by rw [← len_list]; omega)
    rw [hl, go_end (by omega)]
    exact (PySem.Str.append_empty d).symm
  | n + 1, i, d, h => by
    cases hd : r.cps.toList.drop i with
    | nil =>
      have : r.cps.toList.length ≤ i := List.drop_eq_nil_iff.mp hd
      rw [go_end (by rw [len_list]; omega)]
      exact (PySem.Str.append_empty d).symm
    | cons c t =>
      obtain ⟨e1, e2, e3⟩ := item_list hd
      by_cases hc : c = 34
      · subst hc
        have q1 : (Txt.item r (i : Int) == Str.ofString "\"") = true := by rw [e1, q_beq]; rfl
        cases t with
        | nil =>
          have : r.cps.toList.length ≤ i + 1 := List.drop_eq_nil_iff.mp e3
          rw [go_stop1 (by omega) q1 (by rw [len_list]; omega)]
          exact (PySem.Str.append_empty d).symm
        | cons k t' =>
          obtain ⟨f1, f2, f3⟩ := item_list e3
          by_cases hk : k = 34
          · subst hk
            have q2 : (Txt.item r ((i : Int) + 1) != Str.ofString "\"") = false := by
              have : ((i : Int) + 1) = ((i + 1 : Nat) : Int) := rfl
              rw [this, f1, bne, q_beq]; rfl
            rw [go_pair (by omega) q1 (by omega) q2, go_rdQ n (i + 2) _ (by omega), f3, rdQ_pair, e1]
            refine str_eq ?_
            simp only [str_toList, List.append_assoc]
            rfl
          · have q2 : (Txt.item r ((i : Int) + 1) != Str.ofString "\"") = true := by
              have : ((i : Int) + 1) = ((i + 1 : Nat) : Int) := rfl
              rw [this, f1, bne, q_beq, decide_eq_false hk]; rfl
            rw [go_stop2 (by omega) q1 (by omega) q2, rdQ_end (by simp [hk])]
            exact (PySem.Str.append_empty d).symm
      · have q1 : (Txt.item r (i : Int) == Str.ofString "\"") = false := by rw [e1, q_beq, decide_eq_false hc]
        rw [go_plain (by omega) q1, go_rdQ n (i + 1) _ (by omega), e3, rdQ_plain hc, e1]
        refine str_eq ?_
        simp only [str_toList, List.append_assoc]
        rfl
theorem quo_is (t : PStr) : quo t = ⟨(rdQ t.cps.toList).toArray⟩ := by
  have h := q257_len t
  have e : t.length = (q257 ++ t).length - 5 := by omega
  unfold quo
  rw [e, go_rdQ _ _ _ (Nat.le_refl _), Str.empty_append, str_toList, q257_list]
  rfl
end Mine
end
section
open PySem PySem.W PyProof.Rows PySem.Spec PySem.Calls
set_option Elab.async false
set_option maxRecDepth 100000
set_option maxHeartbeats 4000000
set_option linter.all false
namespace Mine
noncomputable def QX (n : Nat) (b : Bool) : PStr := ⟨(List.replicate n 34 ++ (if b then [120] else [])).toArray⟩
theorem QX_list (n : Nat) (b : Bool) : (QX n b).cps.toList = List.replicate n 34 ++ (if b then [120] else []) := rfl
theorem QX_len (n : Nat) (b : Bool) : (QX n b).length ≤ n + 1 := by
  rw [len_list, QX_list]
  cases b <;> simp
theorem rd_even (t : List Nat) : ∀ k : Nat, rdQ (List.replicate (2 * k) 34 ++ t) = List.replicate k 34 ++ rdQ t
  | 0 => rfl
  | k + 1 => by
    have ih := rd_even t k
    show rdQ (List.replicate (2 * k + 2) 34 ++ t) = _
    rw [List.replicate_succ, List.replicate_succ]
    show rdQ (34 :: 34 :: (List.replicate (2 * k) 34 ++ t)) = _
    rw [rdQ_pair, ih]
    rfl
theorem rd_odd (t : List Nat) (ht : t.head? ≠ some 34) (k : Nat) : rdQ (List.replicate (2 * k + 1) 34 ++ t) = List.replicate k 34 := by
  have e : List.replicate (2 * k + 1) 34 ++ t = List.replicate (2 * k) 34 ++ (34 :: t) := by
    rw [List.replicate_succ', List.append_assoc]; rfl
  rw [e, rd_even, rdQ_end ht, List.append_nil]
theorem read_x (n : Nat) : p257 (q257 ++ QX n true) = .ok (QX (n / 2) (decide (n % 2 = 0))) := by
  rw [p257_quo, quo_is, QX_list]
  congr 1
  refine str_eq ?_
  show rdQ _ = _
  rw [QX_list]
  rcases Nat.mod_two_eq_zero_or_one n with h | h
  · have e : n = 2 * (n / 2) := by omega
    rw [h, e, rd_even, show 2 * (n / 2) / 2 = n / 2 by omega]
    rfl
  · have e : n = 2 * (n / 2) + 1 := by omega
    rw [h, e, rd_odd _ (by decide), show (2 * (n / 2) + 1) / 2 = n / 2 by omega]
    simp
theorem read_q (n : Nat) : p257 (q257 ++ QX n false) = .ok (QX (n / 2) false) := by
  rw [p257_quo, quo_is, QX_list]
  congr 1
  refine str_eq ?_
  show rdQ _ = _
  rw [QX_list]
  rcases Nat.mod_two_eq_zero_or_one n with h | h
  · have e : n = 2 * (n / 2) := by omega
    rw [e, rd_even, show 2 * (n / 2) / 2 = n / 2 by omega]
    rfl
  · have e : n = 2 * (n / 2) + 1 := by omega
    rw [e, rd_odd _ (by decide), show (2 * (n / 2) + 1) / 2 = n / 2 by omega]
    simp
theorem x_list : (Str.ofString "x").cps.toList = [120] := by decide +kernel
theorem QX_x (n : Nat) : QX n false ++ Str.ofString "x" = QX n true := by
  refine str_eq ?_
  rw [str_toList, QX_list, QX_list, x_list]
  simp
theorem last_list (x : PStr) (h : 0 < x.cps.toList.length) : Txt.slice x (some (-1)) none = ⟨(x.cps.toList.drop (x.cps.toList.length - 1)).toArray⟩ := by
  rw [slice_from_neg (by decide), show max 0 ((x.length : Int) + -1) = ((x.cps.toList.length - 1 : Nat) : Int) by rw [len_list]; omega]
  have := StrLaws.sliceText_from (x := x) (i := ((x.cps.toList.length - 1 : Nat) : Int)) ⟨by omega, by omega⟩
  refine (show Txt.slice x (some ((x.cps.toList.length - 1 : Nat) : Int)) none = _ from this).trans ?_
  congr 2
  rw [List.take_of_length_le]
  · rfl
  · simp
theorem last_x (n : Nat) : Txt.slice (QX n true) (some (-1)) none = Str.ofString "x" := by
  have hl : (QX n true).cps.toList.length = n + 1 := by rw [QX_list]; simp
  rw [last_list _ (by omega), hl, QX_list]
  refine str_eq ?_
  rw [x_list]
  show List.drop (n + 1 - 1) (List.replicate n 34 ++ [120]) = [120]
  rw [show n + 1 - 1 = n by omega, List.drop_append_of_le_length (by simp), List.drop_of_length_le (by simp)]
  rfl
theorem last_q (n : Nat) : Txt.slice (QX n false) (some (-1)) none ≠ Str.ofString "x" := by
  cases n with
  | zero =>
    have e : QX 0 false = Str.empty := str_eq rfl
    rw [e]
    decide +kernel
  | succ n =>
    have hl : (QX (n + 1) false).cps.toList.length = n + 1 := by rw [QX_list]; simp
    rw [last_list _ (by omega), hl, QX_list]
    intro c
    have := congrArg (fun z : PStr => z.cps.toList) c
    rw [x_list] at this
    have h2 : List.drop (n + 1 - 1) (List.replicate (n + 1) 34 ++ []) = [120] := this
    rw [List.append_nil, List.drop_replicate, show n + 1 - (n + 1 - 1) = 1 by omega] at h2
    cases h2
theorem mul_tab : ((List.range 32).all fun n => decide (Txt.mul (Str.ofString "\"") (n : Int) = QX n false)) = true := by decide +kernel
theorem mul_q {n : Nat} (h : n < 32) : Txt.mul (Str.ofString "\"") (n : Int) = QX n false := of_decide_eq_true (List.all_eq_true.mp mul_tab n (List.mem_range.mpr h))
noncomputable def tzM (n : Nat) : Nat := if n % 2 = 1 then 0 else if n / 2 % 2 = 1 then 1 else if n / 4 % 2 = 1 then 2 else 3
theorem tz_at {n k : Nat} (hn : n < 16) (h0 : 0 < n) (hk : k < 4) (hz : n % 2 ^ k = 0) (ho : n / 2 ^ k % 2 = 1) : tzM n = k := by
  have hk' : k = 0 ∨ k = 1 ∨ k = 2 ∨ k = 3 := by omega
  unfold tzM
  rcases hk' with rfl | rfl | rfl | rfl <;> simp at * <;> (repeat' split) <;> omega
end Mine
end
section
open PySem PySem.W PyProof.Rows PySem.Spec PySem.Calls
set_option Elab.async false
set_option maxRecDepth 100000
set_option maxHeartbeats 4000000
set_option linter.all false
namespace Mine
section
variable {p : Nat → Int} {rep : Nat → PStr}
theorem lft_mem {off s i x : Nat} (h : x ∈ lftM p (srtM p off s) (srtM p (off + s) s) i) : off ≤ x ∧ x < off + 2 * s := by
  unfold lftM at h
  have hA : Ord p ((srtM p off s).drop ((srtM p off s).length - i)) := (srt_ok off s).1.sublist (List.drop_sublist ..)
  have := foldr_put (p := p) ((srtM p off s).drop ((srtM p off s).length - i)) (srtM p (off + s) s) (srt_ok _ _).1 (ord_imp hA) (fun a ha b hb _ => by
    have := srt_mem.mp (List.mem_of_mem_drop ha)
    have := srt_mem.mp hb
    omega)
  rcases List.mem_append.mp (this.2.mem_iff.mp h) with h | h
  · have := srt_mem.mp (List.mem_of_mem_drop h); omega
  · have := srt_mem.mp h; omega
theorem rgt_mem {off s i x : Nat} (h : x ∈ rgtM p (srtM p off s) (srtM p (off + s) s) i) : off ≤ x ∧ x < off + 2 * s := by
  unfold rgtM at h
  have hB : Ord p ((srtM p (off + s) s).take i) := (srt_ok (off + s) s).1.sublist (List.take_sublist ..)
  have := foldl_put (p := p) ((srtM p (off + s) s).take i) (srtM p off s) (srt_ok _ _).1 (ord_imp hB) (fun a ha b hb _ => by
    have := srt_mem.mp ha
    have := srt_mem.mp (List.mem_of_mem_take hb)
    omega)
  rcases List.mem_append.mp (this.2.mem_iff.mp h) with h | h
  · have := srt_mem.mp h; omega
  · have := srt_mem.mp (List.mem_of_mem_take h); omega
theorem rowL_lt {pre : List Nat} {off s i n : Nat} (hp : ∀ x ∈ pre, x < n) (hn : off + 2 * s ≤ n) : ∀ x ∈ rowL p pre off s i, x < n := by
  intro x hx
  unfold rowL at hx
  rcases List.mem_append.mp hx with hx | hx
  · rcases List.mem_append.mp hx with hx | hx
    · exact hp x hx
    · have := srt_mem.mp (List.mem_of_mem_take hx); omega
  · have := lft_mem hx; omega
theorem rowR_lt {pre : List Nat} {off s i n : Nat} (hp : ∀ x ∈ pre, x < n) (hn : off + 2 * s ≤ n) : ∀ x ∈ rowR p pre off s i, x < n := by
  intro x hx
  unfold rowR at hx
  rcases List.mem_append.mp hx with hx | hx
  · rcases List.mem_append.mp hx with hx | hx
    · exact hp x hx
    · have := rgt_mem hx; omega
  · have := srt_mem.mp (List.mem_of_mem_drop hx); omega
theorem RowW.move {kv v : Value} {W X R Y : List Nat} {vs : List Value} {n i j : Nat} (r : Bool) (h : RowW p rep kv W vs) (hr : RepG p rep n) (hW : ∀ x ∈ W, x < n) (hv : vs[i]? = some v) (hj : W[i]? = some j) (he : W.eraseIdx i = X ++ R ++ Y) (hR : Ord p R) :
    ∃ k, RowIs 108 kv (vs.eraseIdx i) k (X ++ R ++ Y).length ∧ ThingIs 108 kv v (.ok (p j)) ∧ insZ r k (.ok (p j)) (X.length : Int) (X.length + R.length) = .ok (X.length + cnt p r (p j) R) ∧
      RowW p rep kv (X ++ putM p r j R ++ Y) (kl_ins (vs.eraseIdx i) ((X.length + cnt p r (p j) R : Nat) : Int) v) := by
  have g := h.erase i
  rw [he] at g
  have hc := cnt_le (p := p) (r := r) (x := p j) (R := R)
  obtain ⟨k, h1, h2⟩ := g.is hr (fun x hx => hW x (by rw [← he] at hx; exact List.mem_of_mem_eraseIdx hx))
  refine ⟨k, h1, h.thing hr hW hv hj, ins_in (Y := Y) rfl h2 hR rfl rfl, ?_⟩
  have := h.put hv hj g (c := X.length + cnt p r (p j) R) rfl (by simp; omega)
  rw [put_eq] at this
  exact this
theorem InsOk_bis {r : Bool} {k : Nat → KRes} {x lo : Int} {hi n : Nat} (h : insZ r k (.ok x) lo hi = .ok n) : ∀ y, (Except.ok x : KRes) = .ok y → 0 ≤ lo → ∀ msg, bisZ r k y lo hi ≠ .error (.value, msg) := by
  intro y e _ msg e2
  cases e
  have h' : bisZ r k x lo hi = .ok n := h
  rw [e2] at h'
  cases h'
end
end Mine
end
section
open PySem PySem.W PyProof.Rows PySem.Spec PySem.Calls
set_option Elab.async false
set_option maxRecDepth 100000
set_option maxHeartbeats 4000000
set_option linter.all false
namespace Mine
section
variable (ix : Value → Nat)
def IX (xs : Array Keyed) (i : Nat) : Nat := match xs[i]? with
  | some p => ix p.2
  | none => 0
def Bf (xs : Array Keyed) (i j : Nat) : Prop := K xs i < K xs j ∨ (K xs i = K xs j ∧ IX ix xs i < IX ix xs j)
structure Inv (n : Nat) (xs : Array Keyed) (x : Nat) : Prop where
  ord : ∀ i j, i < j → j < x → Bf ix xs i j
  low : ∀ i, i < x → IX ix xs i < x
  rest : ∀ i, x ≤ i → i < n → IX ix xs i = i
structure Fal (n : Nat) (xs : Array Keyed) (x c : Nat) : Prop where
  ord : ∀ i j, i < j → j < c → Bf ix xs j i
  mid : ∀ i j, i < c → c ≤ j → j < x → K xs j < K xs i
  like : ∀ i j, c ≤ i → i < j → j < x → K xs i = K xs j ∧ IX ix xs i < IX ix xs j
  low : ∀ i, i < x → IX ix xs i < x
  rest : ∀ i, x ≤ i → i < n → IX ix xs i = i
variable {ix}
theorem IX_congr {xs ys : Array Keyed} {i j : Nat} (h : xs[i]? = ys[j]?) : IX ix xs i = IX ix ys j := by unfold IX; rw [h]
def mir (i j k : Nat) : Nat := if i ≤ k ∧ k < j then i + j - 1 - k else k
theorem mir_at {xs : Array Keyed} {i j : Nat} (hj : j ≤ xs.size) (k : Nat) : K (mirror xs i j ((j - i) / 2)) k = K xs (mir i j k) ∧ IX ix (mirror xs i j ((j - i) / 2)) k = IX ix xs (mir i j k) := by
  have e := getElem?_mirror_all (i := i) hj k
  unfold mir
  by_cases h : i ≤ k ∧ k < j
  · rw [if_pos h] at e ⊢; exact ⟨K_congr e, IX_congr e⟩
  · rw [if_neg h] at e ⊢; exact ⟨K_congr e, IX_congr e⟩
theorem bf_mir {xs : Array Keyed} {i j a b : Nat} (hj : j ≤ xs.size) (h : Bf ix xs (mir i j a) (mir i j b)) : Bf ix (mirror xs i j ((j - i) / 2)) a b := by
  unfold Bf at *
  rw [(mir_at (ix := ix) hj a).1, (mir_at (ix := ix) hj b).1, (mir_at (ix := ix) hj a).2, (mir_at (ix := ix) hj b).2]
  exact h
theorem mir_lt {c x i j : Nat} (h : i < j) (hj : j < x) : c + x - 1 - j < c + x - 1 - i := Nat.sub_lt_sub_left (Nat.lt_of_lt_of_le h (Nat.le_trans (Nat.le_sub_one_of_lt hj) (Nat.sub_le_sub_right (Nat.le_add_left x c) 1))) h
theorem mir_in {c x i : Nat} (h1 : c ≤ i) (h2 : i < x) : c ≤ c + x - 1 - i ∧ c + x - 1 - i < x :=
  ⟨Nat.le_sub_of_add_le (Nat.add_sub_assoc (Nat.one_le_of_lt h2) c ▸ Nat.add_le_add_left (Nat.le_sub_one_of_lt h2) c),
    Nat.lt_of_le_of_lt (Nat.sub_le_sub_left h1 _) (by rw [Nat.sub_right_comm, Nat.add_sub_cancel_left]; exact Nat.sub_lt (Nat.zero_lt_of_lt h2) Nat.one_pos)⟩
def dwn (k l i : Nat) : Nat := if i = l then k else if l < i ∧ i ≤ k then i - 1 else i
theorem dwn_at {xs : Array Keyed} {k l : Nat} (hk : k < xs.size) (hl : l ≤ k) (i : Nat) : K (bubble xs k (k - l)) i = K xs (dwn k l i) ∧ IX ix (bubble xs k (k - l)) i = IX ix xs (dwn k l i) := by
  have e := getElem?_bubble hk (k - l) (by omega) i
  rw [show k - (k - l) = l by omega] at e
  unfold dwn
  by_cases h : i = l
  · rw [if_pos h] at e ⊢; exact ⟨K_congr e, IX_congr e⟩
  · rw [if_neg h] at e ⊢
    by_cases h2 : l < i ∧ i ≤ k
    · rw [if_pos h2] at e ⊢; exact ⟨K_congr e, IX_congr e⟩
    · rw [if_neg h2] at e ⊢; exact ⟨K_congr e, IX_congr e⟩
theorem bf_le {xs : Array Keyed} {i j : Nat} (h : Bf ix xs i j) : K xs i ≤ K xs j := by rcases h with h | h <;> omega
theorem Inv.next {n x : Nat} {xs : Array Keyed} (h : Inv ix n xs x) (hx : x < n) (h1 : 1 ≤ x) (hk : K xs (x - 1) ≤ K xs x) : Inv ix n xs (x + 1) where
  ord := fun i j hij hj => by
    by_cases hjx : j < x
    · exact h.ord i j hij hjx
    · have : j = x := by omega
      subst this
      have hlow := h.low i hij
      have hres := h.rest j (Nat.le_refl _) hx
      have hle : K xs i ≤ K xs (j - 1) := by
        by_cases e : i = j - 1
        · rw [e]; exact Int.le_refl _
        · exact bf_le (h.ord i (j - 1) (by omega) (by omega))
      by_cases e : K xs i = K xs j
      · exact .inr ⟨e, by omega⟩
      · exact .inl (by omega)
  low := fun i hi => by
    by_cases hix : i < x
    · have := h.low i hix; omega
    · have : i = x := by omega
      subst this
      have := h.rest i (Nat.le_refl _) hx; omega
  rest := fun i hi hin => h.rest i (by omega) hin
theorem Inv.one {n : Nat} {xs : Array Keyed} (h : ∀ i, i < n → IX ix xs i = i) (hn : 1 ≤ n) : Inv ix n xs 1 where
  ord := fun i j hij hj => by omega
  low := fun i hi => by have := h i (by omega); omega
  rest := fun i _ hi => h i hi
section
variable {prog : Program} {w : World} {A : Around} {E : Value → Shared → Prop} {s : Shared} {a₀ : Array Keyed}
theorem st_asc {st : SortSt} {a nrem : Nat} {Q : AscSt → SortSt → Prop} (h0 : IntKeys a₀) (hn : nrem = a₀.size) (ha : 1 ≤ a) (han : a ≤ nrem) (hB : SBase a₀ st) (hI : Inv ix nrem (arrOf st) a)
    (h : ∀ n, a ≤ n → n ≤ nrem → Inv ix nrem (arrOf st) n → (n = nrem ∨ K (arrOf st) n < K (arrOf st) (n - 1)) → Q (none, n) st) :
    wpS (model prog w) A E s (ascLoop a nrem) Q st := by
  unfold ascLoop
  refine wpS_forRange (I := fun x c st' => st' = st ∧ c = (none, x) ∧ Inv ix nrem (arrOf st) x) ?step ?fin ⟨rfl, rfl, hI⟩
  case fin =>
    rintro c st' ⟨rfl, rfl, hs'⟩
    rw [show max a nrem = nrem by omega] at hs' ⊢
    exact h nrem han (Nat.le_refl _) hs' (.inl rfl)
  case step =>
    rintro x c st' hax hxn ⟨rfl, rfl, hs'⟩
    dsimp only
    refine wpS_bind (wpS_ltK hB h0 (by omega) (by omega) ?_)
    by_cases hless : K (arrOf st') x < K (arrOf st') (x - 1)
    · simp only [hless, decide_true, if_true]
      exact wpS_pure (h x hax (by omega) hs' (.inr hless))
    · simp only [hless, decide_false, Bool.false_eq_true, if_false]
      exact wpS_pure ⟨rfl, rfl, hs'.next hxn (by omega) (Int.not_lt.mp hless)⟩
theorem st_tail {st : SortSt} {n nrem : Nat} {Q : Option Nat → SortSt → Prop} (h0 : IntKeys a₀) (hn : nrem = a₀.size) (h1 : 1 ≤ n) (hnn : n ≤ nrem) (hB : SBase a₀ st) (hF : Fal ix nrem (arrOf st) n n)
    (h : ∀ m st', SBase a₀ st' → 1 ≤ m → m ≤ nrem → Inv ix nrem (arrOf st') m → Q (some m) st') :
    wpS (model prog w) A E s (tail3 n nrem) Q st := by
  unfold tail3
  have hsz : n ≤ (arrOf st).size := by rw [hB.size]; omega
  refine wpS_bind (wpS_reverse ?_)
  have hB' : SBase a₀ (setArr st (mirror (arrOf st) 0 n ((n - 0) / 2))) := hB.setArr (mirror_perm _ _ _ _)
  refine wpS_bind (st_asc h0 hn h1 hnn hB' ⟨fun i j hij hj => bf_mir hsz ?_, fun i hi => ?_, fun i hi hin => ?_⟩ fun m hm1 hm2 hsm _ => wpS_pure (h m _ hB' (by omega) hm2 hsm))
  · unfold mir
    rw [if_pos ⟨Nat.zero_le _, Nat.lt_trans hij hj⟩, if_pos ⟨Nat.zero_le _, hj⟩]
    exact hF.ord _ _ (mir_lt hij hj) (mir_in (Nat.zero_le _) (Nat.lt_trans hij hj)).2
  · show IX ix (mirror (arrOf st) 0 n ((n - 0) / 2)) i < n
    rw [(mir_at (ix := ix) hsz i).2]
    unfold mir
    rw [if_pos ⟨Nat.zero_le _, hi⟩]
    exact hF.low _ (mir_in (Nat.zero_le _) hi).2
  · show IX ix (mirror (arrOf st) 0 n ((n - 0) / 2)) i = i
    rw [(mir_at (ix := ix) hsz i).2]
    unfold mir
    rw [if_neg (fun q => Nat.not_lt.mpr hi q.2)]
    exact hF.rest i hi hin
theorem Fal.turn {n x c : Nat} {xs : Array Keyed} (h : Fal ix n xs x c) (hc : c ≤ x) (hx : x ≤ xs.size) : Fal ix n (mirror xs c x ((x - c) / 2)) x x where
  ord := fun i j hij hj => by
    refine bf_mir hx ?_
    unfold mir
    by_cases h1 : c ≤ i
    · rw [if_pos ⟨Nat.le_trans h1 (Nat.le_of_lt hij), hj⟩, if_pos ⟨h1, Nat.lt_trans hij hj⟩]
      exact .inr (h.like _ _ (mir_in (Nat.le_trans h1 (Nat.le_of_lt hij)) hj).1 (mir_lt hij hj) (mir_in h1 (Nat.lt_trans hij hj)).2)
    · rw [if_neg (show ¬ (c ≤ i ∧ i < x) from fun q => h1 q.1)]
      by_cases h2 : c ≤ j
      · rw [if_pos ⟨h2, hj⟩]
        exact .inl (h.mid i _ (Nat.lt_of_not_le h1) (mir_in h2 hj).1 (mir_in h2 hj).2)
      · rw [if_neg (fun q => h2 q.1)]
        exact h.ord i j hij (Nat.lt_of_not_le h2)
  mid := fun i j hi hj hjx => absurd hjx (Nat.not_lt.mpr hj)
  like := fun i j hi hij hj => absurd hj (Nat.not_lt.mpr (Nat.le_trans hi (Nat.le_of_lt hij)))
  low := fun i hi => by
    rw [(mir_at (ix := ix) hx i).2]
    unfold mir
    split
    · rename_i q; exact h.low _ (mir_in q.1 q.2).2
    · exact h.low _ hi
  rest := fun i hi hin => by
    rw [(mir_at (ix := ix) hx i).2]
    unfold mir
    rw [if_neg (fun q => Nat.not_lt.mpr hi q.2)]
    exact h.rest i hi hin
theorem Fal.next {n x : Nat} {xs : Array Keyed} (h : Fal ix n xs x x) (hx : x < n) (hk : ∀ i, i < x → K xs x < K xs i) : Fal ix n xs (x + 1) x where
  ord := h.ord
  mid := fun i j hi hj hjx => by
    have : j = x := by omega
    subst this
    exact hk i hi
  like := fun i j hi hij hj => by omega
  low := fun i hi => by
    by_cases hix : i < x
    · have := h.low i hix; omega
    · have : i = x := by omega
      subst this
      have := h.rest i (Nat.le_refl _) hx; omega
  rest := fun i hi hin => h.rest i (by omega) hin
theorem Fal.same {n x c : Nat} {xs : Array Keyed} (h : Fal ix n xs x c) (hc : c < x) (hx : x < n) (hk : K xs x = K xs (x - 1)) : Fal ix n xs (x + 1) c where
  ord := h.ord
  mid := fun i j hi hj hjx => by
    by_cases e : j = x
    · rw [e, hk]; exact h.mid i (x - 1) hi (by omega) (by omega)
    · exact h.mid i j hi hj (by omega)
  like := fun i j hi hij hj => by
    by_cases e : j = x
    · subst e
      have hlow := h.low i hij
      have hres := h.rest j (Nat.le_refl _) hx
      refine ⟨?_, by omega⟩
      rw [hk]
      by_cases e2 : i = j - 1
      · rw [e2]
      · exact (h.like i (j - 1) hi (by omega) (by omega)).1
    · exact h.like i j hi hij (by omega)
  low := fun i hi => by
    by_cases hix : i < x
    · have := h.low i hix; omega
    · have : i = x := by omega
      subst this
      have := h.rest i (Nat.le_refl _) hx; omega
  rest := fun i hi hin => h.rest i (by omega) hin
theorem Fal.min {n x c : Nat} {xs : Array Keyed} (h : Fal ix n xs x c) (hc : c < x) {i : Nat} (hi : i < x) : K xs (x - 1) ≤ K xs i := by
  by_cases h1 : i < c
  · exact Int.le_of_lt (h.mid i (x - 1) h1 (by omega) (by omega))
  · by_cases h2 : i = x - 1
    · rw [h2]; exact Int.le_refl _
    · have := (h.like i (x - 1) (by omega) (by omega) (by omega)).1; omega
theorem st_desc {st : SortSt} {n nrem : Nat} {Q : DescSt → SortSt → Prop} (h0 : IntKeys a₀) (hn : nrem = a₀.size) (h1 : 1 ≤ n) (hnn : n ≤ nrem) (hB : SBase a₀ st) (hF : Fal ix nrem (arrOf st) n (n - 1))
    (h : ∀ m neq st', SBase a₀ st' → n ≤ m → m ≤ nrem → neq + 1 ≤ m → Fal ix nrem (arrOf st') m (m - (neq + 1)) → Q (none, m, neq) st') :
    wpS (model prog w) A E s (descLoop n nrem) Q st := by
  unfold descLoop
  refine wpS_forRange (I := fun x c st' => ∃ neq, c = (none, x, neq) ∧ SBase a₀ st' ∧ neq + 1 ≤ x ∧ Fal ix nrem (arrOf st') x (x - (neq + 1))) ?step ?fin ⟨0, rfl, hB, by omega, hF⟩
  case fin =>
    rintro c st' ⟨neq, rfl, hB', hq, hs'⟩
    rw [show max n nrem = nrem by omega] at hs' hq ⊢
    exact h nrem neq st' hB' hnn (Nat.le_refl _) hq hs'
  case step =>
    rintro x c st' hax hxn ⟨neq, rfl, hB', hq, hs'⟩
    dsimp only
    have hsz : x ≤ (arrOf st').size := by rw [hB'.size]; omega
    refine wpS_bind (wpS_ltK hB' h0 (by omega) (by omega) ?_)
    by_cases hless : K (arrOf st') x < K (arrOf st') (x - 1)
    · simp only [hless, decide_true, if_true]
      have hall : ∀ i, i < x → K (arrOf st') x < K (arrOf st') i := fun i hi => Int.lt_of_lt_of_le hless (hs'.min (by omega) hi)
      by_cases hneq : neq > 0
      · rw [if_pos hneq]
        refine wpS_bind (wpS_reverse (wpS_pure ⟨0, rfl, hB'.setArr (mirror_perm _ _ _ _), by omega, ?_⟩))
        rw [show x + 1 - (0 + 1) = x by omega]
        refine (hs'.turn (by omega) hsz).next hxn fun i hi => ?_
        show K (mirror (arrOf st') _ _ _) x < K (mirror (arrOf st') _ _ _) i
        rw [(mir_at (ix := ix) hsz x).1, (mir_at (ix := ix) hsz i).1]
        have e : mir (x - (neq + 1)) x x = x := if_neg fun q => Nat.lt_irrefl _ q.2
        rw [e]
        refine hall _ ?_
        unfold mir
        split
        · rename_i q; exact (mir_in q.1 q.2).2
        · exact hi
      · rw [if_neg hneq]
        have hz : neq = 0 := by omega
        subst hz
        refine wpS_pure ⟨0, rfl, hB', by omega, ?_⟩
        rw [show x + 1 - (0 + 1) = x by omega]
        refine Fal.next ⟨fun i j hij hj => ?_, fun i j hi hj hjx => by omega, fun i j hi hij hj => by omega, hs'.low, hs'.rest⟩ hxn hall
        by_cases hjx : j < x - (0 + 1)
        · exact hs'.ord i j hij hjx
        · exact .inl (hs'.mid i j (by omega) (by omega) hj)
    · simp only [hless, decide_false, Bool.false_eq_true, if_false]
      refine wpS_bind (wpS_ltK hB' h0 (by omega) (by omega) ?_)
      by_cases hlarger : K (arrOf st') (x - 1) < K (arrOf st') x
      · simp only [hlarger, decide_true, if_true]
        exact wpS_pure (h x neq st' hB' hax (by omega) hq hs')
      · simp only [hlarger, decide_false, Bool.false_eq_true, if_false]
        refine wpS_pure ⟨neq + 1, rfl, hB', by omega, ?_⟩
        rw [show x + 1 - (neq + 1 + 1) = x - (neq + 1) by omega]
        exact hs'.same (by omega) hxn (by omega)
theorem st_descPart {st : SortSt} {n nrem : Nat} {Q : Option Nat → SortSt → Prop} (h0 : IntKeys a₀) (hn : nrem = a₀.size) (hnn : n + 1 ≤ nrem) (hB : SBase a₀ st) (hF : Fal ix nrem (arrOf st) (n + 1) n)
    (h : ∀ m st', SBase a₀ st' → 1 ≤ m → m ≤ nrem → Inv ix nrem (arrOf st') m → Q (some m) st') :
    wpS (model prog w) A E s (descPart n nrem) Q st := by
  unfold descPart
  refine wpS_bind (wpS_lift (wpAny_rule ⟨rfl, ?_⟩))
  refine wpS_bind (st_desc h0 hn (by omega) hnn hB hF fun m neq st' hB' hm1 hm2 hq hs' => ?_)
  dsimp only
  have hsz : m ≤ (arrOf st').size := by rw [hB'.size]; omega
  by_cases hneq : neq > 0
  · rw [if_pos hneq]
    exact wpS_bind (wpS_reverse (st_tail h0 hn (by omega) hm2 (hB'.setArr (mirror_perm _ _ _ _)) (hs'.turn (by omega) hsz) h))
  · rw [if_neg hneq]
    have hz : neq = 0 := by omega
    subst hz
    refine st_tail h0 hn (by omega) hm2 hB' ⟨fun i j hij hj => ?_, fun i j hi hj hjx => by omega, fun i j hi hij hj => by omega, hs'.low, hs'.rest⟩ h
    by_cases hjx : j < m - (0 + 1)
    · exact hs'.ord i j hij hjx
    · exact .inl (hs'.mid i j (by omega) (by omega) hj)
theorem st_count {st : SortSt} {nrem : Nat} {Q : Option Nat → SortSt → Prop} (h0 : IntKeys a₀) (hn : nrem = a₀.size) (h1 : 1 ≤ nrem) (hB : SBase a₀ st) (hx : ∀ i, i < nrem → IX ix (arrOf st) i = i)
    (h : ∀ m st', SBase a₀ st' → 1 ≤ m → m ≤ nrem → Inv ix nrem (arrOf st') m → Q (some m) st') :
    wpS (model prog w) A E s (countRun' 0 nrem) Q st := by
  rw [countRun0_eq]
  refine wpS_bind (st_asc h0 hn (Nat.le_refl 1) h1 hB (Inv.one hx h1) fun n hn1 hn2 hsn hor => ?_)
  dsimp only
  by_cases hnn : n = nrem
  · rw [if_pos (by simpa using hnn)]
    exact wpS_pure (h n st hB hn1 hn2 hsn)
  · rw [if_neg (by simpa using hnn)]
    have hlt : K (arrOf st) n < K (arrOf st) (n - 1) := hor.resolve_left hnn
    have hsz : n ≤ (arrOf st).size := by rw [hB.size]; omega
    by_cases hgt : n > 1
    · rw [if_pos hgt]
      refine wpS_bind (wpS_ltK hB h0 (by omega) (by omega) ?_)
      by_cases hrose : K (arrOf st) 0 < K (arrOf st) (n - 1)
      · simp only [hrose, decide_true, if_true]
        exact wpS_pure (h n st hB hn1 hn2 hsn)
      · simp only [hrose, decide_false, Bool.false_eq_true, if_false]
        have hall : ∀ k, k < n → K (arrOf st) k = K (arrOf st) (n - 1) := by
          intro k hk
          have a1 : K (arrOf st) 0 ≤ K (arrOf st) k := by
            by_cases e : 0 = k
            · rw [e]; exact Int.le_refl _
            · exact bf_le (hsn.ord 0 k (by omega) hk)
          have a2 : K (arrOf st) k ≤ K (arrOf st) (n - 1) := by
            by_cases e : k = n - 1
            · rw [e]; exact Int.le_refl _
            · exact bf_le (hsn.ord k (n - 1) (by omega) (by omega))
          omega
        have hF0 : Fal ix nrem (arrOf st) n 0 := ⟨fun i j hij hj => by omega, fun i j hi => by omega, fun i j _ hij hj => by
          refine ⟨by rw [hall i (by omega), hall j hj], ?_⟩
          rcases hsn.ord i j hij hj with q | q
          · rw [hall i (by omega), hall j hj] at q; omega
          · exact q.2, hsn.low, hsn.rest⟩
        have hF1 := hF0.turn (Nat.zero_le _) hsz
        refine wpS_bind (wpS_reverse (st_descPart h0 hn (by omega) (hB.setArr (mirror_perm _ _ _ _)) (hF1.next (by omega) fun i hi => ?_) h))
        show K (mirror (arrOf st) _ _ _) n < K (mirror (arrOf st) _ _ _) i
        rw [(mir_at (ix := ix) hsz n).1, (mir_at (ix := ix) hsz i).1]
        have e : mir 0 n n = n := by unfold mir; rw [if_neg (by omega)]
        have e2 : mir 0 n i < n := by unfold mir; split <;> omega
        rw [e, hall _ e2]
        exact hlt
    · rw [if_neg hgt]
      have hn1' : n = 1 := by omega
      subst hn1'
      refine st_descPart h0 hn (by omega) hB (Fal.next ⟨fun i j hij hj => by omega, fun i j hi hj hjx => by omega, fun i j hi hij hj => by omega, hsn.low, hsn.rest⟩ (by omega) fun i hi => ?_) h
      have : i = 0 := by omega
      subst this
      exact hlt
end
end
end Mine
end
section
open PySem PySem.W PyProof.Rows PySem.Spec PySem.Calls
set_option Elab.async false
set_option maxRecDepth 100000
set_option maxHeartbeats 4000000
set_option linter.all false
namespace Mine
section
variable {ix : Value → Nat} {prog : Program} {w : World} {A : Around} {E : Value → Shared → Prop} {s : Shared} {a₀ : Array Keyed}
theorem Inv.put {n k l : Nat} {xs : Array Keyed} (h : Inv ix n xs k) (hk : k < n) (hks : k < xs.size) (hl : l ≤ k) (hlo : ∀ i, i < l → K xs i ≤ K xs k) (hhi : ∀ i, l ≤ i → i < k → K xs k < K xs i) :
    Inv ix n (bubble xs k (k - l)) (k + 1) where
  ord := fun i j hij hj => by
    have hres := h.rest k (Nat.le_refl _) hk
    unfold Bf
    rw [(dwn_at (ix := ix) hks hl i).1, (dwn_at (ix := ix) hks hl j).1, (dwn_at (ix := ix) hks hl i).2, (dwn_at (ix := ix) hks hl j).2]
    unfold dwn
    have hjk : j ≤ k := Nat.le_of_lt_succ hj
    by_cases h1 : j = l
    · have hil : i < l := h1 ▸ hij
      rw [if_pos h1, if_neg (Nat.ne_of_lt hil), if_neg (fun q => Nat.lt_asymm hil q.1)]
      by_cases e : K xs i = K xs k
      · exact .inr ⟨e, hres.symm ▸ h.low i (Nat.lt_of_lt_of_le hil hl)⟩
      · exact .inl (Int.lt_iff_le_and_ne.mpr ⟨hlo i hil, e⟩)
    · rw [if_neg h1]
      have hj1 : l < j → j - 1 < k := fun q => Nat.lt_of_lt_of_le (Nat.sub_one_lt (Nat.ne_of_gt (Nat.zero_lt_of_lt q))) hjk
      by_cases h2 : i = l
      · have hlj : l < j := h2 ▸ hij
        rw [if_pos h2, if_pos ⟨hlj, hjk⟩]
        exact .inl (hhi (j - 1) (Nat.le_sub_one_of_lt hlj) (hj1 hlj))
      · rw [if_neg h2]
        by_cases h3 : l < i ∧ i ≤ k
        · have hlj := Nat.lt_trans h3.1 hij
          rw [if_pos h3, if_pos ⟨hlj, hjk⟩]
          exact h.ord (i - 1) (j - 1) (Nat.sub_lt_sub_right (Nat.one_le_of_lt h3.1) hij) (hj1 hlj)
        · rw [if_neg h3]
          by_cases h4 : l < j ∧ j ≤ k
          · rw [if_pos h4]
            exact h.ord i (j - 1) (Nat.lt_of_lt_of_le (Nat.lt_of_le_of_ne (Nat.not_lt.mp fun q => h3 ⟨q, Nat.le_trans (Nat.le_of_lt hij) hjk⟩) h2) (Nat.le_sub_one_of_lt h4.1)) (hj1 h4.1)
          · rw [if_neg h4]
            exact h.ord i j hij (Nat.lt_of_lt_of_le (Nat.lt_of_le_of_ne (Nat.not_lt.mp fun q => h4 ⟨q, hjk⟩) h1) hl)
  low := fun i hi => by
    have hres := h.rest k (Nat.le_refl _) hk
    rw [(dwn_at (ix := ix) hks hl i).2]
    unfold dwn
    split
    · omega
    · split
      · have := h.low (i - 1) (by omega); omega
      · have := h.low i (by omega); omega
  rest := fun i hi hin => by
    rw [(dwn_at (ix := ix) hks hl i).2]
    unfold dwn
    rw [if_neg (by omega), if_neg (by omega)]
    exact h.rest i (by omega) hin
theorem st_bin {st : SortSt} {n ok : Nat} {Q : Bool → SortSt → Prop} (h0 : IntKeys a₀) (hn : n = a₀.size) (hok : ok ≤ n) (h1 : 1 ≤ ok) (hB : SBase a₀ st) (hI : Inv ix n (arrOf st) ok)
    (h : ∀ st', SBase a₀ st' → Inv ix n (arrOf st') n → Q true st') : wpS (model prog w) A E s (binarySort' 0 n ok) Q st := by
  rw [binarySort'_eq]
  simp only [Nat.zero_add]
  rw [show max ok 1 = ok by omega]
  refine wpS_bind (wpS_mono (wpS_forRange (I := fun k c st' => c = (none, ()) ∧ SBase a₀ st' ∧ Inv ix n (arrOf st') k)
    (Q := fun c st' => c = (none, ()) ∧ SBase a₀ st' ∧ Inv ix n (arrOf st') n) ?step ?fin ⟨rfl, hB, hI⟩) ?post)
  case post =>
    rintro c st' ⟨rfl, hB', hs'⟩
    exact wpS_pure (h st' hB' hs')
  case fin =>
    rintro c st' ⟨hc, hB', hs'⟩
    rw [show max ok n = n by omega] at hs'
    exact ⟨hc, hB', hs'⟩
  case step =>
    rintro k c st' hak hkn ⟨rfl, hB', hs'⟩
    have hk : k < a₀.size := by omega
    refine wpS_bind (wpS_mono (wpS_forRange (I := fun x c st'' => st'' = st' ∧ ∃ l r, c = (none, l, r) ∧ l ≤ r ∧ r ≤ k ∧ r - l ≤ k - x ∧
        (∀ i, i < l → K (arrOf st') i ≤ K (arrOf st') k) ∧ (∀ i, r ≤ i → i < k → K (arrOf st') k < K (arrOf st') i))
      (Q := fun c st'' => st'' = st' ∧ ∃ l r, c = (none, l, r) ∧ l ≤ k ∧
        (∀ i, i < l → K (arrOf st') i ≤ K (arrOf st') k) ∧ (∀ i, l ≤ i → i < k → K (arrOf st') k < K (arrOf st') i)) ?istep ?ifin ⟨rfl, 0, k, rfl, by omega, by omega, by omega, fun i hi => by omega, fun i h1 h2 => by omega⟩) ?ipost)
    case ifin =>
      rintro c st'' ⟨rfl, l, r, rfl, hlr, hrk, hm, hlo, hhi⟩
      have : l = r := by omega
      subst this
      exact ⟨rfl, l, l, rfl, hrk, hlo, hhi⟩
    case istep =>
      rintro x c st'' _ hxk ⟨rfl, l, r, rfl, hlr, hrk, hm, hlo, hhi⟩
      dsimp only
      by_cases hge : l ≥ r
      · rw [if_pos hge]
        have : l = r := by omega
        subst this
        exact wpS_pure ⟨rfl, l, l, rfl, hrk, hlo, hhi⟩
      · rw [if_neg hge]
        have hlr' : l < r := Nat.lt_of_not_le hge
        have hm' : r - l ≤ k - (x + 1) + 1 := by omega
        refine wpS_bind (wpS_ltK hB' h0 hk (by omega) ?_)
        by_cases hless : K (arrOf st'') k < K (arrOf st'') ((l + r) / 2)
        · simp only [hless, decide_true, if_true]
          refine wpS_pure ⟨rfl, l, (l + r) / 2, rfl, mid_ge hlr', Nat.le_trans (Nat.le_of_lt (mid_lt hlr')) hrk, mid_dn hlr' hm', hlo, fun i h1 h2 => ?_⟩
          by_cases e : (l + r) / 2 = i
          · rw [← e]; exact hless
          · exact Int.lt_of_lt_of_le hless (bf_le (hs'.ord _ _ (by omega) h2))
        · simp only [hless, decide_false, Bool.false_eq_true, if_false]
          refine wpS_pure ⟨rfl, (l + r) / 2 + 1, r, rfl, mid_lt hlr', hrk, mid_up hlr' hm', fun i h1 => ?_, hhi⟩
          by_cases e : i = (l + r) / 2
          · rw [e]; exact Int.not_lt.mp hless
          · exact Int.le_trans (bf_le (hs'.ord i ((l + r) / 2) (by omega) (by omega))) (Int.not_lt.mp hless)
    case ipost =>
      rintro c st'' ⟨rfl, l, r, rfl, hlk, hlo, hhi⟩
      show wpS _ _ _ _ (do moveDown' k l; pure (ForInStep.yield (none, ()))) _ _
      rw [moveDown'_eq]
      have hks : k < (arrOf st'').size := by rw [hB'.size]; exact hk
      exact wpS_bind (wpS_modify (wpS_pure ⟨rfl, hB'.setArr (bubble_perm _ _ _), hs'.put hkn hks hlk hlo hhi⟩))
def StDone (ix : Value → Nat) (a₀ : Array Keyed) (st : SortSt) : Prop :=
  (arrOf st).Perm a₀ ∧ failedOf st = none ∧ pendingOf st = #[(0, a₀.size, 0)] ∧ Inv ix a₀.size (arrOf st) a₀.size
theorem StDone.of {st : SortSt} (hB : SBase a₀ st) (hs : Inv ix a₀.size (arrOf st) a₀.size) : StDone ix a₀ (setPending st ((pendingOf st).push (0, a₀.size, 0))) :=
  ⟨hB.perm, hB.failed, by show (pendingOf st).push _ = _; rw [hB.pend]; rfl, hs⟩
theorem st_runs {st : SortSt} {Q : Unit → SortSt → Prop} (h0 : IntKeys a₀) (hB : SBase a₀ st) (hx : ∀ i, i < a₀.size → IX ix (arrOf st) i = i) (h2 : 2 ≤ a₀.size) (h64 : a₀.size < 64)
    (h : ∀ st', (arrOf st').Perm a₀ → failedOf st' = none → Inv ix a₀.size (arrOf st') a₀.size → Q () st') : wpS (model prog w) A E s sortRuns' Q st := by
  rw [sortRuns'_eq]
  refine wpS_bind (wpS_get ?_)
  dsimp only
  have hmr : minRun' a₀.size a₀.size 0 = a₀.size := by
    obtain ⟨f, hf⟩ : ∃ f, a₀.size = f + 1 := ⟨a₀.size - 1, by omega⟩
    have : minRun' (f + 1) a₀.size 0 = a₀.size := by rw [minRun'_succ, if_pos h64]; rfl
    rwa [← hf] at this
  simp only [hB.size, hmr]
  refine wpS_bind (wpS_mono (wpS_forRange
    (I := fun x c st' => (x = 0 ∧ c = (none, 0) ∧ SBase a₀ st' ∧ ∀ i, i < a₀.size → IX ix (arrOf st') i = i) ∨ (1 ≤ x ∧ c = (none, a₀.size) ∧ StDone ix a₀ st'))
    (Q := fun c st' => c = (none, a₀.size) ∧ StDone ix a₀ st') ?step ?fin (.inl ⟨rfl, rfl, hB, hx⟩)) ?post)
  case fin =>
    rintro c st' (⟨hx, _, _, _⟩ | ⟨_, hc, hD⟩)
    · omega
    · exact ⟨hc, hD⟩
  case step =>
    rintro x c st' _ hxs (⟨rfl, rfl, hB', hx'⟩ | ⟨hx1, rfl, hD⟩)
    · dsimp only
      rw [if_neg (by omega)]
      simp only [Nat.sub_zero, Nat.min_self, Nat.zero_add]
      refine wpS_bind (st_count h0 rfl (by omega) hB' hx' fun m st2 hB2 hm1 hm2 hs2 => ?_)
      dsimp only
      by_cases hlt : m < a₀.size
      · rw [if_pos hlt]
        refine wpS_bind (wpS_lift (wpAny_rule ⟨rfl, ?_⟩))
        refine wpS_bind (st_bin h0 rfl hm2 hm1 hB2 hs2 fun st3 hB3 hs3 => ?_)
        simp only [Bool.not_true, Bool.false_eq_true, if_false]
        refine wpS_bind (wpS_get ?_)
        have hb : (pendingOf st3).back? = none := by rw [hB3.pend]; rfl
        rw [hb]
        dsimp only
        exact wpS_bind (wpS_modify (wpS_pure (.inr ⟨by omega, rfl, StDone.of hB3 hs3⟩)))
      · rw [if_neg hlt]
        have hm : m = a₀.size := by omega
        subst hm
        refine wpS_bind (wpS_get ?_)
        have hb : (pendingOf st2).back? = none := by rw [hB2.pend]; rfl
        rw [hb]
        dsimp only
        exact wpS_bind (wpS_modify (wpS_pure (.inr ⟨by omega, rfl, StDone.of hB2 hs2⟩)))
    · dsimp only
      rw [if_pos (Nat.le_refl _)]
      exact wpS_pure ⟨rfl, hD⟩
  case post =>
    rintro c st' ⟨rfl, hD⟩
    dsimp only
    refine wpS_bind (wpS_mono (wpS_forRange (I := fun _ c st'' => st'' = st' ∧ c = (none, ())) (Q := fun c st'' => st'' = st' ∧ c = (none, ())) ?_ (fun _ _ hh => hh) ⟨rfl, rfl⟩) ?_)
    · rintro x c st'' _ _ ⟨rfl, rfl⟩
      refine wpS_bind (wpS_get ?_)
      rw [if_pos (by rw [hD.2.2.1]; exact Nat.le_refl 1)]
      exact wpS_pure ⟨rfl, rfl⟩
    · rintro c st'' ⟨rfl, rfl⟩
      exact wpS_pure (h _ hD.1 hD.2.1 hD.2.2.2)
end
end Mine
end
section
open PySem PySem.W PyProof.Rows PySem.Spec PySem.Calls
set_option Elab.async false
set_option maxRecDepth 100000
set_option maxHeartbeats 4000000
set_option linter.all false
namespace Mine
def StOut (ix : Value → Nat) (kz : List Int) (vs out : List Value) : Prop :=
  ∃ ps : List (Int × Value), ps.Perm (kz.zip vs) ∧ out = ps.map Prod.snd ∧ ps.Pairwise (fun p q => p.1 < q.1 ∨ (p.1 = q.1 ∧ ix p.2 < ix q.2))
section
variable {ix : Value → Nat} {keys : Array Value} {vs : List Value} {kz : List Int}
theorem zip_ix (hl : keys.size = vs.length) (hix : ∀ i v, vs[i]? = some v → ix v = i) : ∀ i, i < (keys.zip vs.toArray).size → IX ix (keys.zip vs.toArray) i = i := by
  intro i hi
  have hi2 : i < vs.length := by rw [Array.size_zip, hl, List.size_toArray, Nat.min_self] at hi; exact hi
  have e : (keys.zip vs.toArray)[i]? = some (keys[i], vs[i]) := by
    rw [Array.getElem?_zip_eq_some]
    exact ⟨by simp [hl, hi2], by simp [hi2]⟩
  unfold IX
  rw [e]
  exact hix i _ (List.getElem?_eq_getElem hi2)
theorem st_out (hk : IntsAre keys.toList kz) {xs : Array Keyed} (hp : xs.Perm (keys.zip vs.toArray)) {n : Nat} (hn : xs.size = n) (hs : Inv ix n xs n) : StOut ix kz vs (xs.map (·.2)).toList := by
  have hl : xs.toList.Perm (keys.toList.zip vs) := by rw [← ksk_zip]; exact Array.perm_iff_toList_perm.mp hp
  refine ⟨xs.toList.map (fun p : Keyed => (numOf p.1, p.2)), ?_, ?_, ?_⟩
  · have e2 : (keys.toList.zip vs).map (fun p : Keyed => (numOf p.1, p.2)) = kz.zip vs := by
      rw [← hk.nums, List.zip_map_left]
      exact List.map_congr_left fun ⟨x, y⟩ _ => rfl
    rw [← e2]
    exact hl.map _
  · rw [Array.toList_map, List.map_map]
    rfl
  · rw [List.pairwise_map, List.pairwise_iff_getElem]
    intro i j hi hj hij
    have hi' : i < xs.size := by simpa using hi
    have hj' : j < xs.size := by simpa using hj
    have q := hs.ord i j hij (by omega)
    unfold Bf at q
    have ei : IX ix xs i = ix xs[i].2 := by unfold IX; rw [getElem?_pos xs i hi']
    have ej : IX ix xs j = ix xs[j].2 := by unfold IX; rw [getElem?_pos xs j hj']
    rw [K_eq hi', K_eq hj', ei, ej] at q
    simpa using q
end
section
variable {ix : Value → Nat} {prog : Program} {w : World} {A : Around} {E : Value → Shared → Prop} {s : Shared} {h₀ : Heap} {L : Addr} {m : Str → Option Value} {news : Ldg} {a kS : Addr} {vs : List Value} {kz : List Int} {keys : Array Value} {e e1 : Nat} {P : PySem.Fin → Shared → Prop}
theorem so_tail {st : SortSt} {n : Nat} (F : Fr h₀ L s.heap m) (N : News h₀ L s.heap (news ++ [(kS, seqObj "list" keys e), (a, seqObj "list" #[] e1)])) (hka : kS ≠ a) (hnk : ∀ p ∈ news, p.1 ≠ kS) (hna : ∀ p ∈ news, p.1 ≠ a)
    (hk : IntsAre keys.toList kz) (hlen : kz.length = vs.length) (h64 : vs.length < 64) (hp : (arrOf st).Perm (keys.zip vs.toArray)) (hn : (arrOf st).size = n) (hs : Inv ix n (arrOf st) n) (hfl : failedOf st = none)
    (h : ∀ h' tk out c, Fr h₀ L h' m → News h₀ L h' ((a, seqObj "list" out c) :: news) → StOut ix kz vs out.toList → P (.done (.ret .none)) { s with heap := h', toks := tk }) :
    wpAny (model prog w) A (ksk_tail a false e1 (.ref kS) st) P E s := by
  have nk := N (kS, seqObj "list" keys e) (List.mem_append_right _ (.head _))
  have na := N (a, seqObj "list" #[] e1) (List.mem_append_right _ (.tail _ (.head _)))
  have Nn : News h₀ L s.heap news := fun p hp => N p (List.mem_append_left _ hp)
  have hsz : keys.size = vs.length := by
    have h1 := hk.length
    rw [Array.length_toList] at h1
    omega
  have hout : ((arrOf st).map (·.2)).size = vs.length := by rw [Array.size_map, hp.size_eq, Array.size_zip, hsz, List.size_toArray, Nat.min_self]
  have s1 := Heap.SameBut.update s.heap kS (Obj.mapSeq fun _ => (#[] : Array Value))
  have na1 : (s.heap.update kS (Obj.mapSeq fun _ => (#[] : Array Value))).get? a = some (seqObj "list" #[] e1) := (s1.2 a hka.symm).trans na.1
  have s2 := Heap.SameBut.update (s.heap.update kS (Obj.mapSeq fun _ => (#[] : Array Value))) a (Obj.mapSeq fun _ => (arrOf st).map (·.2))
  obtain ⟨c2, hc2⟩ : ∃ c2, ((s.heap.update kS (Obj.mapSeq fun _ => (#[] : Array Value))).update a (Obj.mapSeq fun _ => (arrOf st).map (·.2))).get? a = some (seqObj "list" ((arrOf st).map (·.2)) c2) := ⟨_, get?_update_seq na1 fun _ => (arrOf st).map (·.2)⟩
  have N2 := ksk_news (ksk_news Nn s1 hnk) s2 hna
  unfold ksk_tail
  try dsimp only
  refine wpAny_bind (listUpdate_at nk.1 rfl ?_ (by rw [hsz, sizeLine_eq]; omega) (Nat.zero_le _))
  refine wpAny_bind (wpAny_letGo ?_)
  refine wpAny_bind (seqEpoch_at na1 rfl ?_)
  simp only [Bool.false_eq_true, if_false]
  refine wpAny_bind (listUpdate_at na1 rfl ?_ (Nat.zero_le _) (Nat.le_trans (Nat.le_of_eq hout) (by rw [sizeLine_eq]; omega)))
  rw [hfl]
  simp only [bne_self_eq_false, Bool.false_eq_true, if_false]
  refine wpAny_pure (h _ _ _ c2 (ksk_fr (ksk_fr F s1 nk.2.1 nk.2.2) s2 na.2.1 na.2.2) (fun p hp => ?_) (st_out hk hp hn hs))
  rcases List.mem_cons.mp hp with rfl | hp
  · exact ⟨hc2, na.2⟩
  · exact N2 p hp
theorem so_end (F : Fr h₀ L s.heap m) (N : News h₀ L s.heap (news ++ [(kS, seqObj "list" keys e), (a, seqObj "list" #[] e1)])) (hka : kS ≠ a) (hnk : ∀ p ∈ news, p.1 ≠ kS) (hna : ∀ p ∈ news, p.1 ≠ a)
    (hk : IntsAre keys.toList kz) (hlen : kz.length = vs.length) (h64 : vs.length < 64) (hix : ∀ i v, vs[i]? = some v → ix v = i)
    (h : ∀ h' tk out c, Fr h₀ L h' m → News h₀ L h' ((a, seqObj "list" out c) :: news) → StOut ix kz vs out.toList → P (.done (.ret .none)) { s with heap := h', toks := tk }) :
    wpAny (model prog w) A (ksk_end a false vs.toArray e1 (.ref kS) keys) P E s := by
  have hsz : keys.size = vs.length := by
    have h1 := hk.length
    rw [Array.length_toList] at h1
    omega
  have hzs : (keys.zip vs.toArray).size = vs.length := by rw [Array.size_zip, hsz, List.size_toArray, Nat.min_self]
  have hz := zip_ix (ix := ix) hsz hix
  unfold ksk_end
  simp only [Bool.false_eq_true, if_false]
  by_cases h2 : vs.toArray.size < 2
  · rw [if_pos h2, if_pos h2]
    refine wpAny_bind (wpAny_pure ?_)
    rw [StateT.run_pure]
    refine wpAny_bind (wpAny_pure ?_)
    try dsimp only
    rw [List.size_toArray] at h2
    refine so_tail (ix := ix) (st := SortSt.mk' general' (keys.zip vs.toArray) #[] 7 none) F N hka hnk hna hk hlen h64 (Array.Perm.refl _) hzs ⟨fun i j hij hj => by omega, fun i hi => ?_, fun i hi hin => by omega⟩ rfl h
    have := hz i (by omega)
    show IX ix (keys.zip vs.toArray) i < _
    omega
  · rw [if_neg h2, if_neg h2]
    rw [List.size_toArray] at h2
    rw [ksk_kind hk (by rw [hsz]; omega)]
    refine wpAny_bind (wpAny_pure ?_)
    refine wpAny_bind (wpAny_mono (st_runs (ix := ix) (a₀ := keys.zip vs.toArray) (st := SortSt.mk' oneType' (keys.zip vs.toArray) #[] 7 none)
      (Q := fun _ st' => (arrOf st').Perm (keys.zip vs.toArray) ∧ failedOf st' = none ∧ Inv ix (keys.zip vs.toArray).size (arrOf st') (keys.zip vs.toArray).size)
      (ksk_intKeys hk) ⟨Array.Perm.refl _, rfl, rfl, rfl⟩ hz (by rw [hzs]; omega) (by rw [hzs]; exact h64) fun st' a1 a2 a3 => ⟨a1, a2, a3⟩) ?_ fun _ _ e => e)
    rintro ⟨⟨⟩, st'⟩ s' ⟨rfl, hp, hf, hs⟩
    try dsimp only
    exact so_tail (ix := ix) F N hka hnk hna hk hlen h64 hp hp.size_eq hs hf h
theorem so_rest {f : Value} (F : Fr h₀ L s.heap m) (N : News h₀ L s.heap (news ++ [(kS, seqObj "list" #[] 0), (a, seqObj "list" #[] e1)])) (hka : kS ≠ a) (hnk : ∀ p ∈ news, p.1 ≠ kS) (hna : ∀ p ∈ news, p.1 ≠ a)
    (hlen : kz.length = vs.length) (h64 : vs.length < 64) (hix : ∀ i v, vs[i]? = some v → ix v = i)
    (turn : ∀ (i : Nat) (v : Value) (k : Int), vs[i]? = some v → kz[i]? = some k → ∀ (h : Heap) (tk : Nat) (own : Ldg), Fr h₀ L h m → News h₀ L h (news ++ own) →
      wpAny (model prog w) A (call f [v]) (KskEnd h₀ L m (news ++ own) k { s with heap := h, toks := tk }) (fun _ _ => False) { s with heap := h, toks := tk })
    (h : ∀ h' tk out c, Fr h₀ L h' m → News h₀ L h' ((a, seqObj "list" out c) :: news) → StOut ix kz vs out.toList → P (.done (.ret .none)) { s with heap := h', toks := tk }) :
    wpAny (model prog w) A (ksk_rest a f false vs.toArray e1 (.ref kS)) P E s := by
  unfold ksk_rest
  refine wpAny_bind (wpAny_rule ?_)
  first
    | rw [List.forIn_toArray]
    | (rw [← Array.forIn_toList]; simp only [List.toList_toArray])
    | rw [← Array.forIn_toList]
  refine wpAny_bind (ksk_fold (fun i s' => ∃ h' tk kA e, s' = { s with heap := h', toks := tk } ∧ Fr h₀ L h' m ∧ News h₀ L h' (news ++ [(kS, seqObj "list" kA e), (a, seqObj "list" #[] e1)]) ∧ IntsAre kA.toList (kz.take i)) vs 0 s
    ⟨s.heap, s.toks, #[], 0, rfl, F, N, by simpa using IntsAre.nil⟩ ?step ?done)
  case step =>
    rintro j x s' hx ⟨h', tk, kA, e, rfl, F', N', hk⟩
    simp only [Nat.zero_add] at hk ⊢
    have hj : j < vs.length := (List.getElem?_eq_some_iff.mp hx).1
    obtain ⟨k, hkj⟩ : ∃ k, kz[j]? = some k := ⟨_, List.getElem?_eq_getElem (by omega)⟩
    have hz : kA.size ≤ vs.length := by
      have h1 := hk.length
      rw [Array.length_toList, List.length_take] at h1
      omega
    refine wpAny_bind (wpAny_attempt (wpAny_mono (turn j x k hx hkj h' tk _ F' N') (fun v s'' he => ?_) fun _ _ hF => hF.elim))
    obtain ⟨g, tk2, t2, rfl, rfl, F2, N2⟩ := he
    try dsimp only
    have nk := N2 (kS, seqObj "list" kA e) (List.mem_append_right _ (.head _))
    have na := N2 (a, seqObj "list" #[] e1) (List.mem_append_right _ (.tail _ (.head _)))
    have s1 := Heap.SameBut.update g kS (Obj.mapSeq (·.push (.int k t2)))
    obtain ⟨c2, hc2⟩ : ∃ c2, (g.update kS (Obj.mapSeq (·.push (.int k t2)))).get? kS = some (seqObj "list" (kA.push (.int k t2)) c2) := ⟨_, get?_update_seq nk.1 (·.push (.int k t2))⟩
    have ek : kz.take (j + 1) = kz.take j ++ [k] := by rw [List.take_add_one, hkj]; simp
    have ea : (kA.push (Value.int k t2)).toList = kA.toList ++ [Value.int k t2] := by simp
    refine wpAny_bind (listUpdate_at nk.1 rfl ?_ (by rw [sizeLine_eq]; omega) (Nat.le_trans (Nat.le_of_eq (Array.size_push ..)) (by rw [sizeLine_eq]; omega)))
    refine wpAny_pure ⟨rfl, _, _, kA.push (.int k t2), c2, rfl, ksk_fr F2 s1 nk.2.1 nk.2.2, fun p hp => ?_, by rw [ea, ek]; exact ksk_snoc hk⟩
    rcases List.mem_append.mp hp with hp | hp
    · exact ksk_news (fun q hq => N2 q (List.mem_append_left _ hq)) s1 hnk p hp
    · rcases List.mem_cons.mp hp with rfl | hp
      · exact ⟨hc2, nk.2⟩
      · rw [List.mem_singleton.mp hp]
        exact ⟨(s1.2 a hka.symm).trans na.1, na.2⟩
  case done =>
    rintro s' ⟨h', tk, kA, e, rfl, F', N', hk⟩
    have hk' : IntsAre kA.toList kz := by
      have e3 : kz.take (0 + vs.length) = kz := List.take_of_length_le (by omega)
      rw [e3] at hk
      exact hk
    have nk := N' (kS, seqObj "list" kA e) (List.mem_append_right _ (.head _))
    try dsimp only
    refine wpAny_bind (listItems_at nk.1 rfl ?_)
    exact so_end F' N' hka hnk hna hk' hlen h64 hix fun h3 tk3 out c F3 N3 k3 => h h3 tk3 out c F3 N3 k3
theorem so_sort {f : Value} {n : Nat} (F : Fr h₀ L s.heap m) (N : News h₀ L s.heap news) (ho : s.heap.get? a = some (seqObj "list" vs.toArray n)) (haL : a ≠ L) (ha0 : h₀.get? a = none) (hna : ∀ p ∈ news, p.1 ≠ a)
    (hlen : kz.length = vs.length) (h64 : vs.length < 64) (hix : ∀ i v, vs[i]? = some v → ix v = i)
    (turn : ∀ (i : Nat) (v : Value) (k : Int), vs[i]? = some v → kz[i]? = some k → ∀ (h : Heap) (tk : Nat) (own : Ldg), Fr h₀ L h m → News h₀ L h (news ++ own) →
      wpAny (model prog w) A (call f [v]) (KskEnd h₀ L m (news ++ own) k { s with heap := h, toks := tk }) (fun _ _ => False) { s with heap := h, toks := tk })
    (h : ∀ h' tk out c, Fr h₀ L h' m → News h₀ L h' ((a, seqObj "list" out c) :: news) → StOut ix kz vs out.toList → P (.done (.ret .none)) { s with heap := h', toks := tk }) :
    wpAny (model prog w) A (ksk_tree a f false) P E s := by
  have ha : a < s.heap.objs.size := Heap.lt_size ho
  have s1 := Heap.SameBut.update s.heap a (Obj.mapSeq fun _ => (#[] : Array Value))
  obtain ⟨e1, ho1⟩ : ∃ e1, (s.heap.update a (Obj.mapSeq fun _ => (#[] : Array Value))).get? a = some (seqObj "list" #[] e1) := ⟨_, get?_update_seq ho fun _ => #[]⟩
  have F1 := ksk_fr F s1 haL ha0
  have N1 := ksk_news N s1 hna
  have hkS : ((s.heap.update a (Obj.mapSeq fun _ => (#[] : Array Value))).push (seqObj "tuple" vs.toArray 0)).objs.size = s.heap.objs.size + 1 := by rw [size_push', Heap.size_update]
  have hLk : L < ((s.heap.update a (Obj.mapSeq fun _ => (#[] : Array Value))).push (seqObj "tuple" vs.toArray 0)).objs.size := (F1.push _).ns.lt
  unfold ksk_tree
  refine wpAny_bind (listItems_at ho rfl ?_)
  refine wpAny_bind (listUpdate_at ho rfl ?_ (by rw [List.size_toArray, sizeLine_eq]; omega) (Nat.zero_le _))
  refine wpAny_bind (seqEpoch_at ho1 rfl ?_)
  refine wpAny_bind (wpAny_newTuple ?_ (by show vs.length ≤ _; rw [sizeLine_eq]; omega))
  refine wpAny_bind (wpAny_newList ?_ (Nat.zero_le _))
  refine wpAny_holding ?_
  refine so_rest (s := { s with heap := ((s.heap.update a (Obj.mapSeq fun _ => (#[] : Array Value))).push (seqObj "tuple" vs.toArray 0)).push (seqObj "list" #[] 0) }) (kS := ((s.heap.update a (Obj.mapSeq fun _ => (#[] : Array Value))).push (seqObj "tuple" vs.toArray 0)).objs.size)
    ((F1.push _).push _) (fun p hp => ?_) (by rw [hkS]; exact Nat.ne_of_gt (Nat.lt_succ_of_lt ha)) (fun p hp => by rw [hkS]; exact Nat.ne_of_lt (Nat.lt_succ_of_lt (Heap.lt_size (N p hp).1))) hna hlen h64 hix turn h
  rcases List.mem_append.mp hp with hp | hp
  · exact ⟨Heap.get?_push_of_some _ (Heap.get?_push_of_some _ (N1 p hp).1), (N1 p hp).2⟩
  · rcases List.mem_cons.mp hp with rfl | hp
    · exact ⟨Heap.get?_push_size _ rfl, Nat.ne_of_gt hLk, Heap.get?_none_of_le (Nat.le_trans F.above (Nat.le_of_lt hLk))⟩
    · rw [List.mem_singleton.mp hp]
      exact ⟨Heap.get?_push_of_some _ (Heap.get?_push_of_some _ ho1), haL, ha0⟩
end
theorem so_sorted {ix : Value → Nat} {prog : Program} {w : World} {A : Around} {E : Value → Shared → Prop} {s : Shared} {h₀ : Heap} {L l : Addr} {m : Str → Option Value} {news : Ldg} {vs : List Value} {Q : Value → Shared → Prop} {kz : List Int} {q : Addr}
    (F : Fr h₀ L s.heap m) (N : News h₀ L s.heap news) (hl : s.heap.IsList l vs.toArray) (hlen : kz.length = vs.length) (h64 : vs.length < 64) (hix : ∀ i v, vs[i]? = some v → ix v = i)
    (turn : ∀ (i : Nat) (v : Value) (k : Int), vs[i]? = some v → kz[i]? = some k → ∀ (h : Heap) (tk : Nat) (own : Ldg), Fr h₀ L h m → News h₀ L h (news ++ own) →
      wpAny (model prog w) A.in1.in1 (call (.ref q) [v]) (KskEnd h₀ L m (news ++ own) k { s with heap := h, toks := tk }) (fun _ _ => False) { s with heap := h, toks := tk })
    (h : ∀ D h' tk out c, Fr h₀ L h' m → News h₀ L h' ((D, seqObj "list" out c) :: news) → (∀ q ∈ news, q.1 < D) → StOut ix kz vs out.toList → Q (.ref D) { s with heap := h', toks := tk }) :
    wpAny (model prog w) A (call (.builtin "sorted") [.ref l] [(Str.ofString "key", .ref q)]) Q E s := by
  refine call_function_entry_kw kind_sorted plain_sorted entry_sorted (ksk_s1 _ _) ?_
  unfold Builtin.«sorted»
  refine wpAny_bind (m := checkCount "sorted" 1 1 _) (wpAny_pure ?_)
  refine wpAny_bind (collect_list hl ?_ (by rw [sizeLine_eq]; omega))
  refine wpAny_bind (wpAny_newList ?_ (by rw [sizeLine_eq]; omega))
  have hsz : ((s.heap.push (seqObj "list" #[] 0)).update s.heap.objs.size (Obj.mapSeq (· ++ vs.toArray))).objs.size = s.heap.objs.size + 1 := by
    rw [Heap.size_update, size_push']
  have hoL : (((s.heap.push (seqObj "list" #[] 0)).update s.heap.objs.size (Obj.mapSeq (· ++ vs.toArray))).push (seqObj "list" vs.toArray 0)).get? (s.heap.objs.size + 1) = some (seqObj "list" vs.toArray 0) := by
    rw [← hsz]; exact Heap.get?_push_size _ rfl
  have keep : ∀ b o, s.heap.get? b = some o → (((s.heap.push (seqObj "list" #[] 0)).update s.heap.objs.size (Obj.mapSeq (· ++ vs.toArray))).push (seqObj "list" vs.toArray 0)).get? b = some o := fun b o q => by
    have hlt : b < s.heap.objs.size := Heap.lt_size q
    rw [Heap.get?_push_ne _ _ _ (by rw [hsz]; exact Nat.ne_of_lt (Nat.lt_succ_of_lt hlt)), Heap.get?_update_ne _ _ _ _ (Nat.ne_of_lt hlt), Heap.get?_push_ne _ _ _ (Nat.ne_of_lt hlt)]
    exact q
  have hL : L < s.heap.objs.size := F.ns.lt
  show wpAny _ _ _ _ _ { s with heap := ((s.heap.push (seqObj "list" #[] 0)).update s.heap.objs.size (Obj.mapSeq (· ++ vs.toArray))).push (seqObj "list" vs.toArray 0) }
  rw [hsz]
  refine wpAny_bind (wpAny_holding (wpAny_call_entry_kw slot_list_sort ⟨_, hoL, rfl⟩ entry_list_sort ?body (ksk_l1 _ _)))
  case body =>
    show wpAny (model prog w) A.in1.in1 (Builtin.«list.sort» ⟨[.ref (s.heap.objs.size + 1)], [(Str.ofString "key", .ref q)]⟩) _ _ _
    rw [ksk_t1]
    refine so_sort (ix := ix) (s := { s with heap := ((s.heap.push (seqObj "list" #[] 0)).update s.heap.objs.size (Obj.mapSeq (· ++ vs.toArray))).push (seqObj "list" vs.toArray 0) })
      (F.kept keep) (N.grown keep) hoL (Nat.ne_of_gt (Nat.lt_succ_of_lt hL)) (Heap.get?_none_of_le (Nat.le_trans F.above (Nat.le_succ_of_le (Nat.le_of_lt hL))))
      (fun p hp => Nat.ne_of_lt (Nat.lt_succ_of_lt (Heap.lt_size (N p hp).1))) hlen h64 hix turn fun h' tk out c F' N' k' => ⟨_, rfl, ?_⟩
    exact wpAny_pure ⟨_, rfl, h _ h' tk out c F' N' (fun q hq => Nat.lt_succ_of_lt (Heap.lt_size (N q hq).1)) k'⟩
end Mine
end
section
open PySem PySem.W PyProof.Rows PySem.Spec PySem.Calls
set_option Elab.async false
set_option maxRecDepth 100000
set_option maxHeartbeats 4000000
set_option linter.all false
namespace Mine
section
variable (p : Nat → Int) (rep : Nat → PStr)
noncomputable def prt (n k : Nat) : List Nat := if n / 2 ^ k % 2 = 1 then srtM p (n / 2 ^ (k + 1) * 2 ^ (k + 1)) (2 ^ k) else []
noncomputable def blkTo (n : Nat) : Nat → List Nat
  | 0 => []
  | j + 1 => blkTo n j ++ prt p n (3 - j)
variable {p rep}
theorem blkTo_4 (n : Nat) : blkTo p n 4 = blk p n := by
  unfold blk
  simp [blkTo, prt]
structure CameW (p : Nat → Int) (rep : Nat → PStr) (n : Nat) (cvs : List Value) (nw : Ldg) : Prop where
  len : cvs.length = n
  at' : ∀ i, i < n → ∃ a t t' e, cvs[i]? = some (.ref a) ∧ (a, lstOf [.int (p i) t, .str (rep i) t'] e) ∈ nw
  inj : ∀ (i j : Nat) (v : Value), cvs[i]? = some v → cvs[j]? = some v → i = j
theorem CameW.mono {n : Nat} {cvs : List Value} {nw nw' : Ldg} (h : CameW p rep n cvs nw) (s : ∀ q ∈ nw, q ∈ nw') : CameW p rep n cvs nw' :=
  ⟨h.len, fun i hi => by obtain ⟨a, t, t', e, h1, h2⟩ := h.at' i hi; exact ⟨a, t, t', e, h1, s _ h2⟩, h.inj⟩
open Classical in
noncomputable def ixOf (vs : List Value) (v : Value) : Nat := if h : ∃ i, vs[i]? = some v then Classical.choose h else 0
theorem ixOf_eq {vs : List Value} (inj : ∀ (i j : Nat) (v : Value), vs[i]? = some v → vs[j]? = some v → i = j) {i : Nat} {v : Value} (h : vs[i]? = some v) : ixOf vs v = i := by
  unfold ixOf
  have hx : ∃ i, vs[i]? = some v := ⟨i, h⟩
  rw [dif_pos hx]
  exact inj _ _ _ (Classical.choose_spec hx) h
theorem sub_at {cvs : List Value} {off size i : Nat} {v : Value} (h : ((cvs.drop off).take size)[i]? = some v) : i < size ∧ cvs[off + i]? = some v := by
  rw [List.getElem?_take] at h
  split at h
  · rename_i hi
    rw [List.getElem?_drop] at h
    exact ⟨hi, h⟩
  · cases h
theorem st_srt {n : Nat} {cvs : List Value} {nw : Ldg} (C : CameW p rep n cvs nw) {off size : Nat} (hle : off + size ≤ n) {vs out : List Value} (hvs : vs = (cvs.drop off).take size) (h : StOut (ixOf vs) ((List.range' off size).map p) vs out) :
    out = (srtM p off size).map (fun i => cvs.getD i .none) := by
  obtain ⟨ps, hp, rfl, ho⟩ := h
  have hat : ∀ (i : Nat) (v : Value), vs[i]? = some v → i < size ∧ cvs[off + i]? = some v := fun i v hi => by
    rw [hvs] at hi
    exact sub_at hi
  have inj : ∀ (i j : Nat) (v : Value), vs[i]? = some v → vs[j]? = some v → i = j := fun i j v hi hj => by
    have := C.inj _ _ _ (hat _ _ hi).2 (hat _ _ hj).2
    omega
  have hlv : vs.length = size := by rw [hvs, List.length_take, List.length_drop, C.len]; omega
  have hz : (((List.range' off size).map p).zip vs).map (fun q => off + ixOf vs q.2) = List.range' off size := by
    refine List.ext_getElem (by rw [List.length_map, List.length_zip, List.length_map, List.length_range', hlv, Nat.min_self]) fun i h1 h2 => ?_
    rw [List.getElem_map, List.getElem_zip, List.getElem_range']
    have hi : i < vs.length := by rw [List.length_range'] at h2; omega
    simp only
    rw [ixOf_eq inj (List.getElem?_eq_getElem hi), Nat.one_mul]
  have hq : ∀ q ∈ ps, q.1 = p (off + ixOf vs q.2) ∧ cvs.getD (off + ixOf vs q.2) .none = q.2 := fun q hq => by
    obtain ⟨i, hi, e⟩ := List.getElem_of_mem (hp.mem_iff.mp hq)
    have hi2 : i < size := by rw [List.length_zip, List.length_map, List.length_range', hlv] at hi; omega
    rw [List.getElem_zip] at e
    have e2 : vs[i]? = some vs[i] := List.getElem?_eq_getElem (by omega)
    have hx := ixOf_eq inj e2
    have e4 := (hat _ _ e2).2
    subst e
    simp only
    rw [hx]
    constructor
    · simp
    · rw [List.getD_eq_getElem?_getD, e4]
      rfl
  have hR : ps.map (fun q => off + ixOf vs q.2) = srtM p off size := by
    refine ord_uniq ?_ (srt_ok off size).1 (((hp.map _).trans (by rw [hz])).trans (srt_ok off size).2.symm)
    refine List.pairwise_map.mpr (List.Pairwise.imp_of_mem (fun {a b} ha hb hab => ?_) ho)
    have h1 := (hq a ha).1
    have h2 := (hq b hb).1
    unfold Bfr
    rw [← h1, ← h2]
    rcases hab with h | ⟨h, h'⟩
    · exact .inl h
    · exact .inr ⟨h, by omega⟩
  rw [← hR, List.map_map]
  exact List.map_congr_left fun q hq' => (hq q hq').2.symm
theorem off_tab : ∀ k < 4, ∀ n < 16, n / 2 ^ k * 2 ^ k = n / 2 ^ (k + 1) * 2 ^ (k + 1) + (if n / 2 ^ k % 2 = 1 then 2 ^ k else 0) := by decide +kernel
theorem off_next {n k : Nat} (hk : k < 4) (h : n < 16) : n / 2 ^ k * 2 ^ k = n / 2 ^ (k + 1) * 2 ^ (k + 1) + (if n / 2 ^ k % 2 = 1 then 2 ^ k else 0) := off_tab k hk n h
theorem left_tab : ∀ k < 4, ∀ n < 16, ((2 ^ k ≤ n - n / 2 ^ (k + 1) * 2 ^ (k + 1)) ↔ n / 2 ^ k % 2 = 1) := by decide +kernel
theorem left_ge {n k : Nat} (hk : k < 4) (h : n < 16) : (2 ^ k ≤ n - n / 2 ^ (k + 1) * 2 ^ (k + 1)) ↔ n / 2 ^ k % 2 = 1 := left_tab k hk n h
end
end Mine
end
section
open PySem PySem.W PyProof.Rows PySem.Spec PySem.Calls
set_option Elab.async false
set_option maxRecDepth 100000
set_option maxHeartbeats 4000000
set_option linter.all false
namespace Mine
noncomputable def LamOk (tb : Array Value) (news : Ldg) : Prop := ∃ c' oc vs tq, tb = #[rawInt 139, rawInt 47, .ref c'] ∧ (c', oc) ∈ news ∧ oc.data = .fields vs ∧ vs[1]? = some (.str (Str.ofString "_law_blocks.<locals>.<lambda>") tq)
noncomputable def LamIs (tb : Array Value) (news : Ldg) : Prop := tb = #[] ∨ LamOk tb news
theorem LamIs.mono {tb : Array Value} {l l' : Ldg} (h : LamIs tb l) (s : ∀ q ∈ l, q ∈ l') : LamIs tb l' := by
  rcases h with h | ⟨c', oc, vs, tq, h1, h2, h3, h4⟩
  · exact .inl h
  · exact .inr ⟨c', oc, vs, tq, h1, s _ h2, h3, h4⟩
section
variable {M : Model} {A : Around} {E : Value → Shared → Prop} {s : Shared} {h₀ : Heap} {L a : Addr} {m mg mb : Str → Option Value} {cn : Str} {cs : Scope} {ccd : Value} {cl : List (Str × Addr)} {news : Ldg} {g : Obj → Ldg}
  {p : Program} {loose : List Str} {mean : ExcName → Option Value} {name qual : Str} {params : Arguments} {body : PySem.Expr} {scope : Scope} {tb : Array Value} {pos : Pos} {firstLine : Nat} {clos : List (Str × Addr)}
theorem lam_any {Q : Value → Shared → Prop} (F : Fr h₀ L s.heap m) (N : News h₀ L s.heap news) (T : Top p loose mean mg mb h₀) (C : CodeHd h₀ 135 131) (hcd : ccd = .ref 135) (U : UpdF 131 (tabObj tb) news g) (hg : g (tabObj tb) = news) {mid : Ldg} (hlam : LamIs tb mid) (hsub : ∀ x, ∀ q ∈ mid, q ∈ g x) (hp1 : pos.line = 139) (hp2 : pos.col = 47) (hq : qual = Str.ofString "_law_blocks.<locals>.<lambda>")
    (hcl : closureFor scope (envX cn cs L a ccd cl) = pure clos)
    (h : ∀ f c' oc vs t ctv h' tk tb' ex, LamOk tb' (ex ++ mid) → Fr h₀ L h' m → News h₀ L h' ((f, kla_obj name qual params body scope clos ((mg "__name__").getD .none) c' ctv) :: (ex ++ g (tabObj tb'))) →
      (c', oc) ∈ ex ++ g (tabObj tb') → oc.data = .fields vs → vs[1]? = some (.str qual t) → (∀ q ∈ ex, ∀ r ∈ news, r.1 < q.1) → (∀ q ∈ news, q.1 < f) → Q (.ref f) { s with heap := h', toks := tk }) :
    wpAny M A (makeFunction name qual params (.expr body) scope (envX cn cs L a ccd cl) [] [] [] pos firstLine) Q E s := by
  subst hq
  rcases hlam with rfl | ⟨c', oc, vs, tq, rfl, h2, h3, h4⟩
  · refine kla_nest (ps := #[]) F N T C hcd U trivial rfl hcl fun f c' oc vs t ctv h' tk F' N' h3 h4 l1 l2 => ?_
    rw [hp1, hp2] at N'
    exact h f c' oc vs t ctv h' tk _ [(c', oc)] ⟨c', oc, vs, t, rfl, .head _, h3, h4⟩ F' N' (.head _) h3 h4 (fun q hq r hr => by rw [List.mem_singleton.mp hq]; exact l1 r hr) (fun q hq => Nat.lt_trans (l1 q hq) l2)
  · have hm : (131, tabObj #[rawInt 139, rawInt 47, .ref c']) ∈ news := by
      obtain ⟨pre, post, e, _⟩ := U.split
      rw [e]; exact List.mem_append_right _ (.head _)
    refine kla_hit (c' := c') F N T C hcd hm trivial ?_ hcl fun f ctv h' tk F' N' l1 => ?_
    · show codeAmong pos [rawInt 139, rawInt 47, .ref c'] = some (.ref c')
      obtain ⟨l, c, el, ec⟩ := pos
      subst hp1 hp2
      rfl
    · exact h f c' oc vs tq ctv h' tk _ [] ⟨c', oc, vs, tq, rfl, h2, h3, h4⟩ F' (by rw [List.nil_append, hg]; exact N') (hsub _ _ h2) h3 h4 (fun q hq => nomatch hq) l1
end
end Mine
end
section
open PySem PySem.W PyProof.Rows PySem.Spec PySem.Calls
set_option Elab.async false
set_option maxRecDepth 100000
set_option maxHeartbeats 4000000
set_option linter.all false
namespace Mine
def lawDef1 : Option (List Stmt × Scope) := match PySem.Challenge.pw_pm0034_01.main.body.getLast? with
  | some (.FunctionDef _ _ b _ _ _ sc _ _ _) => some (b, sc)
  | _ => none
def lawStmts1 : List Stmt := match lawDef1 with
  | some (b, _) => b
  | none => []
def lawScope1 : Scope := match lawDef1 with
  | some (_, sc) => sc
  | none => default
def forBody : List Stmt → List Stmt
  | .For _ _ b _ _ :: _ => b
  | _ => []
def turn1 : List Stmt := forBody (lawStmts1.drop 2)
abbrev cells8 (c1 c2 c3 c4 c5 c6 c7 c8 : Addr) : List (PStr × Addr) := [(Str.ofString "place", c8), (Str.ofString "key", c7), (Str.ofString "row", c6), (Str.ofString "sought", c5), (Str.ofString "ends", c4), (Str.ofString "begins", c3), (Str.ofString "came", c2), (Str.ofString "whole", c1)]
end Mine
end
section
open PySem PySem.W PyProof.Rows PySem.Spec PySem.Calls
set_option Elab.async false
set_option maxRecDepth 100000
set_option maxHeartbeats 4000000
set_option linter.all false
namespace Mine
theorem to_n {x : PStr} {j : Nat} (h : j ≤ x.cps.toList.length) : Txt.slice x none (some (j : Int)) = ⟨(x.cps.toList.take j).toArray⟩ := by
  have := StrLaws.sliceText_to (x := x) (j := (j : Int)) ⟨by omega, by omega⟩
  refine (show Txt.slice x none (some (j : Int)) = _ from this).trans ?_
  simp
end Mine
end
section
open PySem PySem.W PyProof.Rows PySem.Spec PySem.Calls
set_option Elab.async false
set_option maxRecDepth 100000
set_option maxHeartbeats 4000000
set_option linter.all false
namespace Mine
section
variable {prog : Program} {w : World} {A : Around} {E : Value → Shared → Prop} {s : Shared}
theorem rep_lb {x y z : PStr} {t u v : Tok} {Q : Value → Shared → Prop} (hu : u ≠ 0) (hv : v ≠ 0) (huv : u ≠ v) (hyz : (y == z) = false) (hx : x.length ≤ 40) (hz : z.length ≤ 10)
    (h : ∀ t' k, s.toks ≤ k → (Txt.replace x y z).length ≤ 450 → Q (.str (Txt.replace x y z) t') { s with toks := k }) : wpAny (model prog w) A (call (.builtin "str.replace") [.str x t, .str y u, .str z v]) Q E s :=
  wpAny_with_toks (Nat.le_refl _) (wpAny_mono (replace_small (t := t) (Q := fun v s' => s.toks ≤ s'.toks → Q v s') (E := E) hu hv huv hyz hx hz fun t' k hl hk => h t' k hk hl) (fun _ _ x => x) fun _ _ x _ => x)
end
end Mine
end
section
open PySem PySem.W PyProof.Rows PySem.Spec PySem.Calls
set_option Elab.async false
set_option maxRecDepth 100000
set_option maxHeartbeats 4000000
set_option linter.all false
namespace Mine
theorem find3_at {x : PStr} {ch : Nat} {a b : List Nat} {i : Nat} (h : x.cps.toList = a ++ ch :: b) (hi : i ≤ a.length) (ha : ∀ v, i ≤ v → v < a.length → a.getD v 0 ≠ ch) : Txt.find3 x ⟨#[ch]⟩ (i : Int) = (a.length : Int) := by
  have hg : x.cps.getD a.length 0 = ch := StrLaws.getD_of_getElem? (by rw [h]; simp)
  have hlen : a.length < x.length := by rw [len_list, h]; simp
  have hfi : fromIndex x.length (i : Int) = i := by unfold fromIndex; split <;> omega
  have hb : ∀ v, i ≤ v → v < a.length → x.cps.getD v 0 ≠ ch := fun v hv0 hv e => by
    have := StrLaws.getElem?_of_getD (x := x) (v := v) (by omega) e
    rw [h, List.getElem?_append_left hv] at this
    refine ha v hv0 hv ?_
    rw [List.getD_eq_getElem?_getD, this]; rfl
  rcases StrLaws.find3_spec x ch (i : Int) with ⟨_, hn⟩ | ⟨k, hk, hk0, hkl, hk41, hn⟩
  · rw [hfi] at hn; exact absurd hg (hn _ hi hlen)
  · rw [hfi] at hn hk0
    rw [hk]
    congr 1
    rcases Nat.lt_trichotomy k a.length with q | q | q
    · exact absurd hk41 (hb k hk0 q)
    · exact q
    · exact absurd hg (hn _ hi q)
theorem slice_mid {x : PStr} {a m b : List Nat} (h : x.cps.toList = a ++ m ++ b) : Txt.slice x (some (a.length : Int)) (some ((a.length + m.length : Nat) : Int)) = ⟨m.toArray⟩ := by
  have := StrLaws.sliceText_plain (x := x) (i := (a.length : Int)) (j := ((a.length + m.length : Nat) : Int)) ⟨by omega, by omega, by rw [h]; simp only [List.length_append]; omega⟩
  refine (show Txt.slice x (some (a.length : Int)) (some ((a.length + m.length : Nat) : Int)) = _ from this).trans ?_
  congr 2
  rw [h, show (((a.length + m.length : Nat) : Int) - (a.length : Int)).toNat = m.length by omega, show ((a.length : Int)).toNat = a.length by omega, List.append_assoc]
  simp
theorem drop_last : ∀ (l : List Nat) (d : Nat), ∃ z, (d :: l).drop l.length = [z]
  | [], d => ⟨d, rfl⟩
  | e :: l, d => by
    obtain ⟨z, hz⟩ := drop_last l e
    exact ⟨z, hz⟩
noncomputable def g229 (r m : PStr) : Except (EK × PStr) Int :=
  if (Txt.item m 0 != Txt.item m ((m.length : Int) - 1)) = true then .error (.proto, r) else
  if (Txt.split m (Txt.item m 0)).length ≠ 5 then .error (.proto, r) else
  match PySem.intText? ((Txt.split m (Txt.item m 0)).getD 3 Str.empty) with
  | some n => .ok n
  | none => .error (.value, intRefusal ((Txt.split m (Txt.item m 0)).getD 3 Str.empty))
end Mine
end
section
open PySem PySem.W PyProof.Rows PySem.Spec PySem.Calls
set_option Elab.async false
set_option maxRecDepth 100000
set_option maxHeartbeats 4000000
set_option linter.all false
namespace Mine
section
variable {r : PStr} {a m rest : List Nat} (h : r.cps.toList = 50 :: 50 :: 57 :: (a ++ 40 :: (m ++ 41 :: rest))) (ha : 40 ∉ a) (hm : 41 ∉ m) (h0 : m ≠ [])
theorem getD_ne' {l : List Nat} {ch v : Nat} (h : ch ∉ l) (hv : v < l.length) : l.getD v 0 ≠ ch := fun e => by
  rw [List.getD_eq_getElem?_getD, List.getElem?_eq_getElem hv] at e
  exact h (e ▸ List.getElem_mem ..)
theorem find3_none' {x : PStr} {ch i : Nat} (h : ∀ v, i ≤ v → v < x.cps.toList.length → x.cps.toList.getD v 0 ≠ ch) : Txt.find3 x ⟨#[ch]⟩ (i : Int) < 0 := by
  rcases StrLaws.find3_spec x ch (i : Int) with ⟨e, _⟩ | ⟨k, hk, hk0, hkl, hk41, hn⟩
  · rw [e]; decide
  · exfalso
    have hi : i ≤ k := by
      unfold fromIndex at hk0
      split at hk0 <;> omega
    rw [len_list] at hkl
    refine h k hi hkl ?_
    have := StrLaws.getElem?_of_getD (x := x) (v := k) (by rw [len_list]; exact hkl) hk41
    rw [List.getD_eq_getElem?_getD, this]; rfl
theorem sp_open {t : List Nat} (h : r.cps.toList = 50 :: 50 :: 57 :: (a ++ 40 :: t)) (ha : 40 ∉ a) : Txt.find r (Str.ofString "(") = ((3 + a.length : Nat) : Int) := by
  rw [find_is_find3, open_is]
  have hn : 40 ∉ 50 :: 50 :: 57 :: a := by simp only [List.mem_cons, not_or]; exact ⟨by decide, by decide, by decide, ha⟩
  have e := find3_at (x := r) (ch := 40) (a := 50 :: 50 :: 57 :: a) (b := t) (i := 0) (by rw [h]; rfl) (Nat.zero_le _) (fun v _ hv => getD_ne' hn hv)
  refine e.trans ?_
  simp only [List.length_cons]; omega
theorem sp_229 {t : List Nat} (h : r.cps.toList = 50 :: 50 :: 57 :: t) : Txt.slice r none (some 3) = Str.ofString "229" := by
  rw [show (3 : Int) = ((3 : Nat) : Int) from rfl, to_n (by rw [h]; simp)]
  rw [h]
  show (⟨#[50, 50, 57]⟩ : PStr) = _
  decide +kernel
include h ha hm
theorem sp_close : Txt.find3 r (Str.ofString ")") (((3 + a.length : Nat) : Int) + 1) = ((3 + a.length + 1 + m.length : Nat) : Int) := by
  rw [close_is, show ((3 + a.length : Nat) : Int) + 1 = ((3 + a.length + 1 : Nat) : Int) by omega]
  have e := find3_at (x := r) (ch := 41) (a := 50 :: 50 :: 57 :: (a ++ 40 :: m)) (b := rest) (i := 3 + a.length + 1) (by rw [h]; simp) (by simp; omega) (fun v hv hv2 => by
    obtain ⟨v, rfl⟩ := Nat.exists_eq_add_of_le hv
    have e1 : (50 :: 50 :: 57 :: (a ++ 40 :: m)) = (50 :: 50 :: 57 :: (a ++ [40])) ++ m := by simp
    have e2 : (50 :: 50 :: 57 :: (a ++ [40])).length = 3 + a.length + 1 := by simp; omega
    rw [e1] at hv2 ⊢
    rw [List.length_append, e2] at hv2
    rw [List.getD_eq_getElem?_getD, List.getElem?_append_right (by omega), e2, Nat.add_sub_cancel_left, ← List.getD_eq_getElem?_getD]
    exact getD_ne' hm (by omega))
  refine e.trans ?_
  simp only [List.length_cons, List.length_append]; omega
theorem sp_in : p229in r = ⟨m.toArray⟩ := by
  unfold p229in
  rw [sp_open h ha, sp_close h ha hm, show ((3 + a.length : Nat) : Int) + 1 = ((3 + a.length + 1 : Nat) : Int) by omega]
  have := slice_mid (x := r) (a := 50 :: 50 :: 57 :: (a ++ [40])) (m := m) (b := 41 :: rest) (by rw [h]; simp)
  rw [show (50 :: 50 :: 57 :: (a ++ [40])).length = 3 + a.length + 1 by simp; omega] at this
  exact this
include h0
theorem sp_first : Txt.item r (((3 + a.length : Nat) : Int) + 1) = Txt.item ⟨m.toArray⟩ 0 := by
  obtain ⟨d, m', rfl⟩ := List.exists_cons_of_ne_nil h0
  have i7 := (item_list (r := r) (i := 3 + a.length + 1) (c := d) (t := m' ++ 41 :: rest) (by
    rw [h]
    have e : 50 :: 50 :: 57 :: (a ++ 40 :: (d :: m' ++ 41 :: rest)) = (50 :: 50 :: 57 :: (a ++ [40])) ++ (d :: (m' ++ 41 :: rest)) := by simp
    rw [e, show 3 + a.length + 1 = (50 :: 50 :: 57 :: (a ++ [40])).length by simp; omega, List.drop_left])).1
  have m0 := (item_list (r := ⟨(d :: m').toArray⟩) (i := 0) (c := d) (t := m') (by simp)).1
  exact i7.trans m0.symm
theorem sp_last : Txt.item r (((3 + a.length + 1 + m.length : Nat) : Int) - 1) = Txt.item ⟨m.toArray⟩ (((m.length : Nat) : Int) - 1) := by
  obtain ⟨d, m', rfl⟩ := List.exists_cons_of_ne_nil h0
  obtain ⟨z, hz⟩ := drop_last m' d
  have z1 := (item_list (r := r) (i := 3 + a.length + 1 + m'.length) (c := z) (t := 41 :: rest) (by
    rw [h]
    have e : 50 :: 50 :: 57 :: (a ++ 40 :: (d :: m' ++ 41 :: rest)) = (50 :: 50 :: 57 :: (a ++ [40])) ++ (d :: m' ++ 41 :: rest) := by simp
    rw [e, ← List.drop_drop, show 3 + a.length + 1 = (50 :: 50 :: 57 :: (a ++ [40])).length by simp; omega, List.drop_left, List.drop_append_of_le_length (by simp), hz]
    rfl)).1
  have z2 := (item_list (r := ⟨(d :: m').toArray⟩) (i := m'.length) (c := z) (t := []) (by simpa using hz)).1
  rw [show (((3 + a.length + 1 + (d :: m').length : Nat) : Int) - 1) = ((3 + a.length + 1 + m'.length : Nat) : Int) by simp only [List.length_cons]; omega, show (((d :: m').length : Nat) : Int) - 1 = ((m'.length : Nat) : Int) by simp only [List.length_cons]; omega]
  exact z1.trans z2.symm
theorem p229_sp : p229 r = g229 r ⟨m.toArray⟩ := by
  have hin := sp_in h ha hm
  unfold p229in at hin
  rw [sp_open h ha, sp_close h ha hm] at hin
  have ml : (⟨m.toArray⟩ : PStr).length = m.length := by rw [len_list]
  unfold p229 g229
  rw [sp_229 h, sp_open h ha, sp_close h ha hm, sp_first h ha hm h0, sp_last h ha hm h0, ml, hin]
  rw [if_neg (by simp), if_neg (by omega), if_neg (by omega)]
  all_goals rfl
theorem sp_part : p229part r = (Txt.split ⟨m.toArray⟩ (Txt.item ⟨m.toArray⟩ 0)).getD 3 Str.empty := by
  unfold p229part
  rw [sp_in h ha hm, sp_open h ha, sp_first h ha hm h0]
end
noncomputable def g229d (m : PStr) : Sum Int (Option PStr) :=
  if (Txt.item m 0 != Txt.item m ((m.length : Int) - 1)) = true then .inr none else
  if (Txt.split m (Txt.item m 0)).length ≠ 5 then .inr none else
  match PySem.intText? ((Txt.split m (Txt.item m 0)).getD 3 Str.empty) with
  | some n => .inl n
  | none => .inr (some ((Txt.split m (Txt.item m 0)).getD 3 Str.empty))
theorem g229_d (r m : PStr) : g229 r m = (match g229d m with | .inl n => .ok n | .inr none => .error (.proto, r) | .inr (some t) => .error (.value, intRefusal t)) := by
  unfold g229 g229d
  by_cases h1 : (Txt.item m 0 != Txt.item m ((m.length : Int) - 1)) = true
  · rw [if_pos h1, if_pos h1]
  · rw [if_neg h1, if_neg h1]
    by_cases h2 : (Txt.split m (Txt.item m 0)).length ≠ 5
    · rw [if_pos h2, if_pos h2]
    · rw [if_neg h2, if_neg h2]
      cases PySem.intText? ((Txt.split m (Txt.item m 0)).getD 3 Str.empty) <;> rfl
noncomputable def preOf (x : Nat) (l : List Nat) : List Nat := l.takeWhile fun c => c != x
noncomputable def pstOf (x : Nat) (l : List Nat) : List Nat := (l.dropWhile fun c => c != x).drop 1
theorem pre_pst (x : Nat) : ∀ l : List Nat, x ∈ l → l = preOf x l ++ x :: pstOf x l
  | [], h => nomatch h
  | c :: l, h => by
    by_cases e : c = x
    · subst e
      unfold preOf pstOf
      rw [List.takeWhile_cons_of_neg (by simp), List.dropWhile_cons_of_neg (by simp)]
      rfl
    · have h' : x ∈ l := (List.mem_cons.mp h).elim (fun q => absurd q.symm e) id
      have ih := pre_pst x l h'
      unfold preOf pstOf at *
      rw [List.takeWhile_cons_of_pos (by simpa using e), List.dropWhile_cons_of_pos (by simpa using e)]
      rw [List.cons_append, ← ih]
theorem pre_not (x : Nat) : ∀ l : List Nat, x ∉ preOf x l
  | [] => by intro h; cases h
  | c :: l => by
    by_cases e : c = x
    · subst e
      unfold preOf
      rw [List.takeWhile_cons_of_neg (by simp)]
      intro h; cases h
    · have ih := pre_not x l
      unfold preOf at *
      rw [List.takeWhile_cons_of_pos (by simpa using e)]
      simp only [List.mem_cons, not_or]
      exact ⟨fun q => e q.symm, ih⟩
noncomputable def midL (l : List Nat) : List Nat := preOf 41 (pstOf 40 l)
noncomputable def res229 (l : List Nat) : Sum Int (Option PStr) := if 40 ∉ l then .inr none else if 41 ∉ pstOf 40 l then .inr none else g229d ⟨(midL l).toArray⟩
section
variable {r : PStr} {c : Nat} {l : List Nat} (h : r.cps.toList = 50 :: 50 :: 57 :: 32 :: c :: 32 :: l) (hc : c ≠ 40)
include h hc
theorem p229_res (h0 : 40 ∈ l → 41 ∈ pstOf 40 l → midL l ≠ []) : p229 r = (match res229 l with | .inl n => .ok n | .inr none => .error (.proto, r) | .inr (some t) => .error (.value, intRefusal t)) := by
  have h3 := sp_229 h
  unfold res229
  by_cases h1 : 40 ∈ l
  · rw [if_neg (not_not_intro h1)]
    have e := pre_pst 40 l h1
    have hn := pre_not 40 l
    have ha : 40 ∉ 32 :: c :: 32 :: preOf 40 l := by
      simp only [List.mem_cons, not_or]; exact ⟨by decide, fun q => hc q.symm, by decide, hn⟩
    by_cases h2 : 41 ∈ pstOf 40 l
    · rw [if_neg (not_not_intro h2)]
      have e2 := pre_pst 41 (pstOf 40 l) h2
      have h' : r.cps.toList = 50 :: 50 :: 57 :: ((32 :: c :: 32 :: preOf 40 l) ++ 40 :: (midL l ++ 41 :: pstOf 41 (pstOf 40 l))) := by
        rw [h]
        unfold midL
        rw [← e2]
        show _ = 50 :: 50 :: 57 :: 32 :: c :: 32 :: (preOf 40 l ++ 40 :: pstOf 40 l)
        rw [← e]
      rw [p229_sp h' ha (pre_not 41 _) (h0 h1 h2), g229_d]
    · rw [if_pos h2]
      have h' : r.cps.toList = 50 :: 50 :: 57 :: ((32 :: c :: 32 :: preOf 40 l) ++ 40 :: pstOf 40 l) := by
        rw [h]
        show _ = 50 :: 50 :: 57 :: 32 :: c :: 32 :: (preOf 40 l ++ 40 :: pstOf 40 l)
        rw [← e]
      have eo := sp_open h' ha
      refine p229_close ?_ ?_ ?_
      · rw [h3]; simp
      · rw [eo]; omega
      · rw [eo, close_is, show ((3 + (32 :: c :: 32 :: preOf 40 l).length : Nat) : Int) + 1 = ((3 + (32 :: c :: 32 :: preOf 40 l).length + 1 : Nat) : Int) by omega]
        refine find3_none' fun v hv hl2 => ?_
        obtain ⟨u, rfl⟩ := Nat.exists_eq_add_of_le hv
        have e1 : 50 :: 50 :: 57 :: ((32 :: c :: 32 :: preOf 40 l) ++ 40 :: pstOf 40 l) = (50 :: 50 :: 57 :: ((32 :: c :: 32 :: preOf 40 l) ++ [40])) ++ pstOf 40 l := by simp
        have e2 : (50 :: 50 :: 57 :: ((32 :: c :: 32 :: preOf 40 l) ++ [40])).length = 3 + (32 :: c :: 32 :: preOf 40 l).length + 1 := by simp only [List.length_cons, List.length_append, List.length_nil]; omega
        rw [h', e1] at hl2 ⊢
        rw [List.length_append, e2] at hl2
        rw [List.getD_eq_getElem?_getD, List.getElem?_append_right (by omega), e2, Nat.add_sub_cancel_left, ← List.getD_eq_getElem?_getD]
        exact getD_ne' h2 (by omega)
  · rw [if_pos h1]
    refine p229_open ?_ ?_
    · rw [h3]; simp
    · rw [find_is_find3, open_is]
      refine find3_none' (i := 0) fun v _ hv => getD_ne' ?_ hv
      rw [h]
      simp only [List.mem_cons, not_or]
      exact ⟨by decide, by decide, by decide, by decide, fun q => hc q.symm, by decide, h1⟩
theorem part_res (h1 : 40 ∈ l) (h2 : 41 ∈ pstOf 40 l) (h0 : midL l ≠ []) : p229part r = (Txt.split ⟨(midL l).toArray⟩ (Txt.item ⟨(midL l).toArray⟩ 0)).getD 3 Str.empty := by
  have e := pre_pst 40 l h1
  have hn := pre_not 40 l
  have ha : 40 ∉ 32 :: c :: 32 :: preOf 40 l := by
    simp only [List.mem_cons, not_or]; exact ⟨by decide, fun q => hc q.symm, by decide, hn⟩
  have e2 := pre_pst 41 (pstOf 40 l) h2
  have h' : r.cps.toList = 50 :: 50 :: 57 :: ((32 :: c :: 32 :: preOf 40 l) ++ 40 :: (midL l ++ 41 :: pstOf 41 (pstOf 40 l))) := by
    rw [h]
    unfold midL
    rw [← e2]
    show _ = 50 :: 50 :: 57 :: 32 :: c :: 32 :: (preOf 40 l ++ 40 :: pstOf 40 l)
    rw [← e]
  exact sp_part h' ha (pre_not 41 _) h0
end
end Mine
end
section
open PySem PySem.W PyProof.Rows PySem.Spec PySem.Calls
set_option Elab.async false
set_option maxRecDepth 100000
set_option maxHeartbeats 4000000
set_option linter.all false
namespace Mine
noncomputable def sh16 (k : Nat) : PStr := match k with | 0 => Str.ofString "(|||#|)" | 1 => Str.ofString ")(!1!h!00#!)" | 2 => Str.ofString "(\"\"\"#\") (|||9|)" | 3 => Str.ofString "((((#()" | 4 => Str.ofString "(   # )" | 5 => Str.ofString "(||| +# |)" | 6 => Str.ofString "(xxx#x)" | 7 => Str.ofString "(999#9)" | 8 => Str.ofString "(|||0_#|)" | 9 => Str.ofString "(|||#|)" | 10 => Str.ofString ")(|||#|x" | 11 => Str.ofString "(|||#|!)" | 12 => Str.ofString "(||||#|)" | 13 => Str.ofString "(|||#o|)" | 14 => Str.ofString "2#2)" | _ => Str.ofString "(||#|)"
noncomputable def repG (k : Nat) (po le : PStr) : PStr := Str.ofString "229 " ++ le ++ Str.ofString " " ++ Txt.replace (sh16 k) (Str.ofString "#") po
noncomputable def repR (k : Nat) (po le : PStr) : PStr := if k = 9 then Str.ofString "227" ++ Txt.slice (repG k po le) (some 3) none else repG k po le
noncomputable def dueR (k : Nat) (po le : PStr) : PStr := if k = 9 then Str.ofString "reply 227" ++ Txt.slice (repG k po le) (some 3) none else if k = 13 then Str.ofString "value invalid literal for int() with base 10: '" ++ po ++ Str.ofString "o'" else Str.ofString "proto " ++ repG k po le
noncomputable abbrev poS (j : Nat) : PStr := Str.ofString (toString ((j : Int) * 7))
noncomputable abbrev leS (c : Nat) : PStr := ⟨#[c]⟩
noncomputable def lR (k j : Nat) : List Nat := (Txt.replace (sh16 k) (Str.ofString "#") (poS j)).cps.toList
noncomputable def okM (l : List Nat) : Bool := !decide (midL l = [])
noncomputable def okR (k j : Nat) : Bool := decide ((lR k j).length ≤ 30) && (if k < 9 then decide (res229 (lR k j) = .inl ((j : Int) * 7)) && okM (lR k j) else
  if k = 9 then true else
  if k = 13 then okM (lR k j) && decide (res229 (lR k j) = .inr (some (poS j ++ Str.ofString "o"))) && decide (40 ∈ lR k j) && decide (41 ∈ pstOf 40 (lR k j)) && decide ((Txt.split ⟨(midL (lR k j)).toArray⟩ (Txt.item ⟨(midL (lR k j)).toArray⟩ 0)).getD 3 Str.empty = poS j ++ Str.ofString "o") && decide (toldTxt .value (intRefusal (poS j ++ Str.ofString "o")) = Str.ofString "value invalid literal for int() with base 10: '" ++ poS j ++ Str.ofString "o'") && decide ((PySem.reprText (poS j ++ Str.ofString "o")).length ≤ 10000) else
  decide (res229 (lR k j) = .inr none) && (okM (lR k j) || decide (40 ∉ lR k j) || decide (41 ∉ pstOf 40 (lR k j))))
theorem tabR0 : ((List.range 5).all fun j => okR 0 j && okR 1 j && okR 2 j && okR 3 j && okR 4 j && okR 5 j && okR 6 j && okR 7 j && okR 8 j && okR 9 j) = true := by decide +kernel
theorem tabR1 : ((List.range 5).all fun j => okR 10 j && okR 11 j && okR 12 j && okR 13 j && okR 14 j && okR 15 j) = true := by decide +kernel
theorem pos_tab1 : ((List.range 5).all fun j => decide ((poS j).length ≤ 8) && !(Str.ofString "#" == poS j)) = true := by decide +kernel
theorem okR_at {k j : Nat} (hk : k < 16) (hj : j < 5) : okR k j = true := by
  have h0 := List.all_eq_true.mp tabR0 j (List.mem_range.mpr hj)
  have h1 := List.all_eq_true.mp tabR1 j (List.mem_range.mpr hj)
  simp only [Bool.and_eq_true] at h0 h1
  match k, hk with
  | 0, _ => exact h0.1.1.1.1.1.1.1.1.1
  | 1, _ => exact h0.1.1.1.1.1.1.1.1.2
  | 2, _ => exact h0.1.1.1.1.1.1.1.2
  | 3, _ => exact h0.1.1.1.1.1.1.2
  | 4, _ => exact h0.1.1.1.1.1.2
  | 5, _ => exact h0.1.1.1.1.2
  | 6, _ => exact h0.1.1.1.2
  | 7, _ => exact h0.1.1.2
  | 8, _ => exact h0.1.2
  | 9, _ => exact h0.2
  | 10, _ => exact h1.1.1.1.1.1
  | 11, _ => exact h1.1.1.1.1.2
  | 12, _ => exact h1.1.1.1.2
  | 13, _ => exact h1.1.1.2
  | 14, _ => exact h1.1.2
  | 15, _ => exact h1.2
  | n + 16, h => exact absurd h (by omega)
theorem pos_at1 {j : Nat} (hj : j < 5) : (poS j).length ≤ 8 ∧ (Str.ofString "#" == poS j) = false := by
  have := List.all_eq_true.mp pos_tab1 j (List.mem_range.mpr hj)
  simp only [Bool.and_eq_true, decide_eq_true_eq, Bool.not_eq_true'] at this
  exact this
theorem n229_list1 : (Str.ofString "229 ").cps.toList = [50, 50, 57, 32] := by decide +kernel
theorem n227_list1 : (Str.ofString "227").cps.toList = [50, 50, 55] := by decide +kernel
theorem sp_list1 : (Str.ofString " ").cps.toList = [32] := by decide +kernel
theorem repG_list (k j c : Nat) : (repG k (poS j) (leS c)).cps.toList = 50 :: 50 :: 57 :: 32 :: c :: 32 :: lR k j := by
  unfold repG lR
  rw [str_toList, str_toList, str_toList, n229_list1, sp_list1]
  rfl
theorem okM_is {l : List Nat} (h : okM l = true) : midL l ≠ [] := by
  unfold okM at h
  simpa using h
theorem proto_txt1 (r : PStr) : toldTxt .proto r = Str.ofString "proto " ++ r := rfl
section
variable {k j c : Nat} (hc : 97 ≤ c) (hj : j < 5)
include hc hj
theorem repR_good (hk : k < 9) : p229 (repR k (poS j) (leS c)) = .ok ((j : Int) * 7) ∧ (repR k (poS j) (leS c)).length ≤ 60 := by
  have h := okR_at (k := k) (j := j) (by omega) hj
  have hl := repG_list k j c
  unfold okR at h
  rw [if_pos hk] at h
  simp only [Bool.and_eq_true, decide_eq_true_eq] at h
  obtain ⟨h1, h2, h3⟩ := h
  unfold repR
  rw [if_neg (by omega)]
  refine ⟨?_, ?_⟩
  · rw [p229_res hl (by omega) (fun _ _ => okM_is h3), h2]
  · rw [len_list, hl]; simp; omega
theorem repR_bad (hk : 9 ≤ k) (hk16 : k < 16) : ∃ ek msg, p229 (repR k (poS j) (leS c)) = .error (ek, msg) ∧ toldTxt ek msg = dueR k (poS j) (leS c) ∧ (repR k (poS j) (leS c)).length ≤ 60 ∧ (ek = .value → RepOk (repR k (poS j) (leS c))) := by
  have h := okR_at (k := k) (j := j) hk16 hj
  have hl := repG_list k j c
  unfold okR at h
  rw [if_neg (by omega)] at h
  simp only [Bool.and_eq_true, decide_eq_true_eq] at h
  obtain ⟨h1, h2⟩ := h
  have hlen : (repG k (poS j) (leS c)).length ≤ 36 := by
    rw [len_list, hl]; simp; omega
  by_cases h9 : k = 9
  · subst h9
    unfold repR dueR
    rw [if_pos rfl, if_pos rfl]
    have e3 : Txt.slice (repG 9 (poS j) (leS c)) (some 3) none = ⟨(32 :: c :: 32 :: lR 9 j).toArray⟩ := by
      have := StrLaws.sliceText_from (x := repG 9 (poS j) (leS c)) (i := ((3 : Nat) : Int)) ⟨by omega, by rw [hl]; simp; omega⟩
      refine (show Txt.slice (repG 9 (poS j) (leS c)) (some ((3 : Nat) : Int)) none = _ from this).trans ?_
      rw [hl]
      congr 2
      rw [List.take_of_length_le]
      · rfl
      · simp; omega
    rw [e3]
    have hl2 : (Str.ofString "227" ++ (⟨(32 :: c :: 32 :: lR 9 j).toArray⟩ : PStr)).cps.toList = 50 :: 50 :: 55 :: 32 :: c :: 32 :: lR 9 j := by
      rw [str_toList, n227_list1]; rfl
    refine ⟨.reply, _, p229_code ?_, ?_, ?_, fun e => nomatch e⟩
    · rw [show (3 : Int) = ((3 : Nat) : Int) from rfl, to_n (by rw [hl2]; simp), hl2]
      show ((⟨#[50, 50, 55]⟩ : PStr) != _) = true
      decide +kernel
    · show Str.ofString "reply " ++ _ = _
      have e9 : Str.ofString "reply 227" = Str.ofString "reply " ++ Str.ofString "227" := by decide +kernel
      rw [e9]
      refine str_eq ?_
      simp only [str_toList, List.append_assoc]
    · rw [len_list, hl2]; simp; omega
  · have eR : repR k (poS j) (leS c) = repG k (poS j) (leS c) := by unfold repR; rw [if_neg h9]
    rw [eR]
    rw [if_neg h9] at h2
    by_cases h13 : k = 13
    · rw [if_pos h13] at h2
      simp only [Bool.and_eq_true, decide_eq_true_eq] at h2
      obtain ⟨⟨⟨⟨⟨⟨a1, a2⟩, a3⟩, a4⟩, a5⟩, a6⟩, a7⟩ := h2
      refine ⟨.value, intRefusal (poS j ++ Str.ofString "o"), ?_, ?_, by omega, fun _ => ⟨?_⟩⟩
      · rw [p229_res hl (by omega) (fun _ _ => okM_is a1), a2]
      · rw [a6]
        unfold dueR
        rw [if_neg h9, if_pos h13]
      · rw [part_res hl (by omega) a3 a4 (okM_is a1), a5]
        exact a7
    · rw [if_neg h13] at h2
      simp only [Bool.and_eq_true, decide_eq_true_eq, Bool.or_eq_true] at h2
      refine ⟨.proto, repG k (poS j) (leS c), ?_, ?_, by omega, fun e => nomatch e⟩
      · rw [p229_res hl (by omega) (fun q1 q2 => ?_), h2.1]
        rcases h2.2 with (q | q) | q
        · exact okM_is q
        · exact absurd q1 q
        · exact absurd q2 q
      · rw [proto_txt1]
        unfold dueR
        rw [if_neg h9, if_neg h13]
end
end Mine
end
section
open PySem PySem.W PyProof.Rows PySem.Spec PySem.Calls
set_option Elab.async false
set_option maxRecDepth 100000
set_option maxHeartbeats 4000000
set_option linter.all false
namespace Mine
section
variable (ns : List Int)
noncomputable def kOf (t : Nat) : Nat := ((ns.getD t 0).fmod 16).toNat
noncomputable def jOf (t : Nat) : Nat := ((ns.getD t 0 / 16).fmod 5).toNat
noncomputable def repT (t : Nat) : PStr := repR (kOf ns t) (poS (jOf ns t)) (leS (97 + t))
noncomputable def dueT (t : Nat) : PStr := dueR (kOf ns t) (poS (jOf ns t)) (leS (97 + t))
noncomputable def gT (t : Nat) : Bool := decide (kOf ns t < 9)
noncomputable def gsT (T : Nat) : List Nat := (List.range T).filter (gT ns)
noncomputable def gAt (i : Nat) : Nat := (gsT ns ns.length).getD i 0
noncomputable def pT (i : Nat) : Int := (jOf ns (gAt ns i) : Int) * 7
noncomputable def rT (i : Nat) : PStr := repT ns (gAt ns i)
noncomputable def nT (t : Nat) : Nat := (gsT ns t).length
end
section
variable {ns : List Int}
theorem kOf_lt (t : Nat) : kOf ns t < 16 ∧ ((kOf ns t : Nat) : Int) = (ns.getD t 0).fmod 16 := by
  have h1 := Int.fmod_nonneg_of_pos (ns.getD t 0) (show (0 : Int) < 16 by decide)
  have h2 := Int.fmod_lt_of_pos (ns.getD t 0) (show (0 : Int) < 16 by decide)
  unfold kOf; omega
theorem jOf_lt (t : Nat) : jOf ns t < 5 ∧ ((jOf ns t : Nat) : Int) = (ns.getD t 0 / 16).fmod 5 := by
  have h1 := Int.fmod_nonneg_of_pos (ns.getD t 0 / 16) (show (0 : Int) < 5 by decide)
  have h2 := Int.fmod_lt_of_pos (ns.getD t 0 / 16) (show (0 : Int) < 5 by decide)
  unfold jOf; omega
theorem gsT_succ (t : Nat) : gsT ns (t + 1) = gsT ns t ++ (if gT ns t then [t] else []) := by
  unfold gsT
  rw [List.range_succ, List.filter_append]
  congr 1
  cases h : gT ns t with
  | true => rw [List.filter_cons_of_pos h]; rfl
  | false => rw [List.filter_cons_of_neg (by rw [h]; exact Bool.false_ne_true)]; rfl
theorem nT_good {t : Nat} (h : kOf ns t < 9) : nT ns (t + 1) = nT ns t + 1 := by
  unfold nT
  rw [gsT_succ, if_pos (show gT ns t = true from decide_eq_true h), List.length_append]; rfl
theorem nT_bad {t : Nat} (h : ¬ kOf ns t < 9) : nT ns (t + 1) = nT ns t := by
  unfold nT
  rw [gsT_succ, if_neg (by unfold gT; rw [decide_eq_false h]; exact Bool.false_ne_true), List.append_nil]
theorem nT_le (t : Nat) : nT ns t ≤ t := by
  unfold nT gsT
  refine Nat.le_trans (List.length_filter_le ..) (by simp)
theorem gsT_pre (t d : Nat) : ∃ r, gsT ns (t + d) = gsT ns t ++ r := by
  induction d with
  | zero => exact ⟨[], by simp⟩
  | succ d ih =>
    obtain ⟨r, e⟩ := ih
    exact ⟨_, by rw [← Nat.add_assoc, gsT_succ, e, List.append_assoc]⟩
theorem nT_mono {t u : Nat} (h : t ≤ u) : nT ns t ≤ nT ns u := by
  obtain ⟨d, rfl⟩ := Nat.exists_eq_add_of_le h
  obtain ⟨r, e⟩ := gsT_pre (ns := ns) t d
  unfold nT
  rw [e, List.length_append]; omega
theorem gAt_at {t : Nat} (h : kOf ns t < 9) (ht : t < ns.length) : gAt ns (nT ns t) = t := by
  obtain ⟨d, e⟩ := Nat.exists_eq_add_of_le (show t + 1 ≤ ns.length from ht)
  obtain ⟨r, e2⟩ := gsT_pre (ns := ns) (t + 1) d
  unfold gAt nT
  rw [e, e2, gsT_succ, if_pos (show gT ns t = true from decide_eq_true h), List.getD_eq_getElem?_getD, List.append_assoc, List.getElem?_append_right (Nat.le_refl _), Nat.sub_self]
  rfl
theorem gAt_mem {i : Nat} (h : i < nT ns ns.length) : gAt ns i < ns.length ∧ kOf ns (gAt ns i) < 9 := by
  unfold gAt
  unfold nT at h
  rw [List.getD_eq_getElem?_getD, List.getElem?_eq_getElem h]
  have hm := List.getElem_mem h
  unfold gsT at hm
  rw [List.mem_filter, List.mem_range] at hm
  exact ⟨hm.1, of_decide_eq_true hm.2⟩
theorem gAt_lt {i j : Nat} (hij : i < j) (hj : j < nT ns ns.length) : gAt ns i < gAt ns j := by
  unfold gAt
  unfold nT at hj
  have hp : (gsT ns ns.length).Pairwise (· < ·) := by
    unfold gsT
    exact List.Pairwise.filter _ (List.pairwise_lt_range ..)
  have := List.pairwise_iff_getElem.mp hp i j (by omega) hj hij
  rw [List.getD_eq_getElem?_getD, List.getD_eq_getElem?_getD, List.getElem?_eq_getElem hj, List.getElem?_eq_getElem (by omega)]
  exact this
theorem repG_T {n : Nat} (hn : n ≤ nT ns ns.length) : RepG (pT ns) (rT ns) n := by
  refine ⟨fun i hi => ?_, fun i hi => ?_⟩
  · obtain ⟨h1, h2⟩ := gAt_mem (ns := ns) (i := i) (by omega)
    exact (repR_good (c := 97 + gAt ns i) (by omega) (jOf_lt _).1 h2).1
  · obtain ⟨h1, h2⟩ := gAt_mem (ns := ns) (i := i) (by omega)
    exact Nat.le_trans (repR_good (c := 97 + gAt ns i) (by omega) (jOf_lt _).1 h2).2 (by decide)
theorem rT_list {i : Nat} (hi : i < nT ns ns.length) : ∃ l, (rT ns i).cps.toList = 50 :: 50 :: 57 :: 32 :: (97 + gAt ns i) :: l := by
  obtain ⟨h1, h2⟩ := gAt_mem (ns := ns) hi
  unfold rT repT repR
  rw [if_neg (by omega), repG_list]
  exact ⟨_, rfl⟩
theorem rT_inj {i j : Nat} (hi : i < nT ns ns.length) (hj : j < nT ns ns.length) (h : rT ns i = rT ns j) : i = j := by
  obtain ⟨l, e⟩ := rT_list hi
  obtain ⟨l', e'⟩ := rT_list hj
  rw [h, e'] at e
  simp only [List.cons.injEq, true_and] at e
  have e3 : gAt ns j = gAt ns i := by omega
  rcases Nat.lt_trichotomy i j with q | q | q
  · have := gAt_lt q hj; omega
  · exact q
  · have := gAt_lt q hi; omega
theorem repT_good {t : Nat} (h : kOf ns t < 9) : p229 (repT ns t) = .ok ((jOf ns t : Int) * 7) ∧ (repT ns t).length ≤ 60 := repR_good (c := 97 + t) (by omega) (jOf_lt _).1 h
theorem repT_bad {t : Nat} (h : ¬ kOf ns t < 9) : ∃ ek msg, p229 (repT ns t) = .error (ek, msg) ∧ toldTxt ek msg = dueT ns t ∧ (repT ns t).length ≤ 60 ∧ (ek = .value → RepOk (repT ns t)) := repR_bad (c := 97 + t) (by omega) (jOf_lt _).1 (by omega) (kOf_lt _).1
end
end Mine
end
section
open PySem PySem.W PyProof.Rows PySem.Spec PySem.Calls
set_option Elab.async false
set_option maxRecDepth 100000
set_option maxHeartbeats 4000000
set_option linter.all false
namespace Mine
noncomputable def sumTz : Nat → Nat
  | 0 => 0
  | n + 1 => sumTz n + tzM (n + 1)
theorem tz_le (n : Nat) : tzM n ≤ 3 := by unfold tzM; (repeat' split) <;> omega
theorem sumTz_le : ∀ n, sumTz n ≤ 3 * n
  | 0 => Nat.le_refl _
  | n + 1 => by
    have h1 := sumTz_le n
    have h2 := tz_le (n + 1)
    show sumTz n + tzM (n + 1) ≤ _
    omega
section
variable {p : Nat → Int} {rep : Nat → PStr}
theorem came_snoc {n : Nat} {cvs : List Value} {nw nw' : Ldg} {P : Addr} {t t' : Tok} {e : Nat} (h : CameW p rep n cvs nw) (hP : (P, lstOf [.int (p n) t, .str (rep n) t'] e) ∈ nw') (hs : ∀ q ∈ nw, q ∈ nw') (hne : ∀ q ∈ nw, q.1 ≠ P) : CameW p rep (n + 1) (cvs ++ [.ref P]) nw' := by
  have hl := h.len
  refine ⟨by rw [List.length_append, hl]; rfl, fun i hi => ?_, ?_⟩
  · rcases Nat.lt_or_ge i n with q | q
    · obtain ⟨a, t1, t2, e1, h1, h2⟩ := h.at' i q
      exact ⟨a, t1, t2, e1, by rw [List.getElem?_append_left (by omega)]; exact h1, hs _ h2⟩
    · have hi : i = n := by omega
      subst hi
      refine ⟨P, t, t', e, ?_, hP⟩
      rw [List.getElem?_append_right (by omega), hl, Nat.sub_self]; rfl
  · have key : ∀ (i : Nat) (v : Value), (cvs ++ [.ref P])[i]? = some v → (i < n ∧ cvs[i]? = some v ∧ v ≠ .ref P) ∨ (i = n ∧ v = .ref P) := fun i v hv => by
      rcases Nat.lt_or_ge i n with q | q
      · rw [List.getElem?_append_left (by omega)] at hv
        refine .inl ⟨q, hv, fun ev => ?_⟩
        obtain ⟨a, t1, t2, e1, h1, h2⟩ := h.at' i q
        rw [h1] at hv
        have := Option.some.inj hv
        rw [ev] at this
        exact hne _ h2 (Value.ref.inj this)
      · rw [List.getElem?_append_right (by omega), hl] at hv
        have hi : i - n < 1 := (List.getElem?_eq_some_iff.mp hv).1
        have e0 : i = n := by omega
        subst e0
        rw [Nat.sub_self] at hv
        exact .inr ⟨rfl, (Option.some.inj hv).symm⟩
    intro i j v hi hj
    rcases key i v hi with ⟨a1, a2, a3⟩ | ⟨a1, a2⟩
    · rcases key j v hj with ⟨b1, b2, b3⟩ | ⟨b1, b2⟩
      · exact h.inj i j v a2 b2
      · exact absurd b2 a3
    · rcases key j v hj with ⟨b1, b2, b3⟩ | ⟨b1, b2⟩
      · exact absurd a2 b3
      · omega
theorem row_snocS {n : Nat} {wvs : List Value} {t : Tok} {y : PStr} (h : RowW p rep (.ref 108) (blk p n) wvs) (hy : rep n = y) : RowW p rep (.ref 108) (blk p n ++ [n]) (wvs ++ [.str y t]) := by
  rcases h with ⟨_, h⟩ | ⟨e, _⟩
  · refine .inl ⟨rfl, ?_⟩
    rw [List.map_append, ← hy]
    exact h.append' (.cons _ t .nil)
  · cases e
theorem row_snocI {n : Nat} {bvs : List Value} {t : Tok} {y : Int} (h : RowW p rep .none (blk p n) bvs) (hy : p n = y) : RowW p rep .none (blk p n ++ [n]) (bvs ++ [.int y t]) := by
  rcases h with ⟨e, _⟩ | ⟨_, h⟩
  · cases e
  · refine .inr ⟨rfl, ?_⟩
    rw [List.map_append, ← hy]
    exact intsAre_append h (.cons _ t .nil)
end
structure S1 where
  wvs : List Value
  we : Nat
  bvs : List Value
  be : Nat
  cvs : List Value
  ce : Nat
  tb : Array Value
  tm : Tok
  mid : Ldg
  jk : PStr → Option Value
noncomputable def m1 (dn Bd : Addr) (sm : Nat) (σ : S1) : PStr → Option Value := fun y =>
  if y = Str.ofString "numbers" then some (.ref dn) else if y = Str.ofString "merges" then some (.int (sm : Int) σ.tm) else if y = Str.ofString "bare" then some (.ref Bd) else σ.jk y
noncomputable def l1 (W Bd C : Addr) (K : Ldg) (σ : S1) : Ldg := (W, lstOf σ.wvs σ.we) :: (Bd, lstOf σ.bvs σ.be) :: (C, lstOf σ.cvs σ.ce) :: (131, tabObj σ.tb) :: (K ++ σ.mid)
structure Apt1 (W Bd C : Addr) (K : Ldg) : Prop where
  a : W ≠ Bd
  b : W ≠ C
  c : Bd ≠ C
  t1 : W ≠ 131
  t2 : Bd ≠ 131
  t3 : C ≠ 131
  k1 : ∀ q ∈ K, q.1 ≠ W
  k2 : ∀ q ∈ K, q.1 ≠ Bd
  k3 : ∀ q ∈ K, q.1 ≠ C
  k4 : ∀ q ∈ K, q.1 ≠ 131
  kd : ∀ q ∈ K, q.2.data = .cell none
structure Out1 (W Bd C : Addr) (K : Ldg) (q : Addr × Obj) : Prop where
  a : q.1 ≠ W
  b : q.1 ≠ Bd
  c : q.1 ≠ C
  t : q.1 ≠ 131
  k : ∀ r ∈ K, q.1 ≠ r.1
structure Ok1 (ns : List Int) (nvs : List Value) (W Bd C dn c1 c2 : Addr) (o1 o2 : Obj) (K mid0 : Ldg) (i : Nat) (σ : S1) : Prop where
  rW : RowW (pT ns) (rT ns) (.ref 108) (blk (pT ns) (nT ns i)) σ.wvs
  rB : RowW (pT ns) (rT ns) .none (blk (pT ns) (nT ns i)) σ.bvs
  cW : CameW (pT ns) (rT ns) (nT ns i) σ.cvs σ.mid
  lam : LamIs σ.tb σ.mid
  out : ∀ q ∈ σ.mid, Out1 W Bd C K q
  h1 : (c1, o1) ∈ σ.mid
  h2 : (c2, o2) ∈ σ.mid
  dn : (dn, lstOf nvs 0) ∈ σ.mid
  sub : ∀ q ∈ mid0, q ∈ σ.mid
end Mine
end
section
open PySem PySem.W PyProof.Rows PySem.Spec PySem.Calls
set_option Elab.async false
set_option maxRecDepth 100000
set_option maxHeartbeats 4000000
set_option linter.all false
namespace Mine
noncomputable def bgT (n : Nat) : Nat → List Int
  | 0 => []
  | k + 1 => if n / 2 ^ k % 2 = 1 then ((2 * 2 ^ k * (n / 2 ^ (k + 1)) : Nat) : Int) :: bgT n k else bgT n k
noncomputable def enT (n : Nat) : Nat → List Int
  | 0 => []
  | k + 1 => if n / 2 ^ k % 2 = 1 then ((2 * 2 ^ k * (n / 2 ^ (k + 1)) + 2 ^ k : Nat) : Int) :: enT n k else enT n k
noncomputable def qT (n : Nat) : Nat → Nat
  | 0 => 0
  | k + 1 => qT n k + n / 2 ^ (k + 1)
noncomputable def ok0 (r : Bool) (l : List Int) (x : Int) : Bool := match bisZ r (fun i => .ok (l.getD i 0)) x 0 l.length with
  | .ok 0 => true
  | _ => false
noncomputable def okIs (r : Bool) (l : List Int) (x : Int) (n : Nat) : Bool := match bisZ r (fun i => .ok (l.getD i 0)) x 0 l.length with
  | .ok m => m == n
  | .error _ => false
theorem okIs_is {r : Bool} {l : List Int} {x : Int} {n : Nat} (h : okIs r l x n = true) : bisZ r (fun i => .ok (l.getD i 0)) x 0 l.length = .ok n := by
  unfold okIs at h
  split at h
  · rename_i e; rw [e, eq_of_beq h]
  · cases h
theorem ok0_is {r : Bool} {l : List Int} {x : Int} (h : ok0 r l x = true) : bisZ r (fun i => .ok (l.getD i 0)) x 0 l.length = .ok 0 := by
  unfold ok0 at h
  split at h
  · rename_i e; exact e
  · cases h
theorem tab_ins : ((List.range 16).all fun n => (List.range 4).all fun k => (n / 2 ^ k % 2 == 0) || (ok0 false (bgT n k) ((2 * 2 ^ k * (n / 2 ^ (k + 1)) : Nat) : Int) && ok0 true (enT n k) ((2 * 2 ^ k * (n / 2 ^ (k + 1)) + 2 ^ k : Nat) : Int))) = true := by decide +kernel
theorem ins_at {n k : Nat} (hn : n < 16) (hk : k < 4) (hb : n / 2 ^ k % 2 = 1) : bisZ false (fun i => .ok ((bgT n k).getD i 0)) ((2 * 2 ^ k * (n / 2 ^ (k + 1)) : Nat) : Int) 0 (bgT n k).length = .ok 0 ∧ bisZ true (fun i => .ok ((enT n k).getD i 0)) ((2 * 2 ^ k * (n / 2 ^ (k + 1)) + 2 ^ k : Nat) : Int) 0 (enT n k).length = .ok 0 := by
  have := List.all_eq_true.mp (List.all_eq_true.mp tab_ins n (List.mem_range.mpr hn)) k (List.mem_range.mpr hk)
  rw [hb] at this
  simp only [Bool.or_eq_true, Bool.and_eq_true] at this
  rcases this with h | h
  · cases h
  · exact ⟨ok0_is h.1, ok0_is h.2⟩
noncomputable def sumTz' : Nat → Nat
  | 0 => 0
  | n + 1 => sumTz' n + (if (n + 1) % 2 = 1 then 0 else if (n + 1) / 2 % 2 = 1 then 1 else if (n + 1) / 4 % 2 = 1 then 2 else 3)
theorem sumTz_eq : ∀ n, sumTz n = sumTz' n
  | 0 => rfl
  | n + 1 => by
    show sumTz n + tzM (n + 1) = _
    rw [sumTz_eq n]; rfl
theorem tab_sum : ((List.range 16).all fun n => sumTz' n == qT n 4 && sumTz' n + (bgT n 4).length == n && (bgT n 4).length == (enT n 4).length && decide ((bgT n 4).length ≤ 4)) = true := by decide +kernel
theorem sum_at {n : Nat} (hn : n < 16) : sumTz n = qT n 4 ∧ sumTz n + (bgT n 4).length = n ∧ (bgT n 4).length = (enT n 4).length ∧ (bgT n 4).length ≤ 4 := by
  have := List.all_eq_true.mp tab_sum n (List.mem_range.mpr hn)
  simp only [Bool.and_eq_true, beq_iff_eq, decide_eq_true_eq] at this
  rw [sumTz_eq]
  exact ⟨this.1.1.1, this.1.1.2, this.1.2, this.2⟩
theorem tab_span : ((List.range 16).all fun n => (List.range (bgT n 4).length).all fun i => (List.range 4).any fun k => n / 2 ^ k % 2 == 1 && (bgT n 4).getD i 0 == ((n / 2 ^ (k + 1) * 2 ^ (k + 1) : Nat) : Int) && (enT n 4).getD i 0 == ((n / 2 ^ (k + 1) * 2 ^ (k + 1) + 2 ^ k : Nat) : Int)) = true := by decide +kernel
theorem span_at {n i : Nat} (hn : n < 16) (hi : i < (bgT n 4).length) : ∃ k, k < 4 ∧ n / 2 ^ k % 2 = 1 ∧ (bgT n 4).getD i 0 = ((n / 2 ^ (k + 1) * 2 ^ (k + 1) : Nat) : Int) ∧ (enT n 4).getD i 0 = ((n / 2 ^ (k + 1) * 2 ^ (k + 1) + 2 ^ k : Nat) : Int) := by
  have := List.all_eq_true.mp (List.all_eq_true.mp tab_span n (List.mem_range.mpr hn)) i (List.mem_range.mpr hi)
  obtain ⟨k, hk, h⟩ := List.any_eq_true.mp this
  simp only [Bool.and_eq_true, beq_iff_eq] at h
  exact ⟨k, List.mem_range.mp hk, h.1.1, h.1.2, h.2⟩
noncomputable def lieT (n pl : Nat) : List Nat := (List.range (bgT n 4).length).filter fun k => decide ((bgT n 4).getD k 0 ≤ (pl : Int)) && decide ((pl : Int) < (enT n 4).getD k 0)
theorem tab_lie : ((List.range 16).all fun n => (List.range n).all fun pl => match lieT n pl with
    | [k] => okIs true (bgT n 4) (pl : Int) (k + 1) && okIs false (enT n 4) ((pl : Int) + 1) k
    | _ => false) = true := by decide +kernel
theorem lie_at {n pl : Nat} (hn : n < 16) (hp : pl < n) : ∃ k, lieT n pl = [k] ∧ bisZ true (fun i => .ok ((bgT n 4).getD i 0)) (pl : Int) 0 (bgT n 4).length = .ok (k + 1) ∧ bisZ false (fun i => .ok ((enT n 4).getD i 0)) ((pl : Int) + 1) 0 (enT n 4).length = .ok k := by
  have := List.all_eq_true.mp (List.all_eq_true.mp tab_lie n (List.mem_range.mpr hn)) pl (List.mem_range.mpr hp)
  split at this
  · rename_i k e
    simp only [Bool.and_eq_true] at this
    exact ⟨k, e, okIs_is this.1, okIs_is this.2⟩
  · cases this
section
variable {p : Nat → Int} {rep : Nat → PStr}
theorem tab_cut : ((List.range 16).all fun n => (List.range 4).all fun k => n / 2 ^ k % 2 != 1 || (List.range 4).any fun j => sgs n == (sgs n).take j ++ (n / 2 ^ (k + 1) * 2 ^ (k + 1), 2 ^ k) :: (sgs n).drop (j + 1) && (((sgs n).take j).map (·.2)).sum == n / 2 ^ (k + 1) * 2 ^ (k + 1) && decide (n / 2 ^ (k + 1) * 2 ^ (k + 1) + 2 ^ k ≤ n)) = true := by decide +kernel
theorem blk_cut {n k : Nat} (hn : n < 16) (hk : k < 4) (hb : n / 2 ^ k % 2 = 1) : ∃ X Y, blk p n = X ++ srtM p (n / 2 ^ (k + 1) * 2 ^ (k + 1)) (2 ^ k) ++ Y ∧ X.length = n / 2 ^ (k + 1) * 2 ^ (k + 1) ∧ n / 2 ^ (k + 1) * 2 ^ (k + 1) + 2 ^ k ≤ n := by
  have := List.all_eq_true.mp (List.all_eq_true.mp tab_cut n (List.mem_range.mpr hn)) k (List.mem_range.mpr hk)
  rw [hb, show ((1 != 1) : Bool) = false from rfl, Bool.false_or] at this
  obtain ⟨j, _, h⟩ := List.any_eq_true.mp this
  rw [Bool.and_eq_true, Bool.and_eq_true, beq_iff_eq, beq_iff_eq, decide_eq_true_eq] at h
  refine ⟨((sgs n).take j).flatMap fun s => srtM p s.1 s.2, ((sgs n).drop (j + 1)).flatMap fun s => srtM p s.1 s.2, ?_, ?_, h.2⟩
  · rw [blk_sgs, List.append_assoc]
    exact (congrArg (List.flatMap fun s : Nat × Nat => srtM p s.1 s.2) h.1.1).trans (by rw [List.flatMap_append, List.flatMap_cons])
  · rw [List.length_flatMap, List.map_congr_left (g := (·.2)) fun s _ => srt_len s.1 s.2]
    exact h.1.2
noncomputable def lessR (p : Nat → Int) (r : Bool) (x : Int) (off s : Nat) : Nat := ((List.range' off s).filter fun i => if r then decide (p i ≤ x) else decide (p i < x)).length
theorem cnt_srt (r : Bool) (x : Int) (off s : Nat) : cnt p r x (srtM p off s) = lessR p r x off s := by
  unfold cnt lessR
  exact ((srt_ok off s).2.filter _).length_eq
theorem bis_span {r : Bool} {n k : Nat} {x lo : Int} {hi : Nat} {kk : Nat → KRes} (hn : n < 16) (hk : k < 4) (hb : n / 2 ^ k % 2 = 1) (hkk : ∀ i, i < n → kk i = .ok (p ((blk p n).getD i 0))) (hlo : lo = ((n / 2 ^ (k + 1) * 2 ^ (k + 1) : Nat) : Int)) (hhi : hi = n / 2 ^ (k + 1) * 2 ^ (k + 1) + 2 ^ k) :
    bisZ r kk x lo hi = .ok (n / 2 ^ (k + 1) * 2 ^ (k + 1) + lessR p r x (n / 2 ^ (k + 1) * 2 ^ (k + 1)) (2 ^ k)) := by
  obtain ⟨X, Y, e, hX, hle⟩ := blk_cut (p := p) hn hk hb
  have hl := blk_len (p := p) n hn
  have := ins_in (p := p) (r := r) (k := kk) (x := x) (X := X) (R := srtM p (n / 2 ^ (k + 1) * 2 ^ (k + 1)) (2 ^ k)) (Y := Y) e (fun i hi => hkk i (by rw [← hl]; exact hi)) (srt_ok _ _).1 (lo := lo) (hi := hi) (by rw [hlo, hX]) (by rw [hhi, hX, srt_len])
  rw [hX, cnt_srt] at this
  exact this
theorem in_span {n k pl : Nat} (hn : n < 16) (hk : k < 4) (hb : n / 2 ^ k % 2 = 1) (inj : ∀ i j, i < n → j < n → rep i = rep j → i = j) (hp : pl < n) :
    rep pl ∈ ((((blk p n).map rep).drop (n / 2 ^ (k + 1) * 2 ^ (k + 1))).take (2 ^ k)) ↔ (n / 2 ^ (k + 1) * 2 ^ (k + 1) ≤ pl ∧ pl < n / 2 ^ (k + 1) * 2 ^ (k + 1) + 2 ^ k) := by
  obtain ⟨X, Y, e, hX, hle⟩ := blk_cut (p := p) hn hk hb
  have e2 : (((blk p n).map rep).drop (n / 2 ^ (k + 1) * 2 ^ (k + 1))).take (2 ^ k) = (srtM p (n / 2 ^ (k + 1) * 2 ^ (k + 1)) (2 ^ k)).map rep := by
    rw [e, List.map_append, List.map_append, List.append_assoc, List.drop_append_of_le_length (by rw [List.length_map, hX]; exact Nat.le_refl _), List.drop_of_length_le (by rw [List.length_map, hX]; exact Nat.le_refl _), List.nil_append,
      List.take_append_of_le_length (by rw [List.length_map, srt_len]; exact Nat.le_refl _), List.take_of_length_le (by rw [List.length_map, srt_len]; exact Nat.le_refl _)]
  rw [e2, List.mem_map]
  constructor
  · rintro ⟨i, hi, ei⟩
    have hm := srt_mem.mp hi
    have := inj i pl (by omega) hp ei
    subst this
    exact hm
  · intro h
    exact ⟨pl, srt_mem.mpr h, rfl⟩
end
end Mine
end
section
open PySem PySem.W PyProof.Rows PySem.Spec PySem.Calls
set_option Elab.async false
set_option maxRecDepth 100000
set_option maxHeartbeats 4000000
set_option linter.all false
namespace Mine
abbrev ZipAt (h : Heap) (z TI TO a : Addr) (f : Bool) : Prop :=
  h.get? z = some { cls := .type "zip", dict := none, data := .fields #[rawInt a, .bool f, .bool false, .ref TI, .ref TO], slots := #[] }
section
variable {prog : Program} {w : World} {A : Around} {E : Value → Shared → Prop} {s : Shared}
theorem zz_free {z TI TO a : Addr} {f : Bool} {oa : Obj} {Q : Bool → Shared → Prop} (hz : ZipAt s.heap z TI TO a f) (ha : s.heap.get? a = some oa)
    (h : ∀ h₁, ZipAt h₁ z TI TO a true → Heap.SameBut z s.heap h₁ → Q false { s with heap := h₁ }) : wpAny (model prog w) A (Builtin.SmallTypes.ownedTupleIsFree (.ref z)) Q E s := by
  unfold Builtin.SmallTypes.ownedTupleIsFree
  refine wpAny_bind (wpAny_field hz rfl (x := rawInt a) rfl ?_)
  show wpAny _ _ (loadIfAlive ((a : Int).toNat) >>= _) _ _ _
  rw [Int.toNat_natCast]
  refine wpAny_bind (kdx_alive ha ?_)
  simp only [Option.isNone_some, Bool.false_eq_true, if_false]
  refine wpAny_bind (wpAny_field hz rfl (x := .bool f) rfl ?_)
  cases f with
  | true =>
    rw [if_neg (show ¬ ((Value.bool true != Value.bool true) = true) from Bool.false_ne_true)]
    exact wpAny_pure (h s.heap hz (Heap.SameBut.refl _ _))
  | false =>
    rw [if_pos (show (Value.bool false != Value.bool true) = true from rfl)]
    refine wpAny_bind (wpAny_setField_rec hz (by simp) fun h₃ he₃ hs₃ => ?_)
    exact wpAny_pure (h h₃ he₃ hs₃)
theorem zz_next_out {z TI TO i1 i2 l1 l2 a : Addr} {f : Bool} {oa : Obj} {k1 k2 : Nat} {xs ys : Array Value} {x y : Value} {Q : Value → Shared → Prop} (D : ZipApart z TI TO i1 i2 l1 l2)
    (hz : ZipAt s.heap z TI TO a f) (ha : s.heap.get? a = some oa) (hTI : IsPair s.heap TI (.ref i1) (.ref i2))
    (h1 : s.heap.IsListIter i1 l1 k1) (h2 : s.heap.IsListIter i2 l2 k2) (hl1 : s.heap.IsList l1 xs) (hl2 : s.heap.IsList l2 ys) (hx : xs[k1]? = some x) (hy : ys[k2]? = some y)
    (hQ : ∀ h', ZipAt h' z TI TO a true → h'.IsListIter i1 l1 (k1 + 1) → h'.IsListIter i2 l2 (k2 + 1) → IsPair h' s.heap.objs.size x y → h'.objs.size = s.heap.objs.size + 1 →
      (∀ c o, c ≠ z → c ≠ TO → c ≠ i1 → c ≠ i2 → s.heap.get? c = some o → h'.get? c = some o) → Q (.ref s.heap.objs.size) { s with heap := h' }) :
    wpAny (model prog w) A (Builtin.«zip.__next__» ⟨[.ref z], []⟩) (fun fin s' => ∃ v, fin = .done (.ret v) ∧ Q v s') E s := by
  show wpAny _ _ (field (.ref z) 2 >>= _) _ _ _
  refine wpAny_bind (wpAny_field hz rfl (x := .bool false) rfl ?_)
  show wpAny _ _ (field (.ref z) 3 >>= _) _ _ _
  refine wpAny_bind (wpAny_field hz rfl (x := .ref TI) rfl ?_)
  refine wpAny_bind (wpAny_seqItems hTI rfl ?_)
  show wpAny _ _ (Builtin.SmallTypes.ownedTupleIsFree (.ref z) >>= _) _ _ _
  refine wpAny_bind (zz_free hz ha fun h₁ hz₁ hs₁ => ?_)
  simp only [Bool.false_eq_true, if_false]
  rw [← Array.forIn_toList]
  simp only [List.forIn_cons, List.forIn_nil]
  refine wpAny_bind (wpAny_bind (wpAny_bind (wpAny_holding ?_)))
  show wpAny _ _ (Builtin.SmallTypes.nextOf (.ref i1) >>= _) _ _ _
  refine wpAny_bind (wpAny_nextOf_list_item (h1.extBut hs₁.extBut D.i1z) (hl1.extBut hs₁.extBut D.l1z) hx fun h₂ h1₂ hs₂ => wpAny_pure ?_)
  refine wpAny_pure ?_
  refine wpAny_bind (wpAny_bind (wpAny_holding ?_))
  show wpAny _ _ (Builtin.SmallTypes.nextOf (.ref i2) >>= _) _ _ _
  refine wpAny_bind (wpAny_nextOf_list_item ((h2.extBut hs₁.extBut D.i2z).extBut hs₂.extBut D.i12.symm) ((hl2.extBut hs₁.extBut D.l2z).extBut hs₂.extBut D.l2i1) hy fun h₃ h2₃ hs₃ => wpAny_pure ?_)
  refine wpAny_pure (wpAny_pure ?_)
  show wpAny _ _ (newTuple [x, y] >>= fun r => ret r) _ _ _
  refine wpAny_bind (wpAny_newTuple ?_)
  have hsz : h₃.objs.size = s.heap.objs.size := by rw [hs₃.1, hs₂.1, hs₁.1]
  have hz₃ : ZipAt h₃ z TI TO a true := hs₃.extBut _ _ D.i2z.symm (hs₂.extBut _ _ D.i1z.symm hz₁)
  have h1₃ : h₃.IsListIter i1 l1 (k1 + 1) := h1₂.extBut hs₃.extBut D.i12
  refine wpAny_pure ⟨_, rfl, ?_⟩
  show Q (.ref h₃.objs.size) _
  rw [hsz]
  refine hQ _ (Heap.get?_push_of_some _ hz₃) (h1₃.at fun o e => Heap.get?_push_of_some _ e) (h2₃.at fun o e => Heap.get?_push_of_some _ e) ?_ (by rw [Heap.size_push, hsz]) (fun c o c1 c2 c3 c4 e => Heap.get?_push_of_some _ (hs₃.extBut _ _ c4 (hs₂.extBut _ _ c3 (hs₁.extBut _ _ c1 e))))
  rw [← hsz]
  exact Heap.get?_push_size _ rfl
theorem zz_next_end {z TI TO i1 i2 l1 l2 a : Addr} {f : Bool} {oa : Obj} {k1 k2 : Nat} {xs ys : Array Value} {Q : Fin → Shared → Prop} (hh : A.handled = none) (D : ZipApart z TI TO i1 i2 l1 l2)
    (hz : ZipAt s.heap z TI TO a f) (ha : s.heap.get? a = some oa) (hTI : IsPair s.heap TI (.ref i1) (.ref i2))
    (h1 : s.heap.IsListIter i1 l1 k1) (hl1 : s.heap.IsList l1 xs) (hx : xs[k1]? = none)
    (hE : ∀ h' e, (∀ c o, c ≠ z → c ≠ TO → c ≠ i1 → c ≠ i2 → s.heap.get? c = some o → h'.get? c = some o) → (∃ o, h'.get? e = some o ∧ o.cls = .type "StopIteration") → E (.ref e) { s with heap := h' }) :
    wpAny (model prog w) A (Builtin.«zip.__next__» ⟨[.ref z], []⟩) Q E s := by
  show wpAny _ _ (field (.ref z) 2 >>= _) _ _ _
  refine wpAny_bind (wpAny_field hz rfl (x := .bool false) rfl ?_)
  show wpAny _ _ (field (.ref z) 3 >>= _) _ _ _
  refine wpAny_bind (wpAny_field hz rfl (x := .ref TI) rfl ?_)
  refine wpAny_bind (wpAny_seqItems hTI rfl ?_)
  show wpAny _ _ (Builtin.SmallTypes.ownedTupleIsFree (.ref z) >>= _) _ _ _
  refine wpAny_bind (zz_free hz ha fun h₁ hz₁ hs₁ => ?_)
  simp only [Bool.false_eq_true, if_false]
  rw [← Array.forIn_toList]
  simp only [List.forIn_cons, List.forIn_nil]
  refine wpAny_bind (wpAny_bind (wpAny_bind (wpAny_holding ?_)))
  show wpAny _ _ (Builtin.SmallTypes.nextOf (.ref i1) >>= _) _ _ _
  refine wpAny_bind (wpAny_nextOf_list_end hh (h1.extBut hs₁.extBut D.i1z) (hl1.extBut hs₁.extBut D.l1z) hx fun h₂ e hs₂ he => ?_)
  exact hE h₂ e (fun c o c1 _ c3 _ x => hs₂ _ _ c3 (hs₁.extBut _ _ c1 x)) he
theorem zz_pyNext {z TI TO i1 i2 l1 l2 a : Addr} {f : Bool} {oa : Obj} {k1 k2 : Nat} {xs ys : Array Value} {x y : Value} {Q : Option Value → Shared → Prop} (D : ZipApart z TI TO i1 i2 l1 l2)
    (hz : ZipAt s.heap z TI TO a f) (ha : s.heap.get? a = some oa) (hTI : IsPair s.heap TI (.ref i1) (.ref i2))
    (h1 : s.heap.IsListIter i1 l1 k1) (h2 : s.heap.IsListIter i2 l2 k2) (hl1 : s.heap.IsList l1 xs) (hl2 : s.heap.IsList l2 ys) (hx : xs[k1]? = some x) (hy : ys[k2]? = some y)
    (hQ : ∀ h', ZipAt h' z TI TO a true → h'.IsListIter i1 l1 (k1 + 1) → h'.IsListIter i2 l2 (k2 + 1) → IsPair h' s.heap.objs.size x y → h'.objs.size = s.heap.objs.size + 1 →
      (∀ c o, c ≠ z → c ≠ TO → c ≠ i1 → c ≠ i2 → s.heap.get? c = some o → h'.get? c = some o) → Q (some (.ref s.heap.objs.size)) { s with heap := h' }) :
    wpAny (model prog w) A (pyNext (.ref z)) Q E s := by
  have hT : s.TypeIs (.ref z) "zip" := ⟨_, hz, rfl⟩
  unfold pyNext
  exact wpAny_bind (wpAny_attempt (wpAny_callSpecial?_slot (name := Str.ofString "__next__") hT PySem.F.slot_zip_next
    (wpAny_call_entry PySem.F.slot_zip_next hT PySem.F.entry_zip_next
      (zz_next_out D hz ha hTI h1 h2 hl1 hl2 hx hy fun h' a1 a2 a3 a4 a5 a6 => wpAny_pure (hQ h' a1 a2 a3 a4 a5 a6)) (PySem.F.args_zip_next_1 _))))
theorem zz_pyNext_end {z TI TO i1 i2 l1 l2 a : Addr} {f : Bool} {oa : Obj} {k1 : Nat} {xs : Array Value} {Q : Option Value → Shared → Prop} (hh : A.handled = none) (D : ZipApart z TI TO i1 i2 l1 l2)
    (hz : ZipAt s.heap z TI TO a f) (ha : s.heap.get? a = some oa) (hTI : IsPair s.heap TI (.ref i1) (.ref i2)) (h1 : s.heap.IsListIter i1 l1 k1) (hl1 : s.heap.IsList l1 xs) (hx : xs[k1]? = none)
    (hQ : ∀ h', (∀ c o, c ≠ z → c ≠ TO → c ≠ i1 → c ≠ i2 → s.heap.get? c = some o → h'.get? c = some o) → Q none { s with heap := h' }) : wpAny (model prog w) A (pyNext (.ref z)) Q E s := by
  have hT : s.TypeIs (.ref z) "zip" := ⟨_, hz, rfl⟩
  unfold pyNext
  refine wpAny_bind (wpAny_attempt (wpAny_callSpecial?_slot (name := Str.ofString "__next__") hT PySem.F.slot_zip_next
    (wpAny_call_entry PySem.F.slot_zip_next hT PySem.F.entry_zip_next (zz_next_end (k2 := k1) (ys := xs) hh D hz ha hTI h1 hl1 hx fun h' e hk he => ?_) (PySem.F.args_zip_next_1 _))))
  obtain ⟨o, ho, hc⟩ := he
  refine wpAny_bind (wpAny_isInstance (T := "StopIteration") (b := true) ⟨o, ho, hc⟩ isSubtype_stop ?_)
  exact wpAny_pure (hQ _ hk)
end
structure ZzSt (h : Heap) (z TI TO i1 i2 l1 l2 S : Addr) (xs ys : Array Value) (i : Nat) : Prop where
  z : (i = 0 ∧ IsZip h z TI TO .none ∧ ∃ a b, IsPair h TO a b) ∨ ∃ a f oa, ZipAt h z TI TO a f ∧ h.get? a = some oa ∧ a ≠ z ∧ a ≠ TO ∧ a ≠ i1 ∧ a ≠ i2 ∧ a ≠ S
  TI : IsPair h TI (.ref i1) (.ref i2)
  h1 : h.IsListIter i1 l1 i
  h2 : h.IsListIter i2 l2 i
  l1 : h.IsList l1 xs
  l2 : h.IsList l2 ys
structure ZzNe (z TI TO i1 i2 l1 l2 S : Addr) : Prop where
  z : z ≠ S
  TI : TI ≠ S
  TO : TO ≠ S
  i1 : i1 ≠ S
  i2 : i2 ≠ S
  l1 : l1 ≠ S
  l2 : l2 ≠ S
theorem ZzSt.keep {h h' : Heap} {z TI TO i1 i2 l1 l2 S : Addr} {xs ys : Array Value} {i : Nat} (x : ZzSt h z TI TO i1 i2 l1 l2 S xs ys i) (n : ZzNe z TI TO i1 i2 l1 l2 S) (hk : ∀ b o, b ≠ S → h.get? b = some o → h'.get? b = some o) : ZzSt h' z TI TO i1 i2 l1 l2 S xs ys i := by
  refine ⟨?_, hk _ _ n.TI x.TI, x.h1.at fun o e => hk _ o n.i1 e, x.h2.at fun o e => hk _ o n.i2 e, x.l1.at fun o e => hk _ o n.l1 e, x.l2.at fun o e => hk _ o n.l2 e⟩
  rcases x.z with ⟨e, h1, a, b, h2⟩ | ⟨a, f, oa, h1, h2, h3, h4, h5, h6, h7⟩
  · exact .inl ⟨e, hk _ _ n.z h1, a, b, hk _ _ n.TO h2⟩
  · exact .inr ⟨a, f, oa, hk _ _ n.z h1, hk _ _ h7 h2, h3, h4, h5, h6, h7⟩
section
variable {prog : Program} {w : World} {A : Around} {E : Value → Shared → Prop} {s : Shared}
theorem zz_item {z TI TO i1 i2 l1 l2 S : Addr} {xs ys : Array Value} {i : Nat} {x y : Value} {Q : Option Value → Shared → Prop} (D : ZipApart z TI TO i1 i2 l1 l2) (st : ZzSt s.heap z TI TO i1 i2 l1 l2 S xs ys i) (hS : S < s.heap.objs.size) (hx : xs[i]? = some x) (hy : ys[i]? = some y)
    (hQ : ∀ h', ZzSt h' z TI TO i1 i2 l1 l2 S xs ys (i + 1) → IsPair h' s.heap.objs.size x y → h'.objs.size = s.heap.objs.size + 1 → (∀ c o, c ≠ z → c ≠ TO → c ≠ i1 → c ≠ i2 → s.heap.get? c = some o → h'.get? c = some o) → Q (some (.ref s.heap.objs.size)) { s with heap := h' }) :
    wpAny (model prog w) A (pyNext (.ref z)) Q E s := by
  obtain ⟨hz, hTI, h1, h2, hl1, hl2⟩ := st
  have lt1 : s.heap.objs.size ≠ i1 := by obtain ⟨_, e, _⟩ := h1; exact Nat.ne_of_gt (Heap.lt_size e)
  have lt2 : s.heap.objs.size ≠ i2 := by obtain ⟨_, e, _⟩ := h2; exact Nat.ne_of_gt (Heap.lt_size e)
  rcases hz with ⟨rfl, hz, a, b, hTO⟩ | ⟨a, f, oa, hz, ha, n1, n2, n3, n4, n5⟩
  · refine wpAny_pyNext_zip_item D hz hTI hTO h1 h2 hl1 hl2 hx hy fun h' a1 a2 a3 a4 a5 a6 hk => ?_
    refine hQ h' ⟨.inr ⟨s.heap.objs.size, false, _, a1, a5, Nat.ne_of_gt (Heap.lt_size hz), Nat.ne_of_gt (Heap.lt_size hTO), lt1, lt2, Nat.ne_of_gt hS⟩, hk _ _ D.TIz D.TITO D.TIi1 D.TIi2 hTI, a3, a4, hl1.at fun o e => hk _ o D.l1z D.l1TO D.l1i1 D.l1i2 e, hl2.at fun o e => hk _ o D.l2z D.l2TO D.l2i1 D.l2i2 e⟩ a5 a6 hk
  · refine zz_pyNext D hz ha hTI h1 h2 hl1 hl2 hx hy fun h' a1 a3 a4 a5 a6 hk => ?_
    exact hQ h' ⟨.inr ⟨a, true, oa, a1, hk _ _ n1 n2 n3 n4 ha, n1, n2, n3, n4, n5⟩, hk _ _ D.TIz D.TITO D.TIi1 D.TIi2 hTI, a3, a4, hl1.at fun o e => hk _ o D.l1z D.l1TO D.l1i1 D.l1i2 e, hl2.at fun o e => hk _ o D.l2z D.l2TO D.l2i1 D.l2i2 e⟩ a5 a6 hk
theorem zz_done {z TI TO i1 i2 l1 l2 S : Addr} {xs ys : Array Value} {i : Nat} {Q : Option Value → Shared → Prop} (hh : A.handled = none) (D : ZipApart z TI TO i1 i2 l1 l2) (st : ZzSt s.heap z TI TO i1 i2 l1 l2 S xs ys i) (hx : xs[i]? = none)
    (hQ : ∀ h', (∀ c o, c ≠ z → c ≠ TO → c ≠ i1 → c ≠ i2 → s.heap.get? c = some o → h'.get? c = some o) → Q none { s with heap := h' }) : wpAny (model prog w) A (pyNext (.ref z)) Q E s := by
  obtain ⟨hz, hTI, h1, h2, hl1, hl2⟩ := st
  rcases hz with ⟨rfl, hz, a, b, hTO⟩ | ⟨a, f, oa, hz, ha, n1, n2, n3, n4, n5⟩
  · exact wpAny_pyNext_zip_end hh D hz hTI hTO h1 h2 hl1 hl2 (.inl hx) hQ
  · exact zz_pyNext_end hh D hz ha hTI h1 hl1 hx hQ
structure ZzG (xs ys : Array Value) (lo : Addr) (h : Heap) (as : List Addr) : Prop where
  rise : as.Pairwise (· < ·)
  above : ∀ a ∈ as, lo < a
  pairs : ∀ (j : Nat) (a : Addr), as[j]? = some a → ∃ x y, xs[j]? = some x ∧ ys[j]? = some y ∧ IsPair h a x y
theorem ZzG.there {xs ys : Array Value} {lo : Addr} {h : Heap} {as : List Addr} (g : ZzG xs ys lo h as) {a : Addr} (ha : a ∈ as) : a < h.objs.size := by
  obtain ⟨j, hj⟩ := List.mem_iff_getElem?.mp ha
  obtain ⟨_, _, _, _, e⟩ := g.pairs j a hj
  exact Heap.lt_size e
theorem zz_loop {S z TI TO i1 i2 l1 l2 : Addr} {xs ys : Array Value} {R : Result → Shared → Prop} (hh : A.handled = none) (D : ZipApart z TI TO i1 i2 l1 l2) (n : ZzNe z TI TO i1 i2 l1 l2 S) (hzS : z < S) (hTOS : TO < S) (hi1S : i1 < S) (hi2S : i2 < S) (hlen : xs.size = ys.size) (hn : xs.size ≤ sizeLine) (res : Value) {h₁ : Heap}
    (hR : ∀ h' tk acc c as, (∀ b o, b ≠ S → b ≠ z → b ≠ TO → b ≠ i1 → b ≠ i2 → h₁.get? b = some o → h'.get? b = some o) → h'.get? S = some { cls := .type "list", dict := none, data := .seq acc c, slots := #[] } → as.length = xs.size → ZzG xs ys S h' as →
      acc.toList = as.map Value.ref → R (.ok (.ret res)) { s with heap := h', toks := tk }) :
    ∀ (k i : Nat) (h : Heap) (tk c : Nat) (acc : Array Value) (as : List Addr), xs.size - i = k → i ≤ xs.size → ZzSt h z TI TO i1 i2 l1 l2 S xs ys i → (∀ b o, b ≠ S → b ≠ z → b ≠ TO → b ≠ i1 → b ≠ i2 → h₁.get? b = some o → h.get? b = some o) →
      h.get? S = some { cls := .type "list", dict := none, data := .seq acc c, slots := #[] } → acc.toList = as.map Value.ref → as.length = i → ZzG xs ys S h as →
      codeAny (model prog w) A (.builtin "list.extend.loop" ⟨[.ref S, .ref z, res], []⟩) R { s with heap := h, toks := tk } := by
  intro k
  induction k with
  | zero =>
    intro i h tk c acc as hk hi hst hkeep hS hacc hal hG
    have hin : i = xs.size := by omega
    refine codeAny_builtin PySem.F.entry_extend_loop ?_
    rw [Around.under_plainId PySem.F.plain_extend_loop _]
    show wpAny _ A.in1 (pyNext (.ref z) >>= _) _ _ _
    refine wpAny_bind (zz_done (s := { s with heap := h, toks := tk }) (A := A.in1) hh D hst (Array.getElem?_eq_none (by omega)) fun h' he => ?_)
    refine wpAny_pure (hR h' tk acc c as (fun b o h1 h2 h3 h4 h5 e => he b o h2 h3 h4 h5 (hkeep b o h1 h2 h3 h4 h5 e)) (he S _ n.z.symm n.TO.symm n.i1.symm n.i2.symm hS) (by omega) ⟨hG.rise, hG.above, fun j a hj => ?_⟩ hacc)
    obtain ⟨x, y, e1, e2, e3⟩ := hG.pairs j a hj
    have ha := hG.above a (List.mem_of_getElem? hj)
    exact ⟨x, y, e1, e2, he a _ (Nat.ne_of_gt (Nat.lt_trans hzS ha)) (Nat.ne_of_gt (Nat.lt_trans hTOS ha)) (Nat.ne_of_gt (Nat.lt_trans hi1S ha)) (Nat.ne_of_gt (Nat.lt_trans hi2S ha)) e3⟩
  | succ k ih =>
    intro i h tk c acc as hk hi hst hkeep hS hacc hal hG
    have hlt : i < xs.size := by omega
    obtain ⟨x, hx⟩ : ∃ p, xs[i]? = some p := ⟨xs[i], Array.getElem?_eq_getElem hlt⟩
    obtain ⟨y, hy⟩ : ∃ p, ys[i]? = some p := ⟨ys[i]'(by omega), Array.getElem?_eq_getElem (by omega)⟩
    have hsz : acc.size = i := by rw [← Array.length_toList, hacc, List.length_map, hal]
    have hSl : S < h.objs.size := Heap.lt_size hS
    refine codeAny_builtin PySem.F.entry_extend_loop ?_
    rw [Around.under_plainId PySem.F.plain_extend_loop _]
    show wpAny _ A.in1 (pyNext (.ref z) >>= _) _ _ _
    refine wpAny_bind (zz_item (s := { s with heap := h, toks := tk }) (S := S) D hst hSl hx hy fun h' hst' ht hz hkp => ?_)
    dsimp only at ht hz hkp ⊢
    have hS' := hkp S _ n.z.symm n.TO.symm n.i1.symm n.i2.symm hS
    have up : ∀ b o, b ≠ S → h'.get? b = some o → (h'.update S (Obj.mapSeq (·.push (Value.ref h.objs.size)))).get? b = some o := fun b o hb e => (Heap.get?_update_other _ _ (Ne.symm hb)).trans e
    show wpAny _ A.in1 (updateSeq S (·.push (Value.ref h.objs.size)) >>= _) _ _ _
    refine wpAny_bind ?_
    refine wpAny_updateSeq hS' rfl (wpAny_pure ⟨plainId_quiet PySem.F.plain_extend_loop _, ih (i + 1) _ tk _ (acc.push (Value.ref h.objs.size)) (as ++ [h.objs.size]) (by omega) hlt (hst'.keep n up)
      (fun b o h1 h2 h3 h4 h5 e => up b o h1 (hkp b o h2 h3 h4 h5 (hkeep b o h1 h2 h3 h4 h5 e))) (Heap.get?_update_self _ hS' rfl) (by rw [Array.toList_push, hacc, List.map_append]; rfl) (by rw [List.length_append, hal]; rfl) ⟨?_, ?_, ?_⟩⟩) (by rw [hsz]; omega) (by show (acc.push (Value.ref h.objs.size)).size ≤ sizeLine + 1; rw [Array.size_push, hsz]; omega)
    · refine List.pairwise_append.mpr ⟨hG.rise, List.pairwise_singleton _ _, fun a ha b hb => ?_⟩
      rw [List.mem_singleton.mp hb]
      exact hG.there ha
    · intro a ha
      rcases List.mem_append.mp ha with ha | ha
      · exact hG.above a ha
      · rw [List.mem_singleton.mp ha]; exact hSl
    · intro j b hj
      rcases Nat.lt_trichotomy j as.length with h1 | h1 | h1
      · rw [List.getElem?_append_left h1] at hj
        obtain ⟨x', y', e1, e2, e3⟩ := hG.pairs j b hj
        have hb := hG.above b (List.mem_of_getElem? hj)
        exact ⟨x', y', e1, e2, up b _ (Nat.ne_of_gt hb) (hkp b _ (Nat.ne_of_gt (Nat.lt_trans hzS hb)) (Nat.ne_of_gt (Nat.lt_trans hTOS hb)) (Nat.ne_of_gt (Nat.lt_trans hi1S hb)) (Nat.ne_of_gt (Nat.lt_trans hi2S hb)) e3)⟩
      · subst h1
        have hb : h.objs.size = b := by simpa using hj
        subst hb
        exact ⟨x, y, by rw [hal]; exact hx, by rw [hal]; exact hy, up _ _ (Nat.ne_of_gt hSl) ht⟩
      · have hnone : (as ++ [h.objs.size])[j]? = none := List.getElem?_eq_none (by rw [List.length_append, List.length_singleton]; omega)
        rw [hnone] at hj; cases hj
end
theorem zz_no_len : typeLookup (.type "zip") "__len__" = pure none := by rw [typeLookup_type, builtinLookup_eq_fast]; kernel_rfl
theorem zz_no_hint : typeLookup (.type "zip") "__length_hint__" = pure none := by rw [typeLookup_type, builtinLookup_eq_fast]; kernel_rfl
section
variable {prog : Program} {w : World} {A : Around} {E : Value → Shared → Prop} {s : Shared}
theorem zz_extend {S z TI TO i1 i2 l1 l2 : Addr} {xs ys : Array Value} {R : Result → Shared → Prop} (hh : A.handled = none) (D : ZipApart z TI TO i1 i2 l1 l2) (n : ZzNe z TI TO i1 i2 l1 l2 S) (hzS : z < S) (hTOS : TO < S) (hi1S : i1 < S) (hi2S : i2 < S) (hlen : xs.size = ys.size) (hn : xs.size ≤ sizeLine) (res : Value) (c₀ : Nat)
    (hz : IsZip s.heap z TI TO .none) (st : ZzSt s.heap z TI TO i1 i2 l1 l2 S xs ys 0) (hS : s.heap.get? S = some { cls := .type "list", data := .seq #[] c₀ })
    (hR : ∀ h' tk acc c as, (∀ b o, b ≠ S → b ≠ z → b ≠ TO → b ≠ i1 → b ≠ i2 → s.heap.get? b = some o → h'.get? b = some o) → h'.get? S = some { cls := .type "list", dict := none, data := .seq acc c, slots := #[] } → as.length = xs.size → ZzG xs ys S h' as →
      acc.toList = as.map Value.ref → R (.ok (.ret res)) { s with heap := h', toks := tk }) :
    wpAny (model prog w) A.in1 (Builtin.List.listExtendWith (.ref S) (.ref z) res)
      (fun fin s' => match fin with | .done f => R (.ok f) s' | .again c' => c'.quiet = true ∧ codeAny (model prog w) A c' R s') (fun e s' => R (.error e) s') s := by
  have hSz : S ≠ z := n.z.symm
  have hT : s.TypeIs (.ref z) "zip" := ⟨_, hz, rfl⟩
  unfold Builtin.List.listExtendWith
  refine wpAny_bind (wpAny_typeOf hT ?_)
  have h1 : Builtin.List.listSameRef (.ref S) (.ref z) = false := by simp [Builtin.List.listSameRef, hSz]
  have h2 : (Value.type "zip" == Value.type "list") = false := by decide
  have h3 : (Value.type "zip" == Value.type "tuple") = false := by decide
  simp only [h1, h2, h3, Bool.or_false, Bool.false_eq_true, if_false]
  refine wpAny_bind (wpAny_pyIter_zip hz ?_)
  refine wpAny_bind (wpAny_holding ?_)
  unfold Builtin.List.listLengthHint
  refine wpAny_bind (wpAny_specialOf hT zz_no_len ?_)
  show wpAny _ A.in1 (specialOf (Value.ref z) (Str.ofString "__length_hint__") >>= _) _ _ _
  refine wpAny_bind (wpAny_specialOf hT zz_no_hint ?_)
  refine wpAny_pure ?_
  have key : ∀ (h : Heap) (c₁ : Nat), (∀ b o, b ≠ S → s.heap.get? b = some o → h.get? b = some o) → h.get? S = some { cls := .type "list", data := .seq #[] c₁ } →
      codeAny (model prog w) A (.builtin "list.extend.loop" ⟨[.ref S, .ref z, res], []⟩) R { s with heap := h, toks := s.toks } := fun h c₁ hk hS₁ =>
    zz_loop (s := s) (h₁ := s.heap) hh D n hzS hTOS hi1S hi2S hlen hn res (fun h' tk acc c as hk' hS' hl hG hacc => hR h' tk acc c as hk' hS' hl hG hacc) xs.size 0 h s.toks c₁ #[] [] (Nat.sub_zero _) (Nat.zero_le _) (st.keep n hk) (fun b o hb _ _ _ _ e => hk b o hb e) hS₁ rfl rfl
      ⟨List.Pairwise.nil, (fun _ ha => nomatch ha), (fun j a hj => by simp at hj)⟩
  refine wpAny_ite_split (fun _ => ?_) (fun _ => wpAny_pure ⟨plainId_quiet PySem.F.plain_extend_loop _, key _ c₀ (fun b o _ e => e) hS⟩)
  refine wpAny_bind (wpAny_rule ?_)
  refine wpAny_bind ?_
  show wpAny _ _ (updateSeq S (·.push .none) >>= fun _ => updateSeq S (·.pop)) _ _ _
  refine wpAny_bind (wpAny_updateSeq hS rfl ?_)
  have hS₂ := Heap.get?_update_self (Obj.mapSeq (·.push Value.none)) hS rfl
  refine wpAny_updateSeq (hz := by seq_fits) hS₂ rfl ?_
  have hS₃ := Heap.get?_update_self (Obj.mapSeq (·.pop)) hS₂ rfl
  refine wpAny_pure ⟨plainId_quiet PySem.F.plain_extend_loop _, key _ _ (fun b o hb e => ?_) hS₃⟩
  exact (Heap.get?_update_other _ _ (Ne.symm hb)).trans ((Heap.get?_update_other _ _ (Ne.symm hb)).trans e)
theorem zz_init {S z TI TO i1 i2 l1 l2 : Addr} {xs ys : Array Value} {R : Result → Shared → Prop} (hh : A.handled = none) (D : ZipApart z TI TO i1 i2 l1 l2) (n : ZzNe z TI TO i1 i2 l1 l2 S) (hzS : z < S) (hTOS : TO < S) (hi1S : i1 < S) (hi2S : i2 < S) (hlen : xs.size = ys.size) (hn : xs.size ≤ sizeLine)
    (hz : IsZip s.heap z TI TO .none) (st : ZzSt s.heap z TI TO i1 i2 l1 l2 S xs ys 0) (hS : s.heap.get? S = some { cls := .type "list", data := .seq #[] })
    (hR : ∀ h' tk acc c as, (∀ b o, b ≠ S → b ≠ z → b ≠ TO → b ≠ i1 → b ≠ i2 → s.heap.get? b = some o → h'.get? b = some o) → h'.get? S = some { cls := .type "list", dict := none, data := .seq acc c, slots := #[] } → as.length = xs.size → ZzG xs ys S h' as →
      acc.toList = as.map Value.ref → R (.ok (.ret .none)) { s with heap := h', toks := tk }) :
    wpAny (model prog w) A.in1 (Builtin.«list.__init__» ⟨[.ref S, .ref z], []⟩)
      (fun fin s' => match fin with | .done f => R (.ok f) s' | .again c' => c'.quiet = true ∧ codeAny (model prog w) A c' R s') (fun e s' => R (.error e) s') s := by
  show wpAny _ _ (do let old ← Builtin.List.listItems (.ref S); Builtin.List.listUpdate (.ref S) (fun _ => #[]); letGo old.toList.reverse; Builtin.List.listExtendWith (.ref S) (.ref z) .none) _ _ s
  refine wpAny_bind ?_
  unfold Builtin.List.listItems
  refine wpAny_bind (wpAny_seqItems hS rfl (wpAny_pure ?_))
  show wpAny _ _ (updateSeq S (fun _ => #[]) >>= fun _ => letGo (#[] : Array Value).toList.reverse >>= fun _ => Builtin.List.listExtendWith (.ref S) (.ref z) .none) _ _ s
  refine wpAny_bind (wpAny_updateSeq hS rfl ?_)
  have hS₂ := Heap.get?_update_self (Obj.mapSeq (fun _ => (#[] : Array Value))) hS rfl
  have oth : ∀ b o, b ≠ S → s.heap.get? b = some o → (s.heap.update S (Obj.mapSeq (fun _ => (#[] : Array Value)))).get? b = some o :=
    fun b o hb e => (Heap.get?_update_other _ _ (Ne.symm hb)).trans e
  refine wpAny_bind (wpAny_letGo ?_)
  refine zz_extend hh D n hzS hTOS hi1S hi2S hlen hn .none _ (oth _ _ n.z hz) (st.keep n oth) hS₂ (fun h' tk acc c as hk hS' hl hG hacc => ?_)
  exact hR h' tk acc c as (fun b o hb h2 h3 h4 h5 e => hk b o hb h2 h3 h4 h5 (oth b o hb e)) hS' hl hG hacc
theorem zz_call {z TI TO i1 i2 l1 l2 : Addr} {xs ys : Array Value} {Q : Value → Shared → Prop} (hh : A.handled = none) (D : ZipApart z TI TO i1 i2 l1 l2) (hlen : xs.size = ys.size) (hn : xs.size ≤ sizeLine)
    (hz : IsZip s.heap z TI TO .none) (hTI : IsPair s.heap TI (.ref i1) (.ref i2)) (hTO : ∃ a b, IsPair s.heap TO a b) (h1 : s.heap.IsListIter i1 l1 0) (h2 : s.heap.IsListIter i2 l2 0) (hl1 : s.heap.IsList l1 xs) (hl2 : s.heap.IsList l2 ys)
    (hQ : ∀ h' tk acc c as, (∀ b o, b ≠ z → b ≠ TO → b ≠ i1 → b ≠ i2 → s.heap.get? b = some o → h'.get? b = some o) → h'.get? s.heap.objs.size = some { cls := .type "list", dict := none, data := .seq acc c, slots := #[] } → as.length = xs.size → ZzG xs ys s.heap.objs.size h' as →
      acc.toList = as.map Value.ref → Q (.ref s.heap.objs.size) { s with heap := h', toks := tk }) :
    wpAny (model prog w) A (call (.type "list") [.ref z]) Q E s := by
  refine callType_codes (Q₁ := fun obj s₁ => obj = .ref s.heap.objs.size ∧ s₁ = { s with heap := s.heap.push { cls := .type "list", data := .seq #[] } }) PySem.F.called_list (PySem.F.typeCall_list_1 _) PySem.F.entry_list_init
    (code_list_new _ ⟨rfl, rfl⟩) fun obj s₁ h₁ => ?_
  obtain ⟨rfl, rfl⟩ := h₁
  have hS : (s.heap.push { cls := .type "list", data := .seq #[] }).get? s.heap.objs.size = some { cls := .type "list", data := .seq #[] } := Heap.get?_push_size _ rfl
  have lz : z < s.heap.objs.size := Heap.lt_size hz
  have lTI : TI < s.heap.objs.size := Heap.lt_size hTI
  have lTO : TO < s.heap.objs.size := by obtain ⟨_, _, e⟩ := hTO; exact Heap.lt_size e
  have li1 : i1 < s.heap.objs.size := by obtain ⟨_, e, _⟩ := h1; exact Heap.lt_size e
  have li2 : i2 < s.heap.objs.size := by obtain ⟨_, e, _⟩ := h2; exact Heap.lt_size e
  have ll1 : l1 < s.heap.objs.size := by obtain ⟨_, e, _⟩ := hl1; exact Heap.lt_size e
  have ll2 : l2 < s.heap.objs.size := by obtain ⟨_, e, _⟩ := hl2; exact Heap.lt_size e
  have up : ∀ b o, s.heap.get? b = some o → (s.heap.push { cls := .type "list", data := .seq #[] }).get? b = some o := fun b o e => Heap.get?_push_of_some _ e
  obtain ⟨a, b, hTO⟩ := hTO
  refine ⟨⟨_, hS, rfl⟩, PySem.F.args_list_init_2 _ _, zz_init (A := A.in1) hh D ⟨Nat.ne_of_lt lz, Nat.ne_of_lt lTI, Nat.ne_of_lt lTO, Nat.ne_of_lt li1, Nat.ne_of_lt li2, Nat.ne_of_lt ll1, Nat.ne_of_lt ll2⟩ lz lTO li1 li2 hlen hn (up _ _ hz)
    ⟨.inl ⟨rfl, up _ _ hz, a, b, up _ _ hTO⟩, up _ _ hTI, h1.at fun o e => up _ o e, h2.at fun o e => up _ o e, hl1.at fun o e => up _ o e, hl2.at fun o e => up _ o e⟩ hS (fun h' tk acc c as hk hS' hl hG hacc => ?_)⟩
  exact ⟨rfl, hQ h' tk acc c as (fun b o h2 h3 h4 h5 e => hk b o (Nat.ne_of_lt (Heap.lt_size e)) h2 h3 h4 h5 (up b o e)) hS' hl hG hacc⟩
end
end Mine
end
section
open PySem PySem.W PyProof.Rows PySem.Spec PySem.Calls
set_option Elab.async false
set_option maxRecDepth 100000
set_option maxHeartbeats 4000000
set_option linter.all false
namespace Mine
abbrev zipO (TI TO : Addr) : Obj := { cls := .type "zip", dict := none, data := .fields #[.none, .bool false, .bool false, .ref TI, .ref TO], slots := #[] }
noncomputable def ZipLed (z l1 l2 : Addr) (zl : Ldg) : Prop := ∃ (TI TO i1 i2 : Addr) (a b : Value) (o1 o2 : Obj), ZipApart z TI TO i1 i2 l1 l2 ∧ zl = [(z, zipO TI TO), (TI, tupOf [.ref i1, .ref i2]), (TO, tupOf [a, b]), (i1, o1), (i2, o2)] ∧
  (o1.cls = .type "list_iterator" ∧ o1.data = .fields #[.ref l1, .int 0 0]) ∧ (o2.cls = .type "list_iterator" ∧ o2.data = .fields #[.ref l2, .int 0 0])
inductive TupsAre (l : Ldg) : List Value → List Value → List Value → Prop where
  | nil : TupsAre l [] [] []
  | cons {r : Addr} {x y : Value} {vs xs ys : List Value} (h : (r, tupOf [x, y]) ∈ l) (hs : TupsAre l vs xs ys) : TupsAre l (.ref r :: vs) (x :: xs) (y :: ys)
theorem TupsAre.mono {l l' : Ldg} (h : ∀ p ∈ l, p ∈ l') : ∀ {vs xs ys : List Value}, TupsAre l vs xs ys → TupsAre l' vs xs ys
  | _, _, _, .nil => .nil
  | _, _, _, .cons a b => .cons (h _ a) (b.mono h)
theorem TupsAre.length {l : Ldg} : ∀ {vs xs ys : List Value}, TupsAre l vs xs ys → vs.length = xs.length ∧ vs.length = ys.length
  | _, _, _, .nil => ⟨rfl, rfl⟩
  | _, _, _, .cons _ b => by
    have := b.length
    exact ⟨congrArg (· + 1) this.1, congrArg (· + 1) this.2⟩
theorem TupsAre.at {l : Ldg} : ∀ {vs xs ys : List Value}, TupsAre l vs xs ys → ∀ (i : Nat) (v : Value), vs[i]? = some v → ∃ r x y, v = .ref r ∧ xs[i]? = some x ∧ ys[i]? = some y ∧ (r, tupOf [x, y]) ∈ l
  | _, _, _, .nil, i, v, h => by simp at h
  | _, _, _, .cons (r := r) (x := x) (y := y) a b, 0, v, h => ⟨r, x, y, (Option.some.inj h).symm, rfl, rfl, a⟩
  | _, _, _, .cons a b, i + 1, v, h => b.at i v (by simpa using h)
theorem tups_of {h : Heap} : ∀ (as : List Addr) (xs ys : List Value), as.length = xs.length → xs.length = ys.length → (∀ (j : Nat) (a : Addr), as[j]? = some a → ∃ x y, xs[j]? = some x ∧ ys[j]? = some y ∧ IsPair h a x y) →
    ∃ tups : Ldg, TupsAre tups (as.map Value.ref) xs ys ∧ ∀ q ∈ tups, q.1 ∈ as ∧ h.get? q.1 = some q.2
  | [], [], [], _, _, _ => ⟨[], .nil, fun q hq => nomatch hq⟩
  | [], _ :: _, _, h1, _, _ => by simp at h1
  | [], [], _ :: _, _, h2, _ => by simp at h2
  | _ :: _, [], _, h1, _, _ => by simp at h1
  | _ :: _, _ :: _, [], _, h2, _ => by simp at h2
  | a :: as, x :: xs, y :: ys, h1, h2, hp => by
    obtain ⟨x', y', e1, e2, e3⟩ := hp 0 a rfl
    obtain rfl : x = x' := by simpa using e1
    obtain rfl : y = y' := by simpa using e2
    obtain ⟨tups, t1, t2⟩ := tups_of (h := h) as xs ys (by simpa using h1) (by simpa using h2) (fun j b hj => by
      obtain ⟨x2, y2, f1, f2, f3⟩ := hp (j + 1) b (by simpa using hj)
      exact ⟨x2, y2, by simpa using f1, by simpa using f2, f3⟩)
    refine ⟨(a, tupOf [x, y]) :: tups, .cons (.head _) (t1.mono fun p hp => .tail _ hp), fun q hq => ?_⟩
    rcases List.mem_cons.mp hq with rfl | hq
    · exact ⟨.head _, e3⟩
    · exact ⟨.tail _ (t2 q hq).1, (t2 q hq).2⟩
section
variable {prog : Program} {w : World} {A : Around} {E : Value → Shared → Prop} {s : Shared} {h₀ : Heap} {L : Addr} {m : Str → Option Value} {news : Ldg} {l1 l2 : Addr} {xs ys : List Value} {e1 e2 : Nat} {Q : Value → Shared → Prop}
theorem zip_L (F : Fr h₀ L s.heap m) (N : News h₀ L s.heap news) (hm1 : (l1, lstOf xs e1) ∈ news) (hm2 : (l2, lstOf ys e2) ∈ news)
    (h : ∀ z h' zl, ZipLed z l1 l2 zl → (∀ p ∈ news, p.1 < z) → (∀ p ∈ news, ∀ q ∈ zl, p.1 < q.1) → Fr h₀ L h' m → News h₀ L h' (zl ++ news) → Q (.ref z) { s with heap := h' }) : wpAny (model prog w) A (call (.type "zip") [.ref l1, .ref l2]) Q E s := by
  have a1 : l1 < s.heap.objs.size := Heap.lt_size (N _ hm1).1
  have a2 : l2 < s.heap.objs.size := Heap.lt_size (N _ hm2).1
  refine call_zip_2 (News.isList N hm1) (News.isList N hm2) fun h' hz hTI hTO hi1 hi2 hsz hk => ?_
  obtain ⟨o1, b1, b2, b3⟩ := hi1
  obtain ⟨o2, d1, d2, d3⟩ := hi2
  have lt : ∀ p ∈ news, p.1 < s.heap.objs.size := fun p hp => Heap.lt_size (N p hp).1
  have fr : ∀ k, s.heap.objs.size + k ≠ L ∧ h₀.get? (s.heap.objs.size + k) = none := fun k => kdx_fresh F (Nat.le_add_right _ _)
  refine h _ h' [(s.heap.objs.size + 4, zipO (s.heap.objs.size + 2) (s.heap.objs.size + 3)), (s.heap.objs.size + 2, tupOf [.ref s.heap.objs.size, .ref (s.heap.objs.size + 1)]), (s.heap.objs.size + 3, tupOf [.none, .none]), (s.heap.objs.size, o1), (s.heap.objs.size + 1, o2)]
    ⟨_, _, _, _, _, _, o1, o2, zipApart_new a1 a2, rfl, ⟨b2, b3⟩, ⟨d2, d3⟩⟩ (fun p hp => Nat.lt_of_lt_of_le (lt p hp) (Nat.le_add_right _ _)) ?_ (F.keeps hk) ?_
  · intro p hp q hq
    have := lt p hp
    simp only [List.mem_cons, List.not_mem_nil, or_false] at hq
    rcases hq with rfl | rfl | rfl | rfl | rfl
    · exact Nat.lt_of_lt_of_le this (Nat.le_add_right _ _)
    · exact Nat.lt_of_lt_of_le this (Nat.le_add_right _ _)
    · exact Nat.lt_of_lt_of_le this (Nat.le_add_right _ _)
    · exact this
    · exact Nat.lt_of_lt_of_le this (Nat.le_add_right _ _)
  · intro q hq
    rcases List.mem_append.mp hq with hq | hq
    · simp only [List.mem_cons, List.not_mem_nil, or_false] at hq
      rcases hq with rfl | rfl | rfl | rfl | rfl
      · exact ⟨hz, fr 4⟩
      · exact ⟨hTI, fr 2⟩
      · exact ⟨hTO, fr 3⟩
      · exact ⟨b1, fr 0⟩
      · exact ⟨d1, fr 1⟩
    · exact ⟨hk _ _ (N q hq).1, (N q hq).2⟩
theorem list_of_zip {z : Addr} {zl : Ldg} (hh : A.handled = none) (Z : ZipLed z l1 l2 zl) (hlt : ∀ p ∈ news, ∀ q ∈ zl, p.1 < q.1) (F : Fr h₀ L s.heap m) (N : News h₀ L s.heap (zl ++ news)) (hm1 : (l1, lstOf xs e1) ∈ news) (hm2 : (l2, lstOf ys e2) ∈ news) (hlen : xs.length = ys.length) (hz' : xs.length ≤ 1000)
    (h : ∀ D c h' tk vs tups, TupsAre tups vs xs ys → (∀ p ∈ news, p.1 < D) → (∀ q ∈ tups, @LT.lt Nat _ D q.1) → Fr h₀ L h' m → News h₀ L h' (tups ++ (D, lstOf vs c) :: news) → Q (.ref D) { s with heap := h', toks := tk }) :
    wpAny (model prog w) A (call (.type "list") [.ref z]) Q E s := by
  obtain ⟨TI, TO, i1, i2, a, b, o1, o2, D, rfl, ⟨c1, d1⟩, ⟨c2, d2⟩⟩ := Z
  have hz := (N _ (.head _)).1
  have hTI := (N _ (.tail _ (.head _))).1
  have hTO := (N _ (.tail _ (.tail _ (.head _)))).1
  have h1 := (N _ (.tail _ (.tail _ (.tail _ (.head _))))).1
  have h2 := (N _ (.tail _ (.tail _ (.tail _ (.tail _ (.head _)))))).1
  have up : ∀ q ∈ news, q ∈ [(z, zipO TI TO), (TI, tupOf [.ref i1, .ref i2]), (TO, tupOf [a, b]), (i1, o1), (i2, o2)] ++ news := fun q hq => List.mem_append_right _ hq
  have hl1 := News.isList N (up _ hm1)
  have hl2 := News.isList N (up _ hm2)
  refine zz_call (xs := xs.toArray) (ys := ys.toArray) hh D (by simpa using hlen) (by rw [List.size_toArray]; exact Nat.le_trans hz' (by decide)) hz hTI ⟨a, b, hTO⟩ ⟨o1, h1, c1, d1⟩ ⟨o2, h2, c2, d2⟩ hl1 hl2 (fun h' tk acc c as hk hS hl hG hacc => ?_)
  obtain ⟨tups, t1, t2⟩ := tups_of (h := h') as xs ys (by simpa using hl) hlen (fun j b hj => by
    obtain ⟨x, y, f1, f2, f3⟩ := hG.pairs j b hj
    exact ⟨x, y, by simpa using f1, by simpa using f2, f3⟩)
  have nz := N _ (List.Mem.head _)
  have nTO := N _ (List.Mem.tail _ (List.Mem.tail _ (List.Mem.head _)))
  have n1 := N _ (List.Mem.tail _ (List.Mem.tail _ (List.Mem.tail _ (List.Mem.head _))))
  have n2 := N _ (List.Mem.tail _ (List.Mem.tail _ (List.Mem.tail _ (List.Mem.tail _ (List.Mem.head _)))))
  have ne0 : ∀ {b c : Addr} {o : Obj}, h₀.get? b = some o → h₀.get? c = none → b ≠ c := fun e1 e2 e3 => by rw [e3, e2] at e1; cases e1
  have F' : Fr h₀ L h' m := ⟨F.ns.at fun o e => hk L o nz.2.1.symm nTO.2.1.symm n1.2.1.symm n2.2.1.symm e, fun b o e => hk b o (ne0 e nz.2.2) (ne0 e nTO.2.2) (ne0 e n1.2.2) (ne0 e n2.2.2) (F.keep b o e), F.above⟩
  have ea : acc = (as.map Value.ref).toArray := by rw [← hacc, Array.toArray_toList]
  have lD : ∀ p ∈ news, p.1 < s.heap.objs.size := fun p hp => Heap.lt_size (N p (up p hp)).1
  refine h _ c h' tk (as.map Value.ref) tups t1 lD (fun q hq => hG.above _ (t2 q hq).1) F' fun q hq => ?_
  rcases List.mem_append.mp hq with hq | hq
  · obtain ⟨g1, g2⟩ := t2 q hq
    exact ⟨g2, kdx_fresh F (Nat.le_of_lt (hG.above _ g1))⟩
  rcases List.mem_cons.mp hq with rfl | hq
  · exact ⟨by subst ea; exact hS, kdx_fresh F (Nat.le_refl _)⟩
  · refine ⟨hk _ _ ?_ ?_ ?_ ?_ (N q (up q hq)).1, (N q (up q hq)).2⟩
    · exact Nat.ne_of_lt (hlt q hq _ (.head _))
    · exact Nat.ne_of_lt (hlt q hq _ (.tail _ (.tail _ (.head _))))
    · exact Nat.ne_of_lt (hlt q hq _ (.tail _ (.tail _ (.tail _ (.head _)))))
    · exact Nat.ne_of_lt (hlt q hq _ (.tail _ (.tail _ (.tail _ (.tail _ (.head _))))))
end
end Mine
end
section
open PySem PySem.W PyProof.Rows PySem.Spec PySem.Calls
set_option Elab.async false
set_option maxRecDepth 100000
set_option maxHeartbeats 4000000
set_option linter.all false
namespace Mine
section
variable {prog : Program} {w : World} {A : Around} {E : Value → Shared → Prop} {s : Shared} {h₀ : Heap} {L : Addr} {m : Str → Option Value} {news : Ldg}
theorem compT_ind {env : Env} {ct elt : PySem.Expr} {x : Str} {scope : Scope} {cl : List (Str × Addr)} {S : Ldg → Prop} {P : Nat → Value → Prop} {Fin : List Value → Ldg → Prop} {n : Nat} (J : Nat → List Value → Ldg → Prop) (hJ : J 0 [] news)
    (turn : ∀ i v I oI C oC D m₂ ys nw h tk (E' : Value → Shared → Prop), i < n → P i v → J i ys nw → LCg.NsObj oC m₂ → m₂ x = some v → Fr h₀ L h m → News h₀ L h ((I, oI) :: (C, oC) :: (D, LCg.lst ys) :: nw) → LCg.Off3 I C D nw → ((@Ne Nat I C) ∧ (@Ne Nat I D) ∧ (@Ne Nat C D)) →
      wpAny (model prog w) A (isTrue ct (compEnvC scope cl C env) (eval ct (compEnvC scope cl C env))) (fun ok s' => if ok = true then
        wpAny (model prog w) A (eval elt (compEnvC scope cl C env)) (LCg.CompEnd h₀ L m { s with heap := h, toks := tk } I oI C oC D (LCg.lst ys) S (fun y nw' => J (i + 1) (ys ++ [y]) nw')) E' s'
        else LCg.CompEnd h₀ L m { s with heap := h, toks := tk } I oI C oC D (LCg.lst ys) S (fun _ nw' => J (i + 1) ys nw') Value.none s') E' { s with heap := h, toks := tk })
    (fin : ∀ ys nw, J n ys nw → Fin ys nw) : LCt.CompRestT prog w A h₀ L m env ct elt x scope cl s S P Fin n 0 [] news := by
  have key : ∀ (j i : Nat) (ys : List Value) (nw : Ldg), i + j = n → J i ys nw → LCt.CompRestT prog w A h₀ L m env ct elt x scope cl s S P Fin j i ys nw := by
    intro j
    induction j with
    | zero =>
      intro i ys nw hi hy
      have e : i = n := by omega
      subst e
      exact LCt.CompRestT.zero (fin ys nw hy)
    | succ j ih =>
      intro i ys nw hi hy
      refine LCt.CompRestT.succ ?_
      intro v I oI C oC D m₂ h tk E' hv hC hx F N off ne
      refine wpAny_mono (turn i v I oI C oC D m₂ ys nw h tk E' (by omega) hv hy hC hx F N off ne) (fun ok s₂ hq => ?_) fun _ _ e => e
      cases ok with
      | true =>
        simp only [if_true] at hq ⊢
        refine wpAny_mono hq (fun y s₃ hr => ?_) fun _ _ e => e
        obtain ⟨h', tk', nw', e, F', N', off', hS, hj⟩ := hr
        exact ⟨h', tk', nw', e, F', N', off', hS, ih (i + 1) _ nw' (by omega) hj⟩
      | false =>
        simp only [Bool.false_eq_true, if_false] at hq ⊢
        obtain ⟨h', tk', nw', e, F', N', off', hS, hj⟩ := hq
        exact ⟨h', tk', nw', e, F', N', off', hS, ih (i + 1) _ nw' (by omega) hj⟩
  exact key n 0 [] news (by omega) hJ
end
end Mine
end
section
open PySem PySem.W PyProof.Rows PySem.Spec PySem.Calls
set_option Elab.async false
set_option maxRecDepth 100000
set_option maxHeartbeats 4000000
set_option linter.all false
namespace Mine
section
variable {prog : Program} {w : World} {A : Around} {E : Value → Shared → Prop} {s : Shared} {h₀ : Heap} {L : Addr} {m : Str → Option Value} {news : Ldg}
theorem compP_ind {env : Env} {elt : PySem.Expr} {x x₂ : Str} {scope : Scope} {cl : List (Str × Addr)} {S : Ldg → Prop} {P : Nat → Value → Prop} {Fin : List Value → Ldg → Prop} {n : Nat} (J : Nat → List Value → Ldg → Prop) (hJ : J 0 [] news)
    (turn : ∀ i v ys nw, i < n → P i v → J i ys nw → ∃ (t : Addr) (v₁ v₂ : Value), v = .ref t ∧ (t, tupOf [v₁, v₂]) ∈ nw ∧
      ∀ I oI C oC D m₂ h tk (E' : Value → Shared → Prop), LCg.NsObj oC m₂ → m₂ x = some v₁ → m₂ x₂ = some v₂ → Fr h₀ L h m → News h₀ L h ((I, oI) :: (C, oC) :: (D, LCg.lst ys) :: nw) → LCg.Off3 I C D nw → ((@Ne Nat I C) ∧ (@Ne Nat I D) ∧ (@Ne Nat C D)) →
      wpAny (model prog w) A (eval elt (compEnvC scope cl C env)) (LCg.CompEnd h₀ L m { s with heap := h, toks := tk } I oI C oC D (LCg.lst ys) S (fun y nw' => J (i + 1) (ys ++ [y]) nw')) E' { s with heap := h, toks := tk })
    (fin : ∀ ys nw, J n ys nw → Fin ys nw) : LCp.CompRestP prog w A h₀ L m env elt x x₂ scope cl s S P Fin n 0 [] news := by
  have key : ∀ (j i : Nat) (ys : List Value) (nw : Ldg), i + j = n → J i ys nw → LCp.CompRestP prog w A h₀ L m env elt x x₂ scope cl s S P Fin j i ys nw := by
    intro j
    induction j with
    | zero =>
      intro i ys nw hi hy
      have e : i = n := by omega
      subst e
      exact LCp.CompRestP.zero (fin ys nw hy)
    | succ j ih =>
      intro i ys nw hi hy
      refine LCp.CompRestP.succ fun v hv => ?_
      obtain ⟨t, v₁, v₂, e1, e2, ht⟩ := turn i v ys nw (by omega) hv hy
      refine ⟨t, tupOf [v₁, v₂], v₁, v₂, 0, e1, e2, rfl, rfl, ?_⟩
      intro I oI C oC D m₂ h tk E' hC hx hx2 F N off ne
      refine wpAny_mono (ht I oI C oC D m₂ h tk E' hC hx hx2 F N off ne) (fun y s₂ hq => ?_) fun _ _ e => e
      obtain ⟨h', tk', nw', e, F', N', off', hS, hj⟩ := hq
      exact ⟨h', tk', nw', e, F', N', off', hS, ih (i + 1) _ nw' (by omega) hj⟩
  exact key n 0 [] news (by omega) hJ
end
noncomputable def spanL (p : Nat → Int) (n : Nat) (r : Bool) (x : Int) (b e : List Int) (j : Nat) : List Int := (List.range j).map fun i => b.getD i 0 + ((((List.range' (b.getD i 0).toNat ((e.getD i 0).toNat - (b.getD i 0).toNat)).filter fun i => if r then decide (p i ≤ x) else decide (p i < x)).length : Nat) : Int)
theorem spanL_succ {p : Nat → Int} {n : Nat} {r : Bool} {x : Int} {b e : List Int} {j : Nat} : spanL p n r x b e (j + 1) = spanL p n r x b e j ++ [b.getD j 0 + ((((List.range' (b.getD j 0).toNat ((e.getD j 0).toNat - (b.getD j 0).toNat)).filter fun i => if r then decide (p i ≤ x) else decide (p i < x)).length : Nat) : Int)] := by
  unfold spanL
  rw [List.range_succ, List.map_append]; rfl
theorem ints_val : ∀ {vs : List Value} {ns : List Int} {i : Nat} {v : Value}, IntsAre vs ns → vs[i]? = some v → ∃ t, v = .int (ns.getD i 0) t
  | _, _, 0, _, .cons y t _, h => ⟨t, (Option.some.inj h).symm⟩
  | _, _, i + 1, _, .cons _ _ r, h => ints_val (i := i) r (by simpa using h)
end Mine
end
section
open PySem PySem.W PyProof.Rows PySem.Spec PySem.Calls
set_option Elab.async false
set_option maxRecDepth 100000
set_option maxHeartbeats 4000000
set_option linter.all false
namespace Mine
section
variable {prog : Program} {w : World} {A : Around} {E : Value → Shared → Prop} {s : Shared} {h₀ : Heap} {L : Addr} {news : Ldg}
theorem all_true (n : Nat) : (List.range n).all (fun _ => true) = true := by
  rw [List.all_eq_true]; intro _ _; rfl
theorem eqAt_lists {x y : Addr} {vs ws : List Value} {e1 e2 : Nat} (N : News h₀ L s.heap news) (hx : (x, lstOf vs e1) ∈ news) (hy : (y, lstOf ws e2) ∈ news) (hl : vs.length = ws.length) (hu : A.units < cLine)
    (he : ∀ j (h1 : j < vs.length) (h2 : j < ws.length), PySem.SeqAt.EqAt A.in1 s vs[j] ws[j] true) : PySem.SeqAt.EqAt A s (.ref x) (.ref y) true := by
  by_cases hxy : x = y
  · rw [hxy]; exact PySem.SeqAt.EqAt.same _
  · refine PySem.SeqAt.EqAt.of_refs hxy ?_
    have := PySem.SeqAt.RcAt.lists (A := A) (s := s) (e := fun _ => true) (News.isList N hx) (News.isList N hy) (by simpa using hl) hu (fun j h1 h2 => by simpa using he j (by simpa using h1) (by simpa using h2))
    rw [all_true] at this
    exact this
theorem eqAt_ints {A : Around} {vs ws : List Value} {ns : List Int} (h1 : IntsAre vs ns) (h2 : IntsAre ws ns) : ∀ j (a : j < vs.length) (b : j < ws.length), PySem.SeqAt.EqAt A s vs[j] ws[j] true := by
  induction h1 generalizing ws with
  | nil => intro j a; cases a
  | cons k t hs ih =>
    cases h2 with
    | cons k u hs2 =>
      intro j a b
      match j with
      | 0 =>
        have := PySem.SeqAt.EqAt.int_int (A := A) (s := s) k t k u
        rw [beq_self_eq_true] at this
        exact this
      | j + 1 => exact ih hs2 j (Nat.lt_of_succ_lt_succ a) (Nat.lt_of_succ_lt_succ b)
theorem eqAt_strs {A : Around} {vs ws : List Value} {ns : List PStr} (h1 : StrsAre vs ns) (h2 : StrsAre ws ns) : ∀ j (a : j < vs.length) (b : j < ws.length), PySem.SeqAt.EqAt A s vs[j] ws[j] true := by
  induction h1 generalizing ws with
  | nil => intro j a; cases a
  | cons k t hs ih =>
    cases h2 with
    | cons k u hs2 =>
      intro j a b
      match j with
      | 0 =>
        have := PySem.SeqAt.EqAt.str_str (A := A) (s := s) k t k u
        rw [beq_self_eq_true] at this
        exact this
      | j + 1 => exact ih hs2 j (Nat.lt_of_succ_lt_succ a) (Nat.lt_of_succ_lt_succ b)
theorem ne_two_same {x y a b c d : Addr} {va vb vc vd : List Value} {e1 e2 ea eb ec ed : Nat} {Q : Value → Shared → Prop} (N : News h₀ L s.heap news) (hx : (x, lstOf [.ref a, .ref b] e1) ∈ news) (hy : (y, lstOf [.ref c, .ref d] e2) ∈ news)
    (ha : (a, lstOf va ea) ∈ news) (hb : (b, lstOf vb eb) ∈ news) (hc : (c, lstOf vc ec) ∈ news) (hd : (d, lstOf vd ed) ∈ news)
    (l1 : va.length = vc.length) (l2 : vb.length = vd.length) (h1 : ∀ (A' : Around) j (p : j < va.length) (q : j < vc.length), PySem.SeqAt.EqAt A' s va[j] vc[j] true) (h2 : ∀ (A' : Around) j (p : j < vb.length) (q : j < vd.length), PySem.SeqAt.EqAt A' s vb[j] vd[j] true)
    (hu : A.units + 64 < cLine) (h : Q (.bool false) s) : wpAny (model prog w) A (compareOp .NotEq (.ref x) (.ref y)) Q E s := by
  have hu1 : A.in1.units < cLine := by
    have e : A.in1.units ≤ A.units + 1 := by with_unfolding_all exact Nat.le_refl _
    omega
  refine PySem.SeqAt.RcNeAt.lists (e := fun _ => true) (News.isList N hx) (News.isList N hy) (by simp) (by omega) (fun j j1 j2 => ?_) prog w E Q (by rw [all_true]; exact h)
  match j, j1 with
  | 0, _ => exact eqAt_lists N ha hc l1 hu1 (h1 _)
  | 1, _ => exact eqAt_lists N hb hd l2 hu1 (h2 _)
end
end Mine
end
end
section
open PySem PySem.W PyProof.Rows PySem.Spec PySem.Calls
set_option Elab.async false
set_option maxRecDepth 100000
set_option maxHeartbeats 8000000
set_option linter.all false
namespace Mine
local macro_rules | `(tactic| walk_at $s:str) => `(tactic| k_extra $s)
local macro_rules | `(tactic| omega) => `(tactic| first
  | with_reducible assumption
  | (refine' room1 ?rmh ?rme; (case rmh => with_reducible assumption); (case rme => with_unfolding_all rfl))
  | (refine' room0 ?rmh ?rme; (case rmh => with_reducible assumption); (case rme => with_unfolding_all rfl))
  | (refine' room2 ?rmh ?rme; (case rmh => with_reducible assumption); (case rme => with_unfolding_all rfl))
  | (refine' room00 ?rmh; (case rmh => with_reducible assumption))
  | (refine num_le ?rme; (case rme => with_unfolding_all rfl))
  | (refine num_lt ?rme; (case rme => with_unfolding_all rfl))
  | (refine' le_num ?rmh ?rme; (case rmh => with_reducible assumption); (case rme => with_unfolding_all rfl))
  | (refine' eq_num ?rmh ?rme; (case rmh => with_reducible assumption); (case rme => with_unfolding_all rfl))
  | lia
  | omega (config := {}))
local macro_rules | `(tactic| k_mem) => `(tactic| first | with_reducible assumption | (refine mem_in ?_; with_reducible assumption))
set_option hygiene false in
local macro_rules | `(tactic| walk_at "base") => `(tactic| (
  k_with_none
  k_with "execs cons" => ((refine f_execs ?_; intro qk))
  k_with "eval BinOp" => ((refine f_BinOp ?_; intro qk))
  k_with "exec Assign" => ((refine f_Assign ?_; intro qk))
  k_with "eval Subscript" => ((refine f_Subscript ?_; intro qk))
  k_with "isTrue Compare" => ((refine f_Compare ?_; intro qk))
  k_with "exec If" => ((refine f_If ?_; intro qk))
  k_with "eval Call" => (((fail_if_success (with_reducible show wpAny _ _ (eval (Expr.Call (Expr.Attribute _ _ _) _ _ _) _) _ _ _)); refine f_Call ?_; intro qk))
  k_with "spliced" => ((refine f_args ?_; intro qk))
  k_with "callWith" => ((refine f_method1 ?_; intro qk))
  k_with "exec Return some" => ((refine f_Return ?_; intro qk))
  k_with "eval Tuple" => ((refine f_Tuple ?_; intro qk))
  k_with "eval List" => ((refine f_List ?_; intro qk))
  k_with "eval IfExp" => ((refine f_IfExp ?_; intro qk))
  k_with "storeName" => ((k_here; k_dflt (refine' f_store ?F ?N ?_ ?a ?b; (case F => k_asm); (case N => k_asm); (case a => rfl); (case b => rfl); k_whole; intro m' h' F' N'; (try k_sweep))))
  k_with "M map1" => (first
    | (refine map_same ?_; with_unfolding_all rfl)
    | ((repeat' (refine List.forall_mem_cons.mpr (And.intro ?_ ?_))); (all_goals first | rfl | exact List.forall_mem_nil _)))
  k_with "M fill" => ((
    have kk : PySem.Challenge.rw_pm0034_01 = PySem.Challenge.rw_pm0034_01 ∧ KK.heap_1 = KK.heap_1 := ⟨rfl, rfl⟩
    revert kk
    k_fill
    intro kk
    clear kk))))
section
theorem lines_A1_0 : True := by
  walk_at "base"
  k_with "M enter" => ((
    refine wpAny_call ?_
    k_dflt (refine' code_def ?k1 ?k2 ?k3 ?k4 ?k5 ?kA ?kF ?kK ?k6 ?k7 ?k8 ?k9 ?kB ?_ ?c2 ?c3 ?c4 ?c5; (case kA => exact rfl); (case kF => exact rfl); (case kK => assumption); (case k1 => k_asm); (case k2 => k_asm); (case k3 => k_asm); (case k4 => k_asm); (case k5 => k_asm); (case k6 => k_is); (case k7 => k_is); (case k8 => ((try dsimp only); omega)); (case k9 => first | exact BindsTo.of_eq rfl | (refine' kp_binds ?kx ?ke; (case kx => first | (refine' myIn ?kf ?ki; (case kf => with_reducible assumption); (case ki => with_reducible assumption)) | k_in); (case ke => exact fun _ => rfl)) | exact binds_K (by first | (refine' myIn ?kf ?ki; (case kf => with_reducible assumption); (case ki => with_reducible assumption)) | k_in) rfl (by k_is) rfl rfl rfl); (case c5 => decide); (case kB => exact locs rfl); (case c2 => exact rfl); (case c3 => exact rfl); (case c4 => exact rfl); k_whole; intro g' L' h' FG' F' N' B' X' T'; (have D' := kts_dict B' (by assumption) FG' rfl); (try dsimp only); (try k_lift B'); (refine let_AE (f := execs _) ?_; intro vk ak); (refine f_QE ?_; intro qk ek))))
  trivial
theorem lines_A1_1 : True := by
  k_with "subscriptTail Name Constant ref int" => ((k_here; refine item_tupleT (News.isTup (by assumption) (by k_mem)) (by decide) (by decide) (by rfl) (by rfl) ?_))
  k_with "subscriptTail Name Constant ref int" => ((k_here; (with_reducible rename StrsAre _ _ => hSA); refine item_strsA (News.isList (by assumption) (by k_mem)) hSA (by decide) (by first | omega | (simp only [List.length_map]; omega)) (by decide) ?_; intro t'))
  k_with "call type:ValueError" => ((refine call_ValueError_made ?_; intro _ _ _))
  k_with "exec While Compare Name cons nil" => (refine Hold.mk ?_)
  k_with "exec While Compare" => (refine Hold.mk ?_)
  k_with "exec While Compare cons nil" => (refine Hold.mk ?_)
  k_with "exec While" => (refine Hold.mk ?_)
  k_with "binaryOp FloorDiv int int" => ((k_here; (with_reducible refine floordiv_pos ?kb1 ?kb2 ?_); (case kb1 => decide); (case kb2 => decide +kernel)))
  k_with "WhlIf" => ((refine whlIf_dec ?_ ?_ <;> intro _))
  k_with "subscriptTail Name Name ref int" => ((k_here; first
    | ((with_reducible rename StrsAre _ _ => hSA); refine item_strsA (News.isList (by assumption) (by k_mem)) hSA (by omega) (by omega) (by omega) ?_; intro t')
    | ((with_reducible rename IntsAre _ _ => hSA); refine item_intsA (News.isList (by assumption) (by k_mem)) hSA (by omega) (by omega) (by omega) ?_; intro t')))
  k_with "call builtin:len" => ((k_here; (with_reducible show wpAny _ _ (call (Value.builtin "len") [Value.ref _]) _ _ _); first
    | ((with_reducible rename StrsAre _ _ => hSA); refine len_strsA (News.isList (by assumption) (by k_mem)) hSA (by omega) ?_)
    | ((with_reducible rename IntsAre _ _ => hSA); refine len_intsA (News.isList (by assumption) (by k_mem)) hSA (by omega) ?_)))
  trivial
def clsOf : EK → Value
  | .reply => .ref 73
  | .proto => .ref 85
  | .value => .type "ValueError"
section
variable {w : World} {p : Program} {loose : List PStr} {mean : ExcName → Option Value} {mg mb : PStr → Option Value}
    {dp un : Nat} {gd : Option (List Code)} {cn : PStr} {cs : Scope} {a : Addr} {ccd : Value} {cl : List (PStr × Addr)} {outer : List Env} {A₀ : Around} {base h₀ : Heap} {L : Addr} {m : PStr → Option Value}
    {s : Shared} {Q E : Value → Shared → Prop} {news : Ldg}
    (B : Below A₀ base outer h₀) (X : (KK.heap_1 w.params).In h₀) (T : Top p loose mean mg mb h₀) (XB : (KK.heap_1 w.params).In base) (TB : Top p loose mean mg mb base) (D : KtsDicts (outer.filterMap (·.frame)) h₀) (hck : cs.kind = .function)
include B X T XB TB D hck
omit B X T XB TB D hck in
theorem ex_news {g h : Heap} {L ra : Addr} {x : Value} {n : Int} {t : Tok} {news : Ldg} (N : News g L h ((ra, { cls := Value.type "tuple", data := Data.seq #[x, .int n t] }) :: news)) : ∃ t, News g L h ((ra, tupOf [x, .int n t]) :: news) := ⟨t, N⟩
theorem parse229_spec {r hs : PStr} {t1 t2 t3 : Tok} {i : Int} {pa : Addr} (hd5 : dp + 5 < recursionLimit) (hu5 : un + 50 < cLine) (F : Fr h₀ L s.heap m) (N : News h₀ L s.heap news)
   (h640' : r.length ≤ 640) (hpa : (pa, tupOf [.str hs t2, .int i t3]) ∈ news) (hv : ∀ msg, p229 r ≠ .error (.value, msg))
   (hret : ∀ n ra t h' tk, p229 r = .ok n → Fr h₀ L h' m → News h₀ L h' ((ra, tupOf [.str hs t2, .int n t]) :: news) → (∀ p ∈ news, p.1 < ra) → Q (.ref ra) { s with heap := h', toks := tk })
   (hexc : ∀ k g₂ e t h' tk, p229 r = .error (k, r) → Fr h₀ L g₂ m → RaisedS base g₂ (envX cn cs L a ccd cl :: outer) e (clsOf k) t [.str r t1] news h' → RaisedK base (envX cn cs L a ccd cl :: outer) e (clsOf k) t [.str r t1] news h' → g₂.UpToSlots h' → E (.ref e) { s with heap := h', toks := tk }) :
   wpAny (model PySem.Challenge.rw_pm0034_01.row.prog w) (ktrTop dp un gd cn cs L a ccd cl outer) (call (.ref 94) [.str r t1, .ref pa]) Q E s := by
  have kk : PySem.Challenge.rw_pm0034_01 = PySem.Challenge.rw_pm0034_01 ∧ KK.heap_1 = KK.heap_1 := ⟨rfl, rfl⟩
  revert kk
  k_fill
  intro kk
  clear kk
  have hr : r.length ≤ 200000 := Nat.le_trans h640' (by decide)
  have h640 := Nat.le_trans (p229in_len r) h640'
  have f1 := fact_open r
  have f2 := fact_close r (Txt.find r (Str.ofString "(") + 1) (by omega)
  walk_at "M enter"
  k_steps
  all_goals (try (
    (show E _ _)
    first
      | exact hexc .reply _ _ _ _ _ (p229_code (by assumption)) (by assumption) (by assumption) (by assumption) (by assumption)
      | exact hexc .proto _ _ _ _ _ (p229_open (by assumption) (by assumption)) (by assumption) (by assumption) (by assumption) (by assumption)
      | exact hexc .proto _ _ _ _ _ (p229_close (by assumption) (by assumption) (by assumption)) (by assumption) (by assumption) (by assumption) (by assumption)
      | exact hexc .proto _ _ _ _ _ (p229_sep (by assumption) (by assumption) (by assumption) (by assumption)) (by assumption) (by assumption) (by assumption) (by assumption)
      | exact hexc .proto _ _ _ _ _ (p229_five (by assumption) (by assumption) (by assumption) (by assumption) (by assumption) (by assumption)) (by assumption) (raisedS_sub (by assumption) sub_tail) (raisedK_sub (by assumption) sub_tail) (by assumption)))
  have hlast := p229_last (by assumption : (Txt.slice r none (some 3) != Str.ofString "229") = false) (by assumption) (by assumption) (by assumption) (by assumption) (by assumption)
  refine call_int_reads (Nat.le_trans (getD_len (by assumption)) h640) (fun e => hv _ (hlast.trans (by rw [e]))) fun n hn => ?_
  simp only [hn] at hlast
  k_steps
  (with_reducible rename (_ ∧ AllLt _ _) => hlt)
  (with_reducible rename News _ _ _ (_ :: _ :: _) => kN)
  (with_reducible rename Fr _ _ _ _ => kF)
  have kN2 := news_d2 kN
  have hz := ktn_ltOf hlt.2
  clear kN
  dsimp only at kF kN2
  have h3 := ex_news kN2
  clear kN2
  obtain ⟨t, h3⟩ := h3
  refine hret n _ t _ _ hlast kF h3 hz
end
end
section
theorem lines_B1_0 : True := by
  walk_at "base"
  k_with "M enter" => ((
    refine wpAny_call ?_
    k_dflt (refine' code_def ?k1 ?k2 ?k3 ?k4 ?k5 ?kA ?kF ?kK ?k6 ?k7 ?k8 ?k9 ?kB ?_ ?c2 ?c3 ?c4 ?c5; (case kA => exact rfl); (case kF => exact rfl); (case kK => assumption); (case k1 => k_asm); (case k2 => k_asm); (case k3 => k_asm); (case k4 => k_asm); (case k5 => k_asm); (case k6 => k_is); (case k7 => k_is); (case k8 => ((try dsimp only); omega)); (case k9 => first | exact BindsTo.of_eq rfl | (refine' kp_binds ?kx ?ke; (case kx => first | (refine' myIn ?kf ?ki; (case kf => with_reducible assumption); (case ki => with_reducible assumption)) | k_in); (case ke => exact fun _ => rfl)) | exact binds_K (by first | (refine' myIn ?kf ?ki; (case kf => with_reducible assumption); (case ki => with_reducible assumption)) | k_in) rfl (by k_is) rfl rfl rfl); (case c5 => decide); (case kB => exact locs rfl); (case c2 => exact rfl); (case c3 => exact rfl); (case c4 => exact rfl); k_whole; intro g' L' h' FG' F' N' B' X' T'; (have D' := kts_dict B' (by assumption) FG' rfl); (try dsimp only); (try k_lift B'); (refine let_AE (f := execs _) ?_; intro vk ak); (refine f_QE ?_; intro qk ek))))
  trivial
theorem lines_B1_1 : True := by
  k_with "subscriptTail Name Constant ref int" => ((k_here; refine item_tupleT (News.isTup (by assumption) (by k_mem)) (by decide) (by decide) (by rfl) (by rfl) ?_))
  k_with "subscriptTail Name Constant ref int" => ((k_here; (with_reducible rename StrsAre _ _ => hSA); refine item_strsA (News.isList (by assumption) (by k_mem)) hSA (by decide) (by first | omega | (simp only [List.length_map]; omega)) (by decide) ?_; intro t'))
  k_with "call type:ValueError" => ((refine call_ValueError_made ?_; intro _ _ _))
  k_with "exec While Compare Name cons nil" => (refine Hold.mk ?_)
  k_with "exec While Compare" => (refine Hold.mk ?_)
  k_with "exec While Compare cons nil" => (refine Hold.mk ?_)
  k_with "exec While" => (refine Hold.mk ?_)
  k_with "binaryOp FloorDiv int int" => ((k_here; (with_reducible refine floordiv_pos ?kb1 ?kb2 ?_); (case kb1 => decide); (case kb2 => decide +kernel)))
  k_with "WhlIf" => ((refine whlIf_dec ?_ ?_ <;> intro _))
  k_with "subscriptTail Name Name ref int" => ((k_here; first
    | ((with_reducible rename StrsAre _ _ => hSA); refine item_strsA (News.isList (by assumption) (by k_mem)) hSA (by omega) (by omega) (by omega) ?_; intro t')
    | ((with_reducible rename IntsAre _ _ => hSA); refine item_intsA (News.isList (by assumption) (by k_mem)) hSA (by omega) (by omega) (by omega) ?_; intro t')))
  k_with "call builtin:len" => ((k_here; (with_reducible show wpAny _ _ (call (Value.builtin "len") [Value.ref _]) _ _ _); first
    | ((with_reducible rename StrsAre _ _ => hSA); refine len_strsA (News.isList (by assumption) (by k_mem)) hSA (by omega) ?_)
    | ((with_reducible rename IntsAre _ _ => hSA); refine len_intsA (News.isList (by assumption) (by k_mem)) hSA (by omega) ?_)))
  k_with "call ref" => (((with_reducible show wpAny _ _ (call (Value.ref 94) _) _ _ _); refine' parse229_spec ?kB ?kX ?kT ?kXB ?kTB ?kD ?kh ?kd ?ku ?kF ?kN ?k6 ?kp ?kv ?_ ?_; (case kB => assumption); (case kX => assumption); (case kT => assumption); (case kXB => assumption); (case kTB => assumption); (case kD => assumption); (case kh => rfl); (case kd => ((try dsimp only); omega)); (case ku => ((try dsimp only); omega)); (case kF => with_reducible assumption); (case kN => with_reducible assumption); (case k6 => assumption); (case kp => first | exact .head _ | with_reducible assumption); (case kv => assumption)))
  trivial
section
variable {w : World} {p : Program} {loose : List PStr} {mean : ExcName → Option Value} {mg mb : PStr → Option Value}
    {dp un : Nat} {gd : Option (List Code)} {cn : PStr} {cs : Scope} {a : Addr} {ccd : Value} {cl : List (PStr × Addr)} {outer : List Env} {A₀ : Around} {base h₀ : Heap} {L : Addr} {m : PStr → Option Value}
    {s : Shared} {Q E : Value → Shared → Prop} {news : Ldg}
    (B : Below A₀ base outer h₀) (X : (KK.heap_1 w.params).In h₀) (T : Top p loose mean mg mb h₀) (XB : (KK.heap_1 w.params).In base) (TB : Top p loose mean mg mb base) (D : KtsDicts (outer.filterMap (·.frame)) h₀) (hck : cs.kind = .function)
include B X T XB TB D hck
theorem port_spec {r : PStr} {t1 : Tok} (hd5 : dp + 10 < recursionLimit) (hu5 : un + 60 < cLine) (F : Fr h₀ L s.heap m) (N : News h₀ L s.heap news)
   (h640 : r.length ≤ 640) (hv : ∀ msg, p229 r ≠ .error (.value, msg))
   (hret : ∀ n t h' tk, p229 r = .ok n → Fr h₀ L h' m → News h₀ L h' news → Q (.int n t) { s with heap := h', toks := tk })
   (hexc : ∀ k g₂ e t h' tk, p229 r = .error (k, r) → Fr h₀ L g₂ m → RaisedS base g₂ (envX cn cs L a ccd cl :: outer) e (clsOf k) t [.str r t1] news h' → RaisedK base (envX cn cs L a ccd cl :: outer) e (clsOf k) t [.str r t1] news h' → g₂.UpToSlots h' → E (.ref e) { s with heap := h', toks := tk }) :
   wpAny (model PySem.Challenge.rw_pm0034_01.row.prog w) (ktrTop dp un gd cn cs L a ccd cl outer) (call (.ref 108) [.str r t1]) Q E s := by
  walk_at "M fill"
  walk_at "M enter"
  k_steps
  · (show Q _ _)
    exact hret _ _ _ _ (by assumption) (by assumption) (news_drop2 (by assumption))
  · (show E _ _)
    exact hexc _ _ _ _ _ _ (by assumption) (by assumption) (raisedS_sub (by assumption) sub_tail) (raisedK_sub (by assumption) sub_tail) (by assumption)
end
end
section
theorem lines_CX_0 : True := by
  walk_at "base"
  k_with "M map2" => (first
    | (refine SameOut.both (b := fun _ => none) ?_ ?_ <;> (repeat (refine SameOut.upd ?_ (by with_unfolding_all rfl))) <;> exact SameOut.lookup rfl)
    | (refine' SameOut.both (b := ?kb) ?k1 ?k2; (case k1 => ((repeat (refine SameOut.upd ?_ (by with_unfolding_all rfl))); exact SameOut.refl)); (case k2 => ((repeat (refine SameOut.upd ?_ (by with_unfolding_all rfl))); exact SameOut.refl)))
    | (refine' SameOut.both (b := ?kb) ?k1 ?k2; (case k2 => ((repeat (refine SameOut.upd ?_ (by with_unfolding_all rfl))); exact SameOut.refl)); (case k1 => ((repeat (refine SameOut.skip ?_)); (repeat (refine SameOut.upd ?_ (by with_unfolding_all rfl))); exact SameOut.refl)))
    | (intro y hy; (repeat (refine (if_neg (ne_of_out hy (by with_unfolding_all rfl))).trans ?_)); (refine Eq.symm ?_); (repeat (refine (if_neg (ne_of_out hy (by with_unfolding_all rfl))).trans ?_)); first | rfl | exact lookup_out rfl hy | exact (lookup_out rfl hy).symm | exact (lookup_out rfl hy).trans (lookup_out rfl hy).symm))
  trivial
theorem lines_CX_1 : True := by
  k_with "subscriptTail Name Constant ref int" => ((k_here; refine item_tupleT (News.isTup (by assumption) (by k_mem)) (by decide) (by decide) (by rfl) (by rfl) ?_))
  k_with "subscriptTail Name Constant ref int" => ((k_here; (with_reducible rename StrsAre _ _ => hSA); refine item_strsA (News.isList (by assumption) (by k_mem)) hSA (by decide) (by first | omega | (simp only [List.length_map]; omega)) (by decide) ?_; intro t'))
  k_with "call type:ValueError" => ((refine call_ValueError_made ?_; intro _ _ _))
  k_with "exec While Compare Name cons nil" => (refine Hold.mk ?_)
  k_with "exec While Compare" => (refine Hold.mk ?_)
  k_with "exec While Compare cons nil" => (refine Hold.mk ?_)
  k_with "exec While" => (refine Hold.mk ?_)
  k_with "binaryOp FloorDiv int int" => ((k_here; (with_reducible refine floordiv_pos ?kb1 ?kb2 ?_); (case kb1 => decide); (case kb2 => decide +kernel)))
  k_with "WhlIf" => ((refine whlIf_dec ?_ ?_ <;> intro _))
  k_with "subscriptTail Name Name ref int" => ((k_here; first
    | ((with_reducible rename StrsAre _ _ => hSA); refine item_strsA (News.isList (by assumption) (by k_mem)) hSA (by omega) (by omega) (by omega) ?_; intro t')
    | ((with_reducible rename IntsAre _ _ => hSA); refine item_intsA (News.isList (by assumption) (by k_mem)) hSA (by omega) (by omega) (by omega) ?_; intro t')))
  k_with "call builtin:len" => ((k_here; (with_reducible show wpAny _ _ (call (Value.builtin "len") [Value.ref _]) _ _ _); first
    | ((with_reducible rename StrsAre _ _ => hSA); refine len_strsA (News.isList (by assumption) (by k_mem)) hSA (by omega) ?_)
    | ((with_reducible rename IntsAre _ _ => hSA); refine len_intsA (News.isList (by assumption) (by k_mem)) hSA (by omega) ?_)))
  k_with "call ref" => (((with_reducible show wpAny _ _ (call (Value.ref 108) _) _ _ _); refine' port_spec ?kB ?kX ?kT ?kXB ?kTB ?kD ?kh ?kd ?ku ?kF ?kN ?k6 ?kv ?_ ?_; (case kB => assumption); (case kX => assumption); (case kT => assumption); (case kXB => assumption); (case kTB => assumption); (case kD => assumption); (case kh => rfl); (case kd => ((try dsimp only); omega)); (case ku => ((try dsimp only); omega)); (case kF => with_reducible assumption); (case kN => with_reducible assumption); (case k6 => first | exact getD_640 (by assumption) _ | assumption); (case kv => first | assumption | (have q := bis_nv (by assumption) (by assumption) (by assumption); exact q) | (have q := bis_nv ((by assumption : 0 ≤ _ → ∀ msg, _ ≠ _) (by omega)) (by assumption) (by assumption); exact q))))
  trivial
noncomputable def bisDR : Option (List Stmt × Scope) := match (PySem.Challenge.pw_pm0034_01.main.body.drop 2).head? with
  | some (.FunctionDef _ _ b _ _ _ sc _ _ _) => some (b, sc)
  | _ => none
noncomputable def bisSR : List Stmt := match bisDR with
  | some (b, _) => b
  | none => []
noncomputable def bisCR : Scope := match bisDR with
  | some (_, sc) => sc
  | none => default
noncomputable def bisIR : Stmt := match bisSR.drop 2 with
  | st :: _ => st
  | [] => .Pass default
noncomputable def bisDL : Option (List Stmt × Scope) := match (PySem.Challenge.pw_pm0034_01.main.body.drop 4).head? with
  | some (.FunctionDef _ _ b _ _ _ sc _ _ _) => some (b, sc)
  | _ => none
noncomputable def bisSL : List Stmt := match bisDL with
  | some (b, _) => b
  | none => []
noncomputable def bisCL : Scope := match bisDL with
  | some (_, sc) => sc
  | none => default
noncomputable def bisIL : Stmt := match bisSL.drop 2 with
  | st :: _ => st
  | [] => .Pass default
section
variable {w : World} {p : Program} {loose : List PStr} {mean : ExcName → Option Value} {mg mb : PStr → Option Value}
    {dp un : Nat} {gd : Option (List Code)} {a : Addr} {ccd : Value} {outer : List Env} {A₀ : Around} {base h₀ : Heap} {L : Addr}
    {s : Shared} {news : Ldg}
    (B : Below A₀ base outer h₀) (X : (KK.heap_1 w.params).In h₀) (T : Top p loose mean mg mb h₀) (XB : (KK.heap_1 w.params).In base) (TB : Top p loose mean mg mb base) (D : KtsDicts (outer.filterMap (·.frame)) h₀)
include B X T XB TB D
theorem bisR_if {Q : Flow → Shared → Prop} {E : Value → Shared → Prop} {ra : Addr} {vs : List Value} {k : Nat → KRes} {nn ep : Nat} {x : Int} {l0 hi : Nat} {kv : Value} {tx tl th : Tok} (hd5 : dp + 18 < recursionLimit) (hu5 : un + 80 < cLine)
   (F : Fr h₀ L s.heap (fun y => List.lookup y [(Str.ofString "lo", .int l0 tl), (Str.ofString "hi", .int hi th), (Str.ofString "a", .ref ra), (Str.ofString "x", .int x tx), (Str.ofString "key", kv)])) (N : News h₀ L s.heap news)
   (hra : (ra, lstOf vs ep) ∈ news) (hrow : RowIs 108 kv vs k nn) (hl : nn ≤ 1000) (hhi : hi ≤ nn) (hv0 : ∀ msg, bis true k x (hi - l0) l0 hi ≠ .error (.value, msg)) (hE : PassesOwn (model PySem.Challenge.rw_pm0034_01.row.prog w) (ktrTop dp un gd (Str.ofString "bisect_right") bisCR L a ccd [] outer) (envX (Str.ofString "bisect_right") bisCR L a ccd []) E)
   (hret : ∀ (n : Nat) t h' tk t2 mo, bis true k x (hi - l0) l0 hi = .ok n → Fr h₀ L h' (fun y => if y = Str.ofString "mid" then mo else List.lookup y [(Str.ofString "lo", .int n t), (Str.ofString "hi", t2), (Str.ofString "a", .ref ra), (Str.ofString "x", .int x tx), (Str.ofString "key", kv)]) → News h₀ L h' news → Q .next { s with heap := h', toks := tk })
   (hexc : ∀ ek r t1 g₂ e t h' tk m', bis true k x (hi - l0) l0 hi = .error (ek, r) → Fr h₀ L g₂ m' → RaisedS base g₂ ((envX (Str.ofString "bisect_right") bisCR L a ccd []) :: outer) e (clsOf ek) t [.str r t1] news h' → RaisedK base ((envX (Str.ofString "bisect_right") bisCR L a ccd []) :: outer) e (clsOf ek) t [.str r t1] news h' → g₂.UpToSlots h' → E (.ref e) { s with heap := h', toks := tk }) :
   wpAny (model PySem.Challenge.rw_pm0034_01.row.prog w) (ktrTop dp un gd (Str.ofString "bisect_right") bisCR L a ccd [] outer) (exec bisIR (envX (Str.ofString "bisect_right") bisCR L a ccd [])) Q E s := by
  walk_at "M fill"
  show wpAny _ (ktrTop _ _ _ _ (Scope.mk _ _ _ _ _) _ _ _ _ _) (exec (Stmt.If _ _ _ _) (envX _ (Scope.mk _ _ _ _ _) _ _ _ _)) _ _ _
  rcases hrow with ⟨ys, hS, rfl, rfl, rfl, h640⟩ | ⟨ns, hS, rfl, rfl, rfl⟩
  · skip
    k_steps
    refine Hold.out ?_
    (with_reducible rename Fr _ _ _ _ => kF)
    refine' while_fr (fun i : Nat × Nat × Tok × Tok × Option Value => i.2.1 - i.1) (fun i => i.2.1 ≤ ys.length ∧ bis true (fun i => p229 (ys.getD i Str.empty)) x (hi - l0) l0 hi = bis true (fun i => p229 (ys.getD i Str.empty)) x (i.2.1 - i.1) i.1 i.2.1)
      (fun i y => if y = Str.ofString "mid" then i.2.2.2.2 else List.lookup y [(Str.ofString "lo", .int i.1 i.2.2.1), (Str.ofString "hi", .int i.2.1 i.2.2.2.1), (Str.ofString "a", .ref ra), (Str.ofString "x", .int x tx), (Str.ofString "key", .ref 108)])
      (fun _ => news) (l0, hi, tl, th, none) [Str.ofString "lo", Str.ofString "hi", Str.ofString "mid", Str.ofString "a", Str.ofString "x", Str.ofString "key"] kF (by with_reducible assumption) ⟨hhi, rfl⟩ ?m1_1 ?m2_1 (fun _ q => q) ?step_1 ?hE_1
    case m1_1 => walk_at "M map1"
    case m2_1 => walk_at "M map2"
    case hE_1 => exact hE
    clear kF
    rintro ⟨l1, h1, t1, t2, mo⟩ h tk ⟨hh1, hb1⟩ kF1 kN1
    dsimp only at hh1 hb1 kF1 kN1
    k_steps
    · refine' whlFr_next (l1, (l1 + h1) / 2, _, _, _) [Str.ofString "lo", Str.ofString "hi", Str.ofString "mid", Str.ofString "a", Str.ofString "x", Str.ofString "key"] (by with_reducible assumption) (by with_reducible assumption) ?mu_1 ?c_1 ?m1_1 ?m2_1 (fun _ q => q)
      case mu_1 => dsimp only; omega
      case c_1 => exact ⟨by dsimp only; omega, hb1.trans (bisR_hi (k := (fun i => p229 (ys.getD i Str.empty))) (by assumption) (by assumption) (by assumption))⟩
      case m1_1 => walk_at "M map1"
      case m2_1 => walk_at "M map2"
    · refine' whlFr_next ((l1 + h1) / 2 + 1, h1, _, _, _) [Str.ofString "lo", Str.ofString "hi", Str.ofString "mid", Str.ofString "a", Str.ofString "x", Str.ofString "key"] (by with_reducible assumption) (by with_reducible assumption) ?mu_1 ?c_1 ?m1_1 ?m2_1 (fun _ q => q)
      case mu_1 => dsimp only; omega
      case c_1 => exact ⟨hh1, hb1.trans (bisR_lo (k := (fun i => p229 (ys.getD i Str.empty))) (by assumption) (by assumption) (by assumption))⟩
      case m1_1 => walk_at "M map1"
      case m2_1 => walk_at "M map2"
    · (show E _ _)
      exact hexc _ _ _ _ _ _ _ _ _ (hb1.trans (bis_err (k := (fun i => p229 (ys.getD i Str.empty))) (by assumption) (by assumption))) (by assumption) (by assumption) (by assumption) (by assumption)
    · (show Q _ _)
      exact hret _ _ _ _ _ _ (hb1.trans (bis_end (by assumption))) (by with_reducible assumption) (by assumption)
  · skip
    k_steps
    refine Hold.out ?_
    (with_reducible rename Fr _ _ _ _ => kF)
    refine' while_fr (fun i : Nat × Nat × Tok × Tok × Option Value => i.2.1 - i.1) (fun i => i.2.1 ≤ ns.length ∧ bis true (fun i => .ok (ns.getD i 0)) x (hi - l0) l0 hi = bis true (fun i => .ok (ns.getD i 0)) x (i.2.1 - i.1) i.1 i.2.1)
      (fun i y => if y = Str.ofString "mid" then i.2.2.2.2 else List.lookup y [(Str.ofString "lo", .int i.1 i.2.2.1), (Str.ofString "hi", .int i.2.1 i.2.2.2.1), (Str.ofString "a", .ref ra), (Str.ofString "x", .int x tx), (Str.ofString "key", .none)])
      (fun _ => news) (l0, hi, tl, th, none) [Str.ofString "lo", Str.ofString "hi", Str.ofString "mid", Str.ofString "a", Str.ofString "x", Str.ofString "key"] kF (by with_reducible assumption) ⟨hhi, rfl⟩ ?m1_2 ?m2_2 (fun _ q => q) ?step_2 ?hE_2
    case m1_2 => walk_at "M map1"
    case m2_2 => walk_at "M map2"
    case hE_2 => exact hE
    clear kF
    rintro ⟨l1, h1, t1, t2, mo⟩ h tk ⟨hh1, hb1⟩ kF1 kN1
    dsimp only at hh1 hb1 kF1 kN1
    k_steps
    · refine' whlFr_next (l1, (l1 + h1) / 2, _, _, _) [Str.ofString "lo", Str.ofString "hi", Str.ofString "mid", Str.ofString "a", Str.ofString "x", Str.ofString "key"] (by with_reducible assumption) (by with_reducible assumption) ?mu_2 ?c_2 ?m1_2 ?m2_2 (fun _ q => q)
      case mu_2 => dsimp only; omega
      case c_2 => exact ⟨by dsimp only; omega, hb1.trans (bisR_hi (k := (fun i => .ok (ns.getD i 0))) (by assumption) rfl (by assumption))⟩
      case m1_2 => walk_at "M map1"
      case m2_2 => walk_at "M map2"
    · refine' whlFr_next ((l1 + h1) / 2 + 1, h1, _, _, _) [Str.ofString "lo", Str.ofString "hi", Str.ofString "mid", Str.ofString "a", Str.ofString "x", Str.ofString "key"] (by with_reducible assumption) (by with_reducible assumption) ?mu_2 ?c_2 ?m1_2 ?m2_2 (fun _ q => q)
      case mu_2 => dsimp only; omega
      case c_2 => exact ⟨hh1, hb1.trans (bisR_lo (k := (fun i => .ok (ns.getD i 0))) (by assumption) rfl (by assumption))⟩
      case m1_2 => walk_at "M map1"
      case m2_2 => walk_at "M map2"
    · (show Q _ _)
      exact hret _ _ _ _ _ _ (hb1.trans (bis_end (by assumption))) (by with_reducible assumption) (by assumption)
end
section
variable {w : World} {p : Program} {loose : List PStr} {mean : ExcName → Option Value} {mg mb : PStr → Option Value}
    {dp un : Nat} {gd : Option (List Code)} {a : Addr} {ccd : Value} {outer : List Env} {A₀ : Around} {base h₀ : Heap} {L : Addr}
    {s : Shared} {news : Ldg}
    (B : Below A₀ base outer h₀) (X : (KK.heap_1 w.params).In h₀) (T : Top p loose mean mg mb h₀) (XB : (KK.heap_1 w.params).In base) (TB : Top p loose mean mg mb base) (D : KtsDicts (outer.filterMap (·.frame)) h₀)
include B X T XB TB D
theorem bisL_if {Q : Flow → Shared → Prop} {E : Value → Shared → Prop} {ra : Addr} {vs : List Value} {k : Nat → KRes} {nn ep : Nat} {x : Int} {l0 hi : Nat} {kv : Value} {tx tl th : Tok} (hd5 : dp + 18 < recursionLimit) (hu5 : un + 80 < cLine)
   (F : Fr h₀ L s.heap (fun y => List.lookup y [(Str.ofString "lo", .int l0 tl), (Str.ofString "hi", .int hi th), (Str.ofString "a", .ref ra), (Str.ofString "x", .int x tx), (Str.ofString "key", kv)])) (N : News h₀ L s.heap news)
   (hra : (ra, lstOf vs ep) ∈ news) (hrow : RowIs 108 kv vs k nn) (hl : nn ≤ 1000) (hhi : hi ≤ nn) (hv0 : ∀ msg, bis false k x (hi - l0) l0 hi ≠ .error (.value, msg)) (hE : PassesOwn (model PySem.Challenge.rw_pm0034_01.row.prog w) (ktrTop dp un gd (Str.ofString "bisect_left") bisCL L a ccd [] outer) (envX (Str.ofString "bisect_left") bisCL L a ccd []) E)
   (hret : ∀ (n : Nat) t h' tk t2 mo, bis false k x (hi - l0) l0 hi = .ok n → Fr h₀ L h' (fun y => if y = Str.ofString "mid" then mo else List.lookup y [(Str.ofString "lo", .int n t), (Str.ofString "hi", t2), (Str.ofString "a", .ref ra), (Str.ofString "x", .int x tx), (Str.ofString "key", kv)]) → News h₀ L h' news → Q .next { s with heap := h', toks := tk })
   (hexc : ∀ ek r t1 g₂ e t h' tk m', bis false k x (hi - l0) l0 hi = .error (ek, r) → Fr h₀ L g₂ m' → RaisedS base g₂ ((envX (Str.ofString "bisect_left") bisCL L a ccd []) :: outer) e (clsOf ek) t [.str r t1] news h' → RaisedK base ((envX (Str.ofString "bisect_left") bisCL L a ccd []) :: outer) e (clsOf ek) t [.str r t1] news h' → g₂.UpToSlots h' → E (.ref e) { s with heap := h', toks := tk }) :
   wpAny (model PySem.Challenge.rw_pm0034_01.row.prog w) (ktrTop dp un gd (Str.ofString "bisect_left") bisCL L a ccd [] outer) (exec bisIL (envX (Str.ofString "bisect_left") bisCL L a ccd [])) Q E s := by
  walk_at "M fill"
  show wpAny _ (ktrTop _ _ _ _ (Scope.mk _ _ _ _ _) _ _ _ _ _) (exec (Stmt.If _ _ _ _) (envX _ (Scope.mk _ _ _ _ _) _ _ _ _)) _ _ _
  rcases hrow with ⟨ys, hS, rfl, rfl, rfl, h640⟩ | ⟨ns, hS, rfl, rfl, rfl⟩
  · skip
    k_steps
    refine Hold.out ?_
    (with_reducible rename Fr _ _ _ _ => kF)
    refine' while_fr (fun i : Nat × Nat × Tok × Tok × Option Value => i.2.1 - i.1) (fun i => i.2.1 ≤ ys.length ∧ bis false (fun i => p229 (ys.getD i Str.empty)) x (hi - l0) l0 hi = bis false (fun i => p229 (ys.getD i Str.empty)) x (i.2.1 - i.1) i.1 i.2.1)
      (fun i y => if y = Str.ofString "mid" then i.2.2.2.2 else List.lookup y [(Str.ofString "lo", .int i.1 i.2.2.1), (Str.ofString "hi", .int i.2.1 i.2.2.2.1), (Str.ofString "a", .ref ra), (Str.ofString "x", .int x tx), (Str.ofString "key", .ref 108)])
      (fun _ => news) (l0, hi, tl, th, none) [Str.ofString "lo", Str.ofString "hi", Str.ofString "mid", Str.ofString "a", Str.ofString "x", Str.ofString "key"] kF (by with_reducible assumption) ⟨hhi, rfl⟩ ?m1_3 ?m2_3 (fun _ q => q) ?step_3 ?hE_3
    case m1_3 => walk_at "M map1"
    case m2_3 => walk_at "M map2"
    case hE_3 => exact hE
    clear kF
    rintro ⟨l1, h1, t1, t2, mo⟩ h tk ⟨hh1, hb1⟩ kF1 kN1
    dsimp only at hh1 hb1 kF1 kN1
    k_steps
    · refine' whlFr_next ((l1 + h1) / 2 + 1, h1, _, _, _) [Str.ofString "lo", Str.ofString "hi", Str.ofString "mid", Str.ofString "a", Str.ofString "x", Str.ofString "key"] (by with_reducible assumption) (by with_reducible assumption) ?mu_3 ?c_3 ?m1_3 ?m2_3 (fun _ q => q)
      case mu_3 => dsimp only; omega
      case c_3 => exact ⟨hh1, hb1.trans (bisL_lo (k := (fun i => p229 (ys.getD i Str.empty))) (by assumption) (by assumption) (by assumption))⟩
      case m1_3 => walk_at "M map1"
      case m2_3 => walk_at "M map2"
    · refine' whlFr_next (l1, (l1 + h1) / 2, _, _, _) [Str.ofString "lo", Str.ofString "hi", Str.ofString "mid", Str.ofString "a", Str.ofString "x", Str.ofString "key"] (by with_reducible assumption) (by with_reducible assumption) ?mu_3 ?c_3 ?m1_3 ?m2_3 (fun _ q => q)
      case mu_3 => dsimp only; omega
      case c_3 => exact ⟨by dsimp only; omega, hb1.trans (bisL_hi (k := (fun i => p229 (ys.getD i Str.empty))) (by assumption) (by assumption) (by assumption))⟩
      case m1_3 => walk_at "M map1"
      case m2_3 => walk_at "M map2"
    · (show E _ _)
      exact hexc _ _ _ _ _ _ _ _ _ (hb1.trans (bis_err (k := (fun i => p229 (ys.getD i Str.empty))) (by assumption) (by assumption))) (by assumption) (by assumption) (by assumption) (by assumption)
    · (show Q _ _)
      exact hret _ _ _ _ _ _ (hb1.trans (bis_end (by assumption))) (by with_reducible assumption) (by assumption)
  · skip
    k_steps
    refine Hold.out ?_
    (with_reducible rename Fr _ _ _ _ => kF)
    refine' while_fr (fun i : Nat × Nat × Tok × Tok × Option Value => i.2.1 - i.1) (fun i => i.2.1 ≤ ns.length ∧ bis false (fun i => .ok (ns.getD i 0)) x (hi - l0) l0 hi = bis false (fun i => .ok (ns.getD i 0)) x (i.2.1 - i.1) i.1 i.2.1)
      (fun i y => if y = Str.ofString "mid" then i.2.2.2.2 else List.lookup y [(Str.ofString "lo", .int i.1 i.2.2.1), (Str.ofString "hi", .int i.2.1 i.2.2.2.1), (Str.ofString "a", .ref ra), (Str.ofString "x", .int x tx), (Str.ofString "key", .none)])
      (fun _ => news) (l0, hi, tl, th, none) [Str.ofString "lo", Str.ofString "hi", Str.ofString "mid", Str.ofString "a", Str.ofString "x", Str.ofString "key"] kF (by with_reducible assumption) ⟨hhi, rfl⟩ ?m1_4 ?m2_4 (fun _ q => q) ?step_4 ?hE_4
    case m1_4 => walk_at "M map1"
    case m2_4 => walk_at "M map2"
    case hE_4 => exact hE
    clear kF
    rintro ⟨l1, h1, t1, t2, mo⟩ h tk ⟨hh1, hb1⟩ kF1 kN1
    dsimp only at hh1 hb1 kF1 kN1
    k_steps
    · refine' whlFr_next ((l1 + h1) / 2 + 1, h1, _, _, _) [Str.ofString "lo", Str.ofString "hi", Str.ofString "mid", Str.ofString "a", Str.ofString "x", Str.ofString "key"] (by with_reducible assumption) (by with_reducible assumption) ?mu_4 ?c_4 ?m1_4 ?m2_4 (fun _ q => q)
      case mu_4 => dsimp only; omega
      case c_4 => exact ⟨hh1, hb1.trans (bisL_lo (k := (fun i => .ok (ns.getD i 0))) (by assumption) rfl (by assumption))⟩
      case m1_4 => walk_at "M map1"
      case m2_4 => walk_at "M map2"
    · refine' whlFr_next (l1, (l1 + h1) / 2, _, _, _) [Str.ofString "lo", Str.ofString "hi", Str.ofString "mid", Str.ofString "a", Str.ofString "x", Str.ofString "key"] (by with_reducible assumption) (by with_reducible assumption) ?mu_4 ?c_4 ?m1_4 ?m2_4 (fun _ q => q)
      case mu_4 => dsimp only; omega
      case c_4 => exact ⟨by dsimp only; omega, hb1.trans (bisL_hi (k := (fun i => .ok (ns.getD i 0))) (by assumption) rfl (by assumption))⟩
      case m1_4 => walk_at "M map1"
      case m2_4 => walk_at "M map2"
    · (show Q _ _)
      exact hret _ _ _ _ _ _ (hb1.trans (bis_end (by assumption))) (by with_reducible assumption) (by assumption)
end
end
section
theorem lines_CY_0 : True := by
  walk_at "base"
  k_with "M map2" => (first
    | (refine SameOut.both (b := fun _ => none) ?_ ?_ <;> (repeat (refine SameOut.upd ?_ (by with_unfolding_all rfl))) <;> exact SameOut.lookup rfl)
    | (refine' SameOut.both (b := ?kb) ?k1 ?k2; (case k1 => ((repeat (refine SameOut.upd ?_ (by with_unfolding_all rfl))); exact SameOut.refl)); (case k2 => ((repeat (refine SameOut.upd ?_ (by with_unfolding_all rfl))); exact SameOut.refl)))
    | (refine' SameOut.both (b := ?kb) ?k1 ?k2; (case k2 => ((repeat (refine SameOut.upd ?_ (by with_unfolding_all rfl))); exact SameOut.refl)); (case k1 => ((repeat (refine SameOut.skip ?_)); (repeat (refine SameOut.upd ?_ (by with_unfolding_all rfl))); exact SameOut.refl)))
    | (intro y hy; (repeat (refine (if_neg (ne_of_out hy (by with_unfolding_all rfl))).trans ?_)); (refine Eq.symm ?_); (repeat (refine (if_neg (ne_of_out hy (by with_unfolding_all rfl))).trans ?_)); first | rfl | exact lookup_out rfl hy | exact (lookup_out rfl hy).symm | exact (lookup_out rfl hy).trans (lookup_out rfl hy).symm))
  trivial
theorem lines_CY_1 : True := by
  k_with "subscriptTail Name Constant ref int" => ((k_here; refine item_tupleT (News.isTup (by assumption) (by k_mem)) (by decide) (by decide) (by rfl) (by rfl) ?_))
  k_with "subscriptTail Name Constant ref int" => ((k_here; (with_reducible rename StrsAre _ _ => hSA); refine item_strsA (News.isList (by assumption) (by k_mem)) hSA (by decide) (by first | omega | (simp only [List.length_map]; omega)) (by decide) ?_; intro t'))
  k_with "call type:ValueError" => ((refine call_ValueError_made ?_; intro _ _ _))
  k_with "exec While Compare Name cons nil" => (refine Hold.mk ?_)
  k_with "exec While Compare" => (refine Hold.mk ?_)
  k_with "exec While Compare cons nil" => (refine Hold.mk ?_)
  k_with "exec While" => (refine Hold.mk ?_)
  k_with "binaryOp FloorDiv int int" => ((k_here; (with_reducible refine floordiv_pos ?kb1 ?kb2 ?_); (case kb1 => decide); (case kb2 => decide +kernel)))
  k_with "WhlIf" => ((refine whlIf_dec ?_ ?_ <;> intro _))
  k_with "subscriptTail Name Name ref int" => ((k_here; first
    | ((with_reducible rename StrsAre _ _ => hSA); refine item_strsA (News.isList (by assumption) (by k_mem)) hSA (by omega) (by omega) (by omega) ?_; intro t')
    | ((with_reducible rename IntsAre _ _ => hSA); refine item_intsA (News.isList (by assumption) (by k_mem)) hSA (by omega) (by omega) (by omega) ?_; intro t')))
  k_with "call builtin:len" => ((k_here; (with_reducible show wpAny _ _ (call (Value.builtin "len") [Value.ref _]) _ _ _); first
    | ((with_reducible rename StrsAre _ _ => hSA); refine len_strsA (News.isList (by assumption) (by k_mem)) hSA (by omega) ?_)
    | ((with_reducible rename IntsAre _ _ => hSA); refine len_intsA (News.isList (by assumption) (by k_mem)) hSA (by omega) ?_)))
  k_with "call ref" => (((with_reducible show wpAny _ _ (call (Value.ref 108) _) _ _ _); refine' port_spec ?kB ?kX ?kT ?kXB ?kTB ?kD ?kh ?kd ?ku ?kF ?kN ?k6 ?kv ?_ ?_; (case kB => assumption); (case kX => assumption); (case kT => assumption); (case kXB => assumption); (case kTB => assumption); (case kD => assumption); (case kh => rfl); (case kd => ((try dsimp only); omega)); (case ku => ((try dsimp only); omega)); (case kF => with_reducible assumption); (case kN => with_reducible assumption); (case k6 => first | exact getD_640 (by assumption) _ | assumption); (case kv => first | assumption | (have q := bis_nv (by assumption) (by assumption) (by assumption); exact q) | (have q := bis_nv ((by assumption : 0 ≤ _ → ∀ msg, _ ≠ _) (by omega)) (by assumption) (by assumption); exact q))))
  k_with "call builtin:len" => ((k_here; (with_reducible show wpAny _ _ (call (Value.builtin "len") [Value.ref _]) _ _ _); k_dflt (refine' len_L ?kN ?kM ?kz ?_; (case kN => with_reducible assumption); (case kM => k_mem); (case kz => omega))))
  k_with "exec If" => (((with_reducible show wpAny _ _ (exec (Stmt.If (Expr.Compare (Expr.Name (Str.ofString "key") _) _ _ _) _ _ _) _) _ _ _); refine Hold.mk ?_))
  trivial
section
variable {w : World} {p : Program} {loose : List PStr} {mean : ExcName → Option Value} {mg mb : PStr → Option Value}
    {dp un : Nat} {gd : Option (List Code)} {a : Addr} {ccd : Value} {outer : List Env} {A₀ : Around} {base h₀ : Heap} {L : Addr}
    {s : Shared} {news : Ldg}
    (B : Below A₀ base outer h₀) (X : (KK.heap_1 w.params).In h₀) (T : Top p loose mean mg mb h₀) (XB : (KK.heap_1 w.params).In base) (TB : Top p loose mean mg mb base) (D : KtsDicts (outer.filterMap (·.frame)) h₀)
include B X T XB TB D
theorem bisR_body {Q : Flow → Shared → Prop} {E : Value → Shared → Prop} {ra : Addr} {vs : List Value} {k : Nat → KRes} {nn ep : Nat} {x lo : Int} {hi : Nat} {kv hv : Value} {tx tl : Tok} (hd5 : dp + 18 < recursionLimit) (hu5 : un + 80 < cLine)
   (F : Fr h₀ L s.heap (fun y => List.lookup y [(Str.ofString "a", .ref ra), (Str.ofString "x", .int x tx), (Str.ofString "lo", .int lo tl), (Str.ofString "hi", hv), (Str.ofString "key", kv)])) (N : News h₀ L s.heap news)
   (hra : (ra, lstOf vs ep) ∈ news) (hrow : RowIs 108 kv vs k nn) (hl : nn ≤ 1000) (hhi : HiIs hv hi nn) (hv0 : 0 ≤ lo → ∀ msg, bisZ true k x lo hi ≠ .error (.value, msg)) (hE : PassesOwn (model PySem.Challenge.rw_pm0034_01.row.prog w) (ktrTop dp un gd (Str.ofString "bisect_right") bisCR L a ccd [] outer) (envX (Str.ofString "bisect_right") bisCR L a ccd []) E)
   (hret : ∀ (n : Nat) t h' tk m', bisZ true k x lo hi = .ok n → Fr h₀ L h' m' → News h₀ L h' news → Q (.ret (.int n t)) { s with heap := h', toks := tk })
   (hneg : lo < 0 → ∀ h' e t tk, s.heap.MadeExc h' e "ValueError" [.str negMsg t] → E (.ref e) { s with heap := h', toks := tk })
   (hexc : ∀ ek r t1 g₂ e t h' tk m', bisZ true k x lo hi = .error (ek, r) → Fr h₀ L g₂ m' → RaisedS base g₂ ((envX (Str.ofString "bisect_right") bisCR L a ccd []) :: outer) e (clsOf ek) t [.str r t1] news h' → RaisedK base ((envX (Str.ofString "bisect_right") bisCR L a ccd []) :: outer) e (clsOf ek) t [.str r t1] news h' → g₂.UpToSlots h' → E (.ref e) { s with heap := h', toks := tk }) :
   wpAny (model PySem.Challenge.rw_pm0034_01.row.prog w) (ktrTop dp un gd (Str.ofString "bisect_right") bisCR L a ccd [] outer) (execs bisSR (envX (Str.ofString "bisect_right") bisCR L a ccd [])) Q E s := by
  walk_at "M fill"
  have hrl := hrow.length
  show wpAny _ (ktrTop _ _ _ _ (Scope.mk _ _ _ _ _) _ _ _ _ _) (execs (_ :: _) (envX _ (Scope.mk _ _ _ _ _) _ _ _ _)) _ _ _
  subst hrl
  rcases hhi with ⟨rfl, rfl⟩ | ⟨th, rfl, hhi⟩
  · k_steps
    · (show E _ _)
      exact hneg (by assumption) _ _ _ _ (by assumption)
    obtain ⟨l0, rfl⟩ := nat_of (by assumption)
    refine Hold.out ?_
    refine' bisR_if (l0 := l0) (hi := vs.length) B X T XB TB D hd5 hu5 (fr_map [Str.ofString "lo", Str.ofString "hi", Str.ofString "mid", Str.ofString "a", Str.ofString "x", Str.ofString "key"] ?kF_5 ?m1_5 ?m2_5) ?kN_5 hra hrow hl (Nat.le_refl _) (fun msg e => hv0 (Int.natCast_nonneg _) msg (bisZ_nat.trans e)) hE ?ret_5 (fun ek r t1 g₂ e t h' tk m' hb => hexc ek r t1 g₂ e t h' tk m' (bisZ_nat.trans hb))
    case kF_5 => with_reducible assumption
    case m1_5 => walk_at "M map1"
    case m2_5 => walk_at "M map2"
    case kN_5 => with_reducible assumption
    case' ret_5 =>
      intro n t h1 tk t2 mo hb F1 N1
      k_steps
      (show Q _ _)
      exact hret _ _ _ _ _ (bisZ_nat.trans hb) (by with_reducible assumption) (by with_reducible assumption)
  · k_steps
    · (show E _ _)
      exact hneg (by assumption) _ _ _ _ (by assumption)
    obtain ⟨l0, rfl⟩ := nat_of (by assumption)
    refine Hold.out ?_
    refine' bisR_if (l0 := l0) (hi := hi) B X T XB TB D hd5 hu5 (fr_map [Str.ofString "lo", Str.ofString "hi", Str.ofString "mid", Str.ofString "a", Str.ofString "x", Str.ofString "key"] ?kF_6 ?m1_6 ?m2_6) ?kN_6 hra hrow hl hhi (fun msg e => hv0 (Int.natCast_nonneg _) msg (bisZ_nat.trans e)) hE ?ret_6 (fun ek r t1 g₂ e t h' tk m' hb => hexc ek r t1 g₂ e t h' tk m' (bisZ_nat.trans hb))
    case kF_6 => with_reducible assumption
    case m1_6 => walk_at "M map1"
    case m2_6 => walk_at "M map2"
    case kN_6 => with_reducible assumption
    case' ret_6 =>
      intro n t h1 tk t2 mo hb F1 N1
      k_steps
      (show Q _ _)
      exact hret _ _ _ _ _ (bisZ_nat.trans hb) (by with_reducible assumption) (by with_reducible assumption)
end
section
variable {w : World} {p : Program} {loose : List PStr} {mean : ExcName → Option Value} {mg mb : PStr → Option Value}
    {dp un : Nat} {gd : Option (List Code)} {a : Addr} {ccd : Value} {outer : List Env} {A₀ : Around} {base h₀ : Heap} {L : Addr}
    {s : Shared} {news : Ldg}
    (B : Below A₀ base outer h₀) (X : (KK.heap_1 w.params).In h₀) (T : Top p loose mean mg mb h₀) (XB : (KK.heap_1 w.params).In base) (TB : Top p loose mean mg mb base) (D : KtsDicts (outer.filterMap (·.frame)) h₀)
include B X T XB TB D
theorem bisL_body {Q : Flow → Shared → Prop} {E : Value → Shared → Prop} {ra : Addr} {vs : List Value} {k : Nat → KRes} {nn ep : Nat} {x lo : Int} {hi : Nat} {kv hv : Value} {tx tl : Tok} (hd5 : dp + 18 < recursionLimit) (hu5 : un + 80 < cLine)
   (F : Fr h₀ L s.heap (fun y => List.lookup y [(Str.ofString "a", .ref ra), (Str.ofString "x", .int x tx), (Str.ofString "lo", .int lo tl), (Str.ofString "hi", hv), (Str.ofString "key", kv)])) (N : News h₀ L s.heap news)
   (hra : (ra, lstOf vs ep) ∈ news) (hrow : RowIs 108 kv vs k nn) (hl : nn ≤ 1000) (hhi : HiIs hv hi nn) (hv0 : 0 ≤ lo → ∀ msg, bisZ false k x lo hi ≠ .error (.value, msg)) (hE : PassesOwn (model PySem.Challenge.rw_pm0034_01.row.prog w) (ktrTop dp un gd (Str.ofString "bisect_left") bisCL L a ccd [] outer) (envX (Str.ofString "bisect_left") bisCL L a ccd []) E)
   (hret : ∀ (n : Nat) t h' tk m', bisZ false k x lo hi = .ok n → Fr h₀ L h' m' → News h₀ L h' news → Q (.ret (.int n t)) { s with heap := h', toks := tk })
   (hneg : lo < 0 → ∀ h' e t tk, s.heap.MadeExc h' e "ValueError" [.str negMsg t] → E (.ref e) { s with heap := h', toks := tk })
   (hexc : ∀ ek r t1 g₂ e t h' tk m', bisZ false k x lo hi = .error (ek, r) → Fr h₀ L g₂ m' → RaisedS base g₂ ((envX (Str.ofString "bisect_left") bisCL L a ccd []) :: outer) e (clsOf ek) t [.str r t1] news h' → RaisedK base ((envX (Str.ofString "bisect_left") bisCL L a ccd []) :: outer) e (clsOf ek) t [.str r t1] news h' → g₂.UpToSlots h' → E (.ref e) { s with heap := h', toks := tk }) :
   wpAny (model PySem.Challenge.rw_pm0034_01.row.prog w) (ktrTop dp un gd (Str.ofString "bisect_left") bisCL L a ccd [] outer) (execs bisSL (envX (Str.ofString "bisect_left") bisCL L a ccd [])) Q E s := by
  walk_at "M fill"
  have hrl := hrow.length
  show wpAny _ (ktrTop _ _ _ _ (Scope.mk _ _ _ _ _) _ _ _ _ _) (execs (_ :: _) (envX _ (Scope.mk _ _ _ _ _) _ _ _ _)) _ _ _
  subst hrl
  rcases hhi with ⟨rfl, rfl⟩ | ⟨th, rfl, hhi⟩
  · k_steps
    · (show E _ _)
      exact hneg (by assumption) _ _ _ _ (by assumption)
    obtain ⟨l0, rfl⟩ := nat_of (by assumption)
    refine Hold.out ?_
    refine' bisL_if (l0 := l0) (hi := vs.length) B X T XB TB D hd5 hu5 (fr_map [Str.ofString "lo", Str.ofString "hi", Str.ofString "mid", Str.ofString "a", Str.ofString "x", Str.ofString "key"] ?kF_7 ?m1_7 ?m2_7) ?kN_7 hra hrow hl (Nat.le_refl _) (fun msg e => hv0 (Int.natCast_nonneg _) msg (bisZ_nat.trans e)) hE ?ret_7 (fun ek r t1 g₂ e t h' tk m' hb => hexc ek r t1 g₂ e t h' tk m' (bisZ_nat.trans hb))
    case kF_7 => with_reducible assumption
    case m1_7 => walk_at "M map1"
    case m2_7 => walk_at "M map2"
    case kN_7 => with_reducible assumption
    case' ret_7 =>
      intro n t h1 tk t2 mo hb F1 N1
      k_steps
      (show Q _ _)
      exact hret _ _ _ _ _ (bisZ_nat.trans hb) (by with_reducible assumption) (by with_reducible assumption)
  · k_steps
    · (show E _ _)
      exact hneg (by assumption) _ _ _ _ (by assumption)
    obtain ⟨l0, rfl⟩ := nat_of (by assumption)
    refine Hold.out ?_
    refine' bisL_if (l0 := l0) (hi := hi) B X T XB TB D hd5 hu5 (fr_map [Str.ofString "lo", Str.ofString "hi", Str.ofString "mid", Str.ofString "a", Str.ofString "x", Str.ofString "key"] ?kF_8 ?m1_8 ?m2_8) ?kN_8 hra hrow hl hhi (fun msg e => hv0 (Int.natCast_nonneg _) msg (bisZ_nat.trans e)) hE ?ret_8 (fun ek r t1 g₂ e t h' tk m' hb => hexc ek r t1 g₂ e t h' tk m' (bisZ_nat.trans hb))
    case kF_8 => with_reducible assumption
    case m1_8 => walk_at "M map1"
    case m2_8 => walk_at "M map2"
    case kN_8 => with_reducible assumption
    case' ret_8 =>
      intro n t h1 tk t2 mo hb F1 N1
      k_steps
      (show Q _ _)
      exact hret _ _ _ _ _ (bisZ_nat.trans hb) (by with_reducible assumption) (by with_reducible assumption)
end
end
section
theorem lines_C1_0 : True := by
  walk_at "base"
  k_with "M map2" => (first
    | (refine SameOut.both (b := fun _ => none) ?_ ?_ <;> (repeat (refine SameOut.upd ?_ (by with_unfolding_all rfl))) <;> exact SameOut.lookup rfl)
    | (refine' SameOut.both (b := ?kb) ?k1 ?k2; (case k1 => ((repeat (refine SameOut.upd ?_ (by with_unfolding_all rfl))); exact SameOut.refl)); (case k2 => ((repeat (refine SameOut.upd ?_ (by with_unfolding_all rfl))); exact SameOut.refl)))
    | (refine' SameOut.both (b := ?kb) ?k1 ?k2; (case k2 => ((repeat (refine SameOut.upd ?_ (by with_unfolding_all rfl))); exact SameOut.refl)); (case k1 => ((repeat (refine SameOut.skip ?_)); (repeat (refine SameOut.upd ?_ (by with_unfolding_all rfl))); exact SameOut.refl)))
    | (intro y hy; (repeat (refine (if_neg (ne_of_out hy (by with_unfolding_all rfl))).trans ?_)); (refine Eq.symm ?_); (repeat (refine (if_neg (ne_of_out hy (by with_unfolding_all rfl))).trans ?_)); first | rfl | exact lookup_out rfl hy | exact (lookup_out rfl hy).symm | exact (lookup_out rfl hy).trans (lookup_out rfl hy).symm))
  k_with "M enter" => ((
    refine wpAny_call ?_
    k_dflt (refine' code_def ?k1 ?k2 ?k3 ?k4 ?k5 ?kA ?kF ?kK ?k6 ?k7 ?k8 ?k9 ?kB ?_ ?c2 ?c3 ?c4 ?c5; (case kA => exact rfl); (case kF => exact rfl); (case kK => assumption); (case k1 => k_asm); (case k2 => k_asm); (case k3 => k_asm); (case k4 => k_asm); (case k5 => k_asm); (case k6 => k_is); (case k7 => k_is); (case k8 => ((try dsimp only); omega)); (case k9 => first | exact BindsTo.of_eq rfl | (refine' kp_binds ?kx ?ke; (case kx => first | (refine' myIn ?kf ?ki; (case kf => with_reducible assumption); (case ki => with_reducible assumption)) | k_in); (case ke => exact fun _ => rfl)) | exact binds_K (by first | (refine' myIn ?kf ?ki; (case kf => with_reducible assumption); (case ki => with_reducible assumption)) | k_in) rfl (by k_is) rfl rfl rfl); (case c5 => decide); (case kB => exact locs rfl); (case c2 => exact rfl); (case c3 => exact rfl); (case c4 => exact rfl); k_whole; intro g' L' h' FG' F' N' B' X' T'; (have D' := kts_dict B' (by assumption) FG' rfl); (try dsimp only); (try k_lift B'); (refine let_AE (f := execs _) ?_; intro vk ak); (refine f_QE ?_; intro qk ek))))
  trivial
theorem lines_C1_1 : True := by
  k_with "subscriptTail Name Constant ref int" => ((k_here; refine item_tupleT (News.isTup (by assumption) (by k_mem)) (by decide) (by decide) (by rfl) (by rfl) ?_))
  k_with "subscriptTail Name Constant ref int" => ((k_here; (with_reducible rename StrsAre _ _ => hSA); refine item_strsA (News.isList (by assumption) (by k_mem)) hSA (by decide) (by first | omega | (simp only [List.length_map]; omega)) (by decide) ?_; intro t'))
  k_with "call type:ValueError" => ((refine call_ValueError_made ?_; intro _ _ _))
  k_with "exec While Compare Name cons nil" => (refine Hold.mk ?_)
  k_with "exec While Compare" => (refine Hold.mk ?_)
  k_with "exec While Compare cons nil" => (refine Hold.mk ?_)
  k_with "exec While" => (refine Hold.mk ?_)
  k_with "binaryOp FloorDiv int int" => ((k_here; (with_reducible refine floordiv_pos ?kb1 ?kb2 ?_); (case kb1 => decide); (case kb2 => decide +kernel)))
  k_with "WhlIf" => ((refine whlIf_dec ?_ ?_ <;> intro _))
  k_with "subscriptTail Name Name ref int" => ((k_here; first
    | ((with_reducible rename StrsAre _ _ => hSA); refine item_strsA (News.isList (by assumption) (by k_mem)) hSA (by omega) (by omega) (by omega) ?_; intro t')
    | ((with_reducible rename IntsAre _ _ => hSA); refine item_intsA (News.isList (by assumption) (by k_mem)) hSA (by omega) (by omega) (by omega) ?_; intro t')))
  k_with "call builtin:len" => ((k_here; (with_reducible show wpAny _ _ (call (Value.builtin "len") [Value.ref _]) _ _ _); first
    | ((with_reducible rename StrsAre _ _ => hSA); refine len_strsA (News.isList (by assumption) (by k_mem)) hSA (by omega) ?_)
    | ((with_reducible rename IntsAre _ _ => hSA); refine len_intsA (News.isList (by assumption) (by k_mem)) hSA (by omega) ?_)))
  k_with "call ref" => (((with_reducible show wpAny _ _ (call (Value.ref 108) _) _ _ _); refine' port_spec ?kB ?kX ?kT ?kXB ?kTB ?kD ?kh ?kd ?ku ?kF ?kN ?k6 ?kv ?_ ?_; (case kB => assumption); (case kX => assumption); (case kT => assumption); (case kXB => assumption); (case kTB => assumption); (case kD => assumption); (case kh => rfl); (case kd => ((try dsimp only); omega)); (case ku => ((try dsimp only); omega)); (case kF => with_reducible assumption); (case kN => with_reducible assumption); (case k6 => first | exact getD_640 (by assumption) _ | assumption); (case kv => first | assumption | (have q := bis_nv (by assumption) (by assumption) (by assumption); exact q) | (have q := bis_nv ((by assumption : 0 ≤ _ → ∀ msg, _ ≠ _) (by omega)) (by assumption) (by assumption); exact q))))
  trivial
section
variable {w : World} {p : Program} {loose : List PStr} {mean : ExcName → Option Value} {mg mb : PStr → Option Value}
    {dp un : Nat} {gd : Option (List Code)} {cn : PStr} {cs : Scope} {a : Addr} {ccd : Value} {cl : List (PStr × Addr)} {outer : List Env} {A₀ : Around} {base h₀ : Heap} {L : Addr} {m : PStr → Option Value}
    {s : Shared} {Q E : Value → Shared → Prop} {news : Ldg}
    (B : Below A₀ base outer h₀) (X : (KK.heap_1 w.params).In h₀) (T : Top p loose mean mg mb h₀) (XB : (KK.heap_1 w.params).In base) (TB : Top p loose mean mg mb base) (D : KtsDicts (outer.filterMap (·.frame)) h₀) (hck : cs.kind = .function)
include B X T XB TB D hck
theorem bisR_full {ra : Addr} {vs : List Value} {k : Nat → KRes} {nn ep : Nat} {x : Int} {lo : Int} {hi : Nat} {kv hv : Value} {tx tl : Tok} (hd5 : dp + 20 < recursionLimit) (hu5 : un + 100 < cLine) (F : Fr h₀ L s.heap m) (N : News h₀ L s.heap news)
   (hra : (ra, lstOf vs ep) ∈ news) (hrow : RowIs 108 kv vs k nn) (hl : nn ≤ 1000) (hhi : HiIs hv hi nn) (hv0 : 0 ≤ lo → ∀ msg, bisZ true k x lo hi ≠ .error (.value, msg))
   (hret : ∀ n t h' tk, bisZ true k x lo hi = .ok n → Fr h₀ L h' m → News h₀ L h' news → Q (.int n t) { s with heap := h', toks := tk })
   (hexc : ∀ ek r t1 g₂ e t h' tk, bisZ true k x lo hi = .error (ek, r) → Fr h₀ L g₂ m → RaisedS base g₂ (envX cn cs L a ccd cl :: outer) e (clsOf ek) t [.str r t1] news h' → RaisedK base (envX cn cs L a ccd cl :: outer) e (clsOf ek) t [.str r t1] news h' → g₂.UpToSlots h' → E (.ref e) { s with heap := h', toks := tk }) :
   wpAny (model PySem.Challenge.rw_pm0034_01.row.prog w) (ktrTop dp un gd cn cs L a ccd cl outer) (call (.ref 32) [.ref ra, .int x tx, .int lo tl, hv] [(Str.ofString "key", kv)]) Q E s := by
  walk_at "M fill"
  walk_at "M enter"
  refine' bisR_body (hi := hi) ?kB ?kX ?kT ?kXB ?kTB ?kD ?kd ?ku (fr_map [Str.ofString "lo", Str.ofString "hi", Str.ofString "mid", Str.ofString "a", Str.ofString "x", Str.ofString "key"] ?kF_9 ?m1_9 ?m2_9) ?kN_9 hra hrow hl hhi hv0 ?hE ?ret_9 ?neg ?exc
  case kB => assumption
  case kX => assumption
  case kT => assumption
  case kXB => assumption
  case kTB => assumption
  case kD => assumption
  case kd => ((try dsimp only); omega)
  case ku => ((try dsimp only); omega)
  case kF_9 => with_reducible assumption
  case m1_9 => walk_at "M map1"
  case m2_9 => walk_at "M map2"
  case kN_9 => with_reducible assumption
  case hE => with_unfolding_all passes_own
  case' ret_9 =>
    intro n t h1 tk m1 hb F1 N1
    k_steps
    (show Q _ _)
    exact hret _ _ _ _ hb (by assumption) (by assumption)
  case' neg =>
    intro hl0 h1 e t tk hM
    k_steps
    (show E _ _)
    exact hexc _ _ _ _ _ _ _ _ (bisZ_neg hl0) (by assumption) (by assumption) (by assumption) (by assumption)
  case' exc =>
    intro ek r t1 g₂ e t h1 tk m1 hb F1 R1 R2 U1
    k_steps
    (show E _ _)
    exact hexc _ _ _ _ _ _ _ _ hb (by assumption) (by assumption) (by assumption) (by assumption)
end
section
variable {w : World} {p : Program} {loose : List PStr} {mean : ExcName → Option Value} {mg mb : PStr → Option Value}
    {dp un : Nat} {gd : Option (List Code)} {cn : PStr} {cs : Scope} {a : Addr} {ccd : Value} {cl : List (PStr × Addr)} {outer : List Env} {A₀ : Around} {base h₀ : Heap} {L : Addr} {m : PStr → Option Value}
    {s : Shared} {Q E : Value → Shared → Prop} {news : Ldg}
    (B : Below A₀ base outer h₀) (X : (KK.heap_1 w.params).In h₀) (T : Top p loose mean mg mb h₀) (XB : (KK.heap_1 w.params).In base) (TB : Top p loose mean mg mb base) (D : KtsDicts (outer.filterMap (·.frame)) h₀) (hck : cs.kind = .function)
include B X T XB TB D hck
theorem bisR_four {ra : Addr} {vs : List Value} {k : Nat → KRes} {nn ep : Nat} {x : Int} {lo : Int} {hi : Nat} {kv hv : Value} {tx tl : Tok} (hd5 : dp + 20 < recursionLimit) (hu5 : un + 100 < cLine) (F : Fr h₀ L s.heap m) (N : News h₀ L s.heap news)
   (hra : (ra, lstOf vs ep) ∈ news) (hrow : RowIs 108 kv vs k nn) (hkv : kv = .none) (hl : nn ≤ 1000) (hhi : HiIs hv hi nn) (hv0 : 0 ≤ lo → ∀ msg, bisZ true k x lo hi ≠ .error (.value, msg))
   (hret : ∀ n t h' tk, bisZ true k x lo hi = .ok n → Fr h₀ L h' m → News h₀ L h' news → Q (.int n t) { s with heap := h', toks := tk })
   (hexc : ∀ ek r t1 g₂ e t h' tk, bisZ true k x lo hi = .error (ek, r) → Fr h₀ L g₂ m → RaisedS base g₂ (envX cn cs L a ccd cl :: outer) e (clsOf ek) t [.str r t1] news h' → RaisedK base (envX cn cs L a ccd cl :: outer) e (clsOf ek) t [.str r t1] news h' → g₂.UpToSlots h' → E (.ref e) { s with heap := h', toks := tk }) :
   wpAny (model PySem.Challenge.rw_pm0034_01.row.prog w) (ktrTop dp un gd cn cs L a ccd cl outer) (call (.ref 32) [.ref ra, .int x tx, .int lo tl, hv] []) Q E s := by
  walk_at "M fill"
  subst hkv
  walk_at "M enter"
  refine' bisR_body (hi := hi) ?kB ?kX ?kT ?kXB ?kTB ?kD ?kd ?ku (fr_map [Str.ofString "lo", Str.ofString "hi", Str.ofString "mid", Str.ofString "a", Str.ofString "x", Str.ofString "key"] ?kF_10 ?m1_10 ?m2_10) ?kN_10 hra hrow hl hhi hv0 ?hE ?ret_10 ?neg ?exc
  case kB => assumption
  case kX => assumption
  case kT => assumption
  case kXB => assumption
  case kTB => assumption
  case kD => assumption
  case kd => ((try dsimp only); omega)
  case ku => ((try dsimp only); omega)
  case kF_10 => with_reducible assumption
  case m1_10 => walk_at "M map1"
  case m2_10 => walk_at "M map2"
  case kN_10 => with_reducible assumption
  case hE => with_unfolding_all passes_own
  case' ret_10 =>
    intro n t h1 tk m1 hb F1 N1
    k_steps
    (show Q _ _)
    exact hret _ _ _ _ hb (by assumption) (by assumption)
  case' neg =>
    intro hl0 h1 e t tk hM
    k_steps
    (show E _ _)
    exact hexc _ _ _ _ _ _ _ _ (bisZ_neg hl0) (by assumption) (by assumption) (by assumption) (by assumption)
  case' exc =>
    intro ek r t1 g₂ e t h1 tk m1 hb F1 R1 R2 U1
    k_steps
    (show E _ _)
    exact hexc _ _ _ _ _ _ _ _ hb (by assumption) (by assumption) (by assumption) (by assumption)
end
section
variable {w : World} {p : Program} {loose : List PStr} {mean : ExcName → Option Value} {mg mb : PStr → Option Value}
    {dp un : Nat} {gd : Option (List Code)} {cn : PStr} {cs : Scope} {a : Addr} {ccd : Value} {cl : List (PStr × Addr)} {outer : List Env} {A₀ : Around} {base h₀ : Heap} {L : Addr} {m : PStr → Option Value}
    {s : Shared} {Q E : Value → Shared → Prop} {news : Ldg}
    (B : Below A₀ base outer h₀) (X : (KK.heap_1 w.params).In h₀) (T : Top p loose mean mg mb h₀) (XB : (KK.heap_1 w.params).In base) (TB : Top p loose mean mg mb base) (D : KtsDicts (outer.filterMap (·.frame)) h₀) (hck : cs.kind = .function)
include B X T XB TB D hck
theorem bisL_full {ra : Addr} {vs : List Value} {k : Nat → KRes} {nn ep : Nat} {x : Int} {lo : Int} {hi : Nat} {kv hv : Value} {tx tl : Tok} (hd5 : dp + 20 < recursionLimit) (hu5 : un + 100 < cLine) (F : Fr h₀ L s.heap m) (N : News h₀ L s.heap news)
   (hra : (ra, lstOf vs ep) ∈ news) (hrow : RowIs 108 kv vs k nn) (hl : nn ≤ 1000) (hhi : HiIs hv hi nn) (hv0 : 0 ≤ lo → ∀ msg, bisZ false k x lo hi ≠ .error (.value, msg))
   (hret : ∀ n t h' tk, bisZ false k x lo hi = .ok n → Fr h₀ L h' m → News h₀ L h' news → Q (.int n t) { s with heap := h', toks := tk })
   (hexc : ∀ ek r t1 g₂ e t h' tk, bisZ false k x lo hi = .error (ek, r) → Fr h₀ L g₂ m → RaisedS base g₂ (envX cn cs L a ccd cl :: outer) e (clsOf ek) t [.str r t1] news h' → RaisedK base (envX cn cs L a ccd cl :: outer) e (clsOf ek) t [.str r t1] news h' → g₂.UpToSlots h' → E (.ref e) { s with heap := h', toks := tk }) :
   wpAny (model PySem.Challenge.rw_pm0034_01.row.prog w) (ktrTop dp un gd cn cs L a ccd cl outer) (call (.ref 50) [.ref ra, .int x tx, .int lo tl, hv] [(Str.ofString "key", kv)]) Q E s := by
  walk_at "M fill"
  walk_at "M enter"
  refine' bisL_body (hi := hi) ?kB ?kX ?kT ?kXB ?kTB ?kD ?kd ?ku (fr_map [Str.ofString "lo", Str.ofString "hi", Str.ofString "mid", Str.ofString "a", Str.ofString "x", Str.ofString "key"] ?kF_11 ?m1_11 ?m2_11) ?kN_11 hra hrow hl hhi hv0 ?hE ?ret_11 ?neg ?exc
  case kB => assumption
  case kX => assumption
  case kT => assumption
  case kXB => assumption
  case kTB => assumption
  case kD => assumption
  case kd => ((try dsimp only); omega)
  case ku => ((try dsimp only); omega)
  case kF_11 => with_reducible assumption
  case m1_11 => walk_at "M map1"
  case m2_11 => walk_at "M map2"
  case kN_11 => with_reducible assumption
  case hE => with_unfolding_all passes_own
  case' ret_11 =>
    intro n t h1 tk m1 hb F1 N1
    k_steps
    (show Q _ _)
    exact hret _ _ _ _ hb (by assumption) (by assumption)
  case' neg =>
    intro hl0 h1 e t tk hM
    k_steps
    (show E _ _)
    exact hexc _ _ _ _ _ _ _ _ (bisZ_neg hl0) (by assumption) (by assumption) (by assumption) (by assumption)
  case' exc =>
    intro ek r t1 g₂ e t h1 tk m1 hb F1 R1 R2 U1
    k_steps
    (show E _ _)
    exact hexc _ _ _ _ _ _ _ _ hb (by assumption) (by assumption) (by assumption) (by assumption)
end
section
variable {w : World} {p : Program} {loose : List PStr} {mean : ExcName → Option Value} {mg mb : PStr → Option Value}
    {dp un : Nat} {gd : Option (List Code)} {cn : PStr} {cs : Scope} {a : Addr} {ccd : Value} {cl : List (PStr × Addr)} {outer : List Env} {A₀ : Around} {base h₀ : Heap} {L : Addr} {m : PStr → Option Value}
    {s : Shared} {Q E : Value → Shared → Prop} {news : Ldg}
    (B : Below A₀ base outer h₀) (X : (KK.heap_1 w.params).In h₀) (T : Top p loose mean mg mb h₀) (XB : (KK.heap_1 w.params).In base) (TB : Top p loose mean mg mb base) (D : KtsDicts (outer.filterMap (·.frame)) h₀) (hck : cs.kind = .function)
include B X T XB TB D hck
theorem bisL_four {ra : Addr} {vs : List Value} {k : Nat → KRes} {nn ep : Nat} {x : Int} {lo : Int} {hi : Nat} {kv hv : Value} {tx tl : Tok} (hd5 : dp + 20 < recursionLimit) (hu5 : un + 100 < cLine) (F : Fr h₀ L s.heap m) (N : News h₀ L s.heap news)
   (hra : (ra, lstOf vs ep) ∈ news) (hrow : RowIs 108 kv vs k nn) (hkv : kv = .none) (hl : nn ≤ 1000) (hhi : HiIs hv hi nn) (hv0 : 0 ≤ lo → ∀ msg, bisZ false k x lo hi ≠ .error (.value, msg))
   (hret : ∀ n t h' tk, bisZ false k x lo hi = .ok n → Fr h₀ L h' m → News h₀ L h' news → Q (.int n t) { s with heap := h', toks := tk })
   (hexc : ∀ ek r t1 g₂ e t h' tk, bisZ false k x lo hi = .error (ek, r) → Fr h₀ L g₂ m → RaisedS base g₂ (envX cn cs L a ccd cl :: outer) e (clsOf ek) t [.str r t1] news h' → RaisedK base (envX cn cs L a ccd cl :: outer) e (clsOf ek) t [.str r t1] news h' → g₂.UpToSlots h' → E (.ref e) { s with heap := h', toks := tk }) :
   wpAny (model PySem.Challenge.rw_pm0034_01.row.prog w) (ktrTop dp un gd cn cs L a ccd cl outer) (call (.ref 50) [.ref ra, .int x tx, .int lo tl, hv] []) Q E s := by
  walk_at "M fill"
  subst hkv
  walk_at "M enter"
  refine' bisL_body (hi := hi) ?kB ?kX ?kT ?kXB ?kTB ?kD ?kd ?ku (fr_map [Str.ofString "lo", Str.ofString "hi", Str.ofString "mid", Str.ofString "a", Str.ofString "x", Str.ofString "key"] ?kF_12 ?m1_12 ?m2_12) ?kN_12 hra hrow hl hhi hv0 ?hE ?ret_12 ?neg ?exc
  case kB => assumption
  case kX => assumption
  case kT => assumption
  case kXB => assumption
  case kTB => assumption
  case kD => assumption
  case kd => ((try dsimp only); omega)
  case ku => ((try dsimp only); omega)
  case kF_12 => with_reducible assumption
  case m1_12 => walk_at "M map1"
  case m2_12 => walk_at "M map2"
  case kN_12 => with_reducible assumption
  case hE => with_unfolding_all passes_own
  case' ret_12 =>
    intro n t h1 tk m1 hb F1 N1
    k_steps
    (show Q _ _)
    exact hret _ _ _ _ hb (by assumption) (by assumption)
  case' neg =>
    intro hl0 h1 e t tk hM
    k_steps
    (show E _ _)
    exact hexc _ _ _ _ _ _ _ _ (bisZ_neg hl0) (by assumption) (by assumption) (by assumption) (by assumption)
  case' exc =>
    intro ek r t1 g₂ e t h1 tk m1 hb F1 R1 R2 U1
    k_steps
    (show E _ _)
    exact hexc _ _ _ _ _ _ _ _ hb (by assumption) (by assumption) (by assumption) (by assumption)
end
end
section
theorem lines_D1_0 : True := by
  walk_at "base"
  k_with "M enter" => ((
    refine wpAny_call ?_
    k_dflt (refine' code_def ?k1 ?k2 ?k3 ?k4 ?k5 ?kA ?kF ?kK ?k6 ?k7 ?k8 ?k9 ?kB ?_ ?c2 ?c3 ?c4 ?c5; (case kA => exact rfl); (case kF => exact rfl); (case kK => assumption); (case k1 => k_asm); (case k2 => k_asm); (case k3 => k_asm); (case k4 => k_asm); (case k5 => k_asm); (case k6 => k_is); (case k7 => k_is); (case k8 => ((try dsimp only); omega)); (case k9 => first | exact BindsTo.of_eq rfl | (refine' kp_binds ?kx ?ke; (case kx => first | (refine' myIn ?kf ?ki; (case kf => with_reducible assumption); (case ki => with_reducible assumption)) | k_in); (case ke => exact fun _ => rfl)) | exact binds_K (by first | (refine' myIn ?kf ?ki; (case kf => with_reducible assumption); (case ki => with_reducible assumption)) | k_in) rfl (by k_is) rfl rfl rfl); (case c5 => decide); (case kB => exact locs rfl); (case c2 => exact rfl); (case c3 => exact rfl); (case c4 => exact rfl); k_whole; intro g' L' h' FG' F' N' B' X' T'; (have D' := kts_dict B' (by assumption) FG' rfl); (try dsimp only); (try k_lift B'); (refine let_AE (f := execs _) ?_; intro vk ak); (refine f_QE ?_; intro qk ek))))
  trivial
theorem lines_D1_1 : True := by
  k_with "subscriptTail Name Constant ref int" => ((k_here; refine item_tupleT (News.isTup (by assumption) (by k_mem)) (by decide) (by decide) (by rfl) (by rfl) ?_))
  k_with "subscriptTail Name Constant ref int" => ((k_here; (with_reducible rename StrsAre _ _ => hSA); refine item_strsA (News.isList (by assumption) (by k_mem)) hSA (by decide) (by first | omega | (simp only [List.length_map]; omega)) (by decide) ?_; intro t'))
  k_with "call type:ValueError" => ((refine call_ValueError_made ?_; intro _ _ _))
  k_with "exec While Compare Name cons nil" => (refine Hold.mk ?_)
  k_with "exec While Compare" => (refine Hold.mk ?_)
  k_with "exec While Compare cons nil" => (refine Hold.mk ?_)
  k_with "exec While" => (refine Hold.mk ?_)
  k_with "binaryOp FloorDiv int int" => ((k_here; (with_reducible refine floordiv_pos ?kb1 ?kb2 ?_); (case kb1 => decide); (case kb2 => decide +kernel)))
  k_with "WhlIf" => ((refine whlIf_dec ?_ ?_ <;> intro _))
  k_with "subscriptTail Name Name ref int" => ((k_here; first
    | ((with_reducible rename StrsAre _ _ => hSA); refine item_strsA (News.isList (by assumption) (by k_mem)) hSA (by omega) (by omega) (by omega) ?_; intro t')
    | ((with_reducible rename IntsAre _ _ => hSA); refine item_intsA (News.isList (by assumption) (by k_mem)) hSA (by omega) (by omega) (by omega) ?_; intro t')))
  k_with "call builtin:len" => ((k_here; (with_reducible show wpAny _ _ (call (Value.builtin "len") [Value.ref _]) _ _ _); first
    | ((with_reducible rename StrsAre _ _ => hSA); refine len_strsA (News.isList (by assumption) (by k_mem)) hSA (by omega) ?_)
    | ((with_reducible rename IntsAre _ _ => hSA); refine len_intsA (News.isList (by assumption) (by k_mem)) hSA (by omega) ?_)))
  k_with "call ref" => (((with_reducible show wpAny _ _ (call (Value.ref 108) _) _ _ _); refine' port_spec ?kB ?kX ?kT ?kXB ?kTB ?kD ?kh ?kd ?ku ?kF ?kN ?k6 ?kv ?_ ?_; (case kB => assumption); (case kX => assumption); (case kT => assumption); (case kXB => assumption); (case kTB => assumption); (case kD => assumption); (case kh => rfl); (case kd => ((try dsimp only); omega)); (case ku => ((try dsimp only); omega)); (case kF => with_reducible assumption); (case kN => with_reducible assumption); (case k6 => first | exact getD_640 (by assumption) _ | assumption); (case kv => first | assumption | (have q := bis_nv (by assumption) (by assumption) (by assumption); exact q) | (have q := bis_nv ((by assumption : 0 ≤ _ → ∀ msg, _ ≠ _) (by omega)) (by assumption) (by assumption); exact q))))
  k_with "call ref" => (first
    | ((with_reducible show wpAny _ _ (call (Value.ref 32) _ _) _ _ _); refine' bisR_full ?kB ?kX ?kT ?kXB ?kTB ?kD ?kh ?kd ?ku ?kF ?kN ?kra ?kro ?kl ?khi ?khv ?_ ?_; (case kB => assumption); (case kX => assumption); (case kT => assumption); (case kXB => assumption); (case kTB => assumption); (case kD => assumption); (case kh => rfl); (case kd => ((try dsimp only); omega)); (case ku => ((try dsimp only); omega)); (case kF => with_reducible assumption); (case kN => with_reducible assumption); (case kra => k_mem); (case kro => assumption); (case kl => omega); (case khi => assumption); (case khv => first | assumption | (have q := hv_app (by assumption) (by assumption); exact q) | (have q := hv_app (by assumption) rfl; exact q)))
    | ((with_reducible show wpAny _ _ (call (Value.ref 50) _ _) _ _ _); refine' bisL_full ?kB ?kX ?kT ?kXB ?kTB ?kD ?kh ?kd ?ku ?kF ?kN ?kra ?kro ?kl ?khi ?khv ?_ ?_; (case kB => assumption); (case kX => assumption); (case kT => assumption); (case kXB => assumption); (case kTB => assumption); (case kD => assumption); (case kh => rfl); (case kd => ((try dsimp only); omega)); (case ku => ((try dsimp only); omega)); (case kF => with_reducible assumption); (case kN => with_reducible assumption); (case kra => k_mem); (case kro => assumption); (case kl => omega); (case khi => assumption); (case khv => first | assumption | (have q := hv_app (by assumption) (by assumption); exact q) | (have q := hv_app (by assumption) rfl; exact q)))
    | ((with_reducible show wpAny _ _ (call (Value.ref 32) _ _) _ _ _); refine' bisR_four ?kB ?kX ?kT ?kXB ?kTB ?kD ?kh ?kd ?ku ?kF ?kN ?kra ?kro ?kkv ?kl ?khi ?khv ?_ ?_; (case kB => assumption); (case kX => assumption); (case kT => assumption); (case kXB => assumption); (case kTB => assumption); (case kD => assumption); (case kh => rfl); (case kd => ((try dsimp only); omega)); (case ku => ((try dsimp only); omega)); (case kF => with_reducible assumption); (case kN => with_reducible assumption); (case kra => k_mem); (case kro => assumption); (case kkv => rfl); (case kl => omega); (case khi => assumption); (case khv => first | assumption | (have q := hv_app (by assumption) (by assumption); exact q) | (have q := hv_app (by assumption) rfl; exact q)))
    | ((with_reducible show wpAny _ _ (call (Value.ref 50) _ _) _ _ _); refine' bisL_four ?kB ?kX ?kT ?kXB ?kTB ?kD ?kh ?kd ?ku ?kF ?kN ?kra ?kro ?kkv ?kl ?khi ?khv ?_ ?_; (case kB => assumption); (case kX => assumption); (case kT => assumption); (case kXB => assumption); (case kTB => assumption); (case kD => assumption); (case kh => rfl); (case kd => ((try dsimp only); omega)); (case ku => ((try dsimp only); omega)); (case kF => with_reducible assumption); (case kN => with_reducible assumption); (case kra => k_mem); (case kro => assumption); (case kkv => rfl); (case kl => omega); (case khi => assumption); (case khv => first | assumption | (have q := hv_app (by assumption) (by assumption); exact q) | (have q := hv_app (by assumption) rfl; exact q))))
  k_with "call builtin:list.insert" => ((k_here; (with_reducible show wpAny _ _ (call (Value.builtin _) [Value.ref _, Value.int _ _, _]) _ _ _); refine' kl_insert ?F ?N ?f ?e (upd_of (by assumption)) ?z ?_; (case F => with_reducible assumption); (case N => with_reducible assumption); (case f => exact fits_bis (by assumption) (by assumption) (by omega) (by omega)); (case e => rfl); (case z => exact room_vs (by assumption) (by omega)); intro h' F' N'))
  trivial
section
variable {w : World} {p : Program} {loose : List PStr} {mean : ExcName → Option Value} {mg mb : PStr → Option Value}
    {dp un : Nat} {gd : Option (List Code)} {cn : PStr} {cs : Scope} {a : Addr} {ccd : Value} {cl : List (PStr × Addr)} {outer : List Env} {A₀ : Around} {base h₀ : Heap} {L : Addr} {m : PStr → Option Value}
    {s : Shared} {Q E : Value → Shared → Prop} {news : Ldg}
    (B : Below A₀ base outer h₀) (X : (KK.heap_1 w.params).In h₀) (T : Top p loose mean mg mb h₀) (XB : (KK.heap_1 w.params).In base) (TB : Top p loose mean mg mb base) (D : KtsDicts (outer.filterMap (·.frame)) h₀) (hck : cs.kind = .function)
include B X T XB TB D hck
theorem insR {ra : Addr} {vs : List Value} {k : Nat → KRes} {nn ep : Nat} {kx : KRes} {lo : Int} {hi : Nat} {kv hv xv : Value} {tl : Tok} {gN : Obj → Ldg} (hd5 : dp + 30 < recursionLimit) (hu5 : un + 200 < cLine) (F : Fr h₀ L s.heap m) (N : News h₀ L s.heap news)
   (U : UpdF ra (lstOf vs ep) news gN) (hrow : RowIs 108 kv vs k nn) (hx : ThingIs 108 kv xv kx) (hl : nn ≤ 1000) (hlo : lo ≤ 1000) (hhi : HiIs hv hi nn) (hxv : ∀ msg, kx ≠ .error (.value, msg)) (hv0 : ∀ x, kx = .ok x → 0 ≤ lo → ∀ msg, bisZ true k x lo hi ≠ .error (.value, msg))
   (hret : ∀ n h' tk, insZ true k kx lo hi = .ok n → Fr h₀ L h' m → News h₀ L h' (gN (lstOf (kl_ins vs n xv) (ep + 1))) → Q .none { s with heap := h', toks := tk })
   (hexc : ∀ ek r t1 g₂ e t h' tk, insZ true k kx lo hi = .error (ek, r) → Fr h₀ L g₂ m → RaisedS base g₂ (envX cn cs L a ccd cl :: outer) e (clsOf ek) t [.str r t1] news h' → RaisedK base (envX cn cs L a ccd cl :: outer) e (clsOf ek) t [.str r t1] news h' → g₂.UpToSlots h' → E (.ref e) { s with heap := h', toks := tk }) :
   wpAny (model PySem.Challenge.rw_pm0034_01.row.prog w) (ktrTop dp un gd cn cs L a ccd cl outer) (call (.ref 23) [.ref ra, xv, .int lo tl, hv] [(Str.ofString "key", kv)]) Q E s := by
  walk_at "M fill"
  have hrl := hrow.length
  have hra := updF_mem U
  rcases hx with ⟨xr, xt, rfl, rfl, rfl, h640⟩ | ⟨xn, xt, rfl, rfl, rfl⟩
  · walk_at "M enter"
    k_steps
    · (show Q _ _)
      exact hret _ _ _ ((insZ_ok (by assumption)).trans (by assumption)) (by assumption) (by assumption)
    · (show E _ _)
      exact hexc _ _ _ _ _ _ _ _ ((insZ_ok (by assumption)).trans (by assumption)) (by assumption) (by assumption) (by assumption) (by assumption)
    · (show E _ _)
      exact hexc _ _ _ _ _ _ _ _ (insZ_err (by assumption)) (by assumption) (by assumption) (by assumption) (by assumption)
  · walk_at "M enter"
    k_steps
    · (show Q _ _)
      exact hret _ _ _ ((insZ_ok rfl).trans (by assumption)) (by assumption) (by assumption)
    · (show E _ _)
      exact hexc _ _ _ _ _ _ _ _ ((insZ_ok rfl).trans (by assumption)) (by assumption) (by assumption) (by assumption) (by assumption)
end
section
variable {w : World} {p : Program} {loose : List PStr} {mean : ExcName → Option Value} {mg mb : PStr → Option Value}
    {dp un : Nat} {gd : Option (List Code)} {cn : PStr} {cs : Scope} {a : Addr} {ccd : Value} {cl : List (PStr × Addr)} {outer : List Env} {A₀ : Around} {base h₀ : Heap} {L : Addr} {m : PStr → Option Value}
    {s : Shared} {Q E : Value → Shared → Prop} {news : Ldg}
    (B : Below A₀ base outer h₀) (X : (KK.heap_1 w.params).In h₀) (T : Top p loose mean mg mb h₀) (XB : (KK.heap_1 w.params).In base) (TB : Top p loose mean mg mb base) (D : KtsDicts (outer.filterMap (·.frame)) h₀) (hck : cs.kind = .function)
include B X T XB TB D hck
theorem insL {ra : Addr} {vs : List Value} {k : Nat → KRes} {nn ep : Nat} {kx : KRes} {lo : Int} {hi : Nat} {kv hv xv : Value} {tl : Tok} {gN : Obj → Ldg} (hd5 : dp + 30 < recursionLimit) (hu5 : un + 200 < cLine) (F : Fr h₀ L s.heap m) (N : News h₀ L s.heap news)
   (U : UpdF ra (lstOf vs ep) news gN) (hrow : RowIs 108 kv vs k nn) (hx : ThingIs 108 kv xv kx) (hl : nn ≤ 1000) (hlo : lo ≤ 1000) (hhi : HiIs hv hi nn) (hxv : ∀ msg, kx ≠ .error (.value, msg)) (hv0 : ∀ x, kx = .ok x → 0 ≤ lo → ∀ msg, bisZ false k x lo hi ≠ .error (.value, msg))
   (hret : ∀ n h' tk, insZ false k kx lo hi = .ok n → Fr h₀ L h' m → News h₀ L h' (gN (lstOf (kl_ins vs n xv) (ep + 1))) → Q .none { s with heap := h', toks := tk })
   (hexc : ∀ ek r t1 g₂ e t h' tk, insZ false k kx lo hi = .error (ek, r) → Fr h₀ L g₂ m → RaisedS base g₂ (envX cn cs L a ccd cl :: outer) e (clsOf ek) t [.str r t1] news h' → RaisedK base (envX cn cs L a ccd cl :: outer) e (clsOf ek) t [.str r t1] news h' → g₂.UpToSlots h' → E (.ref e) { s with heap := h', toks := tk }) :
   wpAny (model PySem.Challenge.rw_pm0034_01.row.prog w) (ktrTop dp un gd cn cs L a ccd cl outer) (call (.ref 41) [.ref ra, xv, .int lo tl, hv] [(Str.ofString "key", kv)]) Q E s := by
  walk_at "M fill"
  have hrl := hrow.length
  have hra := updF_mem U
  rcases hx with ⟨xr, xt, rfl, rfl, rfl, h640⟩ | ⟨xn, xt, rfl, rfl, rfl⟩
  · walk_at "M enter"
    k_steps
    · (show Q _ _)
      exact hret _ _ _ ((insZ_ok (by assumption)).trans (by assumption)) (by assumption) (by assumption)
    · (show E _ _)
      exact hexc _ _ _ _ _ _ _ _ ((insZ_ok (by assumption)).trans (by assumption)) (by assumption) (by assumption) (by assumption) (by assumption)
    · (show E _ _)
      exact hexc _ _ _ _ _ _ _ _ (insZ_err (by assumption)) (by assumption) (by assumption) (by assumption) (by assumption)
  · walk_at "M enter"
    k_steps
    · (show Q _ _)
      exact hret _ _ _ ((insZ_ok rfl).trans (by assumption)) (by assumption) (by assumption)
    · (show E _ _)
      exact hexc _ _ _ _ _ _ _ _ ((insZ_ok rfl).trans (by assumption)) (by assumption) (by assumption) (by assumption) (by assumption)
end
end
section
theorem lines_TO_0 : True := by
  walk_at "base"
  k_with "M enter" => ((
    refine wpAny_call ?_
    k_dflt (refine' code_def ?k1 ?k2 ?k3 ?k4 ?k5 ?kA ?kF ?kK ?k6 ?k7 ?k8 ?k9 ?kB ?_ ?c2 ?c3 ?c4 ?c5; (case kA => exact rfl); (case kF => exact rfl); (case kK => assumption); (case k1 => k_asm); (case k2 => k_asm); (case k3 => k_asm); (case k4 => k_asm); (case k5 => k_asm); (case k6 => k_is); (case k7 => k_is); (case k8 => ((try dsimp only); omega)); (case k9 => first | exact BindsTo.of_eq rfl | (refine' kp_binds ?kx ?ke; (case kx => first | (refine' myIn ?kf ?ki; (case kf => with_reducible assumption); (case ki => with_reducible assumption)) | k_in); (case ke => exact fun _ => rfl)) | exact binds_K (by first | (refine' myIn ?kf ?ki; (case kf => with_reducible assumption); (case ki => with_reducible assumption)) | k_in) rfl (by k_is) rfl rfl rfl); (case c5 => decide); (case kB => exact locs rfl); (case c2 => exact rfl); (case c3 => exact rfl); (case c4 => exact rfl); k_whole; intro g' L' h' FG' F' N' B' X' T'; (have D' := kts_dict B' (by assumption) FG' rfl); (try dsimp only); (try k_lift B'); (refine let_AE (f := execs _) ?_; intro vk ak); (refine f_QE ?_; intro qk ek))))
  trivial
theorem lines_TO_1 : True := by
  k_with "subscriptTail Name Constant ref int" => ((k_here; refine item_tupleT (News.isTup (by assumption) (by k_mem)) (by decide) (by decide) (by rfl) (by rfl) ?_))
  k_with "subscriptTail Name Constant ref int" => ((k_here; (with_reducible rename StrsAre _ _ => hSA); refine item_strsA (News.isList (by assumption) (by k_mem)) hSA (by decide) (by first | omega | (simp only [List.length_map]; omega)) (by decide) ?_; intro t'))
  k_with "call type:ValueError" => ((refine call_ValueError_made ?_; intro _ _ _))
  k_with "exec While Compare Name cons nil" => (refine Hold.mk ?_)
  k_with "exec While Compare" => (refine Hold.mk ?_)
  k_with "exec While Compare cons nil" => (refine Hold.mk ?_)
  k_with "exec While" => (refine Hold.mk ?_)
  k_with "binaryOp FloorDiv int int" => ((k_here; (with_reducible refine floordiv_pos ?kb1 ?kb2 ?_); (case kb1 => decide); (case kb2 => decide +kernel)))
  k_with "WhlIf" => ((refine whlIf_dec ?_ ?_ <;> intro _))
  k_with "subscriptTail Name Name ref int" => ((k_here; first
    | ((with_reducible rename StrsAre _ _ => hSA); refine item_strsA (News.isList (by assumption) (by k_mem)) hSA (by omega) (by omega) (by omega) ?_; intro t')
    | ((with_reducible rename IntsAre _ _ => hSA); refine item_intsA (News.isList (by assumption) (by k_mem)) hSA (by omega) (by omega) (by omega) ?_; intro t')))
  k_with "call builtin:len" => ((k_here; (with_reducible show wpAny _ _ (call (Value.builtin "len") [Value.ref _]) _ _ _); first
    | ((with_reducible rename StrsAre _ _ => hSA); refine len_strsA (News.isList (by assumption) (by k_mem)) hSA (by omega) ?_)
    | ((with_reducible rename IntsAre _ _ => hSA); refine len_intsA (News.isList (by assumption) (by k_mem)) hSA (by omega) ?_)))
  k_with "call ref" => (((with_reducible show wpAny _ _ (call (Value.ref 108) _) _ _ _); refine' port_spec ?kB ?kX ?kT ?kXB ?kTB ?kD ?kh ?kd ?ku ?kF ?kN ?k6 ?kv ?_ ?_; (case kB => assumption); (case kX => assumption); (case kT => assumption); (case kXB => assumption); (case kTB => assumption); (case kD => assumption); (case kh => rfl); (case kd => ((try dsimp only); omega)); (case ku => ((try dsimp only); omega)); (case kF => with_reducible assumption); (case kN => with_reducible assumption); (case k6 => first | exact getD_640 (by assumption) _ | assumption); (case kv => first | assumption | (have q := bis_nv (by assumption) (by assumption) (by assumption); exact q) | (have q := bis_nv ((by assumption : 0 ≤ _ → ∀ msg, _ ≠ _) (by omega)) (by assumption) (by assumption); exact q))))
  trivial
structure InsOk (r : Bool) (k : Nat → KRes) (kx : KRes) (lo : Int) (hi : Nat) (n : Nat) : Prop where
  eq : insZ r k kx lo hi = .ok n
theorem InsOk.no {r : Bool} {k : Nat → KRes} {kx : KRes} {lo : Int} {hi : Nat} {n : Nat} {e : EK × PStr} {P : Prop} (h : InsOk r k kx lo hi n) (h2 : insZ r k kx lo hi = .error e) : P := by have := h.eq; rw [h2] at this; cases this
theorem InsOk.same {r : Bool} {k : Nat → KRes} {kx : KRes} {lo : Int} {hi : Nat} {n n' : Nat} (h : InsOk r k kx lo hi n) (h2 : insZ r k kx lo hi = .ok n') : n' = n := by have := h.eq; rw [h2] at this; cases this; rfl
theorem lines_TO_2 : True := by
  k_with "call ref" => (first
    | focus ((with_reducible show wpAny _ _ (call (Value.ref 23) _ _) _ _ _); refine' insR ?kB ?kX ?kT ?kXB ?kTB ?kD ?kh ?kd ?ku ?kF ?kN ?kU ?kro ?kx ?kl ?klo ?khi ?kxv ?khv ?_ ?_; (case kB => assumption); (case kX => assumption); (case kT => assumption); (case kXB => assumption); (case kTB => assumption); (case kD => assumption); (case kh => rfl); (case kd => ((try dsimp only); omega)); (case ku => ((try dsimp only); omega)); (case kF => with_reducible assumption); (case kN => with_reducible assumption); (case kU => assumption); (case kro => assumption); (case kx => assumption); (case kl => omega); (case klo => omega); (case khi => assumption); (case kxv => assumption); (case khv => assumption); rotate_left; (intro ek _ _ _ _ _ _ _ hb; exact hok.no hb); (intro nq hq tkq heq FqA NqA; (have heq := hok.same heq); subst heq))
    | focus ((with_reducible show wpAny _ _ (call (Value.ref 41) _ _) _ _ _); refine' insL ?kB ?kX ?kT ?kXB ?kTB ?kD ?kh ?kd ?ku ?kF ?kN ?kU ?kro ?kx ?kl ?klo ?khi ?kxv ?khv ?_ ?_; (case kB => assumption); (case kX => assumption); (case kT => assumption); (case kXB => assumption); (case kTB => assumption); (case kD => assumption); (case kh => rfl); (case kd => ((try dsimp only); omega)); (case ku => ((try dsimp only); omega)); (case kF => with_reducible assumption); (case kN => with_reducible assumption); (case kU => assumption); (case kro => assumption); (case kx => assumption); (case kl => omega); (case klo => omega); (case khi => assumption); (case kxv => assumption); (case khv => assumption); rotate_left; (intro ek _ _ _ _ _ _ _ hb; exact hok.no hb); (intro nq hq tkq heq FqA NqA; (have heq := hok.same heq); subst heq)))
  trivial
section
variable {w : World} {p : Program} {loose : List PStr} {mean : ExcName → Option Value} {mg mb : PStr → Option Value}
    {dp un : Nat} {gd : Option (List Code)} {cn : PStr} {cs : Scope} {a : Addr} {ccd : Value} {cl : List (PStr × Addr)} {outer : List Env} {A₀ : Around} {base h₀ : Heap} {L : Addr} {m : PStr → Option Value}
    {s : Shared} {Q E : Value → Shared → Prop} {news : Ldg}
    (B : Below A₀ base outer h₀) (X : (KK.heap_1 w.params).In h₀) (T : Top p loose mean mg mb h₀) (XB : (KK.heap_1 w.params).In base) (TB : Top p loose mean mg mb base) (D : KtsDicts (outer.filterMap (·.frame)) h₀) (hck : cs.kind = .function)
include B X T XB TB D hck
theorem told_ok {ra : Addr} {vs : List Value} {k : Nat → KRes} {nn ep : Nat} {kx : KRes} {lo wh : Int} {n hi : Nat} {kv hv xv : Value} {tw tl : Tok} {gN : Obj → Ldg} (hd5 : dp + 40 < recursionLimit) (hu5 : un + 300 < cLine) (F : Fr h₀ L s.heap m) (N : News h₀ L s.heap news)
   (hw : wh = 2 ∨ wh = 3) (U : UpdF ra (lstOf vs ep) news gN) (hrow : RowIs 108 kv vs k nn) (hx : ThingIs 108 kv xv kx) (hl : nn ≤ 1000) (hlo : lo ≤ 1000) (hhi : HiIs hv hi nn) (hok : InsOk (wh == 3) k kx lo hi n)
   (hxv : ∀ msg, kx ≠ .error (.value, msg)) (hv0 : ∀ x, kx = .ok x → 0 ≤ lo → ∀ msg, bisZ (wh == 3) k x lo hi ≠ .error (.value, msg))
   (hret : ∀ h' tk, Fr h₀ L h' m → News h₀ L h' (gN (lstOf (kl_ins vs n xv) (ep + 1))) → Q .none { s with heap := h', toks := tk }) :
   wpAny (model PySem.Challenge.rw_pm0034_01.row.prog w) (ktrTop dp un gd cn cs L a ccd cl outer) (call (.ref 115) [.int wh tw, .ref ra, xv, .int lo tl, hv, kv]) Q E s := by
  walk_at "M fill"
  rcases hw with rfl | rfl
  · replace hok : InsOk false k kx lo hi n := hok
    replace hv0 : ∀ x, kx = .ok x → 0 ≤ lo → ∀ msg, bisZ false k x lo hi ≠ .error (.value, msg) := hv0
    walk_at "M enter"
    k_steps
    (show Q Value.none _)
    exact hret _ _ (by assumption) (by assumption)
  · replace hok : InsOk true k kx lo hi n := hok
    replace hv0 : ∀ x, kx = .ok x → 0 ≤ lo → ∀ msg, bisZ true k x lo hi ≠ .error (.value, msg) := hv0
    walk_at "M enter"
    k_steps
    (show Q Value.none _)
    exact hret _ _ (by assumption) (by assumption)
end
end
section
theorem lines_G1_0 : True := by
  walk_at "base"
  k_with "M map2" => (first
    | (refine SameOut.both (b := fun _ => none) ?_ ?_ <;> (repeat (refine SameOut.upd ?_ (by with_unfolding_all rfl))) <;> exact SameOut.lookup rfl)
    | (refine' SameOut.both (b := ?kb) ?k1 ?k2; (case k1 => ((repeat (refine SameOut.upd ?_ (by with_unfolding_all rfl))); exact SameOut.refl)); (case k2 => ((repeat (refine SameOut.upd ?_ (by with_unfolding_all rfl))); exact SameOut.refl)))
    | (refine' SameOut.both (b := ?kb) ?k1 ?k2; (case k2 => ((repeat (refine SameOut.upd ?_ (by with_unfolding_all rfl))); exact SameOut.refl)); (case k1 => ((repeat (refine SameOut.skip ?_)); (repeat (refine SameOut.upd ?_ (by with_unfolding_all rfl))); exact SameOut.refl)))
    | (intro y hy; (repeat (refine (if_neg (ne_of_out hy (by with_unfolding_all rfl))).trans ?_)); (refine Eq.symm ?_); (repeat (refine (if_neg (ne_of_out hy (by with_unfolding_all rfl))).trans ?_)); first | rfl | exact lookup_out rfl hy | exact (lookup_out rfl hy).symm | exact (lookup_out rfl hy).trans (lookup_out rfl hy).symm))
  k_with "M enter" => ((
    refine wpAny_call ?_
    k_dflt (refine' code_def ?k1 ?k2 ?k3 ?k4 ?k5 ?kA ?kF ?kK ?k6 ?k7 ?k8 ?k9 ?kB ?_ ?c2 ?c3 ?c4 ?c5; (case kA => exact rfl); (case kF => exact rfl); (case kK => assumption); (case k1 => k_asm); (case k2 => k_asm); (case k3 => k_asm); (case k4 => k_asm); (case k5 => k_asm); (case k6 => k_is); (case k7 => k_is); (case k8 => ((try dsimp only); omega)); (case k9 => first | exact BindsTo.of_eq rfl | (refine' kp_binds ?kx ?ke; (case kx => first | (refine' myIn ?kf ?ki; (case kf => with_reducible assumption); (case ki => with_reducible assumption)) | k_in); (case ke => exact fun _ => rfl)) | exact binds_K (by first | (refine' myIn ?kf ?ki; (case kf => with_reducible assumption); (case ki => with_reducible assumption)) | k_in) rfl (by k_is) rfl rfl rfl); (case c5 => decide); (case kB => exact locs rfl); (case c2 => exact rfl); (case c3 => exact rfl); (case c4 => exact rfl); k_whole; intro g' L' h' FG' F' N' B' X' T'; (have D' := kts_dict B' (by assumption) FG' rfl); (try dsimp only); (try k_lift B'); (refine let_AE (f := execs _) ?_; intro vk ak); (refine f_QE ?_; intro qk ek))))
  trivial
theorem lines_G1_1 : True := by
  k_with "subscriptTail Name Constant ref int" => ((k_here; refine item_tupleT (News.isTup (by assumption) (by k_mem)) (by decide) (by decide) (by rfl) (by rfl) ?_))
  k_with "subscriptTail Name Constant ref int" => ((k_here; (with_reducible rename StrsAre _ _ => hSA); refine item_strsA (News.isList (by assumption) (by k_mem)) hSA (by decide) (by first | omega | (simp only [List.length_map]; omega)) (by decide) ?_; intro t'))
  k_with "call type:ValueError" => ((refine call_ValueError_made ?_; intro _ _ _))
  k_with "exec While Compare Name cons nil" => (refine Hold.mk ?_)
  k_with "exec While Compare" => (refine Hold.mk ?_)
  k_with "exec While Compare cons nil" => (refine Hold.mk ?_)
  k_with "exec While" => (refine Hold.mk ?_)
  k_with "binaryOp FloorDiv int int" => ((k_here; (with_reducible refine floordiv_pos ?kb1 ?kb2 ?_); (case kb1 => decide); (case kb2 => decide +kernel)))
  k_with "WhlIf" => ((refine whlIf_dec ?_ ?_ <;> intro _))
  k_with "subscriptTail Name Name ref int" => ((k_here; first
    | ((with_reducible rename StrsAre _ _ => hSA); refine item_strsA (News.isList (by assumption) (by k_mem)) hSA (by omega) (by omega) (by omega) ?_; intro t')
    | ((with_reducible rename IntsAre _ _ => hSA); refine item_intsA (News.isList (by assumption) (by k_mem)) hSA (by omega) (by omega) (by omega) ?_; intro t')))
  k_with "call builtin:len" => ((k_here; (with_reducible show wpAny _ _ (call (Value.builtin "len") [Value.ref _]) _ _ _); first
    | ((with_reducible rename StrsAre _ _ => hSA); refine len_strsA (News.isList (by assumption) (by k_mem)) hSA (by omega) ?_)
    | ((with_reducible rename IntsAre _ _ => hSA); refine len_intsA (News.isList (by assumption) (by k_mem)) hSA (by omega) ?_)))
  trivial
section
variable {w : World} {p : Program} {loose : List PStr} {mean : ExcName → Option Value} {mg mb : PStr → Option Value}
    {dp un : Nat} {gd : Option (List Code)} {cn : PStr} {cs : Scope} {a : Addr} {ccd : Value} {cl : List (PStr × Addr)} {outer : List Env} {A₀ : Around} {base h₀ : Heap} {L : Addr} {m : PStr → Option Value}
    {s : Shared} {Q E : Value → Shared → Prop} {news : Ldg}
    (B : Below A₀ base outer h₀) (X : (KK.heap_1 w.params).In h₀) (T : Top p loose mean mg mb h₀) (XB : (KK.heap_1 w.params).In base) (TB : Top p loose mean mg mb base) (D : KtsDicts (outer.filterMap (·.frame)) h₀) (hck : cs.kind = .function)
include B X T XB TB D hck
theorem parse257_spec {r : PStr} {t1 : Tok} (hd5 : dp + 5 < recursionLimit) (hu5 : un + 50 < cLine) (F : Fr h₀ L s.heap m) (N : News h₀ L s.heap news)
   (hr : r.length ≤ 1000000)
   (hret : ∀ x t h' tk, p257 r = .ok x → Fr h₀ L h' m → News h₀ L h' news → Q (.str x t) { s with heap := h', toks := tk })
   (hexc : ∀ k g₂ e t h' tk, p257 r = .error (k, r) → Fr h₀ L g₂ m → RaisedS base g₂ (envX cn cs L a ccd cl :: outer) e (clsOf k) t [.str r t1] news h' → RaisedK base (envX cn cs L a ccd cl :: outer) e (clsOf k) t [.str r t1] news h' → g₂.UpToSlots h' → E (.ref e) { s with heap := h', toks := tk }) :
   wpAny (model PySem.Challenge.rw_pm0034_01.row.prog w) (ktrTop dp un gd cn cs L a ccd cl outer) (call (.ref 101) [.str r t1]) Q E s := by
  walk_at "M fill"
  walk_at "M enter"
  k_steps
  · (show E _ _)
    exact hexc .reply _ _ _ _ _ (if_pos (by assumption)) (by assumption) (by assumption) (by assumption) (by assumption)
  · (show Q _ _)
    exact hret _ _ _ _ ((if_neg (Bool.eq_false_iff.mp (by assumption))).trans (if_pos (by assumption))) (by assumption) (by assumption)
  refine Hold.out ?_
  have hp : p257 r = .ok (go257 r (r.length - 5) 5 Str.empty) := (if_neg (Bool.eq_false_iff.mp (by assumption))).trans (if_neg (Bool.eq_false_iff.mp (by assumption)))
  (with_reducible rename Fr _ _ _ _ => kF)
  refine' while_fr (fun i : Nat × PStr × Tok × Tok × Tok × Option Value => r.length - i.1) (fun i => i.2.1.length ≤ i.1 ∧ i.1 ≤ r.length + 5 ∧ p257 r = .ok (go257 r (r.length - i.1) i.1 i.2.1))
    (fun i y => if y = Str.ofString "c" then i.2.2.2.2.2 else List.lookup y [(Str.ofString "i", .int i.1 i.2.2.1), (Str.ofString "dirname", .str i.2.1 i.2.2.2.1), (Str.ofString "n", .int r.length i.2.2.2.2.1), (Str.ofString "resp", .str r t1)])
    (fun _ => news) (5, Str.empty, _, _, _, none) [Str.ofString "i", Str.ofString "dirname", Str.ofString "n", Str.ofString "resp", Str.ofString "c"] kF (by with_reducible assumption) ⟨Nat.zero_le _, Nat.le_add_left _ _, hp⟩ ?m1 ?m2 (fun _ q => q) ?step ?hE
  case m1 => walk_at "M map1"
  case m2 => walk_at "M map2"
  case hE => with_unfolding_all passes_own
  clear kF
  rintro ⟨i1, d1, t2, t3, t4, mo⟩ h tk ⟨hd1, hi1, hb1⟩ kF1 kN1
  dsimp only at hd1 hi1 hb1 kF1 kN1
  k_steps
  · dsimp only
    k_steps
    refine whlFr_brk ?_
    dsimp only
    k_steps
    (show Q _ _)
    exact hret _ _ _ _ (hb1.trans (congrArg Except.ok (go_stop1 (by assumption) (by assumption) (by assumption)))) (by assumption) (by assumption)
  · dsimp only
    k_steps
    refine whlFr_brk ?_
    dsimp only
    k_steps
    (show Q _ _)
    exact hret _ _ _ _ (hb1.trans (congrArg Except.ok (go_stop2 (by assumption) (by assumption) (by assumption) (by assumption)))) (by assumption) (by assumption)
  · refine' whlFr_next (i1 + 2, d1 ++ Txt.item r i1, _, _, _, _) [Str.ofString "i", Str.ofString "dirname", Str.ofString "n", Str.ofString "resp", Str.ofString "c"] (by with_reducible assumption) (by with_reducible assumption) ?mu1 ?c1 ?m11 ?m12 (fun _ q => q)
    case mu1 => dsimp only; omega
    case c1 => exact ⟨by dsimp only; omega, by dsimp only; omega, hb1.trans (congrArg Except.ok (go_pair (by assumption) (by assumption) (by assumption) (by assumption)))⟩
    case m11 => walk_at "M map1"
    case m12 => walk_at "M map2"
  · refine' whlFr_next (i1 + 1, d1 ++ Txt.item r i1, _, _, _, _) [Str.ofString "i", Str.ofString "dirname", Str.ofString "n", Str.ofString "resp", Str.ofString "c"] (by with_reducible assumption) (by with_reducible assumption) ?mu2 ?c2 ?m21 ?m22 (fun _ q => q)
    case mu2 => dsimp only; omega
    case c2 => exact ⟨by dsimp only; omega, by dsimp only; omega, hb1.trans (congrArg Except.ok (go_plain (by assumption) (by assumption)))⟩
    case m21 => walk_at "M map1"
    case m22 => walk_at "M map2"
  · (show Q _ _)
    exact hret _ _ _ _ (hb1.trans (congrArg Except.ok (go_end (by assumption)))) (by assumption) (by assumption)
end
end
section
theorem lines_MG_0 : True := by
  walk_at "base"
  k_with "M enter" => ((
    refine wpAny_call ?_
    k_dflt (refine' code_def ?k1 ?k2 ?k3 ?k4 ?k5 ?kA ?kF ?kK ?k6 ?k7 ?k8 ?k9 ?kB ?_ ?c2 ?c3 ?c4 ?c5; (case kA => exact rfl); (case kF => exact rfl); (case kK => assumption); (case k1 => k_asm); (case k2 => k_asm); (case k3 => k_asm); (case k4 => k_asm); (case k5 => k_asm); (case k6 => k_is); (case k7 => k_is); (case k8 => ((try dsimp only); omega)); (case k9 => first | exact BindsTo.of_eq rfl | (refine' kp_binds ?kx ?ke; (case kx => first | (refine' myIn ?kf ?ki; (case kf => with_reducible assumption); (case ki => with_reducible assumption)) | k_in); (case ke => exact fun _ => rfl)) | exact binds_K (by first | (refine' myIn ?kf ?ki; (case kf => with_reducible assumption); (case ki => with_reducible assumption)) | k_in) rfl (by k_is) rfl rfl rfl); (case c5 => decide); (case kB => exact locs rfl); (case c2 => exact rfl); (case c3 => exact rfl); (case c4 => exact rfl); k_whole; intro g' L' h' FG' F' N' B' X' T'; (have D' := kts_dict B' (by assumption) FG' rfl); (try dsimp only); (try k_lift B'); (refine let_AE (f := execs _) ?_; intro vk ak); (refine f_QE ?_; intro qk ek))))
  trivial
theorem lines_MG_1 : True := by
  k_with "subscriptTail Name Constant ref int" => ((k_here; refine item_tupleT (News.isTup (by assumption) (by k_mem)) (by decide) (by decide) (by rfl) (by rfl) ?_))
  k_with "subscriptTail Name Constant ref int" => ((k_here; (with_reducible rename StrsAre _ _ => hSA); refine item_strsA (News.isList (by assumption) (by k_mem)) hSA (by decide) (by first | omega | (simp only [List.length_map]; omega)) (by decide) ?_; intro t'))
  k_with "call type:ValueError" => ((refine call_ValueError_made ?_; intro _ _ _))
  k_with "exec While Compare Name cons nil" => (refine Hold.mk ?_)
  k_with "exec While Compare" => (refine Hold.mk ?_)
  k_with "exec While Compare cons nil" => (refine Hold.mk ?_)
  k_with "exec While" => (refine Hold.mk ?_)
  k_with "binaryOp FloorDiv int int" => ((k_here; (with_reducible refine floordiv_pos ?kb1 ?kb2 ?_); (case kb1 => decide); (case kb2 => decide +kernel)))
  k_with "WhlIf" => ((refine whlIf_dec ?_ ?_ <;> intro _))
  k_with "subscriptTail Name Name ref int" => ((k_here; first
    | ((with_reducible rename StrsAre _ _ => hSA); refine item_strsA (News.isList (by assumption) (by k_mem)) hSA (by omega) (by omega) (by omega) ?_; intro t')
    | ((with_reducible rename IntsAre _ _ => hSA); refine item_intsA (News.isList (by assumption) (by k_mem)) hSA (by omega) (by omega) (by omega) ?_; intro t')))
  k_with "call builtin:len" => ((k_here; (with_reducible show wpAny _ _ (call (Value.builtin "len") [Value.ref _]) _ _ _); first
    | ((with_reducible rename StrsAre _ _ => hSA); refine len_strsA (News.isList (by assumption) (by k_mem)) hSA (by omega) ?_)
    | ((with_reducible rename IntsAre _ _ => hSA); refine len_intsA (News.isList (by assumption) (by k_mem)) hSA (by omega) ?_)))
  k_with "subscriptTail Name Constant ref int" => ((k_here; refine item_listL (News.isList (by assumption) (by k_mem)) (by decide) (by decide) (by rfl) ?_))
  trivial
theorem lines_MG_2 : True := by
  k_with "call builtin:len" => ((k_here; (with_reducible show wpAny _ _ (call (Value.builtin "len") [Value.ref _]) _ _ _); k_dflt (refine' len_L ?kN ?kM ?kz ?_; (case kN => with_reducible assumption); (case kM => k_mem); (case kz => omega))))
  k_with "pyIter ref" => ((refine Hold.mk ?_))
  k_with "exec For Name Name cons nil" => ((k_here; (with_unfolding_all refine' For_turns ?lF ?_; (case lF => k_asm); k_whole)))
  k_with "call builtin:list.pop" => ((refine Hold.mk ?_))
  k_with "call ref" => (((with_reducible show wpAny _ _ (call (Value.ref 115) _) _ _ _); refine Hold.mk ?_))
  k_with "call type:range" => ((k_here; (with_reducible show wpAny _ _ (call (Value.type "range") _) _ _ _); k_dflt (first
    | (refine' rng2_L ?zF ?zN ?_; (case zF => k_asm); (case zN => k_asm))
    | (refine' rng3_L ?zF ?zN ?zc ?zp ?_; (case zF => k_asm); (case zN => k_asm); (case zc => decide); (case zp => exact PyProof.noPylong_small (by decide)))); intro D' h' tk' v' F' N' l1; (try simp only [AllLt, and_true] at l1); (try k_sweep)))
  k_with "M fr2" => ((intro y hy; (repeat (refine (if_neg (ne_of_out hy (by with_unfolding_all rfl))).trans ?_)); (refine Eq.symm ?_); (repeat (refine (if_neg (ne_of_out hy (by with_unfolding_all rfl))).trans ?_)); rfl))
  k_with "call ref" => (((with_reducible show wpAny _ _ (call (Value.ref 101) _) _ _ _); refine' parse257_spec ?kB ?kX ?kT ?kXB ?kTB ?kD ?kh ?kd ?ku ?kF ?kN ?kl ?_ ?kx; (case kB => assumption); (case kX => assumption); (case kT => assumption); (case kXB => assumption); (case kTB => assumption); (case kD => assumption); (case kh => rfl); (case kd => ((try dsimp only); omega)); (case ku => ((try dsimp only); omega)); (case kF => with_reducible assumption); (case kN => with_reducible assumption); (case kl => omega); (case kx => (intro k g₂ e t h' tk hk; exact (ok_no (Reads.eq (by with_reducible assumption)) hk).elim)); intro xq tq hq tkq hkq Fq Nq; (have eq := ok_same (Reads.eq (by with_reducible assumption)) hkq); clear hkq; subst eq))
  trivial
structure Reads (r x : PStr) : Prop where
  eq : p257 r = .ok x
theorem ok_same {α : Type} {n n' : α} {x : Except (EK × PStr) α} (h : x = .ok n) (h' : x = .ok n') : n = n' := by rw [h] at h'; cases h'; rfl
theorem ok_no {α : Type} {n : α} {e : EK × PStr} {x : Except (EK × PStr) α} (h : x = .ok n) (h' : x = .error e) : False := by rw [h] at h'; cases h'
theorem mem_sw {a b c : Addr × Obj} {l : Ldg} : ∀ q ∈ b :: a :: l, q ∈ a :: c :: b :: l := by
  intro q hq
  rcases List.mem_cons.mp hq with rfl | hq
  · exact .tail _ (.tail _ (.head _))
  rcases List.mem_cons.mp hq with rfl | hq
  · exact .head _
  · exact .tail _ (.tail _ (.tail _ hq))
theorem mem_sw2 {a b : Addr × Obj} {l : Ldg} : ∀ q ∈ b :: a :: l, q ∈ a :: b :: l := by
  intro q hq
  rcases List.mem_cons.mp hq with rfl | hq
  · exact .tail _ (.head _)
  rcases List.mem_cons.mp hq with rfl | hq
  · exact .head _
  · exact .tail _ (.tail _ hq)
theorem with_szs {h₀ h : Heap} {L T ra : Addr} {b : Addr × Obj} {o : Obj} {l : Ldg} {u1 u2 u3 u4 : Tok} {G : Prop} (N : News h₀ L h ((T, tupOf [.int 1 u1, .int 2 u2, .int 4 u3, .int 8 u4]) :: b :: (ra, o) :: l))
    (k : ∀ T' v1 v2 v3 v4, T' = T → News h₀ L h ((ra, o) :: (T', tupOf [.int 1 v1, .int 2 v2, .int 4 v3, .int 8 v4]) :: l) → G) : G := k T u1 u2 u3 u4 rfl (news_sub N mem_sw)
theorem ne_tup_lst {h₀ h : Heap} {L T r : Addr} {us vs : List Value} {e : Nat} {l : Ldg} (N : News h₀ L h l) (hT : (T, tupOf us) ∈ l) (hr : (r, lstOf vs e) ∈ l) : T ≠ r := fun q => by
  have h1 := (N _ hT).1
  have h2 := (N _ hr).1
  dsimp only at h1 h2
  rw [q, h2] at h1
  have := congrArg Obj.cls (Option.some.inj h1)
  simp at this
theorem q_le (n k : Nat) (h : n < 16) : (QX (n / 2 ^ k) true).length ≤ 20 ∧ (QX (n / 2 ^ k / 2) (decide (n / 2 ^ k % 2 = 0))).length ≤ 20 := by
  have h1 := QX_len (n / 2 ^ k) true
  have h2 := Nat.div_le_self n (2 ^ k)
  have h3 := QX_len (n / 2 ^ k / 2) (decide (n / 2 ^ k % 2 = 0))
  generalize n / 2 ^ k = m at *
  omega
theorem two_le {n k : Nat} (h : n % 2 ^ k = 0) (h0 : 0 < n) : 2 ^ k ≤ n := by
  rcases Nat.lt_or_ge n (2 ^ k) with q | q
  · rw [Nat.mod_eq_of_lt q] at h; omega
  · exact q
theorem pow_8 {k : Nat} (h : k < 4) : 2 ^ k ≤ 8 := by
  have hk : k = 0 ∨ k = 1 ∨ k = 2 ∨ k = 3 := by omega
  rcases hk with rfl | rfl | rfl | rfl <;> decide
theorem turnFr_ret {ι : Type} {C : ι → Prop} {M : ι → Str → Option Value} {Nw : ι → Ldg} {own : Addr × Obj} {g : Heap} {L : Addr} {s s' : Shared} {Q : Flow → Shared → Prop} {v : Value} (h : Q (.ret v) s') : TurnFr C M Nw own g L s Q (.ret v) s' := h
theorem q_odd {m : Nat} (h : (Txt.slice (QX (m / 2) (decide (m % 2 = 0))) (some (-1)) none != Str.ofString "x") = true) : m % 2 = 1 := by
  rcases Nat.mod_two_eq_zero_or_one m with e | e
  · rw [e, decide_eq_true rfl, last_x, bne_self_eq_false] at h; cases h
  · exact e
theorem q_even {m : Nat} (h : (Txt.slice (QX (m / 2) (decide (m % 2 = 0))) (some (-1)) none != Str.ofString "x") = false) : m % 2 = 0 := by
  rcases Nat.mod_two_eq_zero_or_one m with e | e
  · exact e
  · rw [e, decide_eq_false (by decide)] at h
    exact absurd (by simpa using h) (last_q (m / 2))
theorem half_off {n k : Nat} (h : 2 ^ (k + 1) ≤ n) : n - 2 ^ (k + 1) + 2 ^ k = n - 2 ^ k := by
  have e : 2 ^ (k + 1) = 2 ^ k + 2 ^ k := by rw [Nat.pow_succ, Nat.mul_two]
  rw [e] at h ⊢
  rw [Nat.sub_add_eq, Nat.sub_add_cancel (Nat.le_sub_of_add_le h)]
theorem pow_next {n k : Nat} (h : n / 2 ^ k % 2 = 0) (hd : n % 2 ^ k = 0) (h0 : 0 < n) : n % 2 ^ (k + 1) = 0 ∧ 2 ^ (k + 1) ≤ n ∧ n - 2 ^ (k + 1) + 2 ^ k = n - 2 ^ k := by
  have e : n % 2 ^ (k + 1) = 0 := by
    rw [Nat.pow_succ, Nat.mod_mul, hd, h]; simp
  have h1 := two_le e h0
  exact ⟨e, h1, half_off h1⟩
theorem k_lt3 {n k : Nat} (h : n < 16) (h0 : 0 < n) (hd : n % 2 ^ (k + 1) = 0) : k < 3 := by
  have h1 := two_le hd h0
  rcases Nat.lt_or_ge k 3 with q | q
  · exact q
  · have : 2 ^ 4 ≤ 2 ^ (k + 1) := Nat.pow_le_pow_right (by decide) (by omega)
    omega
theorem mem_out {o a t : Addr × Obj} {mid news : Ldg} (h : ∀ q ∈ t :: news, q ∈ mid) : ∀ q ∈ a :: news, q ∈ o :: a :: mid := by
  intro q hq
  rcases List.mem_cons.mp hq with rfl | hq
  · exact .tail _ (.head _)
  · exact .tail _ (.tail _ (h q (.tail _ hq)))
theorem ne_cons {r c : Addr} {x y : Obj} {l : Ldg} (h : ∀ q ∈ (r, x) :: l, q.1 ≠ c) : ∀ q ∈ (r, y) :: l, q.1 ≠ c := by
  intro q hq
  rcases List.mem_cons.mp hq with rfl | hq
  · exact h (r, x) (.head _)
  · exact h q (.tail _ hq)
structure IS where
  vs : List Value
  ep : Nat
  tl : Tok
  t1 : Tok
  jk : PStr → Option Value
noncomputable def iMap (lo : Int) (ts : PStr) (k : Nat) (t2 : Tok) (ra : Addr) (kv : Value) (e : Int) (te : Tok) (σ : IS) : PStr → Option Value := fun y =>
  if y = Str.ofString "low" then some (.int lo σ.tl) else if y = Str.ofString "told" then some (.str ts σ.t1) else if y = Str.ofString "merges" then some (.int (k : Int) t2) else if y = Str.ofString "row" then some (.ref ra) else if y = Str.ofString "earlier" then some (.int e te) else if y = Str.ofString "key" then some kv else σ.jk y
theorem num_dn {v n z i P : Nat} (hv : v = n) (hP : P = n - 2 * z) (h2 : 2 * z ≤ n) (hn : n < 16) : Builtin.Range.rangeSize ((v : Int) - 2 * (z : Int) + (z : Int) - 1) ((v : Int) - 2 * (z : Int) - 1) (-1) = (z : Int) ∧ Builtin.Range.small ((v : Int) - 2 * (z : Int) + (z : Int) - 1) ((v : Int) - 2 * (z : Int) - 1) (-1) = true ∧ (i < z → (v : Int) - 2 * (z : Int) + (z : Int) - 1 + (i : Int) * -1 = ((P + (z - 1 - i) : Nat) : Int)) := by
  subst hv
  have h1 : Builtin.Range.rangeSize ((v : Int) - 2 * (z : Int) + (z : Int) - 1) ((v : Int) - 2 * (z : Int) - 1) (-1) = (z : Int) := rangeSize_dn (by omega)
  exact ⟨h1, small_of (by omega) (by omega) (.inr rfl) h1 (by omega), fun _ => by omega⟩
theorem num_up {v n z i P : Nat} (hv : v = n) (hP : P = n - 2 * z) (h2 : 2 * z ≤ n) (hn : n < 16) : Builtin.Range.rangeSize ((v : Int) - 2 * (z : Int) + (z : Int)) (v : Int) 1 = (z : Int) ∧ Builtin.Range.small ((v : Int) - 2 * (z : Int) + (z : Int)) (v : Int) 1 = true ∧ (i < z → (v : Int) - 2 * (z : Int) + (z : Int) + (i : Int) * 1 = ((P + z + i : Nat) : Int)) := by
  subst hv
  have h1 : Builtin.Range.rangeSize ((v : Int) - 2 * (z : Int) + (z : Int)) (v : Int) 1 = (z : Int) := rangeSize_up (by omega)
  exact ⟨h1, small_of (by omega) (by omega) (.inl rfl) h1 (by omega), fun _ => by omega⟩
structure MS where
  k : Nat
  vs : List Value
  ep : Nat
  t1 : Tok
  t2 : Tok
  mid : Ldg
  jk : PStr → Option Value
noncomputable def mMap (n1 : Nat) (ra : Addr) (kv : Value) (e : Int) (te : Tok) (σ : MS) : PStr → Option Value := fun y =>
  if y = Str.ofString "told" then some (.str (QX (n1 / 2 ^ σ.k) true) σ.t1) else if y = Str.ofString "merges" then some (.int (σ.k : Int) σ.t2) else if y = Str.ofString "row" then some (.ref ra) else if y = Str.ofString "earlier" then some (.int e te) else if y = Str.ofString "key" then some kv else σ.jk y
noncomputable def mLed (ra : Addr) (σ : MS) : Ldg := (ra, lstOf σ.vs σ.ep) :: σ.mid
abbrev szs (u1 u2 u3 u4 : Tok) : List (Nat × Tok) := [(1, u1), (2, u2), (4, u3), (8, u4)]
structure MgC (p : Nat → Int) (rep : Nat → PStr) (kv : Value) (n1 : Nat) (ra : Addr) (u1 u2 u3 u4 : Tok) (nw : Ldg) (as : List (Nat × Tok)) (σ : MS) : Prop where
  as : as = (szs u1 u2 u3 u4).drop σ.k
  dv : n1 % 2 ^ σ.k = 0
  row : RowW p rep kv (blk p (n1 - 2 ^ σ.k) ++ srtM p (n1 - 2 ^ σ.k) (2 ^ σ.k)) σ.vs
  sub : ∀ q ∈ nw, q ∈ σ.mid
  ne : ∀ q ∈ σ.mid, q.1 ≠ ra
theorem szs_at {u1 u2 u3 u4 ta : Tok} {a k : Nat} {as : List (Nat × Tok)} (h : (a, ta) :: as = (szs u1 u2 u3 u4).drop k) : k < 4 ∧ a = 2 ^ k ∧ as = (szs u1 u2 u3 u4).drop (k + 1) := by
  match k, h with
  | 0, h => cases h; exact ⟨by decide, rfl, rfl⟩
  | 1, h => cases h; exact ⟨by decide, rfl, rfl⟩
  | 2, h => cases h; exact ⟨by decide, rfl, rfl⟩
  | 3, h => cases h; exact ⟨by decide, rfl, rfl⟩
  | k + 4, h => simp at h
theorem mg_lt {z i : Nat} (h : i < z) : z - 1 - i < 2 * z := Nat.lt_of_le_of_lt (Nat.sub_le _ _) (Nat.lt_of_le_of_lt (Nat.sub_le _ _) (Nat.lt_of_lt_of_le (Nat.lt_add_of_pos_left (Nat.zero_lt_of_lt h)) (Nat.le_of_eq (Nat.two_mul z).symm)))
theorem mg_lt2 {z i : Nat} (h : i < z) : z + i < 2 * z := Nat.two_mul z ▸ Nat.add_lt_add_left h z
theorem len_ok {x n : Nat} (e : x = n) (h : n < 16) : x ≤ 1000 := e ▸ Nat.le_of_lt (Nat.lt_trans h (by decide))
theorem mg7 {b z i n : Nat} (hb : b + 2 * z = n) (hi : i < z) (h : n < 16) : b + (z - 1 - i) + (z + i) ≤ 1000 := by omega
theorem mg5 {q z n : Nat} (h : q + 2 * z = n) : (q : Int) = (n : Int) - 2 * (z : Int) := by omega
theorem mg8 {v b z i e n : Nat} (hp : (v : Int) - 2 * (z : Int) + (z : Int) + (i : Int) * 1 = ((b + z + i : Nat) : Int)) (hl : e = n - 1) (h : (v : Int) - 2 * (z : Int) + (z : Int) + (i : Int) * 1 = (e : Int)) : b + (z + i) = n - 1 := by
  rw [hp] at h
  rw [← Nat.add_assoc, Int.ofNat.inj h, hl]
theorem mg9 {b z i n : Nat} (hb : b + 2 * z = n) (hi : i < z) : b + (z + i) ≤ n - 1 := Nat.le_sub_one_of_lt (hb ▸ Nat.add_lt_add_left (mg_lt2 hi) b)
theorem mg6 {v z n : Nat} (e : v = n) (h : n < 16) : (v : Int) - 2 * (z : Int) ≤ 1000 := by omega
section
variable {w : World} {p : Program} {loose : List PStr} {mean : ExcName → Option Value} {mg mb : PStr → Option Value}
    {dp un : Nat} {gd : Option (List Code)} {cn : PStr} {cs : Scope} {a : Addr} {ccd : Value} {cl : List (PStr × Addr)} {outer : List Env} {A₀ : Around} {base h₀ : Heap} {L : Addr} {m : PStr → Option Value}
    {s : Shared} {Q E : Value → Shared → Prop} {news : Ldg}
    (B : Below A₀ base outer h₀) (X : (KK.heap_1 w.params).In h₀) (T : Top p loose mean mg mb h₀) (XB : (KK.heap_1 w.params).In base) (TB : Top p loose mean mg mb base) (D : KtsDicts (outer.filterMap (·.frame)) h₀) (hck : cs.kind = .function)
include B X T XB TB D hck
theorem merge_spec {p : Nat → Int} {rep : Nat → PStr} {n1 : Nat} {ra : Addr} {vs : List Value} {ep : Nat} {kv : Value} {e : Int} {te : Tok} (hd5 : dp + 80 < recursionLimit) (hu5 : un + 500 < cLine) (F : Fr h₀ L s.heap m) (N : News h₀ L s.heap ((ra, lstOf vs ep) :: news)) (hne : ∀ q ∈ news, q.1 ≠ ra)
   (he : e = 0 ∨ e = 1) (h0 : 0 < n1) (h15 : n1 < 16) (hr : RepG p rep n1) (hW : RowW p rep kv (blk p (n1 - 1) ++ [n1 - 1]) vs)
   (hret : ∀ h' tk t vs' ep', RowW p rep kv (blk p n1) vs' → Fr h₀ L h' m → News h₀ L h' ((ra, lstOf vs' ep') :: news) → Q (.int (tzM n1 : Int) t) { s with heap := h', toks := tk }) :
   wpAny (model PySem.Challenge.rw_pm0034_01.row.prog w) (ktrTop dp un gd cn cs L a ccd cl outer) (call (.ref 129) [.ref ra, .int e te, kv]) Q E s := by
  walk_at "M fill"
  have hvl : vs.length = n1 := by
    rw [hW.len, List.length_append, List.length_singleton]
    rw [blk_len (p := p) (n1 - 1) (sub_lt_num h15), Nat.sub_add_cancel h0]
  walk_at "M enter"
  k_steps
  refine Hold.out ?_
  (with_reducible rename Fr _ _ _ _ => kF)
  (with_reducible rename News _ _ _ _ => kN)
  obtain ⟨M0, eM0, F0⟩ := fr_ext kF
  refine with_szs kN ?_
  clear kN
  intro T9 u1 u2 u3 u4 eT N0
  subst eT
  refine' pyIter_tupG (fun q : Nat × Tok => .int (q.1 : Int) q.2) (MgC p rep kv n1 ra u1 u2 u3 u4 ((T9, tupOf [.int 1 u1, .int 2 u2, .int 4 u3, .int 8 u4]) :: news)) (mMap n1 ra kv e te) (mLed ra) (szs u1 u2 u3 u4) ⟨0, vs, ep, _, _, (T9, tupOf [.int 1 u1, .int 2 u2, .int 4 u3, .int 8 u4]) :: news, M0⟩ [Str.ofString "told", Str.ofString "merges", Str.ofString "row", Str.ofString "earlier", Str.ofString "key"] ?hv F0 N0 (.tail _ (.head _)) rfl ?hk ?c0 ?m1 ?m2 rfl ?turn ?done
  case hv => rfl
  case hk => exact fun as σ hC => .tail _ (hC.sub _ (.head _))
  case c0 =>
    refine ⟨rfl, by rw [Nat.pow_zero, Nat.mod_one], by rw [Nat.pow_zero, srt_one]; exact hW, fun q hq => hq, fun q hq => ?_⟩
    rcases List.mem_cons.mp hq with rfl | hq
    · exact ne_tup_lst N0 (.tail _ (.head _)) (.head _)
    · exact hne q hq
  case m1 =>
    subst eM0
    unfold mMap
    dsimp only
    rw [Nat.pow_zero, Nat.div_one, ← QX_x, ← mul_q (Nat.lt_trans h15 (by decide)), ← hvl]
    walk_at "M map1"
  case m2 => subst eM0; unfold mMap; walk_at "M fr2"
  case done =>
    rintro ⟨k, vs1, ep1, t1, t2, mid, jk⟩ h tk hC kF1 kN1
    exfalso
    have h1 := hC.as
    have h2 := hC.dv
    dsimp only at h1 h2
    have h3 := two_le h2 h0
    have h4 : 4 ≤ k := by
      rcases Nat.lt_or_ge k 4 with q | q
      · have := congrArg List.length h1
        simp at this
        omega
      · exact q
    have h5 : 2 ^ 4 ≤ 2 ^ k := Nat.pow_le_pow_right (by decide) h4
    omega
  case turn =>
    rintro ⟨a, ta⟩ as ⟨k, vs1, ep1, t1, t2, mid, jk⟩ h tk own hC hno kF1 kN1
    obtain ⟨has, hdv, hrow, hsub, hmn⟩ := hC
    obtain ⟨hk4, rfl, has3⟩ := szs_at has
    unfold mMap at kF1
    unfold mLed at kN1 hno
    dsimp only at hdv hrow hsub hmn hno kF1 kN1
    have hp4 : 2 ^ k ≤ 8 := pow_8 hk4
    have hv1 : vs1.length = n1 := by
      rw [hrow.len, List.length_append, srt_len, blk_len _ (sub_lt_num h15), Nat.sub_add_cancel (two_le hdv h0)]
    obtain ⟨hml, hml2⟩ := q_le n1 k h15
    have hrd : Reads (Str.ofString "257 \"" ++ QX (n1 / 2 ^ k) true) (QX (n1 / 2 ^ k / 2) (decide (n1 / 2 ^ k % 2 = 0))) := ⟨read_x _⟩
    have l5 : (Str.ofString "257 \"").length = 5 := by decide +kernel
    (show wpAny _ _ (assign _ _ (Value.int ((2 ^ k : Nat) : Int) ta)) _ _ _)
    k_fold
    k_steps
    · refine turnFr_ret ?_
      have hodd : n1 / 2 ^ k % 2 = 1 := q_odd (by assumption)
      have ek := tz_at h15 h0 hk4 hdv hodd
      have hfull := blk_full (p := p) n1 k h15 hk4 hodd hdv
      rw [hfull] at hrow
      k_steps
      rw [show (k : Int) = (tzM n1 : Int) by rw [ek]]
      exact hret _ _ t2 vs1 ep1 hrow (by assumption) (news_sub (by assumption) (mem_out hsub))
    · have hev : n1 / 2 ^ k % 2 = 0 := q_even (by assumption)
      obtain ⟨hd2, h2le, hoff⟩ := pow_next hev hdv h0
      refine Hold.out ?_
      (with_reducible rename Fr _ _ _ _ => kF2)
      (with_reducible rename News _ _ _ _ => kN2)
      obtain ⟨M2, eM2, F2⟩ := fr_ext kF2
      have hk3 : k < 3 := k_lt3 h15 h0 hd2
      have hsp := blk_split (p := p) n1 k h15 hk3 (Nat.dvd_of_mod_eq_zero hd2) h0
      have hpl : (blk p (n1 - 2 ^ (k + 1))).length = n1 - 2 ^ (k + 1) := blk_len _ (sub_lt_num h15)
      have hrow0 : RowW p rep kv (rowL p (blk p (n1 - 2 ^ (k + 1))) (n1 - 2 ^ (k + 1)) (2 ^ k) 0) vs1 := by
        rw [rowL_zero, ← hsp, hoff]; exact hrow
      have he0 : e ≠ 0 := by assumption
      have hmn2 : ∀ q ∈ own :: mid, q.1 ≠ ra := fun q hq => (List.mem_cons.mp hq).elim (fun e => e ▸ Ne.symm (hno _ (.head _))) (hmn q)
      have hz2 : 2 * 2 ^ k ≤ n1 ∧ n1 - 2 ^ (k + 1) = n1 - 2 * 2 ^ k := by
        rw [show 2 * 2 ^ k = 2 ^ (k + 1) by rw [Nat.pow_succ, Nat.mul_comm]]
        exact ⟨h2le, rfl⟩
      have hqz : n1 - 2 ^ (k + 1) + 2 * 2 ^ k = n1 := hz2.2 ▸ Nat.sub_add_cancel hz2.1
      have hnum := fun i => num_dn (i := i) hv1 (hpl.trans hz2.2) hz2.1 h15
      refine' pyIter_rangeG (fun i (σ : IS) => RowW p rep kv (rowL p (blk p (n1 - 2 ^ (k + 1))) (n1 - 2 ^ (k + 1)) (2 ^ k) i) σ.vs) (fun _ σ => iMap ((vs1.length : Int) - 2 * ((2 ^ k : Nat) : Int)) (QX (n1 / 2 ^ k / 2) (decide (n1 / 2 ^ k % 2 = 0))) k t2 ra kv e te σ) (fun _ σ => (ra, lstOf σ.vs σ.ep) :: own :: mid) (2 ^ k) ⟨vs1, ep1, _, _, M2⟩ [Str.ofString "low", Str.ofString "told", Str.ofString "merges", Str.ofString "row", Str.ofString "earlier", Str.ofString "key"] F2 kN2 (rng_at kN2 (.head _)) rfl (hnum 0).2.1 (hnum 0).1 hrow0 ?im1 ?im2 ?in0 ?iturn ?idone
      case im1 => subst eM2; unfold iMap; walk_at "M map1"
      case im2 => subst eM2; unfold iMap; walk_at "M fr2"
      case in0 =>
        intro q hq
        rcases List.mem_cons.mp hq with rfl | hq
        · exact .tail _ (.tail _ (.head _))
        rcases List.mem_cons.mp hq with rfl | hq
        · exact .tail _ (.head _)
        · exact .tail _ (.tail _ (.tail _ hq))
      case iturn =>
        rintro i ⟨vs2, ep2, tl, tj, jk2⟩ h2 tk2 t own2 hi hc2 hno2 kF3 kN3
        dsimp only at hc2 hno2 kF3 kN3
        unfold iMap at kF3
        dsimp only at kF3
        obtain ⟨j2, hj2, her, hpt⟩ := rowL_step (p := p) (pre := blk p (n1 - 2 ^ (k + 1))) (off := n1 - 2 ^ (k + 1)) hi
        have hl2 := hc2.len
        rw [rowL_len (Nat.le_of_lt hi), hpl] at hl2
        have hpx := (hnum i).2.2 hi
        have hWlt : ∀ x ∈ rowL p (blk p (n1 - 2 ^ (k + 1))) (n1 - 2 ^ (k + 1)) (2 ^ k) i, x < n1 := rowL_lt (fun x hx => Nat.lt_of_lt_of_le (blk_mem (sub_lt_num h15) hx) (Nat.sub_le _ _)) (Nat.le_of_eq hqz)
        have hkl : (blk p (n1 - 2 ^ (k + 1))).length + (2 ^ k - 1 - i) < vs2.length := by rw [hl2, hpl]; exact Nat.add_lt_add_left (mg_lt hi) _
        (show wpAny _ _ (assign _ _ (Value.int _ t)) _ _ _)
        k_fold
        k_steps
        refine Hold.out ?_
        refine' pop_L (k := (blk p (n1 - 2 ^ (k + 1))).length + (2 ^ k - 1 - i)) ?qF ?qN (UpdF.tail (Ne.symm (hno2 _ (.head _))) (UpdF.head hmn2)) hpx hkl ?qz ?_
        case qF => with_reducible assumption
        case qN => with_reducible assumption
        case qz => exact len_ok (hl2.trans hqz) h15
        intro h3 kF4 kN4
        have hv2 := List.getElem?_eq_getElem hkl
        generalize vs2[(blk p (n1 - 2 ^ (k + 1))).length + (2 ^ k - 1 - i)] = v2 at hv2 ⊢
        obtain ⟨kk, hri, hti, hins, hmv⟩ := RowW.move (Y := []) false hc2 hr hWlt hv2 hj2 (by rw [List.append_nil]; exact her) (lft_ok (p := p) (off := n1 - 2 ^ (k + 1)) i (Nat.le_of_lt hi)).1
        have e1 : (blk p (n1 - 2 ^ (k + 1)) ++ (srtM p (n1 - 2 ^ (k + 1)) (2 ^ k)).take (2 ^ k - 1 - i)).length = (blk p (n1 - 2 ^ (k + 1))).length + (2 ^ k - 1 - i) := by rw [List.length_append, List.length_take, srt_len, Nat.min_eq_left (Nat.le_trans (Nat.sub_le _ _) (Nat.sub_le _ _))]
        have e2 := (lft_ok (p := p) (off := n1 - 2 ^ (k + 1)) (s := 2 ^ k) i (Nat.le_of_lt hi)).2
        rw [e1] at hins hmv
        rw [List.append_nil] at hri hmv
        rw [hpt] at hmv
        rw [List.length_append, e1, e2] at hri
        rw [e2, ← hpx] at hins
        k_steps
        all_goals (first | exact absurd (by assumption) he0 | skip)
        refine Hold.out ?_
        refine' told_ok (wh := 2) ?kB ?kX ?kT ?kXB ?kTB ?kD rfl ?kd ?ku ?kF ?kN (.inl rfl) (UpdF.tail (Ne.symm (hno2 _ (.head _))) (UpdF.head hmn2)) hri hti ?kl ?klo (.inl ⟨rfl, rfl⟩) ⟨hins⟩ (fun _ h => nomatch h) (InsOk_bis hins) ?_
        case kB => assumption
        case kX => assumption
        case kT => assumption
        case kXB => assumption
        case kTB => assumption
        case kD => assumption
        case kd => (try dsimp only); omega
        case ku => (try dsimp only); omega
        case kF => with_reducible assumption
        case kN => with_reducible assumption
        case kl => exact mg7 (hpl.symm ▸ hqz) hi h15
        case klo => rw [hpx]; exact Int.ofNat_le.mpr (Nat.le_of_lt (Nat.lt_of_lt_of_le hkl (len_ok (hl2.trans hqz) h15)))
        intro h4 tk4 kF5 kN5
        k_steps
        obtain ⟨M5, eM5, F5⟩ := fr_ext kF5
        refine' turnFr_next ⟨_, _, tl, tj, M5⟩ [Str.ofString "low", Str.ofString "told", Str.ofString "merges", Str.ofString "row", Str.ofString "earlier", Str.ofString "key"] F5 kN5 hmv ?jm1 ?jm2 (fun q hq => hq) (ne_cons hno2)
        case jm1 => subst eM5; unfold iMap; walk_at "M map1"
        case jm2 => subst eM5; unfold iMap; walk_at "M fr2"
      case idone =>
        rintro ⟨vs2, ep2, tl, tj, jk2⟩ h2 tk2 hc2 kF3 kN3
        dsimp only at hc2 kF3 kN3
        unfold iMap at kF3
        dsimp only at kF3
        rw [hev, decide_eq_true rfl] at kF3
        rw [rowL_all, ← Nat.two_mul, Nat.mul_comm, ← Nat.pow_succ] at hc2
        have e3 : n1 / 2 ^ (k + 1) = n1 / 2 ^ k / 2 := by rw [Nat.pow_succ, Nat.div_div_eq_div_mul]
        k_steps
        (with_reducible rename Fr _ _ _ _ => kF4)
        (with_reducible rename News _ _ _ _ => kN4)
        obtain ⟨M5, eM5, F5⟩ := fr_ext kF4
        refine' turnFr_next ⟨k + 1, vs2, ep2, _, _, mid, M5⟩ [Str.ofString "told", Str.ofString "merges", Str.ofString "row", Str.ofString "earlier", Str.ofString "key"] F5 kN4 ⟨has3, hd2, hc2, hsub, hmn⟩ ?dm1 ?dm2 ?dn ?dd
        case dm1 => subst eM5; unfold mMap; dsimp only; rw [e3]; walk_at "M map1"
        case dm2 => subst eM5; unfold mMap; walk_at "M fr2"
        case dn => exact mem_sw2
        case dd => exact ne_cons hno
    · have hev : n1 / 2 ^ k % 2 = 0 := q_even (by assumption)
      obtain ⟨hd2, h2le, hoff⟩ := pow_next hev hdv h0
      refine Hold.out ?_
      (with_reducible rename Fr _ _ _ _ => kF2)
      (with_reducible rename News _ _ _ _ => kN2)
      obtain ⟨M2, eM2, F2⟩ := fr_ext kF2
      have hk3 : k < 3 := k_lt3 h15 h0 hd2
      have hsp := blk_split (p := p) n1 k h15 hk3 (Nat.dvd_of_mod_eq_zero hd2) h0
      have hpl : (blk p (n1 - 2 ^ (k + 1))).length = n1 - 2 ^ (k + 1) := blk_len _ (sub_lt_num h15)
      have hrow0 : RowW p rep kv (rowR p (blk p (n1 - 2 ^ (k + 1))) (n1 - 2 ^ (k + 1)) (2 ^ k) 0) vs1 := by
        rw [rowR_zero, ← hsp, hoff]; exact hrow
      have he0 : e = 0 := by assumption
      have hmn2 : ∀ q ∈ own :: mid, q.1 ≠ ra := fun q hq => (List.mem_cons.mp hq).elim (fun e => e ▸ Ne.symm (hno _ (.head _))) (hmn q)
      have hz2 : 2 * 2 ^ k ≤ n1 ∧ n1 - 2 ^ (k + 1) = n1 - 2 * 2 ^ k := by
        rw [show 2 * 2 ^ k = 2 ^ (k + 1) by rw [Nat.pow_succ, Nat.mul_comm]]
        exact ⟨h2le, rfl⟩
      have hqz : n1 - 2 ^ (k + 1) + 2 * 2 ^ k = n1 := hz2.2 ▸ Nat.sub_add_cancel hz2.1
      have hnum := fun i => num_up (i := i) hv1 (hpl.trans hz2.2) hz2.1 h15
      refine' pyIter_rangeG (fun i (σ : IS) => RowW p rep kv (rowR p (blk p (n1 - 2 ^ (k + 1))) (n1 - 2 ^ (k + 1)) (2 ^ k) i) σ.vs) (fun _ σ => iMap ((vs1.length : Int) - 2 * ((2 ^ k : Nat) : Int)) (QX (n1 / 2 ^ k / 2) (decide (n1 / 2 ^ k % 2 = 0))) k t2 ra kv e te σ) (fun _ σ => (ra, lstOf σ.vs σ.ep) :: own :: mid) (2 ^ k) ⟨vs1, ep1, _, _, M2⟩ [Str.ofString "low", Str.ofString "told", Str.ofString "merges", Str.ofString "row", Str.ofString "earlier", Str.ofString "key"] F2 kN2 (rng_at kN2 (.head _)) rfl (hnum 0).2.1 (hnum 0).1 hrow0 ?im1r ?im2r ?in0r ?iturnr ?idoner
      case im1r => subst eM2; unfold iMap; walk_at "M map1"
      case im2r => subst eM2; unfold iMap; walk_at "M fr2"
      case in0r =>
        intro q hq
        rcases List.mem_cons.mp hq with rfl | hq
        · exact .tail _ (.tail _ (.head _))
        rcases List.mem_cons.mp hq with rfl | hq
        · exact .tail _ (.head _)
        · exact .tail _ (.tail _ (.tail _ hq))
      case iturnr =>
        rintro i ⟨vs2, ep2, tl, tj, jk2⟩ h2 tk2 t own2 hi hc2 hno2 kF3 kN3
        dsimp only at hc2 hno2 kF3 kN3
        unfold iMap at kF3
        dsimp only at kF3
        obtain ⟨j2, hj2, her, hpt⟩ := rowR_step (p := p) (pre := blk p (n1 - 2 ^ (k + 1))) (off := n1 - 2 ^ (k + 1)) hi
        have hl2 := hc2.len
        rw [rowR_len (Nat.le_of_lt hi), hpl] at hl2
        have hpx := (hnum i).2.2 hi
        have hWlt : ∀ x ∈ rowR p (blk p (n1 - 2 ^ (k + 1))) (n1 - 2 ^ (k + 1)) (2 ^ k) i, x < n1 := rowR_lt (fun x hx => Nat.lt_of_lt_of_le (blk_mem (sub_lt_num h15) hx) (Nat.sub_le _ _)) (Nat.le_of_eq hqz)
        have hkl : (blk p (n1 - 2 ^ (k + 1))).length + 2 ^ k + i < vs2.length := by rw [hl2, hpl, Nat.add_assoc]; exact Nat.add_lt_add_left (mg_lt2 hi) _
        (show wpAny _ _ (assign _ _ (Value.int _ t)) _ _ _)
        k_fold
        k_steps
        refine Hold.out ?_
        refine' pop_L (k := (blk p (n1 - 2 ^ (k + 1))).length + 2 ^ k + i) ?qFr ?qNr (UpdF.tail (Ne.symm (hno2 _ (.head _))) (UpdF.head hmn2)) hpx hkl ?qzr ?_
        case qFr => with_reducible assumption
        case qNr => with_reducible assumption
        case qzr => exact len_ok (hl2.trans hqz) h15
        intro h3 kF4 kN4
        have hv2 := List.getElem?_eq_getElem hkl
        have hl3 : (vs2.eraseIdx ((blk p (n1 - 2 ^ (k + 1))).length + 2 ^ k + i)).length = n1 - 1 := by rw [List.length_eraseIdx_of_lt hkl, hl2, hqz]
        generalize vs2[(blk p (n1 - 2 ^ (k + 1))).length + 2 ^ k + i] = v2 at hv2 ⊢
        obtain ⟨kk, hri, hti, hins, hmv⟩ := RowW.move true hc2 hr hWlt hv2 hj2 her (rgt_ok (p := p) (off := n1 - 2 ^ (k + 1)) i (Nat.le_of_lt hi)).1
        have e2 := (rgt_ok (p := p) (off := n1 - 2 ^ (k + 1)) (s := 2 ^ k) i (Nat.le_of_lt hi)).2
        rw [hpt] at hmv
        have e4 : (blk p (n1 - 2 ^ (k + 1)) ++ rgtM p (srtM p (n1 - 2 ^ (k + 1)) (2 ^ k)) (srtM p (n1 - 2 ^ (k + 1) + 2 ^ k) (2 ^ k)) i ++ (srtM p (n1 - 2 ^ (k + 1) + 2 ^ k) (2 ^ k)).drop (i + 1)).length = n1 - 1 := by
          rw [← her, ← (hc2.erase _).len, hl3]
        rw [e4] at hri
        have e5 : ((blk p (n1 - 2 ^ (k + 1))).length : Int) = (vs1.length : Int) - 2 * ((2 ^ k : Nat) : Int) := by rw [hpl, hv1]; exact mg5 hqz
        rw [e2, e5] at hins
        k_steps
        all_goals (first | exact absurd he0 (by assumption) | skip)
        · refine Hold.out ?_
          refine' told_ok (wh := 3) ?kBr1 ?kXr1 ?kTr1 ?kXBr1 ?kTBr1 ?kDr1 rfl ?kdr1 ?kur1 ?kFr1 ?kNr1 (.inr rfl) (UpdF.tail (Ne.symm (hno2 _ (.head _))) (UpdF.head hmn2)) hri hti ?klr1 ?klor1 ?khir1 ⟨hins⟩ (fun _ h => nomatch h) (InsOk_bis hins) ?_
          case kBr1 => assumption
          case kXr1 => assumption
          case kTr1 => assumption
          case kXBr1 => assumption
          case kTBr1 => assumption
          case kDr1 => assumption
          case kdr1 => (try dsimp only); omega
          case kur1 => (try dsimp only); omega
          case kFr1 => with_reducible assumption
          case kNr1 => with_reducible assumption
          case klr1 => exact Nat.le_trans (Nat.sub_le _ _) (len_ok rfl h15)
          case klor1 => exact mg6 hv1 h15
          case khir1 => exact .inl ⟨rfl, mg8 hpx hl3 (by assumption)⟩
          intro h4 tk4 kF5 kN5
          k_steps
          obtain ⟨M5, eM5, F5⟩ := fr_ext kF5
          refine' turnFr_next ⟨_, _, tl, tj, M5⟩ [Str.ofString "low", Str.ofString "told", Str.ofString "merges", Str.ofString "row", Str.ofString "earlier", Str.ofString "key"] F5 kN5 hmv ?jm1r1 ?jm2r1 (fun q hq => hq) (ne_cons hno2)
          case jm1r1 => subst eM5; unfold iMap; walk_at "M map1"
          case jm2r1 => subst eM5; unfold iMap; walk_at "M fr2"
        · refine Hold.out ?_
          refine' told_ok (wh := 3) ?kBr2 ?kXr2 ?kTr2 ?kXBr2 ?kTBr2 ?kDr2 rfl ?kdr2 ?kur2 ?kFr2 ?kNr2 (.inr rfl) (UpdF.tail (Ne.symm (hno2 _ (.head _))) (UpdF.head hmn2)) hri hti ?klr2 ?klor2 ?khir2 ⟨hins⟩ (fun _ h => nomatch h) (InsOk_bis hins) ?_
          case kBr2 => assumption
          case kXr2 => assumption
          case kTr2 => assumption
          case kXBr2 => assumption
          case kTBr2 => assumption
          case kDr2 => assumption
          case kdr2 => (try dsimp only); omega
          case kur2 => (try dsimp only); omega
          case kFr2 => with_reducible assumption
          case kNr2 => with_reducible assumption
          case klr2 => exact Nat.le_trans (Nat.sub_le _ _) (len_ok rfl h15)
          case klor2 => exact mg6 hv1 h15
          case khir2 => exact .inr ⟨t, by rw [hpx, Nat.add_assoc], mg9 (hpl.symm ▸ hqz) hi⟩
          intro h4 tk4 kF5 kN5
          k_steps
          obtain ⟨M5, eM5, F5⟩ := fr_ext kF5
          refine' turnFr_next ⟨_, _, tl, tj, M5⟩ [Str.ofString "low", Str.ofString "told", Str.ofString "merges", Str.ofString "row", Str.ofString "earlier", Str.ofString "key"] F5 kN5 hmv ?jm1r2 ?jm2r2 (fun q hq => hq) (ne_cons hno2)
          case jm1r2 => subst eM5; unfold iMap; walk_at "M map1"
          case jm2r2 => subst eM5; unfold iMap; walk_at "M fr2"
      case idoner =>
        rintro ⟨vs2, ep2, tl, tj, jk2⟩ h2 tk2 hc2 kF3 kN3
        dsimp only at hc2 kF3 kN3
        unfold iMap at kF3
        dsimp only at kF3
        rw [hev, decide_eq_true rfl] at kF3
        rw [rowR_all, ← Nat.two_mul, Nat.mul_comm, ← Nat.pow_succ] at hc2
        have e3 : n1 / 2 ^ (k + 1) = n1 / 2 ^ k / 2 := by rw [Nat.pow_succ, Nat.div_div_eq_div_mul]
        k_steps
        (with_reducible rename Fr _ _ _ _ => kF4)
        (with_reducible rename News _ _ _ _ => kN4)
        obtain ⟨M5, eM5, F5⟩ := fr_ext kF4
        refine' turnFr_next ⟨k + 1, vs2, ep2, _, _, mid, M5⟩ [Str.ofString "told", Str.ofString "merges", Str.ofString "row", Str.ofString "earlier", Str.ofString "key"] F5 kN4 ⟨has3, hd2, hc2, hsub, hmn⟩ ?dm1r ?dm2r ?dnr ?ddr
        case dm1r => subst eM5; unfold mMap; dsimp only; rw [e3]; walk_at "M map1"
        case dm2r => subst eM5; unfold mMap; walk_at "M fr2"
        case dnr => exact mem_sw2
        case ddr => exact ne_cons hno
end
end
section
theorem lines_BK_0 : True := by
  walk_at "base"
  k_with "M enter" => ((
    refine wpAny_call ?_
    k_dflt (refine' code_def ?k1 ?k2 ?k3 ?k4 ?k5 ?kA ?kF ?kK ?k6 ?k7 ?k8 ?k9 ?kB ?_ ?c2 ?c3 ?c4 ?c5; (case kA => exact rfl); (case kF => exact rfl); (case kK => assumption); (case k1 => k_asm); (case k2 => k_asm); (case k3 => k_asm); (case k4 => k_asm); (case k5 => k_asm); (case k6 => k_is); (case k7 => k_is); (case k8 => ((try dsimp only); omega)); (case k9 => first | exact BindsTo.of_eq rfl | (refine' kp_binds ?kx ?ke; (case kx => first | (refine' myIn ?kf ?ki; (case kf => with_reducible assumption); (case ki => with_reducible assumption)) | k_in); (case ke => exact fun _ => rfl)) | exact binds_K (by first | (refine' myIn ?kf ?ki; (case kf => with_reducible assumption); (case ki => with_reducible assumption)) | k_in) rfl (by k_is) rfl rfl rfl); (case c5 => decide); (case kB => exact locs rfl); (case c2 => exact rfl); (case c3 => exact rfl); (case c4 => exact rfl); k_whole; intro g' L' h' FG' F' N' B' X' T'; (have D' := kts_dict B' (by assumption) FG' rfl); (try dsimp only); (try k_lift B'); (refine let_AE (f := execs _) ?_; intro vk ak); (refine f_QE ?_; intro qk ek))))
  trivial
theorem lines_BK_1 : True := by
  k_with "subscriptTail Name Constant ref int" => ((k_here; refine item_tupleT (News.isTup (by assumption) (by k_mem)) (by decide) (by decide) (by rfl) (by rfl) ?_))
  k_with "subscriptTail Name Constant ref int" => ((k_here; (with_reducible rename StrsAre _ _ => hSA); refine item_strsA (News.isList (by assumption) (by k_mem)) hSA (by decide) (by first | omega | (simp only [List.length_map]; omega)) (by decide) ?_; intro t'))
  k_with "call type:ValueError" => ((refine call_ValueError_made ?_; intro _ _ _))
  k_with "exec While Compare Name cons nil" => (refine Hold.mk ?_)
  k_with "exec While Compare" => (refine Hold.mk ?_)
  k_with "exec While Compare cons nil" => (refine Hold.mk ?_)
  k_with "exec While" => (refine Hold.mk ?_)
  k_with "binaryOp FloorDiv int int" => ((k_here; (with_reducible refine floordiv_pos ?kb1 ?kb2 ?_); (case kb1 => decide); (case kb2 => decide +kernel)))
  k_with "WhlIf" => ((refine whlIf_dec ?_ ?_ <;> intro _))
  k_with "subscriptTail Name Name ref int" => ((k_here; first
    | ((with_reducible rename StrsAre _ _ => hSA); refine item_strsA (News.isList (by assumption) (by k_mem)) hSA (by omega) (by omega) (by omega) ?_; intro t')
    | ((with_reducible rename IntsAre _ _ => hSA); refine item_intsA (News.isList (by assumption) (by k_mem)) hSA (by omega) (by omega) (by omega) ?_; intro t')))
  k_with "call builtin:len" => ((k_here; (with_reducible show wpAny _ _ (call (Value.builtin "len") [Value.ref _]) _ _ _); first
    | ((with_reducible rename StrsAre _ _ => hSA); refine len_strsA (News.isList (by assumption) (by k_mem)) hSA (by omega) ?_)
    | ((with_reducible rename IntsAre _ _ => hSA); refine len_intsA (News.isList (by assumption) (by k_mem)) hSA (by omega) ?_)))
  k_with "subscriptTail Name Constant ref int" => ((k_here; refine item_listL (News.isList (by assumption) (by k_mem)) (by decide) (by decide) (by rfl) ?_))
  trivial
theorem lines_BK_2 : True := by
  k_with "call builtin:len" => ((k_here; (with_reducible show wpAny _ _ (call (Value.builtin "len") [Value.ref _]) _ _ _); k_dflt (refine' len_L ?kN ?kM ?kz ?_; (case kN => with_reducible assumption); (case kM => k_mem); (case kz => omega))))
  k_with "pyIter ref" => ((refine Hold.mk ?_))
  k_with "exec For Name Tuple cons nil" => ((k_here; (with_unfolding_all refine' For_turns ?lF ?_; (case lF => k_asm); k_whole)))
  k_with "call builtin:list.extend" => ((refine Hold.mk ?_))
  k_with "eval Lambda" => ((k_here; k_dflt (refine' kla_eval ?d0 ?_; (case d0 => exact rfl)); refine Hold.mk ?_))
  k_with "M fr2" => ((intro y hy; (repeat (refine (if_neg (ne_of_out hy (by with_unfolding_all rfl))).trans ?_)); (refine Eq.symm ?_); (repeat (refine (if_neg (ne_of_out hy (by with_unfolding_all rfl))).trans ?_)); rfl))
  trivial
theorem pick_to1 {vs : List Value} {k : Int} (h0 : 0 ≤ k) (hk : k ≤ vs.length) : kms_pick vs none (some k) = vs.take k.toNat := by
  unfold kms_pick kms_lo kms_hi
  simp only [if_neg (show ¬ k < 0 by omega)]
  simp
theorem blkTo_succ {p : Nat → Int} {n j : Nat} : blkTo p n (j + 1) = blkTo p n j ++ prt p n (3 - j) := rfl
theorem memOf {h₀ h : Heap} {L : Addr} {l : Ldg} {x : Addr × Obj} (_ : News h₀ L h l) (hx : x ∈ l) : x ∈ l := hx
structure BS where
  j : Nat
  lf : Addr
  lvs : List Value
  le : Nat
  dvs : List Value
  de : Nat
  tb : Array Value
  mid : Ldg
  jk : PStr → Option Value
noncomputable def bMap (D : Addr) (σ : BS) : PStr → Option Value := fun y =>
  if y = Str.ofString "left" then some (.ref σ.lf) else if y = Str.ofString "due" then some (.ref D) else σ.jk y
noncomputable def bLed (D : Addr) (σ : BS) : Ldg := (D, lstOf σ.dvs σ.de) :: (131, tabObj σ.tb) :: σ.mid
abbrev bsz (u1 u2 u3 u4 : Tok) : List (Nat × Tok) := [(8, u1), (4, u2), (2, u3), (1, u4)]
structure BlC (p : Nat → Int) (n : Nat) (D : Addr) (cvs : List Value) (u1 u2 u3 u4 : Tok) (ls nw : Ldg) (as : List (Nat × Tok)) (σ : BS) : Prop where
  as : as = (bsz u1 u2 u3 u4).drop σ.j
  lf : (σ.lf, lstOf σ.lvs σ.le) ∈ σ.mid
  lvs : σ.lvs = cvs.drop (n / 2 ^ (4 - σ.j) * 2 ^ (4 - σ.j))
  dvs : σ.dvs = (blkTo p n σ.j).map (fun i => cvs.getD i .none)
  sub : ∀ q ∈ nw, q ∈ σ.mid
  nD : ∀ q ∈ σ.mid, q.1 ≠ D
  nT : ∀ q ∈ σ.mid, q.1 ≠ 131
  lam : ∃ ls', LamIs σ.tb ls' ∧ ∀ q ∈ ls', q ∈ σ.mid ∧ (q ∈ ls ∨ ∀ r ∈ nw, r.1 ≠ q.1)
  jle : σ.j ≤ 4
theorem bsz_at {u1 u2 u3 u4 ta : Tok} {a j : Nat} {as : List (Nat × Tok)} (h : (a, ta) :: as = (bsz u1 u2 u3 u4).drop j) : ∃ k, k < 4 ∧ j = 3 - k ∧ 4 - j = k + 1 ∧ 4 - (j + 1) = k ∧ 3 - j = k ∧ a = 2 ^ k ∧ as = (bsz u1 u2 u3 u4).drop (j + 1) := by
  match j, h with
  | 0, h => cases h; exact ⟨3, by decide, rfl, rfl, rfl, rfl, rfl, rfl⟩
  | 1, h => cases h; exact ⟨2, by decide, rfl, rfl, rfl, rfl, rfl, rfl⟩
  | 2, h => cases h; exact ⟨1, by decide, rfl, rfl, rfl, rfl, rfl, rfl⟩
  | 3, h => cases h; exact ⟨0, by decide, rfl, rfl, rfl, rfl, rfl, rfl⟩
  | j + 4, h => simp at h
theorem with_bszs {h₀ h : Heap} {L T D : Addr} {a b : Addr × Obj} {o : Obj} {l : Ldg} {u1 u2 u3 u4 : Tok} {G : Prop} (N : News h₀ L h ((T, tupOf [.int 8 u1, .int 4 u2, .int 2 u3, .int 1 u4]) :: a :: (D, o) :: b :: l))
    (k : ∀ T' D' v1 v2 v3 v4, T' = T → D' = D → News h₀ L h ((D', o) :: b :: (T', tupOf [.int 8 v1, .int 4 v2, .int 2 v3, .int 1 v4]) :: l) → G) : G := k T D u1 u2 u3 u4 rfl rfl (news_sub N (fun q hq => by
  rcases List.mem_cons.mp hq with rfl | hq
  · exact .tail _ (.tail _ (.head _))
  rcases List.mem_cons.mp hq with rfl | hq
  · exact .tail _ (.tail _ (.tail _ (.head _)))
  rcases List.mem_cons.mp hq with rfl | hq
  · exact .head _
  · exact .tail _ (.tail _ (.tail _ (.tail _ hq)))))
theorem mem_blk2 {q x o d9 tb d2 : Addr × Obj} {l : Ldg} (h : q ∈ o :: d9 :: tb :: d2 :: l) : q ∈ d2 :: ([x, o] ++ d9 :: tb :: l) := by
  simp only [List.cons_append, List.nil_append, List.mem_cons] at h ⊢
  rcases h with h | h | h | h | h
  · exact .inr (.inr (.inl h))
  · exact .inr (.inr (.inr (.inl h)))
  · exact .inr (.inr (.inr (.inr (.inl h))))
  · exact .inl h
  · exact .inr (.inr (.inr (.inr (.inr h))))
theorem blkTo_len {p : Nat → Int} {n : Nat} : ∀ j, (blkTo p n j).length ≤ 8 * j
  | 0 => Nat.le_refl _
  | j + 1 => by
    have h1 : (prt p n (3 - j)).length ≤ 8 := by
      unfold prt
      split
      · rw [srt_len]; exact pow_8 (by omega)
      · exact Nat.zero_le _
    have h2 := blkTo_len (p := p) (n := n) j
    rw [blkTo_succ, List.length_append]
    omega
theorem mem_blk {q x f d1 o d9 tb : Addr × Obj} {ex mid : Ldg} (h : q ∈ [x, o] ++ d9 :: tb :: (ex ++ mid)) : q ∈ x :: f :: (ex ++ d1 :: o :: d9 :: tb :: mid) := by
  simp only [List.cons_append, List.nil_append, List.mem_cons, List.mem_append] at h ⊢
  rcases h with h | h | h | h | h | h
  · exact .inl h
  · exact .inr (.inr (.inr (.inr (.inl h))))
  · exact .inr (.inr (.inr (.inr (.inr (.inl h)))))
  · exact .inr (.inr (.inr (.inr (.inr (.inr (.inl h))))))
  · exact .inr (.inr (.inl h))
  · exact .inr (.inr (.inr (.inr (.inr (.inr (.inr h))))))
section
variable {w : World} {p : Program} {loose : List PStr} {mean : ExcName → Option Value} {mg mb : PStr → Option Value}
    {dp un : Nat} {gd : Option (List Code)} {cn : PStr} {cs : Scope} {a : Addr} {ccd : Value} {cl : List (PStr × Addr)} {outer : List Env} {A₀ : Around} {base h₀ : Heap} {L : Addr} {m : PStr → Option Value}
    {s : Shared} {Q E : Value → Shared → Prop} {news : Ldg}
    (B : Below A₀ base outer h₀) (X : (KK.heap_1 w.params).In h₀) (T : Top p loose mean mg mb h₀) (XB : (KK.heap_1 w.params).In base) (TB : Top p loose mean mg mb base) (D : KtsDicts (outer.filterMap (·.frame)) h₀) (hck : cs.kind = .function)
include B X T XB TB D hck
theorem blocks_spec {p : Nat → Int} {rep : Nat → PStr} {n : Nat} {C : Addr} {cvs : List Value} {ce : Nat} {tb : Array Value} {ls : Ldg} (hd5 : dp + 80 < recursionLimit) (hu5 : un + 500 < cLine) (F : Fr h₀ L s.heap m) (N : News h₀ L s.heap ((131, tabObj tb) :: news)) (hnT : ∀ q ∈ news, q.1 ≠ 131)
   (hlam : LamIs tb ls) (hls : ∀ q ∈ ls, q ∈ news) (hC : (C, lstOf cvs ce) ∈ news) (hW : CameW p rep n cvs news) (h16 : n < 16)
   (hret : ∀ h' tk D de tb' mid, (∀ q ∈ news, q ∈ mid) → (∀ q ∈ mid, q.1 ≠ D) → (∀ q ∈ mid, q.1 ≠ 131) → (∃ ls', LamIs tb' ls' ∧ ∀ q ∈ ls', q ∈ mid ∧ (q ∈ ls ∨ ∀ r ∈ news, r.1 ≠ q.1)) → Fr h₀ L h' m → News h₀ L h' ((D, lstOf ((blk p n).map fun i => cvs.getD i .none) de) :: (131, tabObj tb') :: mid) → Q (.ref D) { s with heap := h', toks := tk }) :
   wpAny (model PySem.Challenge.rw_pm0034_01.row.prog w) (ktrTop dp un gd cn cs L a ccd cl outer) (call (.ref 136) [.ref C]) Q E s := by
  walk_at "M fill"
  have hcl := hW.len
  walk_at "M enter"
  k_steps
  refine Hold.out ?_
  (with_reducible rename Fr _ _ _ _ => kF)
  (with_reducible rename News _ _ _ _ => kN)
  (with_reducible rename (_ ∧ _ ∧ _ ∧ AllLt _ news) => l3)
  obtain ⟨M0, eM0, F0⟩ := fr_ext kF
  refine with_bszs kN ?_
  intro T9 D9 u1 u2 u3 u4 eT eD N0
  clear kN
  subst eT
  subst eD
  have l1 : 131 < D9 ∧ AllLt D9 news := by assumption
  refine' pyIter_tupG (fun q : Nat × Tok => .int (q.1 : Int) q.2) (BlC p n D9 cvs u1 u2 u3 u4 ls ((T9, tupOf [.int 8 u1, .int 4 u2, .int 2 u3, .int 1 u4]) :: news)) (bMap D9) (bLed D9) (bsz u1 u2 u3 u4) ⟨0, C, cvs, ce, [], 0, tb, (T9, tupOf [.int 8 u1, .int 4 u2, .int 2 u3, .int 1 u4]) :: news, M0⟩ [Str.ofString "left", Str.ofString "due"] ?hv F0 N0 (.tail _ (.tail _ (.head _))) rfl ?hk ?c0 ?m1 ?m2 rfl ?turn ?done
  case hv => rfl
  case hk => exact fun as σ hC => .tail _ (.tail _ (hC.sub _ (.head _)))
  case c0 =>
    refine ⟨rfl, .tail _ hC, ?_, rfl, fun q hq => hq, fun q hq => ?_, fun q hq => ?_, ?_, Nat.zero_le 4⟩
    · show cvs = cvs.drop (n / 2 ^ 4 * 2 ^ 4)
      rw [Nat.div_eq_of_lt h16]; rfl
    · rcases List.mem_cons.mp hq with rfl | hq
      · exact Nat.ne_of_gt l3.2.1
      · exact Nat.ne_of_lt (ktn_ltOf l1.2 q hq)
    · rcases List.mem_cons.mp hq with rfl | hq
      · exact Nat.ne_of_gt l3.2.2.1
      · exact hnT q hq
    · exact ⟨ls, hlam, fun q hq => ⟨.tail _ (hls q hq), .inl hq⟩⟩
  case m1 => subst eM0; unfold bMap; walk_at "M map1"
  case m2 => subst eM0; unfold bMap; walk_at "M fr2"
  case done =>
    rintro ⟨j, lf, lvs, le, dvs, de, tb1, mid, jk⟩ h tk hC1 kF1 kN1
    obtain ⟨has, hlf, hlv, hdv, hsub, hnD, hnT1, hlm, hjl⟩ := hC1
    dsimp only at has hlf hlv hdv hsub hnD hnT1 hlm hjl
    have hj : 4 ≤ j := by
      rcases Nat.lt_or_ge j 4 with q | q
      · have := congrArg List.length has
        simp at this
        omega
      · exact q
    have hj4 : j = 4 := Nat.le_antisymm hjl hj
    rw [hj4, blkTo_4] at hdv
    unfold bMap at kF1
    unfold bLed at kN1
    dsimp only at kF1 kN1
    obtain ⟨ls2, hls1, hls2⟩ := hlm
    k_steps
    rw [hdv] at *
    exact hret _ _ D9 de tb1 mid (fun q hq => hsub q (.tail _ hq)) hnD hnT1 ⟨ls2, hls1, fun q hq => ⟨(hls2 q hq).1, (hls2 q hq).2.elim .inl fun h => .inr fun r hr => h r (.tail _ hr)⟩⟩ (by assumption) (by assumption)
  case turn =>
    rintro ⟨a, ta⟩ as ⟨j, lf, lvs, le, dvs, de, tb1, mid, jk⟩ h tk own hC1 hno kF1 kN1
    obtain ⟨has, hlf, hlv, hdv, hsub, hnD, hnT1, hlm, hjl⟩ := hC1
    dsimp only at has hlf hlv hdv hsub hnD hnT1 hlm hjl
    obtain ⟨ls2, hls1, hls2⟩ := hlm
    obtain ⟨k, hk, hj, hj1, hj2, hj3, rfl, has3⟩ := bsz_at has
    unfold bMap at kF1
    unfold bLed at kN1 hno
    dsimp only at kF1 kN1 hno
    rw [hj1] at hlv
    have hll : lvs.length = n - n / 2 ^ (k + 1) * 2 ^ (k + 1) := by rw [hlv, List.length_drop, hcl]
    have hlz : lvs.length ≤ 1000 := by omega
    (show wpAny _ _ (assign _ _ (Value.int ((2 ^ k : Nat) : Int) ta)) _ _ _)
    k_fold
    k_steps
    · have hge : ((2 ^ k : Nat) : Int) ≤ (lvs.length : Int) := by assumption
      have hb : n / 2 ^ k % 2 = 1 := (left_ge hk h16).mp (by rw [← hll]; exact Int.ofNat_le.mp hge)
      have hon := off_next hk h16
      rw [if_pos hb] at hon
      have hoff : n / 2 ^ (k + 1) * 2 ^ (k + 1) + 2 ^ k ≤ n := by rw [← hon]; exact Nat.div_mul_le_self n (2 ^ k)
      k_here
      refine' slice_LA (zs := lvs.take (2 ^ k)) ?zF ?zN ?zl ?zp ?zq ?zz ?ze ?_
      case zF => k_asm
      case zN => k_asm
      case zl => exact .tail _ (.tail _ (.tail _ hlf))
      case zp => kmk_part
      case zq => kmk_part
      case zz => exact hlz
      case ze => rw [pick_to1 (Int.natCast_nonneg _) hge, Int.toNat_natCast]
      intro D1 hD1 FD1 ND1 lD1
      k_steps
      refine Hold.out ?_
      k_dflt (refine' lam_any (tb := tb1) ?lF ?lN ?lT ?lC ?lcd ?lU ?lg ?ll ?ls ?l1 ?l2 ?lq ?lcl ?_)
      case lF => with_reducible assumption
      case lN => with_reducible assumption
      case lT => assumption
      case lC => exact codeHd_of_K (by assumption) (by kernel_rfl)
      case lcd => exact rfl
      case lU => exact UpdF.tail (Nat.ne_of_gt lD1.2.2.1) (UpdF.tail (Ne.symm (hno (131, _) (.tail _ (.head _)))) (UpdF.tail (Nat.ne_of_gt l1.1) (UpdF.head hnT1)))
      case lg => exact rfl
      case ll => exact hls1
      case ls => exact fun x q hq => .tail _ (.tail _ (.tail _ (.tail _ (hls2 q hq).1)))
      case l1 => exact rfl
      case l2 => exact rfl
      case lq => exact rfl
      case lcl => exact rfl
      intro f c' oc cvs' tq ctv hL tkL tb' ex hlm2 FL NL hc' hoc hvs1 lex lf2
      k_steps
      kmk_kw
      have hW2 : CameW p rep n cvs mid := hW.mono fun q hq => hsub q (.tail _ hq)
      have hinj : ∀ (i j : Nat) (v : Value), (lvs.take (2 ^ k))[i]? = some v → (lvs.take (2 ^ k))[j]? = some v → i = j := fun i j v h1 h2 => by
        rw [hlv] at h1 h2
        have := hW2.inj _ _ _ (sub_at h1).2 (sub_at h2).2
        omega
      have htl : (lvs.take (2 ^ k)).length = 2 ^ k := by rw [List.length_take]; have := Int.ofNat_le.mp hge; omega
      with_unfolding_all refine' so_sorted (ix := ixOf (lvs.take (2 ^ k))) (kz := (List.range' (n / 2 ^ (k + 1) * 2 ^ (k + 1)) (2 ^ k)).map p) ?sF ?sN ?sl ?slen ?s64 ?six ?st ?sq
      case sF => with_reducible assumption
      case sN => with_reducible assumption
      case sl => exact News.isList (by with_reducible assumption) (.tail _ (List.mem_append_right _ (.head _)))
      case slen => rw [List.length_map, List.length_range', htl]
      case s64 => have := pow_8 hk; omega
      case six => exact fun i v h => ixOf_eq hinj h
      case st =>
        intro i v kk hv hkk h3 tk3 own3 Fy Ny
        have hi : i < 2 ^ k := by rw [← htl]; exact (List.getElem?_eq_some_iff.mp hv).1
        have hv' := hv
        rw [hlv] at hv'
        obtain ⟨a3, t3, t4, e3, hv3, hm3⟩ := hW2.at' (n / 2 ^ (k + 1) * 2 ^ (k + 1) + i) (by omega)
        have ev : v = .ref a3 := by have := (sub_at hv').2; rw [hv3] at this; exact (Option.some.inj this).symm
        have ek3 : kk = p (n / 2 ^ (k + 1) * 2 ^ (k + 1) + i) := by
          rw [List.getElem?_map, List.getElem?_range' hi, Nat.one_mul] at hkk
          exact (Option.some.inj hkk).symm
        subst ev
        subst ek3
        have hm5 := memOf Ny (List.mem_append_left _ (.tail _ (List.mem_append_right _ (.tail _ (.tail _ (.tail _ (.tail _ hm3)))))))
        refine wpAny_call ?_
        k_dflt (refine' kla_code ?k1 ?k2 ?k3 ?k4 ?k5 ?kA ?kF ?kK ?k6 ?k7 ?k8 ?k9 ?kB ?_ ?c2 ?c3 ?c4 ?c5)
        case kA => exact rfl
        case kF => exact rfl
        case kK => exact rfl
        case k1 => assumption
        case k2 => exact Fy
        case k3 => assumption
        case k4 => exact Ny
        case k5 => assumption
        case k6 => exact .head _
        case k7 => exact codeRec_news Ny (List.mem_append_left _ (.tail _ hc')) hoc hvs1
        case k8 => first | (show dp + 1 < recursionLimit; omega) | (show dp + 2 < recursionLimit; omega) | (show dp + 3 < recursionLimit; omega) | (show dp + 4 < recursionLimit; omega)
        case k9 => exact rfl
        case c5 => decide
        case kB => exact locs rfl
        case c2 => exact rfl
        case c3 => exact rfl
        case c4 => exact rfl
        intro g2 L2 h2' FG2 F2' N2' B2' X2' T2'
        k_steps
      case sq =>
        intro Dq hq tkq out cq Fq Nq lq hst
        have hout := st_srt hW2 hoff (by rw [hlv]) hst
        k_steps
        refine Hold.out ?_
        have hDq1 : (Dq : Addr) ≠ D9 := Nat.ne_of_gt (lq _ (.tail _ (List.mem_append_right _ (.tail _ (.tail _ (.head _))))))
        have hDqT : (Dq : Addr) ≠ 131 := Nat.ne_of_gt (lq _ (.tail _ (List.mem_append_right _ (.tail _ (.tail _ (.tail _ (.head _)))))))
        have hex1 : ∀ q ∈ ex, q.1 ≠ D9 := fun q hq => Nat.ne_of_gt (lex q hq _ (.tail _ (.tail _ (.head _))))
        have hexT : ∀ q ∈ ex, q.1 ≠ 131 := fun q hq => Nat.ne_of_gt (lex q hq _ (.tail _ (.tail _ (.tail _ (.head _)))))
        have hexo : ∀ q ∈ ex, q.1 ≠ own.1 := fun q hq => Nat.ne_of_gt (lex q hq own (.tail _ (.head _)))
        have Ns : News g' vk.locals hq ([(Dq, seqObj "list" out cq), own] ++ (D9, lstOf dvs de) :: (131, tabObj tb') :: (ex ++ mid)) := news_sub Nq (fun q hq => mem_blk hq)
        refine extend_in (its2 := out) (n2 := cq) (own := [(Dq, seqObj "list" out cq), own]) Fq Ns (apart2 hDq1 (Ne.symm (hno (D9, _) (.head _)))) ?xr ?xb ?_ ?xz
        case xr =>
          intro q hq
          rcases List.mem_cons.mp hq with rfl | hq
          · exact Nat.ne_of_lt l1.1
          rcases List.mem_append.mp hq with hq | hq
          · exact hex1 q hq
          · exact hnD q hq
        case xb => exact (Nq _ (.head _)).1
        case xz =>
          have h1 : dvs.length ≤ 8 * j := by rw [hdv, List.length_map]; exact blkTo_len j
          have h2 : out.size ≤ 8 := by
            rw [← Array.length_toList, hout, List.length_map, srt_len]
            exact pow_8 hk
          exact Nat.le_trans (show _ ≤ 32 by omega) (by decide)
        intro h6 n6 F6 N6
        k_steps
        k_here
        refine' slice_LA (zs := lvs.drop (2 ^ k)) ?yF ?yN ?yl ?yp ?yq ?yz ?ye ?_
        case yF => k_asm
        case yN => k_asm
        case yl => exact .tail _ (.tail _ (.tail _ (.tail _ (List.mem_append_right _ hlf))))
        case yp => kmk_part
        case yq => kmk_part
        case yz => exact hlz
        case ye => rw [kms_from (Int.natCast_nonneg _), Int.toNat_natCast]
        intro D2 hD2 FD2 ND2 lD2
        k_steps
        (with_reducible rename Fr _ _ _ _ => kF5)
        (with_reducible rename News _ _ _ _ => kN5)
        obtain ⟨M5, eM5, F5⟩ := fr_ext kF5
        have lD2' := ktn_ltOf lD2
        refine' turnFr_next ⟨j + 1, D2, lvs.drop (2 ^ k), 0, dvs ++ out.toList, n6, tb', (D2, lstOf (lvs.drop (2 ^ k)) 0) :: (ex ++ mid), M5⟩ [Str.ofString "left", Str.ofString "due"] F5 kN5 ⟨has3, .head _, ?wl, ?wd, ?ws, ?wD, ?wT, ?wm, (show j + 1 ≤ 4 by omega)⟩ ?wm1 ?wm2 ?wn ?wo
        case wl =>
          show lvs.drop (2 ^ k) = _
          rw [hj2, hlv, List.drop_drop, hon]
        case wd =>
          show dvs ++ out.toList = (blkTo p n j ++ prt p n (3 - j)).map _
          unfold prt
          rw [hdv, hj3, if_pos hb, List.map_append, hout]
        case ws => exact fun q hq => .tail _ (List.mem_append_right _ (hsub q hq))
        case wD =>
          intro q hq
          rcases List.mem_cons.mp hq with rfl | hq
          · exact Nat.ne_of_gt (lD2' _ (.tail _ (.tail _ (.head _))))
          rcases List.mem_append.mp hq with hq | hq
          · exact hex1 q hq
          · exact hnD q hq
        case wT =>
          intro q hq
          rcases List.mem_cons.mp hq with rfl | hq
          · exact Nat.ne_of_gt (lD2' _ (.tail _ (.tail _ (.tail _ (.head _)))))
          rcases List.mem_append.mp hq with hq | hq
          · exact hexT q hq
          · exact hnT1 q hq
        case wm =>
          refine ⟨ex ++ ls2, .inr hlm2, fun q hq => ?_⟩
          rcases List.mem_append.mp hq with h | h
          · exact ⟨.tail _ (List.mem_append_left _ h), .inr fun r hr => Nat.ne_of_lt (lex q h r (.tail _ (.tail _ (.tail _ (.tail _ (hsub r hr))))))⟩
          · exact ⟨.tail _ (List.mem_append_right _ (hls2 q h).1), (hls2 q h).2⟩
        case wm1 => subst eM5; unfold bMap; walk_at "M map1"
        case wm2 => subst eM5; unfold bMap; walk_at "M fr2"
        case wn => exact fun q hq => mem_blk2 hq
        case wo =>
          intro q hq
          rcases List.mem_cons.mp hq with rfl | hq
          · exact hno (D9, lstOf dvs de) (.head _)
          rcases List.mem_cons.mp hq with rfl | hq
          · exact hno (131, tabObj tb1) (.tail _ (.head _))
          rcases List.mem_cons.mp hq with rfl | hq
          · exact Nat.ne_of_gt (lD2' _ (.tail _ (.head _)))
          rcases List.mem_append.mp hq with hq | hq
          · exact hexo q hq
          · exact hno q (.tail _ (.tail _ hq))
    · have hge : ¬ ((2 ^ k : Nat) : Int) ≤ (lvs.length : Int) := by assumption
      have hb : ¬ n / 2 ^ k % 2 = 1 := fun q => hge (Int.ofNat_le.mpr (by rw [hll]; exact (left_ge hk h16).mpr q))
      have hon := off_next hk h16
      rw [if_neg hb, Nat.add_zero] at hon
      (with_reducible rename Fr _ _ _ _ => kF5)
      (with_reducible rename News _ _ _ _ => kN5)
      obtain ⟨M5, eM5, F5⟩ := fr_ext kF5
      refine' turnFr_next ⟨j + 1, lf, lvs, le, dvs, de, tb1, mid, M5⟩ [Str.ofString "left", Str.ofString "due"] F5 kN5 ⟨has3, hlf, ?xl, ?xd, hsub, hnD, hnT1, ⟨ls2, hls1, hls2⟩, (show j + 1 ≤ 4 by omega)⟩ ?xm1 ?xm2 (fun q hq => hq) hno
      case xl =>
        show lvs = _
        rw [hj2, hlv, hon]
      case xd =>
        show dvs = (blkTo p n j ++ prt p n (3 - j)).map _
        unfold prt
        rw [hdv, hj3, if_neg hb, List.append_nil]
      case xm1 => subst eM5; unfold bMap; walk_at "M map1"
      case xm2 => subst eM5; unfold bMap; walk_at "M fr2"
end
end
section
theorem lines_L1P_0 : True := by
  walk_at "base"
  trivial
theorem lines_L1P_1 : True := by
  k_with "subscriptTail Name Constant ref int" => ((k_here; refine item_tupleT (News.isTup (by assumption) (by k_mem)) (by decide) (by decide) (by rfl) (by rfl) ?_))
  k_with "subscriptTail Name Constant ref int" => ((k_here; (with_reducible rename StrsAre _ _ => hSA); refine item_strsA (News.isList (by assumption) (by k_mem)) hSA (by decide) (by first | omega | (simp only [List.length_map]; omega)) (by decide) ?_; intro t'))
  k_with "call type:ValueError" => ((refine call_ValueError_made ?_; intro _ _ _))
  k_with "exec While Compare Name cons nil" => (refine Hold.mk ?_)
  k_with "exec While Compare" => (refine Hold.mk ?_)
  k_with "exec While Compare cons nil" => (refine Hold.mk ?_)
  k_with "exec While" => (refine Hold.mk ?_)
  k_with "binaryOp FloorDiv int int" => ((k_here; (with_reducible refine floordiv_pos ?kb1 ?kb2 ?_); (case kb1 => decide); (case kb2 => decide +kernel)))
  k_with "WhlIf" => ((refine whlIf_dec ?_ ?_ <;> intro _))
  k_with "subscriptTail Name Name ref int" => ((k_here; first
    | ((with_reducible rename StrsAre _ _ => hSA); refine item_strsA (News.isList (by assumption) (by k_mem)) hSA (by omega) (by omega) (by omega) ?_; intro t')
    | ((with_reducible rename IntsAre _ _ => hSA); refine item_intsA (News.isList (by assumption) (by k_mem)) hSA (by omega) (by omega) (by omega) ?_; intro t')))
  k_with "call builtin:len" => ((k_here; (with_reducible show wpAny _ _ (call (Value.builtin "len") [Value.ref _]) _ _ _); first
    | ((with_reducible rename StrsAre _ _ => hSA); refine len_strsA (News.isList (by assumption) (by k_mem)) hSA (by omega) ?_)
    | ((with_reducible rename IntsAre _ _ => hSA); refine len_intsA (News.isList (by assumption) (by k_mem)) hSA (by omega) ?_)))
  k_with "subscriptTail" => (((with_reducible show wpAny _ _ (subscriptTail _ (Expr.Slice _ _ _ _) _ _) _ _ _); refine Hold.mk ?_))
  k_with "subscriptTail Name Slice ref ref" => ((refine Hold.mk ?_))
  k_with "subscriptTail Name Slice" => ((refine Hold.mk ?_))
  k_with "eval ListComp" => ((k_here; k_dflt (refine LCt.ListComp_T (F₀ := by k_asm) (by with_unfolding_all rfl) (by decide) (by rfl) (by decide) (by rfl) ?_)))
  trivial
theorem lines_L1P_2 : True := by
  k_with "call builtin:len" => ((k_here; (with_reducible show wpAny _ _ (call (Value.builtin "len") [Value.ref _]) _ _ _); k_dflt (refine' len_L ?kN ?kM ?kz ?_; (case kN => with_reducible assumption); (case kM => k_mem); (case kz => omega))))
  k_with "CompSrcT" => ((refine Hold.mk ?_))
  k_with "CompSrc" => ((refine Hold.mk ?_))
  k_with "SrcLP" => ((refine Hold.mk ?_))
  k_with "subscriptTail Name Constant ref int" => ((k_here; refine item_listL (News.isList (by assumption) (by k_mem)) (by decide) (by decide) (by rfl) ?_))
  k_with "M fr2" => ((intro y hy; (repeat (refine (if_neg (ne_of_out hy (by with_unfolding_all rfl))).trans ?_)); (refine Eq.symm ?_); (repeat (refine (if_neg (ne_of_out hy (by with_unfolding_all rfl))).trans ?_)); rfl))
  trivial
theorem pick_mid {vs : List Value} {a b : Nat} (h1 : a ≤ b) (h2 : b ≤ vs.length) : kms_pick vs (some (a : Int)) (some (b : Int)) = (vs.drop a).take (b - a) := by
  unfold kms_pick
  have e1 : kms_lo (some (a : Int)) vs.length = a := by
    unfold kms_lo
    dsimp only
    rw [if_neg (by omega), Int.toNat_natCast]; omega
  have e2 : kms_hi (some (b : Int)) vs.length = b := by
    unfold kms_hi
    dsimp only
    rw [if_neg (by omega), Int.toNat_natCast]; omega
  rw [e1, e2]
theorem filter_take1 {α : Type} {q : α → Bool} {l : List α} {i : Nat} {y : α} (h : l[i]? = some y) : ((l.take (i + 1)).filter q).length = ((l.take i).filter q).length + (if q y = true then 1 else 0) := by
  rw [List.take_add_one, h, List.filter_append, List.length_append]
  show _ + ([y].filter q).length = _
  by_cases hq : q y = true
  · rw [List.filter_cons_of_pos hq, if_pos hq]; rfl
  · rw [List.filter_cons_of_neg hq, if_neg hq]; rfl
def forB1 : List Stmt := forBody (lawStmts1.drop 8)
section
variable {w : World} {p : Program} {loose : List PStr} {mean : ExcName → Option Value} {mg mb : PStr → Option Value}
    {dp un : Nat} {gd : Option (List Code)} {a : Addr} {ccd : Value} {c1 c2 c3 c4 c5 c6 c7 c8 : Addr} {A₀ : Around} {base h₀ : Heap} {L : Addr}
    {s : Shared} {news : Ldg}
    (B : Below A₀ base [] h₀) (X : (KK.heap_1 w.params).In h₀) (T : Top p loose mean mg mb h₀) (XB : (KK.heap_1 w.params).In base) (TB : Top p loose mean mg mb base)
include B X T XB TB
theorem t1_p1 {n : Nat} {C Sp : Addr} {cvs svs gvs evs : List Value} {ce e1 : Nat} {o2 o5 : Obj} {pp : Nat → Int} {rep : Nat → PStr} {x : Int} {tx : Tok} {jk : PStr → Option Value} {Q : Flow → Shared → Prop} {E : Value → Shared → Prop}
   (hd5 : dp + 200 < recursionLimit) (hu5 : un + 2000 < cLine) (hn : n < 16)
   (F : Fr h₀ L s.heap (fun y => if y = Str.ofString "spans" then some (.ref Sp) else jk y))
   (N : News h₀ L s.heap news) (hc2 : (c2, o2) ∈ news) (ho2 : o2.data = .cell (some (.ref C))) (hc5 : (c5, o5) ∈ news) (ho5 : o5.data = .cell (some (.int x tx)))
   (hC : (C, lstOf cvs ce) ∈ news) (hCw : CameW pp rep n cvs news) (hSp : (Sp, lstOf svs e1) ∈ news) (hT : TupsAre news svs gvs evs) (hgi : IntsAre gvs (bgT n 4)) (hei : IntsAre evs (enT n 4))
   (hret : ∀ (h' : Heap) (tk : Nat) (D1 : Addr) (ls1 : List Value), IntsAre ls1 (spanL pp n false x (bgT n 4) (enT n 4) (bgT n 4).length) →
      Fr h₀ L h' (fun y => if y = Str.ofString "less" then some (.ref D1) else if y = Str.ofString "spans" then some (.ref Sp) else jk y) →
      News h₀ L h' ((D1, lstOf ls1 ls1.length) :: news) → Q .next { s with heap := h', toks := tk }) :
   wpAny (model PySem.Challenge.rw_pm0034_01.row.prog w) (ktrTop dp un gd (Str.ofString "law") lawScope1 L a ccd (cells8 c1 c2 c3 c4 c5 c6 c7 c8) []) (execs (forB1.take 1) (envX (Str.ofString "law") lawScope1 L a ccd (cells8 c1 c2 c3 c4 c5 c6 c7 c8))) Q E s := by
  walk_at "M fill"
  obtain ⟨q1, q2, q3, q4⟩ := sum_at hn
  have hgl := ints_length hgi
  have hsl := hT.length
  have hcl := hCw.len
  have hz : svs.toArray.size ≤ sizeLine := by rw [List.size_toArray]; exact Nat.le_trans (m := 1000) (by omega) (by decide)
  show wpAny _ (ktrTop _ _ _ _ (Scope.mk _ _ _ _ _) _ _ _ _ _) (execs (_ :: []) (envX _ (Scope.mk _ _ _ _ _) _ _ _ _)) _ _ _
  k_steps
  refine Hold.out ?_
  refine LCp.SrcLP.ledger (its := svs.toArray) (k := e1) rfl (by assumption) N hSp hz ?_
  intro g
  refine compP_ind (fun j ys nw => nw = news ∧ IntsAre ys (spanL pp n false x (bgT n 4) (enT n 4) j)) ⟨rfl, .nil⟩ ?turn ?fin
  case turn =>
    rintro j v ys nw hi hv ⟨enw, hI⟩
    obtain ⟨t, gx, ex, rfl, hg1, he1, hmt⟩ := hT.at j v (by simpa using hv)
    obtain ⟨tg, rfl⟩ := ints_val hgi hg1
    obtain ⟨te, rfl⟩ := ints_val hei he1
    subst enw
    refine ⟨t, _, _, rfl, hmt, ?_⟩
    intro I oI C0 oC D' m₂ h tk E' hCn hx1 hx2 kF kN off ne
    have hj : j < (bgT n 4).length := by rw [List.size_toArray] at hi; omega
    obtain ⟨k, hk, hb, eb, ee⟩ := span_at hn hj
    obtain ⟨_, _, _, _, hle⟩ := blk_cut (p := pp) hn hk hb
    have hsn := spanL_succ (p := pp) (n := n) (r := false) (x := x) (b := bgT n 4) (e := enT n 4) (j := j)
    rw [eb, ee] at hsn
    rw [Int.toNat_natCast, Int.toNat_natCast, Nat.add_sub_cancel_left] at hsn
    rw [eb] at hx1
    rw [ee] at hx2
    generalize n / 2 ^ (k + 1) * 2 ^ (k + 1) = lo at *
    generalize hsz : 2 ^ k = sz at *
    (with_reducible show wpAny _ _ _ _ _ _)
    k_fold
    k_steps
    refine Hold.out ?_
    k_here
    refine' slice_LA (zs := (cvs.drop lo).take sz) ?zF ?zN ?zl ?zp ?zq ?zz ?ze ?_
    case zF => k_asm
    case zN => k_asm
    case zl => exact .tail _ (.tail _ (.tail _ hC))
    case zp => kmk_part
    case zq => kmk_part
    case zz => omega
    case ze => rw [pick_mid (by omega) (by omega), Nat.add_sub_cancel_left]
    intro D1 hD1 FD1 ND1 lD1
    have hz2 : ((cvs.drop lo).take sz).toArray.size ≤ sizeLine := by rw [List.size_toArray, List.length_take, List.length_drop]; exact Nat.le_trans (m := 1000) (by omega) (by decide)
    k_steps
    refine Hold.out ?_
    refine LCt.CompSrcT.ledger (its := ((cvs.drop lo).take sz).toArray) (k := 0) rfl FD1 ND1 (.head _) hz2 ?_
    intro g2
    refine compT_ind (fun j2 ys2 nw2 => nw2 = (D1, lstOf ((cvs.drop lo).take sz) 0) :: (I, oI) :: (C0, oC) :: (D', LCg.lst ys) :: nw ∧ ys2.length = (((List.range' lo sz).take j2).filter fun i => decide (pp i < x)).length) ⟨rfl, rfl⟩ ?turn2 ?fin2
    case turn2 =>
      rintro j2 v2 I2 oI2 C3 oC3 D3 m3 ys2 nw2 h2 tk2 E2 hi2 hv2 ⟨rfl, hI2⟩ hCn2 hx3 kF2 kN2 off2 ne2
      obtain ⟨hj2, hv3⟩ := sub_at (show ((cvs.drop lo).take sz)[j2]? = some v2 by simpa using hv2)
      obtain ⟨a3, t3, t4, e3, hv4, hm3⟩ := hCw.at' (lo + j2) (by omega)
      obtain rfl : v2 = .ref a3 := by rw [hv3] at hv4; exact Option.some.inj hv4
      have hft := filter_take1 (q := fun i => decide (pp i < x)) (l := List.range' lo sz) (i := j2) (y := lo + j2) (by rw [List.getElem?_range' hj2, Nat.one_mul])
      have hr3 := memOf kN2 (.tail _ (.tail _ (.tail _ (.tail _ (.tail _ (.tail _ (.tail _ hm3)))))))
      (with_reducible show wpAny _ _ _ _ _ _)
      k_fold
      k_steps
      · exact LCg.CompEnd.intro kF2 kN2 _ (fun p hp => hp) off2 (.inr ⟨_, .head _, rfl, _, rfl⟩) ⟨rfl, by rw [List.length_append, hI2, hft, if_pos (decide_eq_true (by assumption))]; rfl⟩
      · exact LCg.CompEnd.intro kF2 kN2 _ (fun p hp => hp) off2 (.inr ⟨_, .head _, rfl, _, rfl⟩) ⟨rfl, by rw [hI2, hft, if_neg (fun c => absurd (of_decide_eq_true c) (by assumption))]; rfl⟩
    case fin2 =>
      rintro ys2 nw2 ⟨rfl, hI2⟩
      intro D3 h3 tk3 kF3 kN3 off3
      rw [List.take_of_length_le (by rw [List.length_range', List.size_toArray, List.length_take, List.length_drop]; omega)] at hI2
      have hyl : ys2.length ≤ 1000 := by rw [hI2]; exact Nat.le_trans (List.length_filter_le ..) (by rw [List.length_range']; omega)
      k_steps
      refine LCg.CompEnd.intro kF3 kN3 nw (fun p hp => .tail _ (.tail _ hp)) off (.inr ⟨_, hSp, rfl, _, rfl⟩) ⟨rfl, ?_⟩
      rw [hsn, hI2]
      exact intsAre_append hI (.cons _ _ .nil)
  case fin =>
    rintro ys nw ⟨enw, hI⟩
    subst enw
    intro D1 h tk kF kN off
    rw [List.size_toArray, show svs.length = (bgT n 4).length by omega] at hI
    k_steps
    exact hret _ _ D1 ys hI (by assumption) (by assumption)
end
section
variable {w : World} {p : Program} {loose : List PStr} {mean : ExcName → Option Value} {mg mb : PStr → Option Value}
    {dp un : Nat} {gd : Option (List Code)} {a : Addr} {ccd : Value} {c1 c2 c3 c4 c5 c6 c7 c8 : Addr} {A₀ : Around} {base h₀ : Heap} {L : Addr}
    {s : Shared} {news : Ldg}
    (B : Below A₀ base [] h₀) (X : (KK.heap_1 w.params).In h₀) (T : Top p loose mean mg mb h₀) (XB : (KK.heap_1 w.params).In base) (TB : Top p loose mean mg mb base)
include B X T XB TB
theorem t1_p2 {n : Nat} {C Sp : Addr} {cvs svs gvs evs : List Value} {ce e1 : Nat} {o2 o5 : Obj} {pp : Nat → Int} {rep : Nat → PStr} {x : Int} {tx : Tok} {jk : PStr → Option Value} {Q : Flow → Shared → Prop} {E : Value → Shared → Prop}
   (hd5 : dp + 200 < recursionLimit) (hu5 : un + 2000 < cLine) (hn : n < 16)
   (F : Fr h₀ L s.heap (fun y => if y = Str.ofString "spans" then some (.ref Sp) else jk y))
   (N : News h₀ L s.heap news) (hc2 : (c2, o2) ∈ news) (ho2 : o2.data = .cell (some (.ref C))) (hc5 : (c5, o5) ∈ news) (ho5 : o5.data = .cell (some (.int x tx)))
   (hC : (C, lstOf cvs ce) ∈ news) (hCw : CameW pp rep n cvs news) (hSp : (Sp, lstOf svs e1) ∈ news) (hT : TupsAre news svs gvs evs) (hgi : IntsAre gvs (bgT n 4)) (hei : IntsAre evs (enT n 4))
   (hret : ∀ (h' : Heap) (tk : Nat) (D1 : Addr) (ls1 : List Value), IntsAre ls1 (spanL pp n true x (bgT n 4) (enT n 4) (bgT n 4).length) →
      Fr h₀ L h' (fun y => if y = Str.ofString "upto" then some (.ref D1) else if y = Str.ofString "spans" then some (.ref Sp) else jk y) →
      News h₀ L h' ((D1, lstOf ls1 ls1.length) :: news) → Q .next { s with heap := h', toks := tk }) :
   wpAny (model PySem.Challenge.rw_pm0034_01.row.prog w) (ktrTop dp un gd (Str.ofString "law") lawScope1 L a ccd (cells8 c1 c2 c3 c4 c5 c6 c7 c8) []) (execs ((forB1.drop 1).take 1) (envX (Str.ofString "law") lawScope1 L a ccd (cells8 c1 c2 c3 c4 c5 c6 c7 c8))) Q E s := by
  walk_at "M fill"
  obtain ⟨q1, q2, q3, q4⟩ := sum_at hn
  have hgl := ints_length hgi
  have hsl := hT.length
  have hcl := hCw.len
  have hz : svs.toArray.size ≤ sizeLine := by rw [List.size_toArray]; exact Nat.le_trans (m := 1000) (by omega) (by decide)
  show wpAny _ (ktrTop _ _ _ _ (Scope.mk _ _ _ _ _) _ _ _ _ _) (execs (_ :: []) (envX _ (Scope.mk _ _ _ _ _) _ _ _ _)) _ _ _
  k_steps
  refine Hold.out ?_
  refine LCp.SrcLP.ledger (its := svs.toArray) (k := e1) rfl (by assumption) N hSp hz ?_
  intro g
  refine compP_ind (fun j ys nw => nw = news ∧ IntsAre ys (spanL pp n true x (bgT n 4) (enT n 4) j)) ⟨rfl, .nil⟩ ?turn ?fin
  case turn =>
    rintro j v ys nw hi hv ⟨enw, hI⟩
    obtain ⟨t, gx, ex, rfl, hg1, he1, hmt⟩ := hT.at j v (by simpa using hv)
    obtain ⟨tg, rfl⟩ := ints_val hgi hg1
    obtain ⟨te, rfl⟩ := ints_val hei he1
    subst enw
    refine ⟨t, _, _, rfl, hmt, ?_⟩
    intro I oI C0 oC D' m₂ h tk E' hCn hx1 hx2 kF kN off ne
    have hj : j < (bgT n 4).length := by rw [List.size_toArray] at hi; omega
    obtain ⟨k, hk, hb, eb, ee⟩ := span_at hn hj
    obtain ⟨_, _, _, _, hle⟩ := blk_cut (p := pp) hn hk hb
    have hsn := spanL_succ (p := pp) (n := n) (r := true) (x := x) (b := bgT n 4) (e := enT n 4) (j := j)
    rw [eb, ee] at hsn
    rw [Int.toNat_natCast, Int.toNat_natCast, Nat.add_sub_cancel_left] at hsn
    rw [eb] at hx1
    rw [ee] at hx2
    generalize n / 2 ^ (k + 1) * 2 ^ (k + 1) = lo at *
    generalize hsz : 2 ^ k = sz at *
    (with_reducible show wpAny _ _ _ _ _ _)
    k_fold
    k_steps
    refine Hold.out ?_
    k_here
    refine' slice_LA (zs := (cvs.drop lo).take sz) ?zF ?zN ?zl ?zp ?zq ?zz ?ze ?_
    case zF => k_asm
    case zN => k_asm
    case zl => exact .tail _ (.tail _ (.tail _ hC))
    case zp => kmk_part
    case zq => kmk_part
    case zz => omega
    case ze => rw [pick_mid (by omega) (by omega), Nat.add_sub_cancel_left]
    intro D1 hD1 FD1 ND1 lD1
    have hz2 : ((cvs.drop lo).take sz).toArray.size ≤ sizeLine := by rw [List.size_toArray, List.length_take, List.length_drop]; exact Nat.le_trans (m := 1000) (by omega) (by decide)
    k_steps
    refine Hold.out ?_
    refine LCt.CompSrcT.ledger (its := ((cvs.drop lo).take sz).toArray) (k := 0) rfl FD1 ND1 (.head _) hz2 ?_
    intro g2
    refine compT_ind (fun j2 ys2 nw2 => nw2 = (D1, lstOf ((cvs.drop lo).take sz) 0) :: (I, oI) :: (C0, oC) :: (D', LCg.lst ys) :: nw ∧ ys2.length = (((List.range' lo sz).take j2).filter fun i => decide (pp i ≤ x)).length) ⟨rfl, rfl⟩ ?turn2 ?fin2
    case turn2 =>
      rintro j2 v2 I2 oI2 C3 oC3 D3 m3 ys2 nw2 h2 tk2 E2 hi2 hv2 ⟨rfl, hI2⟩ hCn2 hx3 kF2 kN2 off2 ne2
      obtain ⟨hj2, hv3⟩ := sub_at (show ((cvs.drop lo).take sz)[j2]? = some v2 by simpa using hv2)
      obtain ⟨a3, t3, t4, e3, hv4, hm3⟩ := hCw.at' (lo + j2) (by omega)
      obtain rfl : v2 = .ref a3 := by rw [hv3] at hv4; exact Option.some.inj hv4
      have hft := filter_take1 (q := fun i => decide (pp i ≤ x)) (l := List.range' lo sz) (i := j2) (y := lo + j2) (by rw [List.getElem?_range' hj2, Nat.one_mul])
      have hr3 := memOf kN2 (.tail _ (.tail _ (.tail _ (.tail _ (.tail _ (.tail _ (.tail _ hm3)))))))
      (with_reducible show wpAny _ _ _ _ _ _)
      k_fold
      k_steps
      · exact LCg.CompEnd.intro kF2 kN2 _ (fun p hp => hp) off2 (.inr ⟨_, .head _, rfl, _, rfl⟩) ⟨rfl, by rw [List.length_append, hI2, hft, if_pos (decide_eq_true (by assumption))]; rfl⟩
      · exact LCg.CompEnd.intro kF2 kN2 _ (fun p hp => hp) off2 (.inr ⟨_, .head _, rfl, _, rfl⟩) ⟨rfl, by rw [hI2, hft, if_neg (fun c => absurd (of_decide_eq_true c) (by assumption))]; rfl⟩
    case fin2 =>
      rintro ys2 nw2 ⟨rfl, hI2⟩
      intro D3 h3 tk3 kF3 kN3 off3
      rw [List.take_of_length_le (by rw [List.length_range', List.size_toArray, List.length_take, List.length_drop]; omega)] at hI2
      have hyl : ys2.length ≤ 1000 := by rw [hI2]; exact Nat.le_trans (List.length_filter_le ..) (by rw [List.length_range']; omega)
      k_steps
      refine LCg.CompEnd.intro kF3 kN3 nw (fun p hp => .tail _ (.tail _ hp)) off (.inr ⟨_, hSp, rfl, _, rfl⟩) ⟨rfl, ?_⟩
      rw [hsn, hI2]
      exact intsAre_append hI (.cons _ _ .nil)
  case fin =>
    rintro ys nw ⟨enw, hI⟩
    subst enw
    intro D1 h tk kF kN off
    rw [List.size_toArray, show svs.length = (bgT n 4).length by omega] at hI
    k_steps
    exact hret _ _ D1 ys hI (by assumption) (by assumption)
end
end
section
theorem lines_L1Q_0 : True := by
  walk_at "base"
  trivial
theorem lines_L1Q_1 : True := by
  k_with "subscriptTail Name Constant ref int" => ((k_here; refine item_tupleT (News.isTup (by assumption) (by k_mem)) (by decide) (by decide) (by rfl) (by rfl) ?_))
  k_with "subscriptTail Name Constant ref int" => ((k_here; (with_reducible rename StrsAre _ _ => hSA); refine item_strsA (News.isList (by assumption) (by k_mem)) hSA (by decide) (by first | omega | (simp only [List.length_map]; omega)) (by decide) ?_; intro t'))
  k_with "call type:ValueError" => ((refine call_ValueError_made ?_; intro _ _ _))
  k_with "exec While Compare Name cons nil" => (refine Hold.mk ?_)
  k_with "exec While Compare" => (refine Hold.mk ?_)
  k_with "exec While Compare cons nil" => (refine Hold.mk ?_)
  k_with "exec While" => (refine Hold.mk ?_)
  k_with "binaryOp FloorDiv int int" => ((k_here; (with_reducible refine floordiv_pos ?kb1 ?kb2 ?_); (case kb1 => decide); (case kb2 => decide +kernel)))
  k_with "WhlIf" => ((refine whlIf_dec ?_ ?_ <;> intro _))
  k_with "subscriptTail Name Name ref int" => ((k_here; first
    | ((with_reducible rename StrsAre _ _ => hSA); refine item_strsA (News.isList (by assumption) (by k_mem)) hSA (by omega) (by omega) (by omega) ?_; intro t')
    | ((with_reducible rename IntsAre _ _ => hSA); refine item_intsA (News.isList (by assumption) (by k_mem)) hSA (by omega) (by omega) (by omega) ?_; intro t')))
  k_with "call builtin:len" => ((k_here; (with_reducible show wpAny _ _ (call (Value.builtin "len") [Value.ref _]) _ _ _); first
    | ((with_reducible rename StrsAre _ _ => hSA); refine len_strsA (News.isList (by assumption) (by k_mem)) hSA (by omega) ?_)
    | ((with_reducible rename IntsAre _ _ => hSA); refine len_intsA (News.isList (by assumption) (by k_mem)) hSA (by omega) ?_)))
  k_with "eval ListComp" => ((k_here; k_dflt (refine LCp.ListComp_P (F₀ := by k_asm) (by with_unfolding_all rfl) (by decide) (by rfl) (by decide) (by rfl) (by rfl) (by decide) ?_)))
  trivial
theorem lines_L1Q_2 : True := by
  k_with "call builtin:len" => ((k_here; (with_reducible show wpAny _ _ (call (Value.builtin "len") [Value.ref _]) _ _ _); k_dflt (refine' len_L ?kN ?kM ?kz ?_; (case kN => with_reducible assumption); (case kM => k_mem); (case kz => omega))))
  k_with "SrcLP" => ((refine Hold.mk ?_))
  k_with "compareOp NotEq ref ref" => ((refine Hold.mk ?_))
  k_with "call ref" => (((with_reducible show wpAny _ _ (call (Value.ref 50) _ _) _ _ _); refine Hold.mk ?_))
  k_with "call ref" => (((with_reducible show wpAny _ _ (call (Value.ref 32) _ _) _ _ _); refine Hold.mk ?_))
  trivial
def forC1 : List Stmt := forBody (forB1.drop 2)
section
variable {w : World} {p : Program} {loose : List PStr} {mean : ExcName → Option Value} {mg mb : PStr → Option Value}
    {dp un : Nat} {gd : Option (List Code)} {a : Addr} {ccd : Value} {c1 c2 c3 c4 c5 c6 c7 c8 : Addr} {A₀ : Around} {base h₀ : Heap} {L : Addr}
    {s : Shared} {news : Ldg}
    (B : Below A₀ base [] h₀) (X : (KK.heap_1 w.params).In h₀) (T : Top p loose mean mg mb h₀) (XB : (KK.heap_1 w.params).In base) (TB : Top p loose mean mg mb base)
include B X T XB TB
theorem t1_q1 {n : Nat} {R Sp D1 : Addr} {rvs svs gvs evs lvs : List Value} {re e1 el : Nat} {o5 o6 o7 : Obj} {pp : Nat → Int} {rep : Nat → PStr} {kv : Value} {x : Int} {tx : Tok} {jk : PStr → Option Value} {Q : Flow → Shared → Prop} {E : Value → Shared → Prop}
   (hd5 : dp + 200 < recursionLimit) (hu5 : un + 2000 < cLine) (hn : n < 16)
   (F : Fr h₀ L s.heap (fun y => if y = Str.ofString "spans" then some (.ref Sp) else if y = Str.ofString "less" then some (.ref D1) else jk y))
   (N : News h₀ L s.heap news) (hc5 : (c5, o5) ∈ news) (ho5 : o5.data = .cell (some (.int x tx))) (hc6 : (c6, o6) ∈ news) (ho6 : o6.data = .cell (some (.ref R))) (hc7 : (c7, o7) ∈ news) (ho7 : o7.data = .cell (some kv))
   (hR : (R, lstOf rvs re) ∈ news) (hr : RepG pp rep n) (hRW : RowW pp rep kv (blk pp n) rvs) (hSp : (Sp, lstOf svs e1) ∈ news) (hT : TupsAre news svs gvs evs) (hgi : IntsAre gvs (bgT n 4)) (hei : IntsAre evs (enT n 4))
   (hD : (D1, lstOf lvs el) ∈ news) (hl : IntsAre lvs (spanL pp n false x (bgT n 4) (enT n 4) (bgT n 4).length))
   (hret : ∀ (h' : Heap) (tk : Nat),
      Fr h₀ L h' (fun y => if y = Str.ofString "spans" then some (.ref Sp) else if y = Str.ofString "less" then some (.ref D1) else jk y) →
      News h₀ L h' news → Q .next { s with heap := h', toks := tk }) :
   wpAny (model PySem.Challenge.rw_pm0034_01.row.prog w) (ktrTop dp un gd (Str.ofString "law") lawScope1 L a ccd (cells8 c1 c2 c3 c4 c5 c6 c7 c8) []) (execs (forC1.take 1) (envX (Str.ofString "law") lawScope1 L a ccd (cells8 c1 c2 c3 c4 c5 c6 c7 c8))) Q E s := by
  walk_at "M fill"
  have D : KtsDicts (([] : List Env).filterMap (·.frame)) h₀ := fun b hb => nomatch hb
  have hck : lawScope1.kind = .function := by with_unfolding_all rfl
  obtain ⟨q1, q2, q3, q4⟩ := sum_at hn
  have hgl := ints_length hgi
  have hsl := hT.length
  have hrl := hRW.len
  have hbl : (blk pp n).length = n := blk_len n hn
  have hz : svs.toArray.size ≤ sizeLine := by rw [List.size_toArray]; exact Nat.le_trans (m := 1000) (by omega) (by decide)
  obtain ⟨kk, hri, hkk⟩ := hRW.is hr (fun i hi => blk_mem hn hi)
  rw [hbl] at hri hkk hrl
  show wpAny _ (ktrTop _ _ _ _ (Scope.mk _ _ _ _ _) _ _ _ _ _) (execs (_ :: []) (envX _ (Scope.mk _ _ _ _ _) _ _ _ _)) _ _ _
  k_steps
  refine Hold.out ?_
  refine LCp.SrcLP.ledger (its := svs.toArray) (k := e1) rfl (by assumption) N hSp hz ?_
  intro g
  refine compP_ind (fun j ys nw => nw = news ∧ IntsAre ys (spanL pp n false x (bgT n 4) (enT n 4) j)) ⟨rfl, .nil⟩ ?turn ?fin
  case turn =>
    rintro j v ys nw hi hv ⟨enw, hI⟩
    obtain ⟨t, gx, ex, rfl, hg1, he1, hmt⟩ := hT.at j v (by simpa using hv)
    obtain ⟨tg, rfl⟩ := ints_val hgi hg1
    obtain ⟨te, rfl⟩ := ints_val hei he1
    subst enw
    refine ⟨t, _, _, rfl, hmt, ?_⟩
    intro I oI C0 oC D' m₂ h tk E' hCn hx1 hx2 kF kN off ne
    have hj : j < (bgT n 4).length := by rw [List.size_toArray] at hi; omega
    obtain ⟨k, hk, hb, eb, ee⟩ := span_at hn hj
    obtain ⟨_, _, _, _, hle⟩ := blk_cut (p := pp) hn hk hb
    have hsn := spanL_succ (p := pp) (n := n) (r := false) (x := x) (b := bgT n 4) (e := enT n 4) (j := j)
    rw [eb, ee] at hsn
    rw [Int.toNat_natCast, Int.toNat_natCast, Nat.add_sub_cancel_left] at hsn
    rw [eb] at hx1
    rw [ee] at hx2
    have hbs : ∀ hi : Nat, hi = n / 2 ^ (k + 1) * 2 ^ (k + 1) + 2 ^ k → bisZ false kk x ((n / 2 ^ (k + 1) * 2 ^ (k + 1) : Nat) : Int) hi = .ok (n / 2 ^ (k + 1) * 2 ^ (k + 1) + lessR pp false x (n / 2 ^ (k + 1) * 2 ^ (k + 1)) (2 ^ k)) := fun hi ehi => bis_span hn hk hb hkk rfl ehi
    generalize n / 2 ^ (k + 1) * 2 ^ (k + 1) = lo at *
    generalize hsz : 2 ^ k = sz at *
    have hr3 := memOf kN (.tail _ (.tail _ (.tail _ hR)))
    (with_reducible show wpAny _ _ _ _ _ _)
    k_fold
    k_steps
    · refine Hold.out ?_
      refine' bisL_full (k := kk) (nn := n) (hi := lo + sz) ?kBa ?kXa ?kTa ?kXBa ?kTBa ?kDa rfl ?kda ?kua kF kN hr3 hri ?kla (.inl ⟨rfl, by omega⟩) ?kva ?_ ?kea
      case kBa => assumption
      case kXa => assumption
      case kTa => assumption
      case kXBa => assumption
      case kTBa => assumption
      case kDa => assumption
      case kda => ((try dsimp only); omega)
      case kua => ((try dsimp only); omega)
      case kla => omega
      case kva => exact fun _ msg e => by rw [hbs _ rfl] at e; cases e
      case kea => exact fun ek r t1 g₂ e t h' tk he => by rw [hbs _ rfl] at he; cases he
      intro n9 t9 h9 tk9 e9 F9 N9
      rw [hbs _ rfl] at e9
      obtain rfl := Except.ok.inj e9
      k_steps
      refine LCg.CompEnd.intro F9 N9 nw (fun p hp => hp) off (.inr ⟨_, hSp, rfl, _, rfl⟩) ⟨rfl, ?_⟩
      rw [hsn]
      exact intsAre_append hI (.cons _ _ .nil)
    · refine Hold.out ?_
      refine' bisL_full (k := kk) (nn := n) (hi := lo + sz) ?kBb ?kXb ?kTb ?kXBb ?kTBb ?kDb rfl ?kdb ?kub kF kN hr3 hri ?klb (.inr ⟨_, rfl, by omega⟩) ?kvb ?_ ?keb
      case kBb => assumption
      case kXb => assumption
      case kTb => assumption
      case kXBb => assumption
      case kTBb => assumption
      case kDb => assumption
      case kdb => ((try dsimp only); omega)
      case kub => ((try dsimp only); omega)
      case klb => omega
      case kvb => exact fun _ msg e => by rw [hbs _ rfl] at e; cases e
      case keb => exact fun ek r t1 g₂ e t h' tk he => by rw [hbs _ rfl] at he; cases he
      intro n9 t9 h9 tk9 e9 F9 N9
      rw [hbs _ rfl] at e9
      obtain rfl := Except.ok.inj e9
      k_steps
      refine LCg.CompEnd.intro F9 N9 nw (fun p hp => hp) off (.inr ⟨_, hSp, rfl, _, rfl⟩) ⟨rfl, ?_⟩
      rw [hsn]
      exact intsAre_append hI (.cons _ _ .nil)
  case fin =>
    rintro ys nw ⟨enw, hI⟩
    subst enw
    intro D2 h tk kF kN off
    rw [List.size_toArray, show svs.length = (bgT n 4).length by omega] at hI
    k_steps
    refine Hold.out ?_
    (show wpAny _ _ (compareOp CmpOp.NotEq _ _) _ _ _)
    refine ke_ne_ints (News.isList kN (.head _)) (News.isList kN (.tail _ hD)) hI hl (by first | units_room | k_room | ((try dsimp only); omega)) ?_
    rw [decide_eq_true rfl]
    k_steps
    exact hret _ _ (by assumption) (news_drop1 (by assumption))
end
section
variable {w : World} {p : Program} {loose : List PStr} {mean : ExcName → Option Value} {mg mb : PStr → Option Value}
    {dp un : Nat} {gd : Option (List Code)} {a : Addr} {ccd : Value} {c1 c2 c3 c4 c5 c6 c7 c8 : Addr} {A₀ : Around} {base h₀ : Heap} {L : Addr}
    {s : Shared} {news : Ldg}
    (B : Below A₀ base [] h₀) (X : (KK.heap_1 w.params).In h₀) (T : Top p loose mean mg mb h₀) (XB : (KK.heap_1 w.params).In base) (TB : Top p loose mean mg mb base)
include B X T XB TB
theorem t1_q2 {n : Nat} {R Sp D1 : Addr} {rvs svs gvs evs lvs : List Value} {re e1 el : Nat} {o5 o6 o7 : Obj} {pp : Nat → Int} {rep : Nat → PStr} {kv : Value} {x : Int} {tx : Tok} {jk : PStr → Option Value} {Q : Flow → Shared → Prop} {E : Value → Shared → Prop}
   (hd5 : dp + 200 < recursionLimit) (hu5 : un + 2000 < cLine) (hn : n < 16)
   (F : Fr h₀ L s.heap (fun y => if y = Str.ofString "spans" then some (.ref Sp) else if y = Str.ofString "upto" then some (.ref D1) else jk y))
   (N : News h₀ L s.heap news) (hc5 : (c5, o5) ∈ news) (ho5 : o5.data = .cell (some (.int x tx))) (hc6 : (c6, o6) ∈ news) (ho6 : o6.data = .cell (some (.ref R))) (hc7 : (c7, o7) ∈ news) (ho7 : o7.data = .cell (some kv))
   (hR : (R, lstOf rvs re) ∈ news) (hr : RepG pp rep n) (hRW : RowW pp rep kv (blk pp n) rvs) (hSp : (Sp, lstOf svs e1) ∈ news) (hT : TupsAre news svs gvs evs) (hgi : IntsAre gvs (bgT n 4)) (hei : IntsAre evs (enT n 4))
   (hD : (D1, lstOf lvs el) ∈ news) (hl : IntsAre lvs (spanL pp n true x (bgT n 4) (enT n 4) (bgT n 4).length))
   (hret : ∀ (h' : Heap) (tk : Nat),
      Fr h₀ L h' (fun y => if y = Str.ofString "spans" then some (.ref Sp) else if y = Str.ofString "upto" then some (.ref D1) else jk y) →
      News h₀ L h' news → Q .next { s with heap := h', toks := tk }) :
   wpAny (model PySem.Challenge.rw_pm0034_01.row.prog w) (ktrTop dp un gd (Str.ofString "law") lawScope1 L a ccd (cells8 c1 c2 c3 c4 c5 c6 c7 c8) []) (execs ((forC1.drop 1).take 1) (envX (Str.ofString "law") lawScope1 L a ccd (cells8 c1 c2 c3 c4 c5 c6 c7 c8))) Q E s := by
  walk_at "M fill"
  have D : KtsDicts (([] : List Env).filterMap (·.frame)) h₀ := fun b hb => nomatch hb
  have hck : lawScope1.kind = .function := by with_unfolding_all rfl
  obtain ⟨q1, q2, q3, q4⟩ := sum_at hn
  have hgl := ints_length hgi
  have hsl := hT.length
  have hrl := hRW.len
  have hbl : (blk pp n).length = n := blk_len n hn
  have hz : svs.toArray.size ≤ sizeLine := by rw [List.size_toArray]; exact Nat.le_trans (m := 1000) (by omega) (by decide)
  obtain ⟨kk, hri, hkk⟩ := hRW.is hr (fun i hi => blk_mem hn hi)
  rw [hbl] at hri hkk hrl
  show wpAny _ (ktrTop _ _ _ _ (Scope.mk _ _ _ _ _) _ _ _ _ _) (execs (_ :: []) (envX _ (Scope.mk _ _ _ _ _) _ _ _ _)) _ _ _
  k_steps
  refine Hold.out ?_
  refine LCp.SrcLP.ledger (its := svs.toArray) (k := e1) rfl (by assumption) N hSp hz ?_
  intro g
  refine compP_ind (fun j ys nw => nw = news ∧ IntsAre ys (spanL pp n true x (bgT n 4) (enT n 4) j)) ⟨rfl, .nil⟩ ?turn ?fin
  case turn =>
    rintro j v ys nw hi hv ⟨enw, hI⟩
    obtain ⟨t, gx, ex, rfl, hg1, he1, hmt⟩ := hT.at j v (by simpa using hv)
    obtain ⟨tg, rfl⟩ := ints_val hgi hg1
    obtain ⟨te, rfl⟩ := ints_val hei he1
    subst enw
    refine ⟨t, _, _, rfl, hmt, ?_⟩
    intro I oI C0 oC D' m₂ h tk E' hCn hx1 hx2 kF kN off ne
    have hj : j < (bgT n 4).length := by rw [List.size_toArray] at hi; omega
    obtain ⟨k, hk, hb, eb, ee⟩ := span_at hn hj
    obtain ⟨_, _, _, _, hle⟩ := blk_cut (p := pp) hn hk hb
    have hsn := spanL_succ (p := pp) (n := n) (r := true) (x := x) (b := bgT n 4) (e := enT n 4) (j := j)
    rw [eb, ee] at hsn
    rw [Int.toNat_natCast, Int.toNat_natCast, Nat.add_sub_cancel_left] at hsn
    rw [eb] at hx1
    rw [ee] at hx2
    have hbs : ∀ hi : Nat, hi = n / 2 ^ (k + 1) * 2 ^ (k + 1) + 2 ^ k → bisZ true kk x ((n / 2 ^ (k + 1) * 2 ^ (k + 1) : Nat) : Int) hi = .ok (n / 2 ^ (k + 1) * 2 ^ (k + 1) + lessR pp true x (n / 2 ^ (k + 1) * 2 ^ (k + 1)) (2 ^ k)) := fun hi ehi => bis_span hn hk hb hkk rfl ehi
    generalize n / 2 ^ (k + 1) * 2 ^ (k + 1) = lo at *
    generalize hsz : 2 ^ k = sz at *
    have hr3 := memOf kN (.tail _ (.tail _ (.tail _ hR)))
    (with_reducible show wpAny _ _ _ _ _ _)
    k_fold
    k_steps
    · refine Hold.out ?_
      refine' bisR_full (k := kk) (nn := n) (hi := lo + sz) ?kBa ?kXa ?kTa ?kXBa ?kTBa ?kDa rfl ?kda ?kua kF kN hr3 hri ?kla (.inl ⟨rfl, by omega⟩) ?kva ?_ ?kea
      case kBa => assumption
      case kXa => assumption
      case kTa => assumption
      case kXBa => assumption
      case kTBa => assumption
      case kDa => assumption
      case kda => ((try dsimp only); omega)
      case kua => ((try dsimp only); omega)
      case kla => omega
      case kva => exact fun _ msg e => by rw [hbs _ rfl] at e; cases e
      case kea => exact fun ek r t1 g₂ e t h' tk he => by rw [hbs _ rfl] at he; cases he
      intro n9 t9 h9 tk9 e9 F9 N9
      rw [hbs _ rfl] at e9
      obtain rfl := Except.ok.inj e9
      k_steps
      refine LCg.CompEnd.intro F9 N9 nw (fun p hp => hp) off (.inr ⟨_, hSp, rfl, _, rfl⟩) ⟨rfl, ?_⟩
      rw [hsn]
      exact intsAre_append hI (.cons _ _ .nil)
    · refine Hold.out ?_
      refine' bisR_full (k := kk) (nn := n) (hi := lo + sz) ?kBb ?kXb ?kTb ?kXBb ?kTBb ?kDb rfl ?kdb ?kub kF kN hr3 hri ?klb (.inr ⟨_, rfl, by omega⟩) ?kvb ?_ ?keb
      case kBb => assumption
      case kXb => assumption
      case kTb => assumption
      case kXBb => assumption
      case kTBb => assumption
      case kDb => assumption
      case kdb => ((try dsimp only); omega)
      case kub => ((try dsimp only); omega)
      case klb => omega
      case kvb => exact fun _ msg e => by rw [hbs _ rfl] at e; cases e
      case keb => exact fun ek r t1 g₂ e t h' tk he => by rw [hbs _ rfl] at he; cases he
      intro n9 t9 h9 tk9 e9 F9 N9
      rw [hbs _ rfl] at e9
      obtain rfl := Except.ok.inj e9
      k_steps
      refine LCg.CompEnd.intro F9 N9 nw (fun p hp => hp) off (.inr ⟨_, hSp, rfl, _, rfl⟩) ⟨rfl, ?_⟩
      rw [hsn]
      exact intsAre_append hI (.cons _ _ .nil)
  case fin =>
    rintro ys nw ⟨enw, hI⟩
    subst enw
    intro D2 h tk kF kN off
    rw [List.size_toArray, show svs.length = (bgT n 4).length by omega] at hI
    k_steps
    refine Hold.out ?_
    (show wpAny _ _ (compareOp CmpOp.NotEq _ _) _ _ _)
    refine ke_ne_ints (News.isList kN (.head _)) (News.isList kN (.tail _ hD)) hI hl (by first | units_room | k_room | ((try dsimp only); omega)) ?_
    rw [decide_eq_true rfl]
    k_steps
    exact hret _ _ (by assumption) (news_drop1 (by assumption))
end
end
section
theorem lines_L1R_0 : True := by
  walk_at "base"
  k_with "M sub" => ((
    (repeat' (with_reducible first | refine sub_cons ?_ ?_ | refine sub_app ?_ ?_ | exact sub_nil9))
    (all_goals (repeat (with_reducible first | exact sub_self9 | exact sub_l sub_self9 | exact List.mem_cons_self | refine sub_tl ?_ | refine sub_r ?_ | refine List.mem_cons_of_mem _ ?_ | refine List.mem_append_right _ ?_)))))
  trivial
theorem lines_L1R_1 : True := by
  k_with "subscriptTail Name Constant ref int" => ((k_here; refine item_tupleT (News.isTup (by assumption) (by k_mem)) (by decide) (by decide) (by rfl) (by rfl) ?_))
  k_with "subscriptTail Name Constant ref int" => ((k_here; (with_reducible rename StrsAre _ _ => hSA); refine item_strsA (News.isList (by assumption) (by k_mem)) hSA (by decide) (by first | omega | (simp only [List.length_map]; omega)) (by decide) ?_; intro t'))
  k_with "call type:ValueError" => ((refine call_ValueError_made ?_; intro _ _ _))
  k_with "exec While Compare Name cons nil" => (refine Hold.mk ?_)
  k_with "exec While Compare" => (refine Hold.mk ?_)
  k_with "exec While Compare cons nil" => (refine Hold.mk ?_)
  k_with "exec While" => (refine Hold.mk ?_)
  k_with "binaryOp FloorDiv int int" => ((k_here; (with_reducible refine floordiv_pos ?kb1 ?kb2 ?_); (case kb1 => decide); (case kb2 => decide +kernel)))
  k_with "WhlIf" => ((refine whlIf_dec ?_ ?_ <;> intro _))
  k_with "subscriptTail Name Name ref int" => ((k_here; first
    | ((with_reducible rename StrsAre _ _ => hSA); refine item_strsA (News.isList (by assumption) (by k_mem)) hSA (by omega) (by omega) (by omega) ?_; intro t')
    | ((with_reducible rename IntsAre _ _ => hSA); refine item_intsA (News.isList (by assumption) (by k_mem)) hSA (by omega) (by omega) (by omega) ?_; intro t')))
  k_with "call builtin:len" => ((k_here; (with_reducible show wpAny _ _ (call (Value.builtin "len") [Value.ref _]) _ _ _); first
    | ((with_reducible rename StrsAre _ _ => hSA); refine len_strsA (News.isList (by assumption) (by k_mem)) hSA (by omega) ?_)
    | ((with_reducible rename IntsAre _ _ => hSA); refine len_intsA (News.isList (by assumption) (by k_mem)) hSA (by omega) ?_)))
  k_with "M fr2" => ((intro y hy; (repeat (refine (if_neg (ne_of_out hy (by with_unfolding_all rfl))).trans ?_)); (refine Eq.symm ?_); (repeat (refine (if_neg (ne_of_out hy (by with_unfolding_all rfl))).trans ?_)); rfl))
  trivial
theorem lines_L1R_2 : True := by
  k_with "pyIter ref" => ((refine Hold.mk ?_))
  k_with "exec For Tuple Tuple cons nil" => ((k_here; (refine' For_turns ?lF ?_ ?ls ?lE; (case lF => k_asm); (case ls => (intro x; rfl)); (case lE => assumption)); k_whole))
  k_with "exec For Name Tuple cons nil" => ((k_here; (refine' For_turns ?lF ?_ ?ls ?lE; (case lF => k_asm); (case ls => (intro x; rfl)); (case lE => assumption)); k_whole))
  trivial
theorem chunk_W {M : Model} {A : Around} {E : Value → Shared → Prop} {s : Shared} {env : Env} {Q : Flow → Shared → Prop} {l : List Stmt} {k : Nat} (n : Nat) (h : wpAny M A (execs ((l.drop k).take n) env) (fun f s' => match f with | .next => wpAny M A (execs (l.drop (k + n)) env) Q E s' | f => Q f s') E s) : wpAny M A (execs (l.drop k) env) Q E s := by
  have e : l.drop k = (l.drop k).take n ++ l.drop (k + n) := by rw [← List.drop_drop, List.take_append_drop]
  rw [e, execs_app]
  refine wpAny_bind (wpAny_mono h (fun f s' h' => ?_) fun _ _ x => x)
  cases f <;> first | exact h' | exact wpAny_pure h'
theorem with_two {h₀ h : Heap} {L T t1 t2 b w : Addr} {x6 x7 : Addr × Obj} {l : Ldg} {G : Prop} (N : News h₀ L h ((T, tupOf [.ref t1, .ref t2]) :: (t2, tupOf [.ref b, .none]) :: (t1, tupOf [.ref w, .ref 108]) :: x6 :: x7 :: l))
    (a1 : x6.1 < t1 ∧ x7.1 < t1 ∧ AllLt t1 l) (a2 : t1 < t2 ∧ x6.1 < t2 ∧ x7.1 < t2 ∧ AllLt t2 l) (a3 : t2 < T ∧ t1 < T ∧ x6.1 < T ∧ x7.1 < T ∧ AllLt T l)
    (k : ∀ T' u1 u2, T' = T → (∀ q ∈ [(T', tupOf [.ref u1, .ref u2]), (u2, tupOf [.ref b, .none]), (u1, tupOf [.ref w, .ref 108])], q.1 ≠ x6.1 ∧ q.1 ≠ x7.1) → News h₀ L h (x6 :: x7 :: ([(T', tupOf [.ref u1, .ref u2]), (u2, tupOf [.ref b, .none]), (u1, tupOf [.ref w, .ref 108])] ++ l)) → G) : G := by
  refine k T t1 t2 rfl (fun q hq => ?_) (fun q hq => ?_)
  · simp only [List.mem_cons, List.not_mem_nil, or_false] at hq
    rcases hq with rfl | rfl | rfl
    · exact ⟨Nat.ne_of_gt a3.2.2.1, Nat.ne_of_gt a3.2.2.2.1⟩
    · exact ⟨Nat.ne_of_gt a2.2.1, Nat.ne_of_gt a2.2.2.1⟩
    · exact ⟨Nat.ne_of_gt a1.1, Nat.ne_of_gt a1.2.1⟩
  · refine N q ?_
    revert q
    dsimp only [List.cons_append, List.nil_append]
    walk_at "M sub"
structure RS where
  i : Nat
  o6 : Obj
  o7 : Obj
structure RsC (as : List Nat) (σ : RS) : Prop where
  as : as = [0, 1].drop σ.i
  h6 : ∃ v, σ.o6.data = .cell v
  h7 : ∃ v, σ.o7.data = .cell v
noncomputable def rsV (u1 u2 : Addr) (a : Nat) : Value := if a = 0 then .ref u1 else .ref u2
section
variable {w : World} {p : Program} {loose : List PStr} {mean : ExcName → Option Value} {mg mb : PStr → Option Value}
    {dp un : Nat} {gd : Option (List Code)} {a : Addr} {ccd : Value} {c1 c2 c3 c4 c5 c6 c7 c8 : Addr} {A₀ : Around} {base h₀ : Heap} {L : Addr}
    {s : Shared} {news : Ldg}
    (B : Below A₀ base [] h₀) (X : (KK.heap_1 w.params).In h₀) (T : Top p loose mean mg mb h₀) (XB : (KK.heap_1 w.params).In base) (TB : Top p loose mean mg mb base)
include B X T XB TB
theorem t1_r {n : Nat} {W Bd Sp D1 D2 : Addr} {wvs bvs svs gvs evs lvs uvs : List Value} {we be e1 el eu : Nat} {o1 o5 o6 o7 : Obj} {v6 v7 : Option Value} {pp : Nat → Int} {rep : Nat → PStr} {x : Int} {tx : Tok} {jk : PStr → Option Value} {Q : Flow → Shared → Prop} {E : Value → Shared → Prop}
   (hd5 : dp + 200 < recursionLimit) (hu5 : un + 2000 < cLine) (hE : PassesOwn (model PySem.Challenge.rw_pm0034_01.row.prog w) (ktrTop dp un gd (Str.ofString "law") lawScope1 L a ccd (cells8 c1 c2 c3 c4 c5 c6 c7 c8) []) (envX (Str.ofString "law") lawScope1 L a ccd (cells8 c1 c2 c3 c4 c5 c6 c7 c8)) E) (hn : n < 16)
   (F : Fr h₀ L s.heap (fun y => if y = Str.ofString "spans" then some (.ref Sp) else if y = Str.ofString "less" then some (.ref D1) else if y = Str.ofString "upto" then some (.ref D2) else if y = Str.ofString "bare" then some (.ref Bd) else jk y))
   (N : News h₀ L s.heap ((c6, o6) :: (c7, o7) :: news)) (h67 : c6 ≠ c7) (n6 : ∀ q ∈ news, q.1 ≠ c6) (n7 : ∀ q ∈ news, q.1 ≠ c7) (ho6 : o6.data = .cell v6) (ho7 : o7.data = .cell v7) (hc1 : (c1, o1) ∈ news) (ho1 : o1.data = .cell (some (.ref W))) (hc5 : (c5, o5) ∈ news) (ho5 : o5.data = .cell (some (.int x tx)))
   (hW : (W, lstOf wvs we) ∈ news) (hB : (Bd, lstOf bvs be) ∈ news) (hr : RepG pp rep n) (hRW : RowW pp rep (.ref 108) (blk pp n) wvs) (hRB : RowW pp rep .none (blk pp n) bvs) (hSp : (Sp, lstOf svs e1) ∈ news) (hT : TupsAre news svs gvs evs) (hgi : IntsAre gvs (bgT n 4)) (hei : IntsAre evs (enT n 4))
   (hD : (D1, lstOf lvs el) ∈ news) (hl : IntsAre lvs (spanL pp n false x (bgT n 4) (enT n 4) (bgT n 4).length)) (hU : (D2, lstOf uvs eu) ∈ news) (hu : IntsAre uvs (spanL pp n true x (bgT n 4) (enT n 4) (bgT n 4).length))
   (hret : ∀ (h' : Heap) (tk : Nat) (o6' o7' : Obj), (∃ v, o6'.data = .cell v) → (∃ v, o7'.data = .cell v) →
      Fr h₀ L h' (fun y => if y = Str.ofString "spans" then some (.ref Sp) else if y = Str.ofString "less" then some (.ref D1) else if y = Str.ofString "upto" then some (.ref D2) else if y = Str.ofString "bare" then some (.ref Bd) else jk y) →
      News h₀ L h' ((c6, o6') :: (c7, o7') :: news) → Q .next { s with heap := h', toks := tk }) :
   wpAny (model PySem.Challenge.rw_pm0034_01.row.prog w) (ktrTop dp un gd (Str.ofString "law") lawScope1 L a ccd (cells8 c1 c2 c3 c4 c5 c6 c7 c8) []) (execs ((forB1.drop 2).take 1) (envX (Str.ofString "law") lawScope1 L a ccd (cells8 c1 c2 c3 c4 c5 c6 c7 c8))) Q E s := by
  walk_at "M fill"
  show wpAny _ (ktrTop _ _ _ _ (Scope.mk _ _ _ _ _) _ _ _ _ _) (execs (_ :: []) (envX _ (Scope.mk _ _ _ _ _) _ _ _ _)) _ _ _
  k_steps
  refine Hold.out ?_
  (with_reducible rename Fr _ _ _ _ => kF)
  (with_reducible rename News _ _ _ _ => kN)
  (with_reducible rename (_ ∧ _ ∧ AllLt _ news) => a1)
  (with_reducible rename (_ ∧ _ ∧ _ ∧ AllLt _ news) => a2)
  (with_reducible rename (_ ∧ _ ∧ _ ∧ _ ∧ AllLt _ news) => a3)
  refine with_two kN a1 a2 a3 ?_
  clear kN a1 a2 a3
  intro T9 u1 u2 eT hneu N0
  subst eT
  generalize hbase : [(T9, tupOf [.ref u1, .ref u2]), (u2, tupOf [.ref Bd, .none]), (u1, tupOf [.ref W, .ref 108])] ++ news = base at N0
  have up : ∀ q ∈ news, q ∈ base := fun q hq => by rw [← hbase]; exact List.mem_append_right _ hq
  have m6 : ∀ q ∈ base, q.1 ≠ c6 := fun q hq => by
    rw [← hbase] at hq
    rcases List.mem_append.mp hq with hq | hq
    · exact (hneu q hq).1
    · exact n6 q hq
  have m7 : ∀ q ∈ base, q.1 ≠ c7 := fun q hq => by
    rw [← hbase] at hq
    rcases List.mem_append.mp hq with hq | hq
    · exact (hneu q hq).2
    · exact n7 q hq
  have b1 : (u1, tupOf [.ref W, .ref 108]) ∈ base := by rw [← hbase]; exact .tail _ (.tail _ (.head _))
  have b2 : (u2, tupOf [.ref Bd, .none]) ∈ base := by rw [← hbase]; exact .tail _ (.head _)
  have b3 : (T9, tupOf [.ref u1, .ref u2]) ∈ base := by rw [← hbase]; exact .head _
  refine' pyIter_tupG (rsV u1 u2) RsC (fun _ => _) (fun σ => (c6, σ.o6) :: (c7, σ.o7) :: base) [0, 1] ⟨0, o6, o7⟩ [] ?hv kF N0 (.tail _ (.tail _ b3)) rfl ?hk ?c0 (fun _ h => nomatch h) (fun _ _ => rfl) rfl ?turn ?done
  case hv => rfl
  case hk => exact fun as σ hC => .tail _ (.tail _ b3)
  case c0 => exact ⟨rfl, ⟨_, ho6⟩, ⟨_, ho7⟩⟩
  case done =>
    rintro ⟨i, p6, p7⟩ h tk hC kF1 kN1
    k_steps
    refine hret _ _ p6 p7 hC.h6 hC.h7 kF1 (news_sub kN1 ?_)
    intro q hq
    rcases List.mem_cons.mp hq with rfl | hq
    · exact .head _
    rcases List.mem_cons.mp hq with rfl | hq
    · exact .tail _ (.head _)
    · exact .tail _ (.tail _ (up q hq))
  case turn =>
    rintro a as ⟨i, p6, p7⟩ h tk own hC hno kF1 kN1
    obtain ⟨has, ⟨w6, h6⟩, ⟨w7, h7⟩⟩ := hC
    dsimp only at has h6 h7 hno kN1
    have x6 : own.1 ≠ c6 := (hno _ (.head _)).symm
    have x7 : own.1 ≠ c7 := (hno _ (.tail _ (.head _))).symm
    have b1' := memOf kN1 (.tail _ (.tail _ (.tail _ b1)))
    have b2' := memOf kN1 (.tail _ (.tail _ (.tail _ b2)))
    match i, has with
    | 0, has =>
      obtain ⟨rfl, rfl⟩ := List.cons.inj has
      (show wpAny _ _ (assign _ _ (Value.ref u1)) _ _ _)
      k_fold
      k_steps
      (with_reducible rename News _ _ _ _ => kN2)
      k_here
      k_dflt (refine' storeX_C ?sF kN2 ?sc (UpdF.tail x6 (UpdF.head ?u3)) h6 ?_ ?sa ?sb)
      case sa => rfl
      case sb => rfl
      case sF => k_asm
      case sc => rfl
      case u3 =>
        intro q hq
        rcases List.mem_cons.mp hq with rfl | hq
        · exact h67.symm
        · exact m6 q hq
      intro h2 p6' F2 N2 hp6
      clear kN2
      k_steps
      k_here
      k_dflt (refine' storeX_C ?tF N2 ?tc (UpdF.tail x7 (UpdF.tail h67 (UpdF.head m7))) h7 ?_ ?ta ?tb)
      case ta => rfl
      case tb => rfl
      case tF => k_asm
      case tc => rfl
      intro h3 p7' F3 N3 hp7
      clear N2
      refine assignInOrder_nil ?_
      (show wpAny (model PySem.Challenge.rw_pm0034_01.row.prog w) (ktrTop dp un gd (Str.ofString "law") lawScope1 L a ccd (cells8 c1 c2 c3 c4 c5 c6 c7 c8) []) (execs (forC1.drop 0) (envX (Str.ofString "law") lawScope1 L a ccd (cells8 c1 c2 c3 c4 c5 c6 c7 c8))) _ _ _)
      refine chunk_W 1 ?_
      refine t1_q1 B X T XB TB (R := W) (n := n) (pp := pp) (rep := rep) hd5 hu5 hn F3 N3 (.tail _ (.tail _ (.tail _ (up _ hc5)))) ho5 (.tail _ (.head _)) hp6 (.tail _ (.tail _ (.head _))) hp7 (.tail _ (.tail _ (.tail _ (up _ hW)))) hr hRW (.tail _ (.tail _ (.tail _ (up _ hSp)))) (hT.mono fun q hq => .tail _ (.tail _ (.tail _ (up q hq)))) hgi hei (.tail _ (.tail _ (.tail _ (up _ hD)))) hl ?_
      intro h4 tk4 F4 N4
      (show wpAny (model PySem.Challenge.rw_pm0034_01.row.prog w) (ktrTop dp un gd (Str.ofString "law") lawScope1 L a ccd (cells8 c1 c2 c3 c4 c5 c6 c7 c8) []) (execs (forC1.drop 1) (envX (Str.ofString "law") lawScope1 L a ccd (cells8 c1 c2 c3 c4 c5 c6 c7 c8))) _ _ _)
      obtain ⟨M4, eM4, F4⟩ := fr_ext F4
      refine chunk_W 1 ?_
      refine t1_q2 B X T XB TB (R := W) (n := n) (pp := pp) (rep := rep) (jk := M4) hd5 hu5 hn (fr_map [Str.ofString "spans", Str.ofString "upto"] F4 (by subst eM4; walk_at "M map1") (by walk_at "M fr2")) N4 (.tail _ (.tail _ (.tail _ (up _ hc5)))) ho5 (.tail _ (.head _)) hp6 (.tail _ (.tail _ (.head _))) hp7 (.tail _ (.tail _ (.tail _ (up _ hW)))) hr hRW (.tail _ (.tail _ (.tail _ (up _ hSp)))) (hT.mono fun q hq => .tail _ (.tail _ (.tail _ (up q hq)))) hgi hei (.tail _ (.tail _ (.tail _ (up _ hU)))) hu ?_
      intro h5 tk5 F5 N5
      (show wpAny (model PySem.Challenge.rw_pm0034_01.row.prog w) (ktrTop dp un gd (Str.ofString "law") lawScope1 L a ccd (cells8 c1 c2 c3 c4 c5 c6 c7 c8) []) (execs [] (envX (Str.ofString "law") lawScope1 L a ccd (cells8 c1 c2 c3 c4 c5 c6 c7 c8))) _ _ _)
      refine wpAny_execs_nil ?_
      refine turnFr_next ⟨1, p6', p7'⟩ [Str.ofString "spans", Str.ofString "upto"] F5 N5 ⟨rfl, ⟨_, hp6⟩, ⟨_, hp7⟩⟩ (by subst eM4; walk_at "M map1") (fun y hy => by subst eM4; exact (if_neg (ne_of_out hy (by with_unfolding_all rfl))).trans (if_neg (ne_of_out hy (by with_unfolding_all rfl)))) (fun q hq => hq) ?_
      intro q hq
      rcases List.mem_cons.mp hq with rfl | hq
      · exact x6.symm
      rcases List.mem_cons.mp hq with rfl | hq
      · exact x7.symm
      · exact hno q (.tail _ (.tail _ hq))
    | 1, has =>
      obtain ⟨rfl, rfl⟩ := List.cons.inj has
      (show wpAny _ _ (assign _ _ (Value.ref u2)) _ _ _)
      k_fold
      k_steps
      (with_reducible rename News _ _ _ _ => kN2)
      k_here
      k_dflt (refine' storeX_C ?sF kN2 ?sc (UpdF.tail x6 (UpdF.head ?u3)) h6 ?_ ?sa ?sb)
      case sa => rfl
      case sb => rfl
      case sF => k_asm
      case sc => rfl
      case u3 =>
        intro q hq
        rcases List.mem_cons.mp hq with rfl | hq
        · exact h67.symm
        · exact m6 q hq
      intro h2 p6' F2 N2 hp6
      clear kN2
      k_steps
      k_here
      k_dflt (refine' storeX_C ?tF N2 ?tc (UpdF.tail x7 (UpdF.tail h67 (UpdF.head m7))) h7 ?_ ?ta ?tb)
      case ta => rfl
      case tb => rfl
      case tF => k_asm
      case tc => rfl
      intro h3 p7' F3 N3 hp7
      clear N2
      refine assignInOrder_nil ?_
      (show wpAny (model PySem.Challenge.rw_pm0034_01.row.prog w) (ktrTop dp un gd (Str.ofString "law") lawScope1 L a ccd (cells8 c1 c2 c3 c4 c5 c6 c7 c8) []) (execs (forC1.drop 0) (envX (Str.ofString "law") lawScope1 L a ccd (cells8 c1 c2 c3 c4 c5 c6 c7 c8))) _ _ _)
      refine chunk_W 1 ?_
      refine t1_q1 B X T XB TB (R := Bd) (n := n) (pp := pp) (rep := rep) hd5 hu5 hn F3 N3 (.tail _ (.tail _ (.tail _ (up _ hc5)))) ho5 (.tail _ (.head _)) hp6 (.tail _ (.tail _ (.head _))) hp7 (.tail _ (.tail _ (.tail _ (up _ hB)))) hr hRB (.tail _ (.tail _ (.tail _ (up _ hSp)))) (hT.mono fun q hq => .tail _ (.tail _ (.tail _ (up q hq)))) hgi hei (.tail _ (.tail _ (.tail _ (up _ hD)))) hl ?_
      intro h4 tk4 F4 N4
      (show wpAny (model PySem.Challenge.rw_pm0034_01.row.prog w) (ktrTop dp un gd (Str.ofString "law") lawScope1 L a ccd (cells8 c1 c2 c3 c4 c5 c6 c7 c8) []) (execs (forC1.drop 1) (envX (Str.ofString "law") lawScope1 L a ccd (cells8 c1 c2 c3 c4 c5 c6 c7 c8))) _ _ _)
      obtain ⟨M4, eM4, F4⟩ := fr_ext F4
      refine chunk_W 1 ?_
      refine t1_q2 B X T XB TB (R := Bd) (n := n) (pp := pp) (rep := rep) (jk := M4) hd5 hu5 hn (fr_map [Str.ofString "spans", Str.ofString "upto"] F4 (by subst eM4; walk_at "M map1") (by walk_at "M fr2")) N4 (.tail _ (.tail _ (.tail _ (up _ hc5)))) ho5 (.tail _ (.head _)) hp6 (.tail _ (.tail _ (.head _))) hp7 (.tail _ (.tail _ (.tail _ (up _ hB)))) hr hRB (.tail _ (.tail _ (.tail _ (up _ hSp)))) (hT.mono fun q hq => .tail _ (.tail _ (.tail _ (up q hq)))) hgi hei (.tail _ (.tail _ (.tail _ (up _ hU)))) hu ?_
      intro h5 tk5 F5 N5
      (show wpAny (model PySem.Challenge.rw_pm0034_01.row.prog w) (ktrTop dp un gd (Str.ofString "law") lawScope1 L a ccd (cells8 c1 c2 c3 c4 c5 c6 c7 c8) []) (execs [] (envX (Str.ofString "law") lawScope1 L a ccd (cells8 c1 c2 c3 c4 c5 c6 c7 c8))) _ _ _)
      refine wpAny_execs_nil ?_
      refine turnFr_next ⟨2, p6', p7'⟩ [Str.ofString "spans", Str.ofString "upto"] F5 N5 ⟨rfl, ⟨_, hp6⟩, ⟨_, hp7⟩⟩ (by subst eM4; walk_at "M map1") (fun y hy => by subst eM4; exact (if_neg (ne_of_out hy (by with_unfolding_all rfl))).trans (if_neg (ne_of_out hy (by with_unfolding_all rfl)))) (fun q hq => hq) ?_
      intro q hq
      rcases List.mem_cons.mp hq with rfl | hq
      · exact x6.symm
      rcases List.mem_cons.mp hq with rfl | hq
      · exact x7.symm
      · exact hno q (.tail _ (.tail _ hq))
    | i + 2, has => simp at has
end
end
section
theorem lines_L1D_0 : True := by
  walk_at "base"
  trivial
theorem lines_L1D_1 : True := by
  k_with "subscriptTail Name Constant ref int" => ((k_here; refine item_tupleT (News.isTup (by assumption) (by k_mem)) (by decide) (by decide) (by rfl) (by rfl) ?_))
  k_with "subscriptTail Name Constant ref int" => ((k_here; (with_reducible rename StrsAre _ _ => hSA); refine item_strsA (News.isList (by assumption) (by k_mem)) hSA (by decide) (by first | omega | (simp only [List.length_map]; omega)) (by decide) ?_; intro t'))
  k_with "call type:ValueError" => ((refine call_ValueError_made ?_; intro _ _ _))
  k_with "exec While Compare Name cons nil" => (refine Hold.mk ?_)
  k_with "exec While Compare" => (refine Hold.mk ?_)
  k_with "exec While Compare cons nil" => (refine Hold.mk ?_)
  k_with "exec While" => (refine Hold.mk ?_)
  k_with "binaryOp FloorDiv int int" => ((k_here; (with_reducible refine floordiv_pos ?kb1 ?kb2 ?_); (case kb1 => decide); (case kb2 => decide +kernel)))
  k_with "WhlIf" => ((refine whlIf_dec ?_ ?_ <;> intro _))
  k_with "subscriptTail Name Name ref int" => ((k_here; first
    | ((with_reducible rename StrsAre _ _ => hSA); refine item_strsA (News.isList (by assumption) (by k_mem)) hSA (by omega) (by omega) (by omega) ?_; intro t')
    | ((with_reducible rename IntsAre _ _ => hSA); refine item_intsA (News.isList (by assumption) (by k_mem)) hSA (by omega) (by omega) (by omega) ?_; intro t')))
  k_with "call builtin:len" => ((k_here; (with_reducible show wpAny _ _ (call (Value.builtin "len") [Value.ref _]) _ _ _); first
    | ((with_reducible rename StrsAre _ _ => hSA); refine len_strsA (News.isList (by assumption) (by k_mem)) hSA (by omega) ?_)
    | ((with_reducible rename IntsAre _ _ => hSA); refine len_intsA (News.isList (by assumption) (by k_mem)) hSA (by omega) ?_)))
  k_with "M fr2" => ((intro y hy; (repeat (refine (if_neg (ne_of_out hy (by with_unfolding_all rfl))).trans ?_)); (refine Eq.symm ?_); (repeat (refine (if_neg (ne_of_out hy (by with_unfolding_all rfl))).trans ?_)); rfl))
  k_with "call ref" => (((with_reducible show wpAny _ _ (call (Value.ref 129) _) _ _ _); refine Hold.mk ?_))
  k_with "call ref" => (((with_reducible show wpAny _ _ (call (Value.ref 136) _) _ _ _); refine Hold.mk ?_))
  trivial
theorem lam_ex {tb : Array Value} {mid : Ldg} (h : LamIs tb mid) : ∃ ex : Ldg, LamIs tb ex ∧ (∀ q ∈ ex, q ∈ mid) ∧ ∀ q ∈ ex, ∃ vs, q.2.data = .fields vs := by
  rcases h with h | ⟨c', oc, vs, tq, h1, h2, h3, h4⟩
  · exact ⟨[], .inl h, (fun q hq => nomatch hq), (fun q hq => nomatch hq)⟩
  · refine ⟨[(c', oc)], .inr ⟨c', oc, vs, tq, h1, .head _, h3, h4⟩, fun q hq => ?_, fun q hq => ?_⟩
    · rw [List.mem_singleton.mp hq]; exact h2
    · rw [List.mem_singleton.mp hq]; exact ⟨vs, h3⟩
theorem ne_by_data {h₀ h : Heap} {L : Addr} {l : Ldg} {q r : Addr × Obj} (N : News h₀ L h l) (hq : q ∈ l) (hr : r ∈ l) (hd : q.2.data ≠ r.2.data) : q.1 ≠ r.1 := fun e => by
  have h1 := (N _ hq).1
  have h2 := (N _ hr).1
  rw [e, h2] at h1
  exact hd (congrArg Obj.data (Option.some.inj h1)).symm
noncomputable def blkVs (pp : Nat → Int) (n : Nat) (cvs : List Value) : List Value := (blk pp n).map fun i => cvs.getD i .none
section
variable {w : World} {p : Program} {loose : List PStr} {mean : ExcName → Option Value} {mg mb : PStr → Option Value}
    {dp un : Nat} {gd : Option (List Code)} {a : Addr} {ccd : Value} {c1 c2 c3 c4 c5 c6 c7 c8 : Addr} {A₀ : Around} {base h₀ : Heap} {L : Addr}
    {s : Shared} {news : Ldg}
    (B : Below A₀ base [] h₀) (X : (KK.heap_1 w.params).In h₀) (T : Top p loose mean mg mb h₀) (XB : (KK.heap_1 w.params).In base) (TB : Top p loose mean mg mb base)
include B X T XB TB
theorem t1_d {W C dn : Addr} {wvs cvs nvs : List Value} {o1 o2 : Obj} {we ce n1 i : Nat} {sm : Int} {pp : Nat → Int} {rep : Nat → PStr} {ns : List Int} {tb : Array Value} {led ls : Ldg} {ti tm : Tok} {jk : PStr → Option Value} {Q : Flow → Shared → Prop} {E : Value → Shared → Prop}
   (hd5 : dp + 200 < recursionLimit) (hu5 : un + 2000 < cLine) (hi : i < ns.length) (hn0 : 0 < n1) (hn16 : n1 < 16) (hmg : 0 ≤ sm ∧ sm ≤ 100)
   (F : Fr h₀ L s.heap (fun y => if y = Str.ofString "turn" then some (.int i ti) else if y = Str.ofString "numbers" then some (.ref dn) else if y = Str.ofString "merges" then some (.int sm tm) else jk y))
   (N : News h₀ L s.heap ((131, tabObj tb) :: (W, lstOf wvs we) :: led)) (hT : W ≠ 131) (hne : ∀ q ∈ led, q.1 ≠ W) (hneT : ∀ q ∈ led, q.1 ≠ 131) (hlam : LamIs tb ls) (hls : ∀ q ∈ ls, q ∈ led)
   (hc1 : (c1, o1) ∈ led) (ho1 : o1.data = .cell (some (.ref W))) (hc2 : (c2, o2) ∈ led) (ho2 : o2.data = .cell (some (.ref C))) (hC : (C, lstOf cvs ce) ∈ led) (hdn : (dn, lstOf nvs 0) ∈ led) (hns : IntsAre nvs ns) (hnl : ns.length ≤ 15)
   (hr : RepG pp rep n1) (hrW : RowW pp rep (.ref 108) (blk pp (n1 - 1) ++ [n1 - 1]) wvs) (hCw : CameW pp rep n1 cvs led)
   (hret : ∀ (h' : Heap) (tk : Nat) (vs' : List Value) (ep' : Nat) (Db : Addr) (de : Nat) (tb' : Array Value) (ex : Ldg) (t1 t2 : Tok), RowW pp rep (.ref 108) (blk pp n1) vs' → LamIs tb' ex → (∀ q ∈ ex, ∃ vs, q.2.data = .fields vs) → (∀ q ∈ ex, q.1 ≠ 131) → (∀ q ∈ ex, q ∈ ls ∨ ∀ r ∈ led, r.1 ≠ q.1) → (∀ q ∈ led, q.1 ≠ Db) →
      Fr h₀ L h' (fun y => if y = Str.ofString "blocks" then some (.ref Db) else if y = Str.ofString "merges" then some (.int (sm + (tzM n1 : Int)) t2) else if y = Str.ofString "done" then some (.int (tzM n1 : Int) t1) else if y = Str.ofString "turn" then some (.int i ti) else if y = Str.ofString "numbers" then some (.ref dn) else jk y) →
      News h₀ L h' ((Db, lstOf (blkVs pp n1 cvs) de) :: (131, tabObj tb') :: (W, lstOf vs' ep') :: (ex ++ led)) → Q .next { s with heap := h', toks := tk }) :
   wpAny (model PySem.Challenge.rw_pm0034_01.row.prog w) (ktrTop dp un gd (Str.ofString "law") lawScope1 L a ccd (cells8 c1 c2 c3 c4 c5 c6 c7 c8) []) (execs ((turn1.drop 9).take 3) (envX (Str.ofString "law") lawScope1 L a ccd (cells8 c1 c2 c3 c4 c5 c6 c7 c8))) Q E s := by
  walk_at "M fill"
  have D : KtsDicts (([] : List Env).filterMap (·.frame)) h₀ := fun b hb => nomatch hb
  have hck : lawScope1.kind = .function := by with_unfolding_all rfl
  have htz : tzM n1 ≤ 3 := by unfold tzM; (repeat' split) <;> omega
  show wpAny _ (ktrTop _ _ _ _ (Scope.mk _ _ _ _ _) _ _ _ _ _) (execs (_ :: _ :: _ :: []) (envX _ (Scope.mk _ _ _ _ _) _ _ _ _)) _ _ _
  k_steps
  refine Hold.out ?_
  have ein : ns.getD ((i : Int)).toNat 0 = ns.getD i 0 := rfl
  rw [ein]
  refine' merge_spec (n1 := n1) (rep := rep) ?kB ?kX ?kT ?kXB ?kTB ?kD ?kh ?kd ?ku ?kF (news_sub (by with_reducible assumption) mem_sw2) ?kne ?ke hn0 hn16 hr hrW ?_
  case kB => assumption
  case kX => assumption
  case kT => assumption
  case kXB => assumption
  case kTB => assumption
  case kD => assumption
  case kh => rfl
  case kd => ((try dsimp only); omega)
  case ku => ((try dsimp only); omega)
  case kF => with_reducible assumption
  case kne =>
    intro q hq
    rcases List.mem_cons.mp hq with rfl | hq
    · exact hT.symm
    · exact hne q hq
  case ke =>
    have h1 := Int.fmod_nonneg_of_pos (ns.getD i 0 / 80) (show (0 : Int) < 2 by decide)
    have h2 := Int.fmod_lt_of_pos (ns.getD i 0 / 80) (show (0 : Int) < 2 by decide)
    omega
  intro h2 tk2 t2 vs2 ep2 hrW2 F2 N2
  k_steps
  refine Hold.out ?_
  refine' blocks_spec (n := n1) (rep := rep) ?jB ?jX ?jT ?jXB ?jTB ?jD ?jh ?jd ?ju ?jF (news_sub (by with_reducible assumption) mem_sw2) ?jnT hlam (fun q hq => .tail _ (hls q hq)) (.tail _ hC) (hCw.mono fun q hq => .tail _ hq) hn16 ?_
  case jB => assumption
  case jX => assumption
  case jT => assumption
  case jXB => assumption
  case jTB => assumption
  case jD => assumption
  case jh => rfl
  case jd => ((try dsimp only); omega)
  case ju => ((try dsimp only); omega)
  case jF => with_reducible assumption
  case jnT =>
    intro q hq
    rcases List.mem_cons.mp hq with rfl | hq
    · exact hT
    · exact hneT q hq
  intro h3 tk3 D3 de3 tb3 mid hsub hnD hnT3 hlm0 F3 N3
  k_steps
  obtain ⟨ls2, hlm, hlm2⟩ := hlm0
  obtain ⟨ex, hx1, hx20, hx3⟩ := lam_ex hlm
  have hx2 : ∀ q ∈ ex, q ∈ mid := fun q hq => (hlm2 q (hx20 q hq)).1
  (with_reducible rename Fr _ _ _ _ => kF5)
  (with_reducible rename News _ _ _ _ => kN5)
  obtain ⟨M5, eM5, F5⟩ := fr_ext kF5
  refine hret _ _ vs2 ep2 D3 de3 tb3 ex _ _ hrW2 hx1 hx3 (fun q hq => hnT3 q (hx2 q hq)) ?_ ?_ (fr_map [Str.ofString "blocks", Str.ofString "merges", Str.ofString "done", Str.ofString "turn", Str.ofString "numbers"] F5 (by subst eM5; walk_at "M map1") (by subst eM5; walk_at "M fr2")) (news_sub kN5 ?_)
  · intro q hq
    rcases (hlm2 q (hx20 q hq)).2 with h | h
    · exact .inl h
    · exact .inr fun r hr => h r (.tail _ hr)
  · exact fun q hq => hnD q (hsub q (.tail _ hq))
  intro q hq
  rcases List.mem_cons.mp hq with rfl | hq
  · exact .head _
  rcases List.mem_cons.mp hq with rfl | hq
  · exact .tail _ (.head _)
  rcases List.mem_cons.mp hq with rfl | hq
  · exact .tail _ (.tail _ (hsub _ (.head _)))
  rcases List.mem_append.mp hq with hq | hq
  · exact .tail _ (.tail _ (hx2 q hq))
  · exact .tail _ (.tail _ (hsub q (.tail _ hq)))
end
end
section
theorem lines_L1S_0 : True := by
  walk_at "base"
  k_with "M sub" => ((
    (repeat' (with_reducible first | refine sub_cons ?_ ?_ | refine sub_app ?_ ?_ | exact sub_nil9))
    (all_goals (repeat (with_reducible first | exact sub_self9 | exact sub_l sub_self9 | exact List.mem_cons_self | refine sub_tl ?_ | refine sub_r ?_ | refine List.mem_cons_of_mem _ ?_ | refine List.mem_append_right _ ?_)))))
  trivial
theorem lines_L1S_1 : True := by
  k_with "subscriptTail Name Constant ref int" => ((k_here; refine item_tupleT (News.isTup (by assumption) (by k_mem)) (by decide) (by decide) (by rfl) (by rfl) ?_))
  k_with "subscriptTail Name Constant ref int" => ((k_here; (with_reducible rename StrsAre _ _ => hSA); refine item_strsA (News.isList (by assumption) (by k_mem)) hSA (by decide) (by first | omega | (simp only [List.length_map]; omega)) (by decide) ?_; intro t'))
  k_with "call type:ValueError" => ((refine call_ValueError_made ?_; intro _ _ _))
  k_with "exec While Compare Name cons nil" => (refine Hold.mk ?_)
  k_with "exec While Compare" => (refine Hold.mk ?_)
  k_with "exec While Compare cons nil" => (refine Hold.mk ?_)
  k_with "exec While" => (refine Hold.mk ?_)
  k_with "binaryOp FloorDiv int int" => ((k_here; (with_reducible refine floordiv_pos ?kb1 ?kb2 ?_); (case kb1 => decide); (case kb2 => decide +kernel)))
  k_with "WhlIf" => ((refine whlIf_dec ?_ ?_ <;> intro _))
  k_with "subscriptTail Name Name ref int" => ((k_here; first
    | ((with_reducible rename StrsAre _ _ => hSA); refine item_strsA (News.isList (by assumption) (by k_mem)) hSA (by omega) (by omega) (by omega) ?_; intro t')
    | ((with_reducible rename IntsAre _ _ => hSA); refine item_intsA (News.isList (by assumption) (by k_mem)) hSA (by omega) (by omega) (by omega) ?_; intro t')))
  k_with "call builtin:len" => ((k_here; (with_reducible show wpAny _ _ (call (Value.builtin "len") [Value.ref _]) _ _ _); first
    | ((with_reducible rename StrsAre _ _ => hSA); refine len_strsA (News.isList (by assumption) (by k_mem)) hSA (by omega) ?_)
    | ((with_reducible rename IntsAre _ _ => hSA); refine len_intsA (News.isList (by assumption) (by k_mem)) hSA (by omega) ?_)))
  k_with "M fr2" => ((intro y hy; (repeat (refine (if_neg (ne_of_out hy (by with_unfolding_all rfl))).trans ?_)); (refine Eq.symm ?_); (repeat (refine (if_neg (ne_of_out hy (by with_unfolding_all rfl))).trans ?_)); rfl))
  trivial
theorem lines_L1S_2 : True := by
  k_with "pyIter ref" => ((refine Hold.mk ?_))
  k_with "exec For Name Tuple cons nil" => ((k_here; (refine' For_turns ?lF ?_ ?ls ?lE; (case lF => k_asm); (case ls => (intro x; rfl)); (case lE => assumption)); k_whole))
  trivial
structure SS where
  o5 : Obj
  o6 : Obj
  o7 : Obj
  jk : PStr → Option Value
noncomputable def ssM (Sp Bd : Addr) (σ : SS) : PStr → Option Value := fun y => if y = Str.ofString "spans" then some (.ref Sp) else if y = Str.ofString "bare" then some (.ref Bd) else σ.jk y
structure SsC (jk : PStr → Option Value) (σ : SS) : Prop where
  h5 : ∃ v, σ.o5.data = .cell v
  h6 : ∃ v, σ.o6.data = .cell v
  h7 : ∃ v, σ.o7.data = .cell v
  j : ∀ y, y ∉ [Str.ofString "less", Str.ofString "upto"] → σ.jk y = jk y
theorem with_six {h₀ h : Heap} {L T : Addr} {x5 x6 x7 : Addr × Obj} {l : Ldg} {t1 t2 t3 t4 t5 t6 : Tok} {G : Prop} (N : News h₀ L h ((T, tupOf [.int 0 t1, .int 7 t2, .int 11 t3, .int 14 t4, .int 21 t5, .int 28 t6]) :: x5 :: x6 :: x7 :: l)) (a : x5.1 < T ∧ x6.1 < T ∧ x7.1 < T ∧ AllLt T l)
    (k : ∀ T' u1 u2 u3 u4 u5 u6, T' = T → T' ≠ x5.1 ∧ T' ≠ x6.1 ∧ T' ≠ x7.1 → News h₀ L h (x5 :: x6 :: x7 :: (T', tupOf [.int 0 u1, .int 7 u2, .int 11 u3, .int 14 u4, .int 21 u5, .int 28 u6]) :: l) → G) : G := by
  refine k T t1 t2 t3 t4 t5 t6 rfl ⟨Nat.ne_of_gt a.1, Nat.ne_of_gt a.2.1, Nat.ne_of_gt a.2.2.1⟩ (news_sub N ?_)
  walk_at "M sub"
abbrev sixQ (u1 u2 u3 u4 u5 u6 : Tok) : List (Int × Tok) := [(0, u1), (7, u2), (11, u3), (14, u4), (21, u5), (28, u6)]
section
variable {w : World} {p : Program} {loose : List PStr} {mean : ExcName → Option Value} {mg mb : PStr → Option Value}
    {dp un : Nat} {gd : Option (List Code)} {a : Addr} {ccd : Value} {c1 c2 c3 c4 c5 c6 c7 c8 : Addr} {A₀ : Around} {base h₀ : Heap} {L : Addr}
    {s : Shared} {news : Ldg}
    (B : Below A₀ base [] h₀) (X : (KK.heap_1 w.params).In h₀) (T : Top p loose mean mg mb h₀) (XB : (KK.heap_1 w.params).In base) (TB : Top p loose mean mg mb base)
include B X T XB TB
theorem t1_s {n : Nat} {W Bd C Sp : Addr} {wvs bvs cvs svs gvs evs : List Value} {we be ce e1 : Nat} {o1 o2 o5 o6 o7 : Obj} {v5 v6 v7 : Option Value} {pp : Nat → Int} {rep : Nat → PStr} {jk : PStr → Option Value} {Q : Flow → Shared → Prop} {E : Value → Shared → Prop}
   (hd5 : dp + 200 < recursionLimit) (hu5 : un + 2000 < cLine) (hE : PassesOwn (model PySem.Challenge.rw_pm0034_01.row.prog w) (ktrTop dp un gd (Str.ofString "law") lawScope1 L a ccd (cells8 c1 c2 c3 c4 c5 c6 c7 c8) []) (envX (Str.ofString "law") lawScope1 L a ccd (cells8 c1 c2 c3 c4 c5 c6 c7 c8)) E) (hn : n < 16)
   (F : Fr h₀ L s.heap (fun y => if y = Str.ofString "spans" then some (.ref Sp) else if y = Str.ofString "bare" then some (.ref Bd) else jk y))
   (N : News h₀ L s.heap ((c5, o5) :: (c6, o6) :: (c7, o7) :: news)) (h56 : c5 ≠ c6) (h57 : c5 ≠ c7) (h67 : c6 ≠ c7) (n5 : ∀ q ∈ news, q.1 ≠ c5) (n6 : ∀ q ∈ news, q.1 ≠ c6) (n7 : ∀ q ∈ news, q.1 ≠ c7) (ho5 : o5.data = .cell v5) (ho6 : o6.data = .cell v6) (ho7 : o7.data = .cell v7)
   (hc1 : (c1, o1) ∈ news) (ho1 : o1.data = .cell (some (.ref W))) (hc2 : (c2, o2) ∈ news) (ho2 : o2.data = .cell (some (.ref C)))
   (hW : (W, lstOf wvs we) ∈ news) (hB : (Bd, lstOf bvs be) ∈ news) (hC : (C, lstOf cvs ce) ∈ news) (hCw : CameW pp rep n cvs news) (hr : RepG pp rep n) (hRW : RowW pp rep (.ref 108) (blk pp n) wvs) (hRB : RowW pp rep .none (blk pp n) bvs) (hSp : (Sp, lstOf svs e1) ∈ news) (hT : TupsAre news svs gvs evs) (hgi : IntsAre gvs (bgT n 4)) (hei : IntsAre evs (enT n 4))
   (hret : ∀ (h' : Heap) (tk : Nat) (o5' o6' o7' : Obj) (jk' : PStr → Option Value), (∀ y, y ∉ [Str.ofString "less", Str.ofString "upto"] → jk' y = jk y) →
      Fr h₀ L h' (fun y => if y = Str.ofString "spans" then some (.ref Sp) else if y = Str.ofString "bare" then some (.ref Bd) else jk' y) →
      News h₀ L h' ((c5, o5') :: (c6, o6') :: (c7, o7') :: news) → Q .next { s with heap := h', toks := tk }) :
   wpAny (model PySem.Challenge.rw_pm0034_01.row.prog w) (ktrTop dp un gd (Str.ofString "law") lawScope1 L a ccd (cells8 c1 c2 c3 c4 c5 c6 c7 c8) []) (execs ((lawStmts1.drop 8).take 1) (envX (Str.ofString "law") lawScope1 L a ccd (cells8 c1 c2 c3 c4 c5 c6 c7 c8))) Q E s := by
  walk_at "M fill"
  show wpAny _ (ktrTop _ _ _ _ (Scope.mk _ _ _ _ _) _ _ _ _ _) (execs (_ :: []) (envX _ (Scope.mk _ _ _ _ _) _ _ _ _)) _ _ _
  k_steps
  refine Hold.out ?_
  (with_reducible rename Fr _ _ _ _ => kF)
  (with_reducible rename News _ _ _ _ => kN)
  (with_reducible rename (_ ∧ _ ∧ _ ∧ AllLt _ news) => a1)
  refine with_six kN a1 ?_
  clear kN a1
  intro T9 u1 u2 u3 u4 u5 u6 eT hneu N0
  subst eT
  obtain ⟨M0, eM0, F0⟩ := fr_ext kF
  refine' pyIter_tupG (fun q : Int × Tok => .int q.1 q.2) (fun as σ => SsC jk σ) (ssM Sp Bd) (fun σ => (c5, σ.o5) :: (c6, σ.o6) :: (c7, σ.o7) :: (T9, tupOf [.int 0 u1, .int 7 u2, .int 11 u3, .int 14 u4, .int 21 u5, .int 28 u6]) :: news) (sixQ u1 u2 u3 u4 u5 u6) ⟨o5, o6, o7, jk⟩ [Str.ofString "spans", Str.ofString "bare"] ?hv F0 N0 (.tail _ (.tail _ (.tail _ (.head _)))) rfl ?hk ?c0 ?m1 ?m2 rfl ?turn ?done
  case hv => rfl
  case hk => exact fun as σ hC => .tail _ (.tail _ (.tail _ (.head _)))
  case c0 =>
    exact ⟨⟨_, ho5⟩, ⟨_, ho6⟩, ⟨_, ho7⟩, fun y hy => rfl⟩
  case m1 => subst eM0; unfold ssM; walk_at "M map1"
  case m2 => subst eM0; unfold ssM; exact fun _ _ => rfl
  case done =>
    rintro ⟨p5, p6, p7, jk1⟩ h tk hC kF1 kN1
    unfold ssM at kF1
    dsimp only at kF1 kN1
    k_steps
    refine hret _ _ p5 p6 p7 jk1 hC.j kF1 (news_sub kN1 ?_)
    intro q hq
    rcases List.mem_cons.mp hq with rfl | hq
    · exact .head _
    rcases List.mem_cons.mp hq with rfl | hq
    · exact .tail _ (.head _)
    rcases List.mem_cons.mp hq with rfl | hq
    · exact .tail _ (.tail _ (.head _))
    · exact .tail _ (.tail _ (.tail _ (.tail _ hq)))
  case turn =>
    rintro ⟨x, tx⟩ as ⟨p5, p6, p7, jk1⟩ h tk own hC hno kF1 kN1
    obtain ⟨⟨w5, h5⟩, ⟨w6, h6⟩, ⟨w7, h7⟩, hj⟩ := hC
    unfold ssM at kF1
    dsimp only at h5 h6 h7 hj hno kF1 kN1
    have x5 : own.1 ≠ c5 := (hno _ (.head _)).symm
    have x6 : own.1 ≠ c6 := (hno _ (.tail _ (.head _))).symm
    have x7 : own.1 ≠ c7 := (hno _ (.tail _ (.tail _ (.head _)))).symm
    (show wpAny _ _ (assign _ _ (Value.int x tx)) _ _ _)
    k_fold
    k_steps
    k_here
    k_dflt (refine' storeX_C ?sF kN1 ?sc (UpdF.tail x5 (UpdF.head ?u3)) h5 ?_ ?sa ?sb)
    case sa => rfl
    case sb => rfl
    case sF => k_asm
    case sc => rfl
    case u3 =>
      intro q hq
      rcases List.mem_cons.mp hq with rfl | hq
      · exact h56.symm
      rcases List.mem_cons.mp hq with rfl | hq
      · exact h57.symm
      rcases List.mem_cons.mp hq with rfl | hq
      · exact hneu.1
      · exact n5 q hq
    intro h2 p5' F2 N2 hp5
    clear kN1 kF1
    have up : ∀ q ∈ news, q ∈ own :: (c5, p5') :: (c6, p6) :: (c7, p7) :: (T9, tupOf [.int 0 u1, .int 7 u2, .int 11 u3, .int 14 u4, .int 21 u5, .int 28 u6]) :: news := fun q hq => .tail _ (.tail _ (.tail _ (.tail _ (.tail _ hq))))
    obtain ⟨M2, eM2, F2⟩ := fr_ext F2
    (show wpAny (model PySem.Challenge.rw_pm0034_01.row.prog w) (ktrTop dp un gd (Str.ofString "law") lawScope1 L a ccd (cells8 c1 c2 c3 c4 c5 c6 c7 c8) []) (execs (forB1.drop 0) (envX (Str.ofString "law") lawScope1 L a ccd (cells8 c1 c2 c3 c4 c5 c6 c7 c8))) _ _ _)
    refine chunk_W 1 ?_
    refine t1_p1 B X T XB TB (n := n) (pp := pp) (rep := rep) (Sp := Sp) (x := x) (jk := M2) hd5 hu5 hn (fr_map [Str.ofString "spans"] F2 (by subst eM2; walk_at "M map1") (by walk_at "M fr2")) N2 (up _ hc2) ho2 (.tail _ (.head _)) hp5 (up _ hC) (hCw.mono up) (up _ hSp) (hT.mono up) hgi hei ?_
    intro h3 tk3 D1 ls1 hl1 F3 N3
    obtain ⟨M3, eM3, F3⟩ := fr_ext F3
    (show wpAny (model PySem.Challenge.rw_pm0034_01.row.prog w) (ktrTop dp un gd (Str.ofString "law") lawScope1 L a ccd (cells8 c1 c2 c3 c4 c5 c6 c7 c8) []) (execs (forB1.drop 1) (envX (Str.ofString "law") lawScope1 L a ccd (cells8 c1 c2 c3 c4 c5 c6 c7 c8))) _ _ _)
    refine chunk_W 1 ?_
    refine t1_p2 B X T XB TB (n := n) (pp := pp) (rep := rep) (Sp := Sp) (x := x) (jk := M3) hd5 hu5 hn (fr_map [Str.ofString "spans"] F3 (by subst eM3; walk_at "M map1") (by walk_at "M fr2")) N3 (.tail _ (up _ hc2)) ho2 (.tail _ (.tail _ (.head _))) hp5 (.tail _ (up _ hC)) (hCw.mono fun q hq => .tail _ (up q hq)) (.tail _ (up _ hSp)) (hT.mono fun q hq => .tail _ (up q hq)) hgi hei ?_
    intro h4 tk4 D2 ls2 hl2 F4 N4
    obtain ⟨M4, eM4, F4⟩ := fr_ext F4
    have ded : ∀ {D0 c : Addr} {l0 : List Value} {k0 : Nat} {oc : Obj}, (D0, lstOf l0 k0) ∈ (D2, lstOf ls2 ls2.length) :: (D1, lstOf ls1 ls1.length) :: own :: (c5, p5') :: (c6, p6) :: (c7, p7) :: (T9, tupOf [.int 0 u1, .int 7 u2, .int 11 u3, .int 14 u4, .int 21 u5, .int 28 u6]) :: news →
        (c, oc) ∈ (D2, lstOf ls2 ls2.length) :: (D1, lstOf ls1 ls1.length) :: own :: (c5, p5') :: (c6, p6) :: (c7, p7) :: (T9, tupOf [.int 0 u1, .int 7 u2, .int 11 u3, .int 14 u4, .int 21 u5, .int 28 u6]) :: news → (∃ v, oc.data = .cell v) → D0 ≠ c := fun g1 g2 g3 => by
      obtain ⟨v, g3⟩ := g3
      refine ne_by_data N4 g1 g2 ?_
      rw [g3]; intro c; cases c
    (show wpAny (model PySem.Challenge.rw_pm0034_01.row.prog w) (ktrTop dp un gd (Str.ofString "law") lawScope1 L a ccd (cells8 c1 c2 c3 c4 c5 c6 c7 c8) []) (execs (forB1.drop 2) (envX (Str.ofString "law") lawScope1 L a ccd (cells8 c1 c2 c3 c4 c5 c6 c7 c8))) _ _ _)
    refine chunk_W 1 ?_
    refine t1_r B X T XB TB (n := n) (pp := pp) (rep := rep) (Sp := Sp) (Bd := Bd) (W := W) (D1 := D1) (D2 := D2) (x := x) (jk := jk1) (lvs := ls1) (uvs := ls2) (o6 := p6) (o7 := p7) (el := ls1.length) (eu := ls2.length) (news := (D2, lstOf ls2 ls2.length) :: (D1, lstOf ls1 ls1.length) :: own :: (c5, p5') :: (T9, tupOf [.int 0 u1, .int 7 u2, .int 11 u3, .int 14 u4, .int 21 u5, .int 28 u6]) :: news) hd5 hu5 hE hn
      (fr_map [Str.ofString "spans", Str.ofString "less", Str.ofString "upto", Str.ofString "bare"] F4 (by subst eM4 eM3 eM2; walk_at "M map1") (by subst eM4 eM3 eM2; walk_at "M fr2")) (news_sub N4 ?r1) h67 ?r2 ?r3 h6 h7 (.tail _ (.tail _ (.tail _ (.tail _ (.tail _ hc1))))) ho1 (.tail _ (.tail _ (.tail _ (.head _)))) hp5
      (.tail _ (.tail _ (.tail _ (.tail _ (.tail _ hW))))) (.tail _ (.tail _ (.tail _ (.tail _ (.tail _ hB))))) hr hRW hRB (.tail _ (.tail _ (.tail _ (.tail _ (.tail _ hSp))))) (hT.mono fun q hq => .tail _ (.tail _ (.tail _ (.tail _ (.tail _ hq))))) hgi hei (.tail _ (.head _)) hl1 (.head _) hl2 ?_
    case r1 =>
      walk_at "M sub"
    case r2 =>
      intro q hq
      rcases List.mem_cons.mp hq with rfl | hq
      · exact ded (.head _) (.tail _ (.tail _ (.tail _ (.tail _ (.head _))))) ⟨_, h6⟩
      rcases List.mem_cons.mp hq with rfl | hq
      · exact ded (.tail _ (.head _)) (.tail _ (.tail _ (.tail _ (.tail _ (.head _))))) ⟨_, h6⟩
      rcases List.mem_cons.mp hq with rfl | hq
      · exact x6
      rcases List.mem_cons.mp hq with rfl | hq
      · exact h56
      rcases List.mem_cons.mp hq with rfl | hq
      · exact hneu.2.1
      · exact n6 q hq
    case r3 =>
      intro q hq
      rcases List.mem_cons.mp hq with rfl | hq
      · exact ded (.head _) (.tail _ (.tail _ (.tail _ (.tail _ (.tail _ (.head _)))))) ⟨_, h7⟩
      rcases List.mem_cons.mp hq with rfl | hq
      · exact ded (.tail _ (.head _)) (.tail _ (.tail _ (.tail _ (.tail _ (.tail _ (.head _)))))) ⟨_, h7⟩
      rcases List.mem_cons.mp hq with rfl | hq
      · exact x7
      rcases List.mem_cons.mp hq with rfl | hq
      · exact h57
      rcases List.mem_cons.mp hq with rfl | hq
      · exact hneu.2.2
      · exact n7 q hq
    intro h9 tk9 p6' p7' hp6 hp7 F5 N5
    (show wpAny (model PySem.Challenge.rw_pm0034_01.row.prog w) (ktrTop dp un gd (Str.ofString "law") lawScope1 L a ccd (cells8 c1 c2 c3 c4 c5 c6 c7 c8) []) (execs [] (envX (Str.ofString "law") lawScope1 L a ccd (cells8 c1 c2 c3 c4 c5 c6 c7 c8))) _ _ _)
    refine wpAny_execs_nil ?_
    refine turnFr_next ⟨p5', p6', p7', fun y => if y = Str.ofString "less" then some (.ref D1) else if y = Str.ofString "upto" then some (.ref D2) else jk1 y⟩ [Str.ofString "spans", Str.ofString "bare"] F5 N5 ⟨⟨_, hp5⟩, hp6, hp7, fun y hy => ?_⟩ (by unfold ssM; walk_at "M map1") (fun y hy => ?_) ?_ ?_
    · dsimp only
      rw [if_neg (ne_of_out hy (by with_unfolding_all rfl)), if_neg (ne_of_out hy (by with_unfolding_all rfl))]
      exact hj y hy
    · unfold ssM
      dsimp only
      rw [if_neg (ne_of_out hy (by with_unfolding_all rfl) : ¬ y = Str.ofString "spans"), if_neg (ne_of_out hy (by with_unfolding_all rfl) : ¬ y = Str.ofString "spans"), if_neg (ne_of_out hy (by with_unfolding_all rfl) : ¬ y = Str.ofString "bare"), if_neg (ne_of_out hy (by with_unfolding_all rfl) : ¬ y = Str.ofString "bare")]
    · walk_at "M sub"
    · intro q hq
      rcases List.mem_cons.mp hq with rfl | hq
      · exact x5.symm
      rcases List.mem_cons.mp hq with rfl | hq
      · exact x6.symm
      rcases List.mem_cons.mp hq with rfl | hq
      · exact x7.symm
      · exact hno q (.tail _ (.tail _ (.tail _ hq)))
end
end
section
theorem lines_F1_0 : True := by
  walk_at "base"
  k_with "M enter0" => ((
    refine wpAny_call ?_
    k_dflt (refine' code_defS0X ?k1 ?k2 ?k3 ?k4 ?k5 ?kA ?kF ?kK ?k6 ?k7 ?k8 ?k9 ?kB ?_ ?c2 ?c3 ?c4 ?c5; (case kA => exact rfl); (case kF => exact rfl); (case kK => assumption); (case k1 => k_asm); (case k2 => k_asm); (case k3 => k_asm); (case k4 => k_asm); (case k5 => k_asm); (case k6 => k_is); (case k7 => k_is); (case k8 => ((try dsimp only); omega)); (case k9 => first | exact BindsTo.of_eq rfl | (refine' kp_binds ?kx ?ke; (case kx => first | (refine' myIn ?kf ?ki; (case kf => with_reducible assumption); (case ki => with_reducible assumption)) | k_in); (case ke => exact fun _ => rfl)) | exact binds_K (by first | (refine' myIn ?kf ?ki; (case kf => with_reducible assumption); (case ki => with_reducible assumption)) | k_in) rfl (by k_is) rfl rfl rfl); (case c5 => decide); (case kB => exact locs rfl); (case c2 => exact rfl); (case c3 => exact rfl); (case c4 => exact rfl); k_whole; intro g' L' h' FG' F' N' B' X' T' D'; (try dsimp only); (try k_lift B'); (refine let_AE (f := execs _) ?_; intro vk ak); (refine f_QE ?_; intro qk ek))))
  trivial
theorem lines_F1_1 : True := by
  k_with "subscriptTail Name Constant ref int" => ((k_here; refine item_tupleT (News.isTup (by assumption) (by k_mem)) (by decide) (by decide) (by rfl) (by rfl) ?_))
  k_with "subscriptTail Name Constant ref int" => ((k_here; (with_reducible rename StrsAre _ _ => hSA); refine item_strsA (News.isList (by assumption) (by k_mem)) hSA (by decide) (by first | omega | (simp only [List.length_map]; omega)) (by decide) ?_; intro t'))
  k_with "call type:ValueError" => ((refine call_ValueError_made ?_; intro _ _ _))
  k_with "exec While Compare Name cons nil" => (refine Hold.mk ?_)
  k_with "exec While Compare" => (refine Hold.mk ?_)
  k_with "exec While Compare cons nil" => (refine Hold.mk ?_)
  k_with "exec While" => (refine Hold.mk ?_)
  k_with "binaryOp FloorDiv int int" => ((k_here; (with_reducible refine floordiv_pos ?kb1 ?kb2 ?_); (case kb1 => decide); (case kb2 => decide +kernel)))
  k_with "WhlIf" => ((refine whlIf_dec ?_ ?_ <;> intro _))
  k_with "subscriptTail Name Name ref int" => ((k_here; first
    | ((with_reducible rename StrsAre _ _ => hSA); refine item_strsA (News.isList (by assumption) (by k_mem)) hSA (by omega) (by omega) (by omega) ?_; intro t')
    | ((with_reducible rename IntsAre _ _ => hSA); refine item_intsA (News.isList (by assumption) (by k_mem)) hSA (by omega) (by omega) (by omega) ?_; intro t')))
  k_with "call builtin:len" => ((k_here; (with_reducible show wpAny _ _ (call (Value.builtin "len") [Value.ref _]) _ _ _); first
    | ((with_reducible rename StrsAre _ _ => hSA); refine len_strsA (News.isList (by assumption) (by k_mem)) hSA (by omega) ?_)
    | ((with_reducible rename IntsAre _ _ => hSA); refine len_intsA (News.isList (by assumption) (by k_mem)) hSA (by omega) ?_)))
  k_with "call ref" => (((with_reducible show wpAny _ _ (call (Value.ref 108) _) _ _ _); refine' port_spec ?kB ?kX ?kT ?kXB ?kTB ?kD ?kh ?kd ?ku ?kF ?kN ?k6 ?kv ?_ ?_; (case kB => assumption); (case kX => assumption); (case kT => assumption); (case kXB => assumption); (case kTB => assumption); (case kD => assumption); (case kh => rfl); (case kd => ((try dsimp only); omega)); (case ku => ((try dsimp only); omega)); (case kF => with_reducible assumption); (case kN => with_reducible assumption); (case k6 => first | exact getD_640 (by assumption) _ | assumption); (case kv => first | assumption | (have q := bis_nv (by assumption) (by assumption) (by assumption); exact q) | (have q := bis_nv ((by assumption : 0 ≤ _ → ∀ msg, _ ≠ _) (by omega)) (by assumption) (by assumption); exact q))))
  k_with "call ref" => (first
    | focus ((with_reducible show wpAny _ _ (call (Value.ref 32) _ _) _ _ _); refine' bisR_full ?kB ?kX ?kT ?kXB ?kTB ?kD ?kh ?kd ?ku ?kF ?kN ?kra ?kro ?kl ?khi ?khv ?_ ?_; (case kB => assumption); (case kX => assumption); (case kT => assumption); (case kXB => assumption); (case kTB => assumption); (case kD => assumption); (case kh => rfl); (case kd => ((try dsimp only); omega)); (case ku => ((try dsimp only); omega)); (case kF => with_reducible assumption); (case kN => with_reducible assumption); (case kra => k_mem); (case kro => assumption); (case kl => omega); (case khi => assumption); (case khv => first | assumption | (have q := hv_app (by assumption) (by assumption); exact q) | (have q := hv_app (by assumption) rfl; exact q)); rotate_left; (intro ek _ _ _ _ _ _ _ hb; have hz := bisZ_err_len (by assumption) hb; cases ek <;> dsimp only [clsOf]))
    | focus ((with_reducible show wpAny _ _ (call (Value.ref 50) _ _) _ _ _); refine' bisL_full ?kB ?kX ?kT ?kXB ?kTB ?kD ?kh ?kd ?ku ?kF ?kN ?kra ?kro ?kl ?khi ?khv ?_ ?_; (case kB => assumption); (case kX => assumption); (case kT => assumption); (case kXB => assumption); (case kTB => assumption); (case kD => assumption); (case kh => rfl); (case kd => ((try dsimp only); omega)); (case ku => ((try dsimp only); omega)); (case kF => with_reducible assumption); (case kN => with_reducible assumption); (case kra => k_mem); (case kro => assumption); (case kl => omega); (case khi => assumption); (case khv => first | assumption | (have q := hv_app (by assumption) (by assumption); exact q) | (have q := hv_app (by assumption) rfl; exact q)); rotate_left; (intro ek _ _ _ _ _ _ _ hb; have hz := bisZ_err_len (by assumption) hb; cases ek <;> dsimp only [clsOf]))
    | focus ((with_reducible show wpAny _ _ (call (Value.ref 32) _ _) _ _ _); refine' bisR_four ?kB ?kX ?kT ?kXB ?kTB ?kD ?kh ?kd ?ku ?kF ?kN ?kra ?kro ?kkv ?kl ?khi ?khv ?_ ?_; (case kB => assumption); (case kX => assumption); (case kT => assumption); (case kXB => assumption); (case kTB => assumption); (case kD => assumption); (case kh => rfl); (case kd => ((try dsimp only); omega)); (case ku => ((try dsimp only); omega)); (case kF => with_reducible assumption); (case kN => with_reducible assumption); (case kra => k_mem); (case kro => assumption); (case kkv => rfl); (case kl => omega); (case khi => assumption); (case khv => first | assumption | (have q := hv_app (by assumption) (by assumption); exact q) | (have q := hv_app (by assumption) rfl; exact q)); rotate_left; (intro ek _ _ _ _ _ _ _ hb; have hz := bisZ_err_len (by assumption) hb; cases ek <;> dsimp only [clsOf]))
    | focus ((with_reducible show wpAny _ _ (call (Value.ref 50) _ _) _ _ _); refine' bisL_four ?kB ?kX ?kT ?kXB ?kTB ?kD ?kh ?kd ?ku ?kF ?kN ?kra ?kro ?kkv ?kl ?khi ?khv ?_ ?_; (case kB => assumption); (case kX => assumption); (case kT => assumption); (case kXB => assumption); (case kTB => assumption); (case kD => assumption); (case kh => rfl); (case kd => ((try dsimp only); omega)); (case ku => ((try dsimp only); omega)); (case kF => with_reducible assumption); (case kN => with_reducible assumption); (case kra => k_mem); (case kro => assumption); (case kkv => rfl); (case kl => omega); (case khi => assumption); (case khv => first | assumption | (have q := hv_app (by assumption) (by assumption); exact q) | (have q := hv_app (by assumption) rfl; exact q)); rotate_left; (intro ek _ _ _ _ _ _ _ hb; have hz := bisZ_err_len (by assumption) hb; cases ek <;> dsimp only [clsOf])))
  k_with "call ref" => (first
    | focus ((with_reducible show wpAny _ _ (call (Value.ref 23) _ _) _ _ _); refine' insR ?kB ?kX ?kT ?kXB ?kTB ?kD ?kh ?kd ?ku ?kF ?kN ?kU ?kro ?kx ?kl ?klo ?khi ?kxv ?khv ?_ ?_; (case kB => assumption); (case kX => assumption); (case kT => assumption); (case kXB => assumption); (case kTB => assumption); (case kD => assumption); (case kh => rfl); (case kd => ((try dsimp only); omega)); (case ku => ((try dsimp only); omega)); (case kF => with_reducible assumption); (case kN => with_reducible assumption); (case kU => assumption); (case kro => assumption); (case kx => assumption); (case kl => omega); (case klo => omega); (case khi => assumption); (case kxv => assumption); (case khv => assumption); rotate_left; (intro ek _ _ _ _ _ _ _ hb; have hz := insZ_err_len (by assumption) (by assumption) hb; cases ek <;> dsimp only [clsOf]))
    | focus ((with_reducible show wpAny _ _ (call (Value.ref 41) _ _) _ _ _); refine' insL ?kB ?kX ?kT ?kXB ?kTB ?kD ?kh ?kd ?ku ?kF ?kN ?kU ?kro ?kx ?kl ?klo ?khi ?kxv ?khv ?_ ?_; (case kB => assumption); (case kX => assumption); (case kT => assumption); (case kXB => assumption); (case kTB => assumption); (case kD => assumption); (case kh => rfl); (case kd => ((try dsimp only); omega)); (case ku => ((try dsimp only); omega)); (case kF => with_reducible assumption); (case kN => with_reducible assumption); (case kU => assumption); (case kro => assumption); (case kx => assumption); (case kl => omega); (case klo => omega); (case khi => assumption); (case kxv => assumption); (case khv => assumption); rotate_left; (intro ek _ _ _ _ _ _ _ hb; have hz := insZ_err_len (by assumption) (by assumption) hb; cases ek <;> dsimp only [clsOf])))
  k_with "call type:str" => ((k_here; (with_reducible show wpAny _ _ (call (Value.type "str") [Value.ref _]) _ _ _); refine' str_own ?U ?X ?N ?G ?hs ?hm ?_; (case G => assumption); (case N => assumption); (case U => first | units_room | k_room | ((try dsimp only); omega)); (case X => first | (refine' myIn ?kf ?ki; (case kf => with_reducible assumption); (case ki => with_reducible assumption)) | k_in); (case hs => k_is); (case hm => k_is)))
  trivial
section
variable {w : World} {p : Program} {loose : List PStr} {mean : ExcName → Option Value} {mg mb : PStr → Option Value}
    {dp un : Nat} {gd : Option (List Code)} {cn : PStr} {cs : Scope} {a : Addr} {ccd : Value} {cl : List (PStr × Addr)} {A₀ : Around} {base h₀ : Heap} {L : Addr} {m : PStr → Option Value}
    {s : Shared} {Q E : Value → Shared → Prop} {news : Ldg}
    (B : Below A₀ base [] h₀) (X : (KK.heap_1 w.params).In h₀) (T : Top p loose mean mg mb h₀) (XB : (KK.heap_1 w.params).In base) (TB : Top p loose mean mg mb base) (hck : cs.kind = .function)
include B X T XB TB hck
theorem told_bis {ra : Addr} {vs : List Value} {k : Nat → KRes} {nn ep : Nat} {x lo wh : Int} {hi : Nat} {kv hv : Value} {tw tx tl : Tok} (hd5 : dp + 40 < recursionLimit) (hu5 : un + 300 < cLine) (F : Fr h₀ L s.heap m) (N : News h₀ L s.heap news)
   (hw : wh = 0 ∨ wh = 1) (hra : (ra, lstOf vs ep) ∈ news) (hrow : RowIs 108 kv vs k nn) (hl : nn ≤ 1000) (hhi : HiIs hv hi nn) (hv0 : 0 ≤ lo → ∀ msg, bisZ (wh == 1) k x lo hi ≠ .error (.value, msg))
   (hret : ∀ n t h' tk, bisZ (wh == 1) k x lo hi = .ok n → Fr h₀ L h' m → News h₀ L h' news → Q (.int n t) { s with heap := h', toks := tk })
   (hexc : ∀ ek r t h' tk, bisZ (wh == 1) k x lo hi = .error (ek, r) → Fr h₀ L h' m → News h₀ L h' news → Q (.str (toldTxt ek r) t) { s with heap := h', toks := tk }) :
   wpAny (model PySem.Challenge.rw_pm0034_01.row.prog w) (ktrTop dp un gd cn cs L a ccd cl []) (call (.ref 115) [.int wh tw, .ref ra, .int x tx, .int lo tl, hv, kv]) Q E s := by
  walk_at "M fill"
  rcases hw with rfl | rfl
  · replace hret : ∀ n t h' tk, bisZ false k x lo hi = .ok n → Fr h₀ L h' m → News h₀ L h' news → Q (.int n t) { s with heap := h', toks := tk } := hret
    replace hv0 : 0 ≤ lo → ∀ msg, bisZ false k x lo hi ≠ .error (.value, msg) := hv0
    replace hexc : ∀ ek r t h' tk, bisZ false k x lo hi = .error (ek, r) → Fr h₀ L h' m → News h₀ L h' news → Q (.str (toldTxt ek r) t) { s with heap := h', toks := tk } := hexc
    walk_at "M enter0"
    k_steps
    (try walk_at "call ref")
    all_goals (try k_steps)
    · (show Q (Value.str (toldTxt .reply _) _) _)
      exact hexc _ _ _ _ _ (by assumption) (by assumption) (by assumption)
    · (show Q (Value.str (toldTxt .proto _) _) _)
      exact hexc _ _ _ _ _ (by assumption) (by assumption) (by assumption)
    · (show Q (Value.str (toldTxt .value _) _) _)
      exact hexc _ _ _ _ _ (by assumption) (by assumption) (by assumption)
    · (show Q (Value.int _ _) _)
      exact hret _ _ _ _ (by assumption) (by assumption) (by assumption)
  · replace hret : ∀ n t h' tk, bisZ true k x lo hi = .ok n → Fr h₀ L h' m → News h₀ L h' news → Q (.int n t) { s with heap := h', toks := tk } := hret
    replace hv0 : 0 ≤ lo → ∀ msg, bisZ true k x lo hi ≠ .error (.value, msg) := hv0
    replace hexc : ∀ ek r t h' tk, bisZ true k x lo hi = .error (ek, r) → Fr h₀ L h' m → News h₀ L h' news → Q (.str (toldTxt ek r) t) { s with heap := h', toks := tk } := hexc
    walk_at "M enter0"
    k_steps
    (try walk_at "call ref")
    all_goals (try k_steps)
    · (show Q (Value.str (toldTxt .reply _) _) _)
      exact hexc _ _ _ _ _ (by assumption) (by assumption) (by assumption)
    · (show Q (Value.str (toldTxt .proto _) _) _)
      exact hexc _ _ _ _ _ (by assumption) (by assumption) (by assumption)
    · (show Q (Value.str (toldTxt .value _) _) _)
      exact hexc _ _ _ _ _ (by assumption) (by assumption) (by assumption)
    · (show Q (Value.int _ _) _)
      exact hret _ _ _ _ (by assumption) (by assumption) (by assumption)
end
section
variable {w : World} {p : Program} {loose : List PStr} {mean : ExcName → Option Value} {mg mb : PStr → Option Value}
    {dp un : Nat} {gd : Option (List Code)} {cn : PStr} {cs : Scope} {a : Addr} {ccd : Value} {cl : List (PStr × Addr)} {A₀ : Around} {base h₀ : Heap} {L : Addr} {m : PStr → Option Value}
    {s : Shared} {Q E : Value → Shared → Prop} {news : Ldg}
    (B : Below A₀ base [] h₀) (X : (KK.heap_1 w.params).In h₀) (T : Top p loose mean mg mb h₀) (XB : (KK.heap_1 w.params).In base) (TB : Top p loose mean mg mb base) (hck : cs.kind = .function)
include B X T XB TB hck
theorem told_ins {ra : Addr} {vs : List Value} {k : Nat → KRes} {nn ep : Nat} {kx : KRes} {lo wh : Int} {hi : Nat} {kv hv xv : Value} {tw tl : Tok} {gN : Obj → Ldg} (hd5 : dp + 40 < recursionLimit) (hu5 : un + 300 < cLine) (F : Fr h₀ L s.heap m) (N : News h₀ L s.heap news)
   (hw : wh = 2 ∨ wh = 3) (U : UpdF ra (lstOf vs ep) news gN) (hrow : RowIs 108 kv vs k nn) (hx : ThingIs 108 kv xv kx) (hl : nn ≤ 1000) (hlo : lo ≤ 1000) (hhi : HiIs hv hi nn) (hxv : ∀ msg, kx ≠ .error (.value, msg)) (hv0 : ∀ x, kx = .ok x → 0 ≤ lo → ∀ msg, bisZ (wh == 3) k x lo hi ≠ .error (.value, msg))
   (hret : ∀ n h' tk, insZ (wh == 3) k kx lo hi = .ok n → Fr h₀ L h' m → News h₀ L h' (gN (lstOf (kl_ins vs n xv) (ep + 1))) → Q .none { s with heap := h', toks := tk })
   (hexc : ∀ ek r t h' tk, insZ (wh == 3) k kx lo hi = .error (ek, r) → Fr h₀ L h' m → News h₀ L h' news → Q (.str (toldTxt ek r) t) { s with heap := h', toks := tk }) :
   wpAny (model PySem.Challenge.rw_pm0034_01.row.prog w) (ktrTop dp un gd cn cs L a ccd cl []) (call (.ref 115) [.int wh tw, .ref ra, xv, .int lo tl, hv, kv]) Q E s := by
  walk_at "M fill"
  rcases hw with rfl | rfl
  · replace hret : ∀ n h' tk, insZ false k kx lo hi = .ok n → Fr h₀ L h' m → News h₀ L h' (gN (lstOf (kl_ins vs n xv) (ep + 1))) → Q .none { s with heap := h', toks := tk } := hret
    replace hv0 : ∀ x, kx = .ok x → 0 ≤ lo → ∀ msg, bisZ false k x lo hi ≠ .error (.value, msg) := hv0
    replace hexc : ∀ ek r t h' tk, insZ false k kx lo hi = .error (ek, r) → Fr h₀ L h' m → News h₀ L h' news → Q (.str (toldTxt ek r) t) { s with heap := h', toks := tk } := hexc
    walk_at "M enter0"
    k_steps
    (try walk_at "call ref")
    all_goals (try k_steps)
    · (show Q (Value.str (toldTxt .reply _) _) _)
      exact hexc _ _ _ _ _ (by assumption) (by assumption) (by assumption)
    · (show Q (Value.str (toldTxt .proto _) _) _)
      exact hexc _ _ _ _ _ (by assumption) (by assumption) (by assumption)
    · (show Q (Value.str (toldTxt .value _) _) _)
      exact hexc _ _ _ _ _ (by assumption) (by assumption) (by assumption)
    · (show Q Value.none _)
      exact hret _ _ _ (by assumption) (by assumption) (by assumption)
  · replace hret : ∀ n h' tk, insZ true k kx lo hi = .ok n → Fr h₀ L h' m → News h₀ L h' (gN (lstOf (kl_ins vs n xv) (ep + 1))) → Q .none { s with heap := h', toks := tk } := hret
    replace hv0 : ∀ x, kx = .ok x → 0 ≤ lo → ∀ msg, bisZ true k x lo hi ≠ .error (.value, msg) := hv0
    replace hexc : ∀ ek r t h' tk, insZ true k kx lo hi = .error (ek, r) → Fr h₀ L h' m → News h₀ L h' news → Q (.str (toldTxt ek r) t) { s with heap := h', toks := tk } := hexc
    walk_at "M enter0"
    k_steps
    (try walk_at "call ref")
    all_goals (try k_steps)
    · (show Q (Value.str (toldTxt .reply _) _) _)
      exact hexc _ _ _ _ _ (by assumption) (by assumption) (by assumption)
    · (show Q (Value.str (toldTxt .proto _) _) _)
      exact hexc _ _ _ _ _ (by assumption) (by assumption) (by assumption)
    · (show Q (Value.str (toldTxt .value _) _) _)
      exact hexc _ _ _ _ _ (by assumption) (by assumption) (by assumption)
    · (show Q Value.none _)
      exact hret _ _ _ (by assumption) (by assumption) (by assumption)
end
end
section
theorem lines_L1W_0 : True := by
  walk_at "base"
  trivial
theorem lines_L1W_1 : True := by
  k_with "subscriptTail Name Constant ref int" => ((k_here; refine item_tupleT (News.isTup (by assumption) (by k_mem)) (by decide) (by decide) (by rfl) (by rfl) ?_))
  k_with "subscriptTail Name Constant ref int" => ((k_here; (with_reducible rename StrsAre _ _ => hSA); refine item_strsA (News.isList (by assumption) (by k_mem)) hSA (by decide) (by first | omega | (simp only [List.length_map]; omega)) (by decide) ?_; intro t'))
  k_with "call type:ValueError" => ((refine call_ValueError_made ?_; intro _ _ _))
  k_with "exec While Compare Name cons nil" => (refine Hold.mk ?_)
  k_with "exec While Compare" => (refine Hold.mk ?_)
  k_with "exec While Compare cons nil" => (refine Hold.mk ?_)
  k_with "exec While" => (refine Hold.mk ?_)
  k_with "binaryOp FloorDiv int int" => ((k_here; (with_reducible refine floordiv_pos ?kb1 ?kb2 ?_); (case kb1 => decide); (case kb2 => decide +kernel)))
  k_with "WhlIf" => ((refine whlIf_dec ?_ ?_ <;> intro _))
  k_with "subscriptTail Name Name ref int" => ((k_here; first
    | ((with_reducible rename StrsAre _ _ => hSA); refine item_strsA (News.isList (by assumption) (by k_mem)) hSA (by omega) (by omega) (by omega) ?_; intro t')
    | ((with_reducible rename IntsAre _ _ => hSA); refine item_intsA (News.isList (by assumption) (by k_mem)) hSA (by omega) (by omega) (by omega) ?_; intro t')))
  k_with "call builtin:len" => ((k_here; (with_reducible show wpAny _ _ (call (Value.builtin "len") [Value.ref _]) _ _ _); first
    | ((with_reducible rename StrsAre _ _ => hSA); refine len_strsA (News.isList (by assumption) (by k_mem)) hSA (by omega) ?_)
    | ((with_reducible rename IntsAre _ _ => hSA); refine len_intsA (News.isList (by assumption) (by k_mem)) hSA (by omega) ?_)))
  trivial
theorem lines_L1W_2 : True := by
  k_with "call ref" => (((with_reducible show wpAny _ _ (call (Value.ref 115) _ _) _ _ _); refine Hold.mk ?_))
  k_with "subscriptTail Name Constant ref int" => ((refine Hold.mk ?_))
  k_with "compareOp NotEq ref ref" => ((refine Hold.mk ?_))
  k_with "binaryOp Mult ref int" => ((refine Hold.mk ?_))
  trivial
theorem led_pull {h₀ h : Heap} {L ra : Addr} {o : Obj} {l : Ldg} (N : News h₀ L h l) (hm : (ra, o) ∈ l) : ∃ l', (∀ q ∈ l', q.1 ≠ ra) ∧ News h₀ L h ((ra, o) :: l') ∧ ∀ h', News h₀ L h' ((ra, o) :: l') → News h₀ L h' l := by
  refine ⟨l.filter fun q => decide (q.1 ≠ ra), fun q hq => of_decide_eq_true (List.mem_filter.mp hq).2, fun q hq => ?_, fun h' N' q hq => ?_⟩
  · rcases List.mem_cons.mp hq with rfl | hq
    · exact N _ hm
    · exact N _ (List.mem_filter.mp hq).1
  · by_cases e : q.1 = ra
    · obtain ⟨a, b⟩ := q
      dsimp only at e
      subst e
      have h1 := (N _ hq).1
      have h2 := (N _ hm).1
      dsimp only at h1 h2
      rw [h2] at h1
      obtain rfl := Option.some.inj h1
      exact N' _ (.head _)
    · exact N' _ (.tail _ (List.mem_filter.mpr ⟨hq, decide_eq_true e⟩))
abbrev negT : PStr := Str.ofString "value lo must be non-negative"
theorem neg_txt : toldTxt .value negMsg = negT := by with_unfolding_all rfl
section
variable {w : World} {p : Program} {loose : List PStr} {mean : ExcName → Option Value} {mg mb : PStr → Option Value}
    {dp un : Nat} {gd : Option (List Code)} {cn : PStr} {cs : Scope} {a : Addr} {ccd : Value} {cl : List (PStr × Addr)} {A₀ : Around} {base h₀ : Heap} {L : Addr} {m : PStr → Option Value}
    {s : Shared} {Q E : Value → Shared → Prop} {news : Ldg}
    (B : Below A₀ base [] h₀) (X : (KK.heap_1 w.params).In h₀) (T : Top p loose mean mg mb h₀) (XB : (KK.heap_1 w.params).In base) (TB : Top p loose mean mg mb base) (hck : cs.kind = .function)
include B X T XB TB hck
theorem told_neg {ra : Addr} {vs : List Value} {k : Nat → KRes} {nn ep i : Nat} {kv xv : Value} {tw tl : Tok} (hd5 : dp + 40 < recursionLimit) (hu5 : un + 300 < cLine) (F : Fr h₀ L s.heap m) (N : News h₀ L s.heap news)
   (hi : i < 4) (hra : (ra, lstOf vs ep) ∈ news) (hrow : RowIs 108 kv vs k nn) (hl : nn ≤ 1000) (hx1 : i < 2 → ∃ x tx, xv = .int x tx) (hx2 : ¬ i < 2 → ∃ x, ThingIs 108 kv xv (.ok x))
   (hret : ∀ t h' tk, Fr h₀ L h' m → News h₀ L h' news → Q (.str negT t) { s with heap := h', toks := tk }) :
   wpAny (model PySem.Challenge.rw_pm0034_01.row.prog w) (ktrTop dp un gd cn cs L a ccd cl []) (call (.ref 115) [.int (i : Int) tw, .ref ra, xv, .int (-1) tl, .none, kv]) Q E s := by
  by_cases h2 : i < 2
  · obtain ⟨x, tx, rfl⟩ := hx1 h2
    refine told_bis B X T XB TB hck hd5 hu5 F N (by omega) hra hrow hl (.inl ⟨rfl, rfl⟩) (fun h => absurd h (by decide)) ?_ ?_
    · intro n t h' tk e
      rw [bisZ_neg (by decide)] at e
      cases e
    · intro ek r t h' tk e F2 N2
      rw [bisZ_neg (by decide)] at e
      obtain ⟨rfl, rfl⟩ := Prod.mk.inj (Except.error.inj e)
      rw [neg_txt]
      exact hret _ _ _ F2 N2
  · obtain ⟨x, hx⟩ := hx2 h2
    obtain ⟨l', hn', N2, back⟩ := led_pull N hra
    refine told_ins B X T XB TB hck hd5 hu5 F N2 (by omega) (UpdF.head hn') hrow hx hl (by decide) (.inl ⟨rfl, rfl⟩) (fun msg e => nomatch e) (fun x e h => absurd h (by decide)) ?_ ?_
    · intro n h' tk e
      rw [show insZ _ k (.ok x) (-1) nn = bisZ _ k x (-1) nn from rfl, bisZ_neg (by decide)] at e
      cases e
    · intro ek r t h' tk e F3 N3
      rw [show insZ _ k (.ok x) (-1) nn = bisZ _ k x (-1) nn from rfl, bisZ_neg (by decide)] at e
      obtain ⟨rfl, rfl⟩ := Prod.mk.inj (Except.error.inj e)
      rw [neg_txt]
      exact hret _ _ _ F3 (back _ N3)
end
def forD1 : List Stmt := forBody (lawStmts1.drop 10)
section
variable {w : World} {p : Program} {loose : List PStr} {mean : ExcName → Option Value} {mg mb : PStr → Option Value}
    {dp un : Nat} {gd : Option (List Code)} {a : Addr} {ccd : Value} {c1 c2 c3 c4 c5 c6 c7 c8 : Addr} {A₀ : Around} {base h₀ : Heap} {L : Addr}
    {s : Shared} {news : Ldg}
    (B : Below A₀ base [] h₀) (X : (KK.heap_1 w.params).In h₀) (T : Top p loose mean mg mb h₀) (XB : (KK.heap_1 w.params).In base) (TB : Top p loose mean mg mb base)
include B X T XB TB
theorem t1_w1 {n i : Nat} {W Bd : Addr} {wvs bvs : List Value} {we be : Nat} {o1 : Obj} {pp : Nat → Int} {rep : Nat → PStr} {td : Tok} {jk : PStr → Option Value} {Q : Flow → Shared → Prop} {E : Value → Shared → Prop}
   (hd5 : dp + 200 < recursionLimit) (hu5 : un + 2000 < cLine) (hn : n < 16) (hn0 : 0 < n) (hi : i < 4)
   (F : Fr h₀ L s.heap (fun y => if y = Str.ofString "deed" then some (.int (i : Int) td) else if y = Str.ofString "bare" then some (.ref Bd) else jk y))
   (N : News h₀ L s.heap news) (hc1 : (c1, o1) ∈ news) (ho1 : o1.data = .cell (some (.ref W)))
   (hW : (W, lstOf wvs we) ∈ news) (hB : (Bd, lstOf bvs be) ∈ news) (hr : RepG pp rep n) (hRW : RowW pp rep (.ref 108) (blk pp n) wvs) (hRB : RowW pp rep .none (blk pp n) bvs)
   (hret : ∀ (h' : Heap) (tk : Nat) (T1 : Addr) (t1 t2 : Tok) (vt : Value) (nw : Ldg), (∀ q ∈ news, q ∈ nw) → (T1, lstOf [.str negT t1, .str negT t2] 0) ∈ nw →
      Fr h₀ L h' (fun y => if y = Str.ofString "told" then some (.ref T1) else if y = Str.ofString "thing" then some vt else if y = Str.ofString "deed" then some (.int (i : Int) td) else if y = Str.ofString "bare" then some (.ref Bd) else jk y) →
      News h₀ L h' nw → Q .next { s with heap := h', toks := tk }) :
   wpAny (model PySem.Challenge.rw_pm0034_01.row.prog w) (ktrTop dp un gd (Str.ofString "law") lawScope1 L a ccd (cells8 c1 c2 c3 c4 c5 c6 c7 c8) []) (execs (forD1.take 2) (envX (Str.ofString "law") lawScope1 L a ccd (cells8 c1 c2 c3 c4 c5 c6 c7 c8))) Q E s := by
  walk_at "M fill"
  have D : KtsDicts (([] : List Env).filterMap (·.frame)) h₀ := fun b hb => nomatch hb
  have hck : lawScope1.kind = .function := by with_unfolding_all rfl
  have hbl : (blk pp n).length = n := blk_len n hn
  have hwl := hRW.len
  obtain ⟨kk, hri, hkk⟩ := hRW.is hr (fun i hi => blk_mem hn hi)
  obtain ⟨kb, hrb, hkb⟩ := hRB.is hr (fun i hi => blk_mem hn hi)
  obtain ⟨v0, hv0⟩ : ∃ v, wvs[0]? = some v := ⟨_, List.getElem?_eq_getElem (by omega)⟩
  obtain ⟨j0, hj0⟩ : ∃ j, (blk pp n)[0]? = some j := ⟨_, List.getElem?_eq_getElem (by omega)⟩
  have ht0 := hRW.thing hr (fun i hi => blk_mem hn hi) hv0 hj0
  show wpAny _ (ktrTop _ _ _ _ (Scope.mk _ _ _ _ _) _ _ _ _ _) (execs (_ :: _ :: []) (envX _ (Scope.mk _ _ _ _ _) _ _ _ _)) _ _ _
  k_steps
  · refine Hold.out ?_
    refine' told_neg (i := i) (nn := (blk pp n).length) ?kB1 ?kX1 ?kT1 ?kXB1 ?kTB1 ?kh1 ?kd1 ?ku1 ?kF1 ?kN1 hi hW hri ?kl1 (fun _ => ⟨_, _, rfl⟩) (fun h => absurd h (by omega)) ?_
    case kB1 => assumption
    case kX1 => assumption
    case kT1 => assumption
    case kXB1 => assumption
    case kTB1 => assumption
    case kh1 => exact hck
    case kd1 => ((try dsimp only); omega)
    case ku1 => ((try dsimp only); omega)
    case kF1 => with_reducible assumption
    case kN1 => with_reducible assumption
    case kl1 => omega
    intro t1 h1 tk1 F1 N1
    k_steps
    refine Hold.out ?_
    refine' told_neg (i := i) (nn := (blk pp n).length) ?kB2 ?kX2 ?kT2 ?kXB2 ?kTB2 ?kh2 ?kd2 ?ku2 ?kF2 ?kN2 hi hB hrb ?kl2 (fun _ => ⟨_, _, rfl⟩) (fun h => absurd h (by omega)) ?_
    case kB2 => assumption
    case kX2 => assumption
    case kT2 => assumption
    case kXB2 => assumption
    case kTB2 => assumption
    case kh2 => exact hck
    case kd2 => ((try dsimp only); omega)
    case ku2 => ((try dsimp only); omega)
    case kF2 => with_reducible assumption
    case kN2 => with_reducible assumption
    case kl2 => omega
    intro t2 h2 tk2 F2 N2
    clear N1 F1
    k_steps
    (with_reducible rename News _ _ _ _ => N3)
    exact hret _ _ _ _ _ _ _ (fun q hq => .tail _ hq) (.head _) (by assumption) N3
  · refine Hold.out ?_
    k_here
    refine item_listL (x := v0) (News.isList (by with_reducible assumption) hW) (by decide) (by decide) hv0 ?_
    k_steps
    refine Hold.out ?_
    refine' told_neg (i := i) (nn := (blk pp n).length) ?kB3 ?kX3 ?kT3 ?kXB3 ?kTB3 ?kh3 ?kd3 ?ku3 ?kF3 ?kN3 hi hW hri ?kl3 (fun h => absurd h (by omega)) (fun _ => ⟨_, ht0⟩) ?_
    case kB3 => assumption
    case kX3 => assumption
    case kT3 => assumption
    case kXB3 => assumption
    case kTB3 => assumption
    case kh3 => exact hck
    case kd3 => ((try dsimp only); omega)
    case ku3 => ((try dsimp only); omega)
    case kF3 => with_reducible assumption
    case kN3 => with_reducible assumption
    case kl3 => omega
    intro t3 h3 tk3 F3 N3
    k_steps
    refine Hold.out ?_
    refine' told_neg (i := i) (nn := (blk pp n).length) ?kB4 ?kX4 ?kT4 ?kXB4 ?kTB4 ?kh4 ?kd4 ?ku4 ?kF4 ?kN4 hi hB hrb ?kl4 (fun h => absurd h (by omega)) (fun _ => ⟨2, .inr ⟨_, _, rfl, rfl, rfl⟩⟩) ?_
    case kB4 => assumption
    case kX4 => assumption
    case kT4 => assumption
    case kXB4 => assumption
    case kTB4 => assumption
    case kh4 => exact hck
    case kd4 => ((try dsimp only); omega)
    case ku4 => ((try dsimp only); omega)
    case kF4 => with_reducible assumption
    case kN4 => with_reducible assumption
    case kl4 => omega
    intro t4 h4 tk4 F4 N4
    clear N3 F3
    k_steps
    (with_reducible rename News _ _ _ _ => N5)
    exact hret _ _ _ _ _ _ _ (fun q hq => .tail _ hq) (.head _) (by assumption) N5
end
end
section
theorem lines_L1X_0 : True := by
  walk_at "base"
  trivial
theorem lines_L1X_1 : True := by
  k_with "subscriptTail Name Constant ref int" => ((k_here; refine item_tupleT (News.isTup (by assumption) (by k_mem)) (by decide) (by decide) (by rfl) (by rfl) ?_))
  k_with "subscriptTail Name Constant ref int" => ((k_here; (with_reducible rename StrsAre _ _ => hSA); refine item_strsA (News.isList (by assumption) (by k_mem)) hSA (by decide) (by first | omega | (simp only [List.length_map]; omega)) (by decide) ?_; intro t'))
  k_with "call type:ValueError" => ((refine call_ValueError_made ?_; intro _ _ _))
  k_with "exec While Compare Name cons nil" => (refine Hold.mk ?_)
  k_with "exec While Compare" => (refine Hold.mk ?_)
  k_with "exec While Compare cons nil" => (refine Hold.mk ?_)
  k_with "exec While" => (refine Hold.mk ?_)
  k_with "binaryOp FloorDiv int int" => ((k_here; (with_reducible refine floordiv_pos ?kb1 ?kb2 ?_); (case kb1 => decide); (case kb2 => decide +kernel)))
  k_with "WhlIf" => ((refine whlIf_dec ?_ ?_ <;> intro _))
  k_with "subscriptTail Name Name ref int" => ((k_here; first
    | ((with_reducible rename StrsAre _ _ => hSA); refine item_strsA (News.isList (by assumption) (by k_mem)) hSA (by omega) (by omega) (by omega) ?_; intro t')
    | ((with_reducible rename IntsAre _ _ => hSA); refine item_intsA (News.isList (by assumption) (by k_mem)) hSA (by omega) (by omega) (by omega) ?_; intro t')))
  k_with "call builtin:len" => ((k_here; (with_reducible show wpAny _ _ (call (Value.builtin "len") [Value.ref _]) _ _ _); first
    | ((with_reducible rename StrsAre _ _ => hSA); refine len_strsA (News.isList (by assumption) (by k_mem)) hSA (by omega) ?_)
    | ((with_reducible rename IntsAre _ _ => hSA); refine len_intsA (News.isList (by assumption) (by k_mem)) hSA (by omega) ?_)))
  trivial
theorem lines_L1X_2 : True := by
  k_with "compareOp NotEq ref ref" => ((refine Hold.mk ?_))
  trivial
section
variable {prog : Program} {w : World} {A : Around} {E : Value → Shared → Prop} {s : Shared}
theorem ne_strs_I {x y : Addr} {vs ws : List Value} {xs : List PStr} {Q : Value → Shared → Prop} (hx : s.heap.IsList x vs.toArray) (hy : s.heap.IsList y ws.toArray) (h1 : StrsAre vs xs) (h2 : StrsAre ws xs) (hu : A.units + 64 < cLine) (h : Q (.bool false) s) :
    wpAny (model prog w) A (compareOp .NotEq (.ref x) (.ref y)) Q E s := by
  refine PySem.SeqAt.RcNeAt.lists (e := fun _ => true) hx hy (by simp; rw [h1.len_eq, h2.len_eq]) (by omega) (fun j j1 j2 => ?_) prog w E Q (by rw [all_true]; exact h)
  simpa using eqAt_strs h1 h2 j (by simpa using j1) (by simpa using j2)
end
section
variable {w : World} {p : Program} {loose : List PStr} {mean : ExcName → Option Value} {mg mb : PStr → Option Value}
    {dp un : Nat} {gd : Option (List Code)} {a : Addr} {ccd : Value} {c1 c2 c3 c4 c5 c6 c7 c8 : Addr} {A₀ : Around} {base h₀ : Heap} {L : Addr}
    {s : Shared} {news : Ldg}
    (B : Below A₀ base [] h₀) (X : (KK.heap_1 w.params).In h₀) (T : Top p loose mean mg mb h₀) (XB : (KK.heap_1 w.params).In base) (TB : Top p loose mean mg mb base)
include B X T XB TB
theorem t1_w2 {W Bd T1 Kp Kw Kb : Addr} {wvs bvs : List Value} {we be e2 e3 : Nat} {o1 : Obj} {ys : List PStr} {zs : List Int} {t1 t2 : Tok} {jk : PStr → Option Value} {Q : Flow → Shared → Prop} {E : Value → Shared → Prop}
   (hd5 : dp + 200 < recursionLimit) (hu5 : un + 2000 < cLine)
   (F : Fr h₀ L s.heap (fun y => if y = Str.ofString "told" then some (.ref T1) else if y = Str.ofString "kept" then some (.ref Kp) else if y = Str.ofString "bare" then some (.ref Bd) else jk y))
   (N : News h₀ L s.heap news) (hc1 : (c1, o1) ∈ news) (ho1 : o1.data = .cell (some (.ref W)))
   (hW : (W, lstOf wvs we) ∈ news) (hB : (Bd, lstOf bvs be) ∈ news) (hT : (T1, lstOf [.str negT t1, .str negT t2] 0) ∈ news) (hK : (Kp, lstOf [.ref Kw, .ref Kb] 0) ∈ news) (hKw : (Kw, lstOf wvs e2) ∈ news) (hKb : (Kb, lstOf bvs e3) ∈ news) (hSW : StrsAre wvs ys) (hSB : IntsAre bvs zs)
   (hret : ∀ (h' : Heap) (tk : Nat) (nw : Ldg), (∀ q ∈ news, q ∈ nw) → 
      Fr h₀ L h' (fun y => if y = Str.ofString "told" then some (.ref T1) else if y = Str.ofString "kept" then some (.ref Kp) else if y = Str.ofString "bare" then some (.ref Bd) else jk y) →
      News h₀ L h' nw → Q .next { s with heap := h', toks := tk }) :
   wpAny (model PySem.Challenge.rw_pm0034_01.row.prog w) (ktrTop dp un gd (Str.ofString "law") lawScope1 L a ccd (cells8 c1 c2 c3 c4 c5 c6 c7 c8) []) (execs ((forD1.drop 2).take 1) (envX (Str.ofString "law") lawScope1 L a ccd (cells8 c1 c2 c3 c4 c5 c6 c7 c8))) Q E s := by
  walk_at "M fill"
  show wpAny _ (ktrTop _ _ _ _ (Scope.mk _ _ _ _ _) _ _ _ _ _) (execs (_ :: []) (envX _ (Scope.mk _ _ _ _ _) _ _ _ _)) _ _ _
  k_steps
  refine Hold.out ?_
  (with_reducible rename News _ _ _ ((_, _) :: news) => N3)
  refine ne_strs_I (xs := [negT, negT]) (News.isList N3 (.tail _ hT)) (by assumption) (.cons _ _ (.cons _ _ .nil)) (StrsAre.ofCarried (by assumption)) ?hu ?_
  case hu => ((try dsimp only); omega)
  k_steps
  refine Hold.out ?_
  (with_reducible rename News _ _ _ _ => N4)
  refine ne_two_same N4 (.head _) (.tail _ (.tail _ hK)) (.tail _ (.tail _ hW)) (.tail _ (.tail _ hB)) (.tail _ (.tail _ hKw)) (.tail _ (.tail _ hKb)) rfl rfl (fun A' => eqAt_strs hSW hSW) (fun A' => eqAt_ints hSB hSB) ?hu2 ?_
  case hu2 => ((try dsimp only); omega)
  k_steps
  exact hret _ _ _ (fun q hq => .tail _ (.tail _ hq)) (by assumption) N4
end
end
section
theorem lines_C1B_0 : True := by
  walk_at "base"
  k_with "M map2" => (first
    | (refine SameOut.both (b := fun _ => none) ?_ ?_ <;> (repeat (refine SameOut.upd ?_ (by with_unfolding_all rfl))) <;> exact SameOut.lookup rfl)
    | (refine' SameOut.both (b := ?kb) ?k1 ?k2; (case k1 => ((repeat (refine SameOut.upd ?_ (by with_unfolding_all rfl))); exact SameOut.refl)); (case k2 => ((repeat (refine SameOut.upd ?_ (by with_unfolding_all rfl))); exact SameOut.refl)))
    | (refine' SameOut.both (b := ?kb) ?k1 ?k2; (case k2 => ((repeat (refine SameOut.upd ?_ (by with_unfolding_all rfl))); exact SameOut.refl)); (case k1 => ((repeat (refine SameOut.skip ?_)); (repeat (refine SameOut.upd ?_ (by with_unfolding_all rfl))); exact SameOut.refl)))
    | (intro y hy; (repeat (refine (if_neg (ne_of_out hy (by with_unfolding_all rfl))).trans ?_)); (refine Eq.symm ?_); (repeat (refine (if_neg (ne_of_out hy (by with_unfolding_all rfl))).trans ?_)); first | rfl | exact lookup_out rfl hy | exact (lookup_out rfl hy).symm | exact (lookup_out rfl hy).trans (lookup_out rfl hy).symm))
  k_with "M enter" => ((
    refine wpAny_call ?_
    k_dflt (refine' code_def ?k1 ?k2 ?k3 ?k4 ?k5 ?kA ?kF ?kK ?k6 ?k7 ?k8 ?k9 ?kB ?_ ?c2 ?c3 ?c4 ?c5; (case kA => exact rfl); (case kF => exact rfl); (case kK => assumption); (case k1 => k_asm); (case k2 => k_asm); (case k3 => k_asm); (case k4 => k_asm); (case k5 => k_asm); (case k6 => k_is); (case k7 => k_is); (case k8 => ((try dsimp only); omega)); (case k9 => first | exact BindsTo.of_eq rfl | (refine' kp_binds ?kx ?ke; (case kx => first | (refine' myIn ?kf ?ki; (case kf => with_reducible assumption); (case ki => with_reducible assumption)) | k_in); (case ke => exact fun _ => rfl)) | exact binds_K (by first | (refine' myIn ?kf ?ki; (case kf => with_reducible assumption); (case ki => with_reducible assumption)) | k_in) rfl (by k_is) rfl rfl rfl); (case c5 => decide); (case kB => exact locs rfl); (case c2 => exact rfl); (case c3 => exact rfl); (case c4 => exact rfl); k_whole; intro g' L' h' FG' F' N' B' X' T'; (have D' := kts_dict B' (by assumption) FG' rfl); (try dsimp only); (try k_lift B'); (refine let_AE (f := execs _) ?_; intro vk ak); (refine f_QE ?_; intro qk ek))))
  trivial
theorem lines_C1B_1 : True := by
  k_with "subscriptTail Name Constant ref int" => ((k_here; refine item_tupleT (News.isTup (by assumption) (by k_mem)) (by decide) (by decide) (by rfl) (by rfl) ?_))
  k_with "subscriptTail Name Constant ref int" => ((k_here; (with_reducible rename StrsAre _ _ => hSA); refine item_strsA (News.isList (by assumption) (by k_mem)) hSA (by decide) (by first | omega | (simp only [List.length_map]; omega)) (by decide) ?_; intro t'))
  k_with "call type:ValueError" => ((refine call_ValueError_made ?_; intro _ _ _))
  k_with "exec While Compare Name cons nil" => (refine Hold.mk ?_)
  k_with "exec While Compare" => (refine Hold.mk ?_)
  k_with "exec While Compare cons nil" => (refine Hold.mk ?_)
  k_with "exec While" => (refine Hold.mk ?_)
  k_with "binaryOp FloorDiv int int" => ((k_here; (with_reducible refine floordiv_pos ?kb1 ?kb2 ?_); (case kb1 => decide); (case kb2 => decide +kernel)))
  k_with "WhlIf" => ((refine whlIf_dec ?_ ?_ <;> intro _))
  k_with "subscriptTail Name Name ref int" => ((k_here; first
    | ((with_reducible rename StrsAre _ _ => hSA); refine item_strsA (News.isList (by assumption) (by k_mem)) hSA (by omega) (by omega) (by omega) ?_; intro t')
    | ((with_reducible rename IntsAre _ _ => hSA); refine item_intsA (News.isList (by assumption) (by k_mem)) hSA (by omega) (by omega) (by omega) ?_; intro t')))
  k_with "call builtin:len" => ((k_here; (with_reducible show wpAny _ _ (call (Value.builtin "len") [Value.ref _]) _ _ _); first
    | ((with_reducible rename StrsAre _ _ => hSA); refine len_strsA (News.isList (by assumption) (by k_mem)) hSA (by omega) ?_)
    | ((with_reducible rename IntsAre _ _ => hSA); refine len_intsA (News.isList (by assumption) (by k_mem)) hSA (by omega) ?_)))
  k_with "call ref" => (((with_reducible show wpAny _ _ (call (Value.ref 108) _) _ _ _); refine' port_spec ?kB ?kX ?kT ?kXB ?kTB ?kD ?kh ?kd ?ku ?kF ?kN ?k6 ?kv ?_ ?_; (case kB => assumption); (case kX => assumption); (case kT => assumption); (case kXB => assumption); (case kTB => assumption); (case kD => assumption); (case kh => rfl); (case kd => ((try dsimp only); omega)); (case ku => ((try dsimp only); omega)); (case kF => with_reducible assumption); (case kN => with_reducible assumption); (case k6 => first | exact getD_640 (by assumption) _ | assumption); (case kv => first | assumption | (have q := bis_nv (by assumption) (by assumption) (by assumption); exact q) | (have q := bis_nv ((by assumption : 0 ≤ _ → ∀ msg, _ ≠ _) (by omega)) (by assumption) (by assumption); exact q))))
  trivial
section
variable {w : World} {p : Program} {loose : List PStr} {mean : ExcName → Option Value} {mg mb : PStr → Option Value}
    {dp un : Nat} {gd : Option (List Code)} {cn : PStr} {cs : Scope} {a : Addr} {ccd : Value} {cl : List (PStr × Addr)} {outer : List Env} {A₀ : Around} {base h₀ : Heap} {L : Addr} {m : PStr → Option Value}
    {s : Shared} {Q E : Value → Shared → Prop} {news : Ldg}
    (B : Below A₀ base outer h₀) (X : (KK.heap_1 w.params).In h₀) (T : Top p loose mean mg mb h₀) (XB : (KK.heap_1 w.params).In base) (TB : Top p loose mean mg mb base) (D : KtsDicts (outer.filterMap (·.frame)) h₀) (hck : cs.kind = .function)
include B X T XB TB D hck
theorem bisR_two {ra : Addr} {vs : List Value} {k : Nat → KRes} {nn ep : Nat} {x : Int} {kv hv : Value} {tx tl : Tok} (hd5 : dp + 20 < recursionLimit) (hu5 : un + 100 < cLine) (F : Fr h₀ L s.heap m) (N : News h₀ L s.heap news)
   (hra : (ra, lstOf vs ep) ∈ news) (hrow : RowIs 108 kv vs k nn) (hl : nn ≤ 1000) (hkv : kv = .none) (hv0 : ∀ msg, bis true k x (nn - 0) 0 nn ≠ .error (.value, msg))
   (hret : ∀ n t h' tk, bis true k x (nn - 0) 0 nn = .ok n → Fr h₀ L h' m → News h₀ L h' news → Q (.int n t) { s with heap := h', toks := tk })
   (hexc : ∀ ek r t1 g₂ e t h' tk, bis true k x (nn - 0) 0 nn = .error (ek, r) → Fr h₀ L g₂ m → RaisedS base g₂ (envX cn cs L a ccd cl :: outer) e (clsOf ek) t [.str r t1] news h' → RaisedK base (envX cn cs L a ccd cl :: outer) e (clsOf ek) t [.str r t1] news h' → g₂.UpToSlots h' → E (.ref e) { s with heap := h', toks := tk }) :
   wpAny (model PySem.Challenge.rw_pm0034_01.row.prog w) (ktrTop dp un gd cn cs L a ccd cl outer) (call (.ref 32) [.ref ra, .int x tx] []) Q E s := by
  walk_at "M fill"
  subst hkv
  have hz : bisZ true k x 0 nn = bis true k x (nn - 0) 0 nn := bisZ_nat (lo := 0)
  walk_at "M enter"
  refine' bisR_body (hi := nn) ?kB ?kX ?kT ?kXB ?kTB ?kD ?kd ?ku (fr_map [Str.ofString "lo", Str.ofString "hi", Str.ofString "mid", Str.ofString "a", Str.ofString "x", Str.ofString "key"] ?kF_13 ?m1_13 ?m2_13) ?kN_13 hra hrow hl (.inl ⟨rfl, rfl⟩) (fun _ msg e => hv0 msg (hz.symm.trans e)) ?hE ?ret_13 ?neg ?exc
  case kB => assumption
  case kX => assumption
  case kT => assumption
  case kXB => assumption
  case kTB => assumption
  case kD => assumption
  case kd => ((try dsimp only); omega)
  case ku => ((try dsimp only); omega)
  case kF_13 => with_reducible assumption
  case m1_13 => walk_at "M map1"
  case m2_13 => walk_at "M map2"
  case kN_13 => with_reducible assumption
  case hE => with_unfolding_all passes_own
  case' ret_13 =>
    intro n t h1 tk m1 hb F1 N1
    k_steps
    (show Q _ _)
    exact hret _ _ _ _ (hz.symm.trans hb) (by assumption) (by assumption)
  case' neg =>
    intro hl0 h1 e t tk hM
    exact absurd hl0 (by decide)
  case' exc =>
    intro ek r t1 g₂ e t h1 tk m1 hb F1 R1 R2 U1
    k_steps
    (show E _ _)
    exact hexc _ _ _ _ _ _ _ _ (hz.symm.trans hb) (by assumption) (by assumption) (by assumption) (by assumption)
end
section
variable {w : World} {p : Program} {loose : List PStr} {mean : ExcName → Option Value} {mg mb : PStr → Option Value}
    {dp un : Nat} {gd : Option (List Code)} {cn : PStr} {cs : Scope} {a : Addr} {ccd : Value} {cl : List (PStr × Addr)} {outer : List Env} {A₀ : Around} {base h₀ : Heap} {L : Addr} {m : PStr → Option Value}
    {s : Shared} {Q E : Value → Shared → Prop} {news : Ldg}
    (B : Below A₀ base outer h₀) (X : (KK.heap_1 w.params).In h₀) (T : Top p loose mean mg mb h₀) (XB : (KK.heap_1 w.params).In base) (TB : Top p loose mean mg mb base) (D : KtsDicts (outer.filterMap (·.frame)) h₀) (hck : cs.kind = .function)
include B X T XB TB D hck
theorem bisL_two {ra : Addr} {vs : List Value} {k : Nat → KRes} {nn ep : Nat} {x : Int} {kv hv : Value} {tx tl : Tok} (hd5 : dp + 20 < recursionLimit) (hu5 : un + 100 < cLine) (F : Fr h₀ L s.heap m) (N : News h₀ L s.heap news)
   (hra : (ra, lstOf vs ep) ∈ news) (hrow : RowIs 108 kv vs k nn) (hl : nn ≤ 1000) (hkv : kv = .none) (hv0 : ∀ msg, bis false k x (nn - 0) 0 nn ≠ .error (.value, msg))
   (hret : ∀ n t h' tk, bis false k x (nn - 0) 0 nn = .ok n → Fr h₀ L h' m → News h₀ L h' news → Q (.int n t) { s with heap := h', toks := tk })
   (hexc : ∀ ek r t1 g₂ e t h' tk, bis false k x (nn - 0) 0 nn = .error (ek, r) → Fr h₀ L g₂ m → RaisedS base g₂ (envX cn cs L a ccd cl :: outer) e (clsOf ek) t [.str r t1] news h' → RaisedK base (envX cn cs L a ccd cl :: outer) e (clsOf ek) t [.str r t1] news h' → g₂.UpToSlots h' → E (.ref e) { s with heap := h', toks := tk }) :
   wpAny (model PySem.Challenge.rw_pm0034_01.row.prog w) (ktrTop dp un gd cn cs L a ccd cl outer) (call (.ref 50) [.ref ra, .int x tx] []) Q E s := by
  walk_at "M fill"
  subst hkv
  have hz : bisZ false k x 0 nn = bis false k x (nn - 0) 0 nn := bisZ_nat (lo := 0)
  walk_at "M enter"
  refine' bisL_body (hi := nn) ?kB ?kX ?kT ?kXB ?kTB ?kD ?kd ?ku (fr_map [Str.ofString "lo", Str.ofString "hi", Str.ofString "mid", Str.ofString "a", Str.ofString "x", Str.ofString "key"] ?kF_14 ?m1_14 ?m2_14) ?kN_14 hra hrow hl (.inl ⟨rfl, rfl⟩) (fun _ msg e => hv0 msg (hz.symm.trans e)) ?hE ?ret_14 ?neg ?exc
  case kB => assumption
  case kX => assumption
  case kT => assumption
  case kXB => assumption
  case kTB => assumption
  case kD => assumption
  case kd => ((try dsimp only); omega)
  case ku => ((try dsimp only); omega)
  case kF_14 => with_reducible assumption
  case m1_14 => walk_at "M map1"
  case m2_14 => walk_at "M map2"
  case kN_14 => with_reducible assumption
  case hE => with_unfolding_all passes_own
  case' ret_14 =>
    intro n t h1 tk m1 hb F1 N1
    k_steps
    (show Q _ _)
    exact hret _ _ _ _ (hz.symm.trans hb) (by assumption) (by assumption)
  case' neg =>
    intro hl0 h1 e t tk hM
    exact absurd hl0 (by decide)
  case' exc =>
    intro ek r t1 g₂ e t h1 tk m1 hb F1 R1 R2 U1
    k_steps
    (show E _ _)
    exact hexc _ _ _ _ _ _ _ _ (hz.symm.trans hb) (by assumption) (by assumption) (by assumption) (by assumption)
end
end
section
theorem lines_L1T_0 : True := by
  walk_at "base"
  trivial
theorem lines_L1T_1 : True := by
  k_with "subscriptTail Name Constant ref int" => ((k_here; refine item_tupleT (News.isTup (by assumption) (by k_mem)) (by decide) (by decide) (by rfl) (by rfl) ?_))
  k_with "subscriptTail Name Constant ref int" => ((k_here; (with_reducible rename StrsAre _ _ => hSA); refine item_strsA (News.isList (by assumption) (by k_mem)) hSA (by decide) (by first | omega | (simp only [List.length_map]; omega)) (by decide) ?_; intro t'))
  k_with "call type:ValueError" => ((refine call_ValueError_made ?_; intro _ _ _))
  k_with "exec While Compare Name cons nil" => (refine Hold.mk ?_)
  k_with "exec While Compare" => (refine Hold.mk ?_)
  k_with "exec While Compare cons nil" => (refine Hold.mk ?_)
  k_with "exec While" => (refine Hold.mk ?_)
  k_with "binaryOp FloorDiv int int" => ((k_here; (with_reducible refine floordiv_pos ?kb1 ?kb2 ?_); (case kb1 => decide); (case kb2 => decide +kernel)))
  k_with "WhlIf" => ((refine whlIf_dec ?_ ?_ <;> intro _))
  k_with "subscriptTail Name Name ref int" => ((k_here; first
    | ((with_reducible rename StrsAre _ _ => hSA); refine item_strsA (News.isList (by assumption) (by k_mem)) hSA (by omega) (by omega) (by omega) ?_; intro t')
    | ((with_reducible rename IntsAre _ _ => hSA); refine item_intsA (News.isList (by assumption) (by k_mem)) hSA (by omega) (by omega) (by omega) ?_; intro t')))
  k_with "call builtin:len" => ((k_here; (with_reducible show wpAny _ _ (call (Value.builtin "len") [Value.ref _]) _ _ _); first
    | ((with_reducible rename StrsAre _ _ => hSA); refine len_strsA (News.isList (by assumption) (by k_mem)) hSA (by omega) ?_)
    | ((with_reducible rename IntsAre _ _ => hSA); refine len_intsA (News.isList (by assumption) (by k_mem)) hSA (by omega) ?_)))
  k_with "subscriptTail" => (((with_reducible show wpAny _ _ (subscriptTail _ (Expr.Slice _ _ _ _) _ _) _ _ _); refine Hold.mk ?_))
  k_with "subscriptTail Name Slice ref ref" => ((refine Hold.mk ?_))
  k_with "subscriptTail Name Slice" => ((refine Hold.mk ?_))
  trivial
theorem lines_L1T_2 : True := by
  k_with "call builtin:len" => ((k_here; (with_reducible show wpAny _ _ (call (Value.builtin "len") [Value.ref _]) _ _ _); k_dflt (refine' len_L ?kN ?kM ?kz ?_; (case kN => with_reducible assumption); (case kM => k_mem); (case kz => omega))))
  k_with "CompSrcT" => ((refine Hold.mk ?_))
  k_with "CompSrc" => ((refine Hold.mk ?_))
  k_with "compareOp In str ref" => ((refine Hold.mk ?_))
  k_with "subscriptTail Name Name ref int" => ((refine Hold.mk ?_))
  k_with "subscriptTail Subscript Constant ref int" => ((refine Hold.mk ?_))
  trivial
theorem any_span {pp : Nat → Int} {rep : Nat → PStr} {n j pl : Nat} (hn : n < 16) (hj : j < (bgT n 4).length) (inj : ∀ i j, i < n → j < n → rep i = rep j → i = j) (hp : pl < n) :
    ∃ lo sz : Nat, (bgT n 4).getD j 0 = (lo : Int) ∧ (enT n 4).getD j 0 = ((lo + sz : Nat) : Int) ∧ lo + sz ≤ n ∧ ((((blk pp n).map rep).drop lo).take sz).any (· == rep pl) = (decide ((bgT n 4).getD j 0 ≤ (pl : Int)) && decide ((pl : Int) < (enT n 4).getD j 0)) := by
  obtain ⟨k, hk, hb, eb, ee⟩ := span_at hn hj
  obtain ⟨_, _, _, _, hle⟩ := blk_cut (p := pp) hn hk hb
  refine ⟨_, _, eb, ee, hle, ?_⟩
  have key := in_span (p := pp) hn hk hb inj hp
  rw [eb, ee, Bool.eq_iff_iff, List.any_eq_true, Bool.and_eq_true, decide_eq_true_eq, decide_eq_true_eq]
  constructor
  · rintro ⟨y, hy, e⟩
    have := key.mp (by rw [← eq_of_beq e]; exact hy)
    omega
  · intro h
    exact ⟨rep pl, key.mpr (by omega), by simp⟩
theorem filter_succ {q : Nat → Bool} {j : Nat} : (List.range (j + 1)).filter q = (List.range j).filter q ++ (if q j = true then [j] else []) := by
  rw [List.range_succ, List.filter_append]
  by_cases h : q j = true
  · rw [if_pos h, List.filter_cons_of_pos h]; rfl
  · rw [if_neg h, List.filter_cons_of_neg h]; rfl
def forT1 : List Stmt := forBody (lawStmts1.drop 9)
section
variable {w : World} {p : Program} {loose : List PStr} {mean : ExcName → Option Value} {mg mb : PStr → Option Value}
    {dp un : Nat} {gd : Option (List Code)} {a : Addr} {ccd : Value} {c1 c2 c3 c4 c5 c6 c7 c8 : Addr} {A₀ : Around} {base h₀ : Heap} {L : Addr}
    {s : Shared} {news : Ldg}
    (B : Below A₀ base [] h₀) (X : (KK.heap_1 w.params).In h₀) (T : Top p loose mean mg mb h₀) (XB : (KK.heap_1 w.params).In base) (TB : Top p loose mean mg mb base)
include B X T XB TB
theorem t1_t1 {n pl : Nat} {W C Bg En : Addr} {wvs cvs gvs evs : List Value} {we ce ge ee : Nat} {o1 o2 o3 o4 o8 : Obj} {pp : Nat → Int} {rep : Nat → PStr} {tp : Tok} {jk : PStr → Option Value} {Q : Flow → Shared → Prop} {E : Value → Shared → Prop}
   (hd5 : dp + 200 < recursionLimit) (hu5 : un + 2000 < cLine) (hn : n < 16) (hp : pl < n) (inj : ∀ i j, i < n → j < n → rep i = rep j → i = j)
   (F : Fr h₀ L s.heap jk)
   (N : News h₀ L s.heap news) (hc1 : (c1, o1) ∈ news) (ho1 : o1.data = .cell (some (.ref W))) (hc2 : (c2, o2) ∈ news) (ho2 : o2.data = .cell (some (.ref C))) (hc3 : (c3, o3) ∈ news) (ho3 : o3.data = .cell (some (.ref Bg))) (hc4 : (c4, o4) ∈ news) (ho4 : o4.data = .cell (some (.ref En))) (hc8 : (c8, o8) ∈ news) (ho8 : o8.data = .cell (some (.int (pl : Int) tp)))
   (hW : (W, lstOf wvs we) ∈ news) (hC : (C, lstOf cvs ce) ∈ news) (hCw : CameW pp rep n cvs news) (hG : (Bg, lstOf gvs ge) ∈ news) (hEn : (En, lstOf evs ee) ∈ news) (hRW : StrsAre wvs ((blk pp n).map rep)) (hgi : IntsAre gvs (bgT n 4)) (hei : IntsAre evs (enT n 4))
   (hret : ∀ (h' : Heap) (tk : Nat) (D1 : Addr) (ls1 : List Value), IntsAre ls1 ((lieT n pl).map fun k : Nat => (k : Int)) →
      Fr h₀ L h' (fun y => if y = Str.ofString "lies" then some (.ref D1) else jk y) →
      News h₀ L h' ((D1, lstOf ls1 ls1.length) :: news) → Q .next { s with heap := h', toks := tk }) :
   wpAny (model PySem.Challenge.rw_pm0034_01.row.prog w) (ktrTop dp un gd (Str.ofString "law") lawScope1 L a ccd (cells8 c1 c2 c3 c4 c5 c6 c7 c8) []) (execs (forT1.take 1) (envX (Str.ofString "law") lawScope1 L a ccd (cells8 c1 c2 c3 c4 c5 c6 c7 c8))) Q E s := by
  walk_at "M fill"
  obtain ⟨q1, q2, q3, q4⟩ := sum_at hn
  have hgl := ints_length hgi
  have hel := ints_length hei
  have hcl := hCw.len
  have hwl : wvs.length = n := by rw [hRW.len_eq, List.length_map, blk_len n hn]
  show wpAny _ (ktrTop _ _ _ _ (Scope.mk _ _ _ _ _) _ _ _ _ _) (execs (_ :: []) (envX _ (Scope.mk _ _ _ _ _) _ _ _ _)) _ _ _
  k_steps
  refine Hold.out ?_
  refine LCt.CompSrcT.range (n := gvs.length) rfl (by assumption) (by assumption) (by assumption) (small_one (by omega) (by omega) (by omega) (by omega)) (rangeSize_one _) (Nat.le_trans (m := 1000) (by omega) (by decide)) ?_
  intro g
  refine compT_ind (fun j ys nw => nw = news ∧ IntsAre ys (((List.range j).filter fun k => decide ((bgT n 4).getD k 0 ≤ (pl : Int)) && decide ((pl : Int) < (enT n 4).getD k 0)).map fun k : Nat => (k : Int))) ⟨rfl, .nil⟩ ?turn ?fin
  case turn =>
    rintro j v I oI C0 oC D' m₂ ys nw h tk E' hi ⟨t, ev⟩ ⟨enw, hI⟩ hCn hx kF kN off ne
    rw [Int.zero_add] at ev
    subst ev enw
    have hj : j < (bgT n 4).length := by omega
    obtain ⟨lo, sz, eb, ee, hle, hany⟩ := any_span (pp := pp) (rep := rep) hn hj inj hp
    have hsn := filter_succ (q := fun k => decide ((bgT n 4).getD k 0 ≤ (pl : Int)) && decide ((pl : Int) < (enT n 4).getD k 0)) (j := j)
    rw [← hany] at hsn
    obtain ⟨a3, t3, t4, e3, hv4, hm3⟩ := hCw.at' pl hp
    have hr3 := memOf kN (.tail _ (.tail _ (.tail _ hm3)))
    (with_reducible show wpAny _ _ _ _ _ _)
    k_fold
    k_steps
    refine Hold.out ?_
    k_here
    refine item_listL (x := .ref a3) (News.isList kN (.tail _ (.tail _ (.tail _ hC)))) (by omega) (by omega) hv4 ?_
    k_steps
    refine Hold.out ?_
    k_here
    refine item_listL (x := .str (rep pl) t4) (News.isList kN hr3) (by decide) (by decide) rfl ?_
    k_steps
    refine Hold.out ?_
    k_here
    refine item_intsA (News.isList kN (.tail _ (.tail _ (.tail _ hG)))) hgi (by omega) (by omega) (by omega) ?_
    intro tg
    k_steps
    refine Hold.out ?_
    k_here
    refine item_intsA (News.isList kN (.tail _ (.tail _ (.tail _ hEn)))) hei (by omega) (by omega) (by omega) ?_
    intro te
    k_steps
    refine Hold.out ?_
    k_here
    refine' slice_LA (zs := (wvs.drop lo).take sz) ?zF ?zN ?zl ?zp ?zq ?zz ?ze ?_
    case zF => k_asm
    case zN => k_asm
    case zl => exact .tail _ (.tail _ (.tail _ hW))
    case zp => kmk_part
    case zq => kmk_part
    case zz => omega
    case ze =>
      have eb9 : (bgT n 4).getD ((j : Int)).toNat 0 = (lo : Int) := eb
      have ee9 : (enT n 4).getD ((j : Int)).toNat 0 = ((lo + sz : Nat) : Int) := ee
      rw [eb9, ee9, pick_mid (by omega) (by omega), Nat.add_sub_cancel_left]
    intro D1 hD1 FD1 ND1 lD1
    k_steps
    refine Hold.out ?_
    refine in_list_strs (ys := (((blk pp n).map rep).drop lo).take sz) (News.isList ND1 (.head _)) ((hRW.drop' lo).take' sz) ?_
    generalize (((((blk pp n).map rep).drop lo).take sz).any fun x => x == rep pl) = bb at hsn ⊢
    cases bb
    · k_steps
      refine LCg.CompEnd.intro FD1 ND1 nw (fun p hp => .tail _ hp) off trivial ⟨rfl, ?_⟩
      rw [hsn, if_neg Bool.false_ne_true, List.append_nil]
      exact hI
    · k_steps
      refine LCg.CompEnd.intro FD1 ND1 nw (fun p hp => .tail _ hp) off trivial ⟨rfl, ?_⟩
      rw [hsn, if_pos rfl, List.map_append]
      exact intsAre_append hI (.cons _ _ .nil)
  case fin =>
    rintro ys nw ⟨enw, hI⟩
    subst enw
    intro D1 h tk kF kN off
    rw [hgl] at hI
    k_steps
    exact hret _ _ D1 ys hI (by assumption) (by assumption)
end
end
section
theorem lines_L1U_0 : True := by
  walk_at "base"
  trivial
theorem lines_L1U_1 : True := by
  k_with "subscriptTail Name Constant ref int" => ((k_here; refine item_tupleT (News.isTup (by assumption) (by k_mem)) (by decide) (by decide) (by rfl) (by rfl) ?_))
  k_with "subscriptTail Name Constant ref int" => ((k_here; (with_reducible rename StrsAre _ _ => hSA); refine item_strsA (News.isList (by assumption) (by k_mem)) hSA (by decide) (by first | omega | (simp only [List.length_map]; omega)) (by decide) ?_; intro t'))
  k_with "call type:ValueError" => ((refine call_ValueError_made ?_; intro _ _ _))
  k_with "exec While Compare Name cons nil" => (refine Hold.mk ?_)
  k_with "exec While Compare" => (refine Hold.mk ?_)
  k_with "exec While Compare cons nil" => (refine Hold.mk ?_)
  k_with "exec While" => (refine Hold.mk ?_)
  k_with "binaryOp FloorDiv int int" => ((k_here; (with_reducible refine floordiv_pos ?kb1 ?kb2 ?_); (case kb1 => decide); (case kb2 => decide +kernel)))
  k_with "WhlIf" => ((refine whlIf_dec ?_ ?_ <;> intro _))
  k_with "subscriptTail Name Name ref int" => ((k_here; first
    | ((with_reducible rename StrsAre _ _ => hSA); refine item_strsA (News.isList (by assumption) (by k_mem)) hSA (by omega) (by omega) (by omega) ?_; intro t')
    | ((with_reducible rename IntsAre _ _ => hSA); refine item_intsA (News.isList (by assumption) (by k_mem)) hSA (by omega) (by omega) (by omega) ?_; intro t')))
  k_with "call builtin:len" => ((k_here; (with_reducible show wpAny _ _ (call (Value.builtin "len") [Value.ref _]) _ _ _); first
    | ((with_reducible rename StrsAre _ _ => hSA); refine len_strsA (News.isList (by assumption) (by k_mem)) hSA (by omega) ?_)
    | ((with_reducible rename IntsAre _ _ => hSA); refine len_intsA (News.isList (by assumption) (by k_mem)) hSA (by omega) ?_)))
  trivial
theorem lines_L1U_2 : True := by
  k_with "compareOp NotEq ref ref" => ((refine Hold.mk ?_))
  k_with "call ref" => (((with_reducible show wpAny _ _ (call (Value.ref 50) _ _) _ _ _); refine Hold.mk ?_))
  k_with "call ref" => (((with_reducible show wpAny _ _ (call (Value.ref 32) _ _) _ _ _); refine Hold.mk ?_))
  trivial
theorem bis_of {r : Bool} {k : Nat → KRes} {x : Int} {hi n : Nat} (h : bisZ r k x 0 hi = .ok n) : bis r k x (hi - 0) 0 hi = .ok n := by
  unfold bisZ at h
  rw [if_neg (by decide)] at h
  exact h
section
variable {w : World} {p : Program} {loose : List PStr} {mean : ExcName → Option Value} {mg mb : PStr → Option Value}
    {dp un : Nat} {gd : Option (List Code)} {a : Addr} {ccd : Value} {c1 c2 c3 c4 c5 c6 c7 c8 : Addr} {A₀ : Around} {base h₀ : Heap} {L : Addr}
    {s : Shared} {news : Ldg}
    (B : Below A₀ base [] h₀) (X : (KK.heap_1 w.params).In h₀) (T : Top p loose mean mg mb h₀) (XB : (KK.heap_1 w.params).In base) (TB : Top p loose mean mg mb base)
include B X T XB TB
theorem t1_t2 {n pl : Nat} {Bg En D1 : Addr} {gvs evs ls : List Value} {ge ee le : Nat} {o3 o4 o8 : Obj} {tp : Tok} {jk : PStr → Option Value} {Q : Flow → Shared → Prop} {E : Value → Shared → Prop}
   (hd5 : dp + 200 < recursionLimit) (hu5 : un + 2000 < cLine) (hn : n < 16) (hp : pl < n)
   (F : Fr h₀ L s.heap (fun y => if y = Str.ofString "lies" then some (.ref D1) else jk y))
   (N : News h₀ L s.heap news) (hc3 : (c3, o3) ∈ news) (ho3 : o3.data = .cell (some (.ref Bg))) (hc4 : (c4, o4) ∈ news) (ho4 : o4.data = .cell (some (.ref En))) (hc8 : (c8, o8) ∈ news) (ho8 : o8.data = .cell (some (.int (pl : Int) tp)))
   (hG : (Bg, lstOf gvs ge) ∈ news) (hEn : (En, lstOf evs ee) ∈ news) (hgi : IntsAre gvs (bgT n 4)) (hei : IntsAre evs (enT n 4)) (hD : (D1, lstOf ls le) ∈ news) (hl : IntsAre ls ((lieT n pl).map fun k : Nat => (k : Int)))
   (hret : ∀ (h' : Heap) (tk : Nat) (nw : Ldg), (∀ q ∈ news, q ∈ nw) → Fr h₀ L h' (fun y => if y = Str.ofString "lies" then some (.ref D1) else jk y) → News h₀ L h' nw → Q .next { s with heap := h', toks := tk }) :
   wpAny (model PySem.Challenge.rw_pm0034_01.row.prog w) (ktrTop dp un gd (Str.ofString "law") lawScope1 L a ccd (cells8 c1 c2 c3 c4 c5 c6 c7 c8) []) (execs ((forT1.drop 1).take 1) (envX (Str.ofString "law") lawScope1 L a ccd (cells8 c1 c2 c3 c4 c5 c6 c7 c8))) Q E s := by
  walk_at "M fill"
  have D : KtsDicts (([] : List Env).filterMap (·.frame)) h₀ := fun b hb => nomatch hb
  have hck : lawScope1.kind = .function := by with_unfolding_all rfl
  obtain ⟨q1, q2, q3, q4⟩ := sum_at hn
  have hgl := ints_length hgi
  have hel := ints_length hei
  obtain ⟨k, ek, e1, e2⟩ := lie_at hn hp
  have b1 := bis_of e1
  have b2 := bis_of e2
  rw [ek] at hl
  show wpAny _ (ktrTop _ _ _ _ (Scope.mk _ _ _ _ _) _ _ _ _ _) (execs (_ :: []) (envX _ (Scope.mk _ _ _ _ _) _ _ _ _)) _ _ _
  k_steps
  refine Hold.out ?_
  refine' bisR_two (hv := .none) (tl := tp) (k := fun i => .ok ((bgT n 4).getD i 0)) (nn := (bgT n 4).length) (x := (pl : Int)) ?kB7 ?kX7 ?kT7 ?kXB7 ?kTB7 ?kD7 rfl ?kd7 ?ku7 ?kF7 ?kN7 ?kM7 (.inr ⟨_, hgi, rfl, rfl, rfl⟩) ?kl7 rfl ?kv7 ?_ ?ke7
  case kB7 => assumption
  case kX7 => assumption
  case kT7 => assumption
  case kXB7 => assumption
  case kTB7 => assumption
  case kD7 => assumption
  case kd7 => ((try dsimp only); omega)
  case ku7 => ((try dsimp only); omega)
  case kF7 => with_reducible assumption
  case kN7 => with_reducible assumption
  case kM7 => k_mem
  case kl7 => omega
  case kv7 => exact fun msg e => by rw [b1] at e; cases e
  case ke7 => exact fun ek r t1 g₂ e t h' tk he => by rw [b1] at he; cases he
  intro n7 t7 h7 tk7 e7 F7 N7
  rw [b1] at e7
  obtain rfl := Except.ok.inj e7
  clear F N
  k_steps
  refine Hold.out ?_
  (with_reducible rename News _ _ _ _ => N3)
  refine ke_ne_ints (ns := [(k : Int)]) (ms := [((k + 1 : Nat) : Int) - 1]) (News.isList N3 (by k_mem)) (News.isList N3 (by first | exact .head _ | k_mem)) hl (.cons _ _ .nil) ?hu ?_
  case hu => ((try dsimp only); omega)
  rw [decide_eq_true (show [(k : Int)] = [((k + 1 : Nat) : Int) - 1] by congr 1; omega)]
  k_steps
  refine Hold.out ?_
  refine' bisL_two (hv := .none) (tl := tp) (k := fun i => .ok ((enT n 4).getD i 0)) (nn := (enT n 4).length) (x := (pl : Int) + 1) ?kB8 ?kX8 ?kT8 ?kXB8 ?kTB8 ?kD8 rfl ?kd8 ?ku8 ?kF8 ?kN8 ?kM8 (.inr ⟨_, hei, rfl, rfl, rfl⟩) ?kl8 rfl ?kv8 ?_ ?ke8
  case kB8 => assumption
  case kX8 => assumption
  case kT8 => assumption
  case kXB8 => assumption
  case kTB8 => assumption
  case kD8 => assumption
  case kd8 => ((try dsimp only); omega)
  case ku8 => ((try dsimp only); omega)
  case kF8 => with_reducible assumption
  case kN8 => with_reducible assumption
  case kM8 => k_mem
  case kl8 => omega
  case kv8 => exact fun msg e => by rw [b2] at e; cases e
  case ke8 => exact fun ek r t1 g₂ e t h' tk he => by rw [b2] at he; cases he
  intro n8 t8 h8 tk8 e8 F8 N8
  rw [b2] at e8
  obtain rfl := Except.ok.inj e8
  clear N3
  k_steps
  refine Hold.out ?_
  (with_reducible rename News _ _ _ _ => N4)
  refine ke_ne_ints (ns := [(k : Int)]) (ms := [(k : Int)]) (News.isList N4 (by k_mem)) (News.isList N4 (by first | exact .head _ | k_mem)) hl (.cons _ _ .nil) ?hu2 ?_
  case hu2 => ((try dsimp only); omega)
  rw [decide_eq_true rfl]
  k_steps
  refine hret _ _ _ (fun q hq => ?_) (by assumption) (by assumption)
  first | exact hq | exact .tail _ hq | exact .tail _ (.tail _ hq)
end
end
section
theorem lines_L1V_0 : True := by
  walk_at "base"
  trivial
theorem lines_L1V_1 : True := by
  k_with "subscriptTail Name Constant ref int" => ((k_here; refine item_tupleT (News.isTup (by assumption) (by k_mem)) (by decide) (by decide) (by rfl) (by rfl) ?_))
  k_with "subscriptTail Name Constant ref int" => ((k_here; (with_reducible rename StrsAre _ _ => hSA); refine item_strsA (News.isList (by assumption) (by k_mem)) hSA (by decide) (by first | omega | (simp only [List.length_map]; omega)) (by decide) ?_; intro t'))
  k_with "call type:ValueError" => ((refine call_ValueError_made ?_; intro _ _ _))
  k_with "exec While Compare Name cons nil" => (refine Hold.mk ?_)
  k_with "exec While Compare" => (refine Hold.mk ?_)
  k_with "exec While Compare cons nil" => (refine Hold.mk ?_)
  k_with "exec While" => (refine Hold.mk ?_)
  k_with "binaryOp FloorDiv int int" => ((k_here; (with_reducible refine floordiv_pos ?kb1 ?kb2 ?_); (case kb1 => decide); (case kb2 => decide +kernel)))
  k_with "WhlIf" => ((refine whlIf_dec ?_ ?_ <;> intro _))
  k_with "subscriptTail Name Name ref int" => ((k_here; first
    | ((with_reducible rename StrsAre _ _ => hSA); refine item_strsA (News.isList (by assumption) (by k_mem)) hSA (by omega) (by omega) (by omega) ?_; intro t')
    | ((with_reducible rename IntsAre _ _ => hSA); refine item_intsA (News.isList (by assumption) (by k_mem)) hSA (by omega) (by omega) (by omega) ?_; intro t')))
  k_with "call builtin:len" => ((k_here; (with_reducible show wpAny _ _ (call (Value.builtin "len") [Value.ref _]) _ _ _); first
    | ((with_reducible rename StrsAre _ _ => hSA); refine len_strsA (News.isList (by assumption) (by k_mem)) hSA (by omega) ?_)
    | ((with_reducible rename IntsAre _ _ => hSA); refine len_intsA (News.isList (by assumption) (by k_mem)) hSA (by omega) ?_)))
  trivial
theorem lines_L1V_2 : True := by
  k_with "call builtin:len" => ((k_here; (with_reducible show wpAny _ _ (call (Value.builtin "len") [Value.ref _]) _ _ _); k_dflt (refine' len_L ?kN ?kM ?kz ?_; (case kN => with_reducible assumption); (case kM => k_mem); (case kz => omega))))
  k_with "pyIter ref" => ((refine Hold.mk ?_))
  k_with "exec For Name Call cons nil" => ((k_here; (refine' For_turns ?lF ?_ ?ls ?lE; (case lF => k_asm); (case ls => (intro x; rfl)); (case lE => assumption)); k_whole))
  trivial
structure PS where
  o8 : Obj
  jk : PStr → Option Value
structure PsC (jk : PStr → Option Value) (σ : PS) : Prop where
  h8 : ∃ v, σ.o8.data = .cell v
  j : ∀ y, y ∉ [Str.ofString "lies"] → σ.jk y = jk y
section
variable {w : World} {p : Program} {loose : List PStr} {mean : ExcName → Option Value} {mg mb : PStr → Option Value}
    {dp un : Nat} {gd : Option (List Code)} {a : Addr} {ccd : Value} {c1 c2 c3 c4 c5 c6 c7 c8 : Addr} {A₀ : Around} {base h₀ : Heap} {L : Addr}
    {s : Shared} {news : Ldg}
    (B : Below A₀ base [] h₀) (X : (KK.heap_1 w.params).In h₀) (T : Top p loose mean mg mb h₀) (XB : (KK.heap_1 w.params).In base) (TB : Top p loose mean mg mb base)
include B X T XB TB
theorem t1_v {n : Nat} {W C Bg En : Addr} {wvs cvs gvs evs : List Value} {we ce ge ee : Nat} {o1 o2 o3 o4 o8 : Obj} {v8 : Option Value} {pp : Nat → Int} {rep : Nat → PStr} {jk : PStr → Option Value} {Q : Flow → Shared → Prop} {E : Value → Shared → Prop}
   (hd5 : dp + 200 < recursionLimit) (hu5 : un + 2000 < cLine) (hE : PassesOwn (model PySem.Challenge.rw_pm0034_01.row.prog w) (ktrTop dp un gd (Str.ofString "law") lawScope1 L a ccd (cells8 c1 c2 c3 c4 c5 c6 c7 c8) []) (envX (Str.ofString "law") lawScope1 L a ccd (cells8 c1 c2 c3 c4 c5 c6 c7 c8)) E) (hn : n < 16) (inj : ∀ i j, i < n → j < n → rep i = rep j → i = j)
   (F : Fr h₀ L s.heap jk)
   (N : News h₀ L s.heap ((c8, o8) :: news)) (n8 : ∀ q ∈ news, q.1 ≠ c8) (ho8 : o8.data = .cell v8) (hc1 : (c1, o1) ∈ news) (ho1 : o1.data = .cell (some (.ref W))) (hc2 : (c2, o2) ∈ news) (ho2 : o2.data = .cell (some (.ref C))) (hc3 : (c3, o3) ∈ news) (ho3 : o3.data = .cell (some (.ref Bg))) (hc4 : (c4, o4) ∈ news) (ho4 : o4.data = .cell (some (.ref En)))
   (hW : (W, lstOf wvs we) ∈ news) (hC : (C, lstOf cvs ce) ∈ news) (hCw : CameW pp rep n cvs news) (hG : (Bg, lstOf gvs ge) ∈ news) (hEn : (En, lstOf evs ee) ∈ news) (hRW : StrsAre wvs ((blk pp n).map rep)) (hgi : IntsAre gvs (bgT n 4)) (hei : IntsAre evs (enT n 4))
   (hret : ∀ (h' : Heap) (tk : Nat) (o8' : Obj) (jk' : PStr → Option Value), (∀ y, y ∉ [Str.ofString "lies"] → jk' y = jk y) →
      Fr h₀ L h' jk' → News h₀ L h' ((c8, o8') :: news) → Q .next { s with heap := h', toks := tk }) :
   wpAny (model PySem.Challenge.rw_pm0034_01.row.prog w) (ktrTop dp un gd (Str.ofString "law") lawScope1 L a ccd (cells8 c1 c2 c3 c4 c5 c6 c7 c8) []) (execs ((lawStmts1.drop 9).take 1) (envX (Str.ofString "law") lawScope1 L a ccd (cells8 c1 c2 c3 c4 c5 c6 c7 c8))) Q E s := by
  walk_at "M fill"
  have hcl := hCw.len
  have hC2 : (C, lstOf cvs ce) ∈ (c8, o8) :: news := .tail _ hC
  have hc22 : (c2, o2) ∈ (c8, o8) :: news := .tail _ hc2
  show wpAny _ (ktrTop _ _ _ _ (Scope.mk _ _ _ _ _) _ _ _ _ _) (execs (_ :: []) (envX _ (Scope.mk _ _ _ _ _) _ _ _ _)) _ _ _
  k_steps
  refine Hold.out ?_
  (with_reducible rename Fr _ _ _ _ => kF)
  (with_reducible rename News _ _ _ _ => kN)
  refine' pyIter_rangeA (fun i (σ : PS) => PsC jk σ) (fun i σ => σ.jk) (fun _ σ => (c8, σ.o8) :: news) cvs.length ⟨o8, jk⟩ [] kF kN (by assumption) rfl (by omega) ⟨⟨_, ho8⟩, fun y hy => rfl⟩ (fun _ h => nomatch h) (fun _ _ => rfl) (fun q hq => by first | exact hq | exact .tail _ hq) ?turn ?done
  case done =>
    rintro ⟨p8, jk1⟩ h tk hC kF1 kN1
    dsimp only at kF1 kN1
    k_steps
    exact hret _ _ p8 jk1 hC.j kF1 kN1
  case turn =>
    rintro i ⟨p8, jk1⟩ h tk t own hi hC hno kF1 kN1
    obtain ⟨⟨w8, h8⟩, hj⟩ := hC
    dsimp only at h8 hj hno kF1 kN1
    have x8 : own.1 ≠ c8 := (hno _ (.head _)).symm
    (show wpAny _ _ (assign _ _ (Value.int (i : Int) t)) _ _ _)
    k_fold
    k_steps
    k_here
    k_dflt (refine' storeX_C ?sF kN1 ?sc (UpdF.tail x8 (UpdF.head n8)) h8 ?_ ?sa ?sb)
    case sa => rfl
    case sb => rfl
    case sF => k_asm
    case sc => rfl
    intro h2 p8' F2 N2 hp8
    clear kN1 kF1
    have up : ∀ q ∈ news, q ∈ own :: (c8, p8') :: news := fun q hq => .tail _ (.tail _ hq)
    obtain ⟨M2, eM2, F2⟩ := fr_ext F2
    (show wpAny (model PySem.Challenge.rw_pm0034_01.row.prog w) (ktrTop dp un gd (Str.ofString "law") lawScope1 L a ccd (cells8 c1 c2 c3 c4 c5 c6 c7 c8) []) (execs (forT1.drop 0) (envX (Str.ofString "law") lawScope1 L a ccd (cells8 c1 c2 c3 c4 c5 c6 c7 c8))) _ _ _)
    refine chunk_W 1 ?_
    refine t1_t1 B X T XB TB (n := n) (pl := i) (pp := pp) (rep := rep) (jk := jk1) hd5 hu5 hn (by omega) inj (by subst eM2; exact F2) N2 (up _ hc1) ho1 (up _ hc2) ho2 (up _ hc3) ho3 (up _ hc4) ho4 (.tail _ (.head _)) hp8 (up _ hW) (up _ (by assumption)) (hCw.mono up) (up _ hG) (up _ hEn) hRW hgi hei ?_
    intro h3 tk3 D1 ls1 hl1 F3 N3
    (show wpAny (model PySem.Challenge.rw_pm0034_01.row.prog w) (ktrTop dp un gd (Str.ofString "law") lawScope1 L a ccd (cells8 c1 c2 c3 c4 c5 c6 c7 c8) []) (execs (forT1.drop 1) (envX (Str.ofString "law") lawScope1 L a ccd (cells8 c1 c2 c3 c4 c5 c6 c7 c8))) _ _ _)
    refine chunk_W 1 ?_
    refine t1_t2 B X T XB TB (n := n) (pl := i) (jk := jk1) hd5 hu5 hn (by omega) F3 N3 (.tail _ (up _ hc3)) ho3 (.tail _ (up _ hc4)) ho4 (.tail _ (.tail _ (.head _))) hp8 (.tail _ (up _ hG)) (.tail _ (up _ hEn)) hgi hei (.head _) hl1 ?_
    intro h4 tk4 nw4 hs4 F4 N4
    (show wpAny (model PySem.Challenge.rw_pm0034_01.row.prog w) (ktrTop dp un gd (Str.ofString "law") lawScope1 L a ccd (cells8 c1 c2 c3 c4 c5 c6 c7 c8) []) (execs [] (envX (Str.ofString "law") lawScope1 L a ccd (cells8 c1 c2 c3 c4 c5 c6 c7 c8))) _ _ _)
    refine wpAny_execs_nil ?_
    refine turnFr_next ⟨p8', fun y => if y = Str.ofString "lies" then some (.ref D1) else jk1 y⟩ [] F4 N4 ⟨⟨_, hp8⟩, fun y hy => ?_⟩ (fun _ h => nomatch h) (fun _ _ => rfl) (fun q hq => hs4 q (.tail _ hq)) (fun q hq => ?_)
    · dsimp only
      rw [if_neg (ne_of_out hy (by with_unfolding_all rfl))]
      exact hj y hy
    · rcases List.mem_cons.mp hq with rfl | hq
      · exact x8.symm
      · exact hno q (.tail _ hq)
end
end
section
theorem lines_L1Y_0 : True := by
  walk_at "base"
  trivial
theorem lines_L1Y_1 : True := by
  k_with "subscriptTail Name Constant ref int" => ((k_here; refine item_tupleT (News.isTup (by assumption) (by k_mem)) (by decide) (by decide) (by rfl) (by rfl) ?_))
  k_with "subscriptTail Name Constant ref int" => ((k_here; (with_reducible rename StrsAre _ _ => hSA); refine item_strsA (News.isList (by assumption) (by k_mem)) hSA (by decide) (by first | omega | (simp only [List.length_map]; omega)) (by decide) ?_; intro t'))
  k_with "call type:ValueError" => ((refine call_ValueError_made ?_; intro _ _ _))
  k_with "exec While Compare Name cons nil" => (refine Hold.mk ?_)
  k_with "exec While Compare" => (refine Hold.mk ?_)
  k_with "exec While Compare cons nil" => (refine Hold.mk ?_)
  k_with "exec While" => (refine Hold.mk ?_)
  k_with "binaryOp FloorDiv int int" => ((k_here; (with_reducible refine floordiv_pos ?kb1 ?kb2 ?_); (case kb1 => decide); (case kb2 => decide +kernel)))
  k_with "WhlIf" => ((refine whlIf_dec ?_ ?_ <;> intro _))
  k_with "subscriptTail Name Name ref int" => ((k_here; first
    | ((with_reducible rename StrsAre _ _ => hSA); refine item_strsA (News.isList (by assumption) (by k_mem)) hSA (by omega) (by omega) (by omega) ?_; intro t')
    | ((with_reducible rename IntsAre _ _ => hSA); refine item_intsA (News.isList (by assumption) (by k_mem)) hSA (by omega) (by omega) (by omega) ?_; intro t')))
  k_with "call builtin:len" => ((k_here; (with_reducible show wpAny _ _ (call (Value.builtin "len") [Value.ref _]) _ _ _); first
    | ((with_reducible rename StrsAre _ _ => hSA); refine len_strsA (News.isList (by assumption) (by k_mem)) hSA (by omega) ?_)
    | ((with_reducible rename IntsAre _ _ => hSA); refine len_intsA (News.isList (by assumption) (by k_mem)) hSA (by omega) ?_)))
  k_with "M fr2" => ((intro y hy; (repeat (refine (if_neg (ne_of_out hy (by with_unfolding_all rfl))).trans ?_)); (refine Eq.symm ?_); (repeat (refine (if_neg (ne_of_out hy (by with_unfolding_all rfl))).trans ?_)); rfl))
  trivial
theorem lines_L1Y_2 : True := by
  k_with "pyIter ref" => ((refine Hold.mk ?_))
  k_with "exec For Name Call cons nil" => ((refine Hold.mk ?_))
  trivial
structure Rdy (h₀ : Heap) (L : Addr) (s s₃ : Shared) (m : PStr → Option Value) (l : Ldg) : Prop where
  ex : ∃ h2 tk2, s₃ = { s with heap := h2, toks := tk2 } ∧ Fr h₀ L h2 m ∧ News h₀ L h2 l
noncomputable def dM (Kp Bd : Addr) (jk : PStr → Option Value) : PStr → Option Value := fun y => if y = Str.ofString "kept" then some (.ref Kp) else if y = Str.ofString "bare" then some (.ref Bd) else jk y
section
variable {w : World} {p : Program} {loose : List PStr} {mean : ExcName → Option Value} {mg mb : PStr → Option Value}
    {dp un : Nat} {gd : Option (List Code)} {a : Addr} {ccd : Value} {c1 c2 c3 c4 c5 c6 c7 c8 : Addr} {A₀ : Around} {base h₀ : Heap} {L : Addr}
    {s : Shared} {news : Ldg}
    (B : Below A₀ base [] h₀) (X : (KK.heap_1 w.params).In h₀) (T : Top p loose mean mg mb h₀) (XB : (KK.heap_1 w.params).In base) (TB : Top p loose mean mg mb base)
include B X T XB TB
theorem t1_y {n : Nat} {W Bd Kp Kw Kb : Addr} {wvs bvs : List Value} {we be e2 e3 : Nat} {o1 : Obj} {ys : List PStr} {zs : List Int} {pp : Nat → Int} {rep : Nat → PStr} {jk : PStr → Option Value} {Q : Flow → Shared → Prop} {E : Value → Shared → Prop}
   (hd5 : dp + 200 < recursionLimit) (hu5 : un + 2000 < cLine) (hE : PassesOwn (model PySem.Challenge.rw_pm0034_01.row.prog w) (ktrTop dp un gd (Str.ofString "law") lawScope1 L a ccd (cells8 c1 c2 c3 c4 c5 c6 c7 c8) []) (envX (Str.ofString "law") lawScope1 L a ccd (cells8 c1 c2 c3 c4 c5 c6 c7 c8)) E) (hn : n < 16) (hn0 : 0 < n)
   (F : Fr h₀ L s.heap (dM Kp Bd jk)) (N : News h₀ L s.heap news) (hc1 : (c1, o1) ∈ news) (ho1 : o1.data = .cell (some (.ref W)))
   (hW : (W, lstOf wvs we) ∈ news) (hB : (Bd, lstOf bvs be) ∈ news) (hr : RepG pp rep n) (hRW : RowW pp rep (.ref 108) (blk pp n) wvs) (hRB : RowW pp rep .none (blk pp n) bvs) (hK : (Kp, lstOf [.ref Kw, .ref Kb] 0) ∈ news) (hKw : (Kw, lstOf wvs e2) ∈ news) (hKb : (Kb, lstOf bvs e3) ∈ news) (hSW : StrsAre wvs ys) (hSB : IntsAre bvs zs)
   (hret : ∀ (h' : Heap) (tk : Nat) (jk' : PStr → Option Value), Fr h₀ L h' (dM Kp Bd jk') → News h₀ L h' news → Q .next { s with heap := h', toks := tk }) :
   wpAny (model PySem.Challenge.rw_pm0034_01.row.prog w) (ktrTop dp un gd (Str.ofString "law") lawScope1 L a ccd (cells8 c1 c2 c3 c4 c5 c6 c7 c8) []) (execs ((lawStmts1.drop 10).take 1) (envX (Str.ofString "law") lawScope1 L a ccd (cells8 c1 c2 c3 c4 c5 c6 c7 c8))) Q E s := by
  walk_at "M fill"
  show wpAny _ (ktrTop _ _ _ _ (Scope.mk _ _ _ _ _) _ _ _ _ _) (execs (_ :: []) (envX _ (Scope.mk _ _ _ _ _) _ _ _ _)) _ _ _
  k_steps
  refine Hold.out ?_
  k_here
  refine' For_turns ?lF ?_ ?ls ?lE
  case lF => k_asm
  case ls => (intro x; rfl)
  case lE => assumption
  k_steps
  refine Hold.out ?_
  (with_reducible rename Fr _ _ _ _ => kF)
  (with_reducible rename News _ _ _ _ => kN)
  (with_reducible rename IsRange _ _ _ _ _ _ _ _ => hR)
  refine' pyIter_rangeA (fun i (σ : PStr → Option Value) => True) (fun i σ => dM Kp Bd σ) (fun _ σ => news) 4 jk [] ?rF ?rN ?rR ?rh ?rn trivial (fun _ h => nomatch h) (fun _ _ => rfl) (fun q hq => by first | exact hq | exact .tail _ hq) ?turn ?done
  case rF => exact kF
  case rN => exact kN
  case rR => exact hR
  case rh => rfl
  case rn => decide
  case done =>
    intro σ h tk hC kF1 kN1
    dsimp only at kF1 kN1
    k_steps
    exact hret _ _ σ kF1 kN1
  case turn =>
    intro i σ h tk t own hi hC hno kF1 kN1
    dsimp only at hno kF1 kN1
    refine wpAny_mono (Q := fun _ s₃ => Rdy h₀ L s s₃ (fun y => if y = Str.ofString "deed" then some (.int (i : Int) t) else dM Kp Bd σ y) (own :: news)) ?first ?after fun _ _ e => e
    case first =>
      (show wpAny _ _ (assign _ _ (Value.int (i : Int) t)) _ _ _)
      k_fold
      k_steps
      exact ⟨_, _, rfl, by assumption, by assumption⟩
    rintro _ s₃ ⟨h2, tk2, rfl, F2, kN2⟩
    clear kN1 kF1
    obtain ⟨M2, eM2, F2⟩ := fr_ext F2
    (show wpAny (model PySem.Challenge.rw_pm0034_01.row.prog w) (ktrTop dp un gd (Str.ofString "law") lawScope1 L a ccd (cells8 c1 c2 c3 c4 c5 c6 c7 c8) []) (execs (forD1.drop 0) (envX (Str.ofString "law") lawScope1 L a ccd (cells8 c1 c2 c3 c4 c5 c6 c7 c8))) _ _ _)
    refine chunk_W 2 ?_
    refine t1_w1 B X T XB TB (n := n) (i := i) (Bd := Bd) (W := W) (pp := pp) (rep := rep) (td := t) (jk := dM Kp Bd σ) hd5 hu5 hn hn0 hi (fr_map [Str.ofString "deed", Str.ofString "bare"] F2 (by subst eM2; unfold dM; walk_at "M map1") (by subst eM2; unfold dM; walk_at "M fr2")) kN2 (.tail _ hc1) ho1 (.tail _ hW) (.tail _ hB) hr hRW hRB ?_
    intro h3 tk3 T1 t1 t2 vt nw3 hs3 hT3 F3 N3
    obtain ⟨M3, eM3, F3⟩ := fr_ext F3
    (show wpAny (model PySem.Challenge.rw_pm0034_01.row.prog w) (ktrTop dp un gd (Str.ofString "law") lawScope1 L a ccd (cells8 c1 c2 c3 c4 c5 c6 c7 c8) []) (execs (forD1.drop 2) (envX (Str.ofString "law") lawScope1 L a ccd (cells8 c1 c2 c3 c4 c5 c6 c7 c8))) _ _ _)
    refine chunk_W 1 ?_
    have up : ∀ q ∈ news, q ∈ nw3 := fun q hq => hs3 q (.tail _ hq)
    refine t1_w2 B X T XB TB (Bd := Bd) (W := W) (Kp := Kp) (T1 := T1) (jk := M3) hd5 hu5 (fr_map [Str.ofString "told", Str.ofString "kept", Str.ofString "bare"] F3 (by subst eM3; unfold dM; walk_at "M map1") (by subst eM3; unfold dM; walk_at "M fr2")) N3 (up _ hc1) ho1 (up _ hW) (up _ hB) hT3 (up _ hK) (up _ hKw) (up _ hKb) hSW hSB ?_
    intro h4 tk4 nw4 hs4 F4 N4
    (show wpAny (model PySem.Challenge.rw_pm0034_01.row.prog w) (ktrTop dp un gd (Str.ofString "law") lawScope1 L a ccd (cells8 c1 c2 c3 c4 c5 c6 c7 c8) []) (execs [] (envX (Str.ofString "law") lawScope1 L a ccd (cells8 c1 c2 c3 c4 c5 c6 c7 c8))) _ _ _)
    refine wpAny_execs_nil ?_
    refine turnFr_next (fun y => if y = Str.ofString "told" then some (.ref T1) else M3 y) [Str.ofString "kept", Str.ofString "bare", Str.ofString "told"] F4 N4 trivial (by unfold dM; walk_at "M map1") (by unfold dM; walk_at "M fr2") (fun q hq => hs4 q (hs3 q hq)) hno
end
end
section
theorem lines_L1O_0 : True := by
  walk_at "base"
  trivial
theorem lines_L1O_1 : True := by
  k_with "subscriptTail Name Constant ref int" => ((k_here; refine item_tupleT (News.isTup (by assumption) (by k_mem)) (by decide) (by decide) (by rfl) (by rfl) ?_))
  k_with "subscriptTail Name Constant ref int" => ((k_here; (with_reducible rename StrsAre _ _ => hSA); refine item_strsA (News.isList (by assumption) (by k_mem)) hSA (by decide) (by first | omega | (simp only [List.length_map]; omega)) (by decide) ?_; intro t'))
  k_with "call type:ValueError" => ((refine call_ValueError_made ?_; intro _ _ _))
  k_with "exec While Compare Name cons nil" => (refine Hold.mk ?_)
  k_with "exec While Compare" => (refine Hold.mk ?_)
  k_with "exec While Compare cons nil" => (refine Hold.mk ?_)
  k_with "exec While" => (refine Hold.mk ?_)
  k_with "binaryOp FloorDiv int int" => ((k_here; (with_reducible refine floordiv_pos ?kb1 ?kb2 ?_); (case kb1 => decide); (case kb2 => decide +kernel)))
  k_with "WhlIf" => ((refine whlIf_dec ?_ ?_ <;> intro _))
  k_with "subscriptTail Name Name ref int" => ((k_here; first
    | ((with_reducible rename StrsAre _ _ => hSA); refine item_strsA (News.isList (by assumption) (by k_mem)) hSA (by omega) (by omega) (by omega) ?_; intro t')
    | ((with_reducible rename IntsAre _ _ => hSA); refine item_intsA (News.isList (by assumption) (by k_mem)) hSA (by omega) (by omega) (by omega) ?_; intro t')))
  k_with "call builtin:len" => ((k_here; (with_reducible show wpAny _ _ (call (Value.builtin "len") [Value.ref _]) _ _ _); first
    | ((with_reducible rename StrsAre _ _ => hSA); refine len_strsA (News.isList (by assumption) (by k_mem)) hSA (by omega) ?_)
    | ((with_reducible rename IntsAre _ _ => hSA); refine len_intsA (News.isList (by assumption) (by k_mem)) hSA (by omega) ?_)))
  trivial
theorem lines_L1O_2 : True := by
  k_with "M fr2" => ((intro y hy; (repeat (refine (if_neg (ne_of_out hy (by with_unfolding_all rfl))).trans ?_)); (refine Eq.symm ?_); (repeat (refine (if_neg (ne_of_out hy (by with_unfolding_all rfl))).trans ?_)); rfl))
  trivial
section
variable {w : World} {p : Program} {loose : List PStr} {mean : ExcName → Option Value} {mg mb : PStr → Option Value}
    {dp un : Nat} {gd : Option (List Code)} {a : Addr} {ccd : Value} {c1 c2 c3 c4 c5 c6 c7 c8 : Addr} {A₀ : Around} {base h₀ : Heap} {L : Addr}
    {s : Shared} {news : Ldg}
    (B : Below A₀ base [] h₀) (X : (KK.heap_1 w.params).In h₀) (T : Top p loose mean mg mb h₀) (XB : (KK.heap_1 w.params).In base) (TB : Top p loose mean mg mb base)
include B X T XB TB
theorem t1_o {o1 o2 : Obj} {v1 v2 : Option Value} {led : Ldg} {jk : PStr → Option Value} {Q : Flow → Shared → Prop} {E : Value → Shared → Prop}
   (hd5 : dp + 200 < recursionLimit) (hu5 : un + 2000 < cLine) (F : Fr h₀ L s.heap jk)
   (N : News h₀ L s.heap ((c1, o1) :: (c2, o2) :: led)) (ho1 : o1.data = .cell v1) (ho2 : o2.data = .cell v2) (h12 : c1 ≠ c2) (n1 : ∀ q ∈ led, q.1 ≠ c1) (n2 : ∀ q ∈ led, q.1 ≠ c2)
   (hret : ∀ (h' : Heap) (tk : Nat) (W Bd C : Addr) (o1' o2' : Obj) (tm : Tok), o1'.data = .cell (some (.ref W)) → o2'.data = .cell (some (.ref C)) → (∀ q ∈ led, @LT.lt Nat _ q.1 W) → @LT.lt Nat _ c1 W → @LT.lt Nat _ c2 W → @LT.lt Nat _ W Bd → @LT.lt Nat _ Bd C →
      Fr h₀ L h' (fun y => if y = Str.ofString "merges" then some (.int 0 tm) else if y = Str.ofString "bare" then some (.ref Bd) else jk y) →
      News h₀ L h' ((W, lstOf [] 0) :: (Bd, lstOf [] 0) :: (C, lstOf [] 0) :: (c1, o1') :: (c2, o2') :: led) → Q .next { s with heap := h', toks := tk }) :
   wpAny (model PySem.Challenge.rw_pm0034_01.row.prog w) (ktrTop dp un gd (Str.ofString "law") lawScope1 L a ccd (cells8 c1 c2 c3 c4 c5 c6 c7 c8) []) (execs ((lawStmts1.drop 1).take 1) (envX (Str.ofString "law") lawScope1 L a ccd (cells8 c1 c2 c3 c4 c5 c6 c7 c8))) Q E s := by
  walk_at "M fill"
  show wpAny _ (ktrTop _ _ _ _ (Scope.mk _ _ _ _ _) _ _ _ _ _) (execs (_ :: []) (envX _ (Scope.mk _ _ _ _ _) _ _ _ _)) _ _ _
  k_steps
  (with_reducible rename (_ ∧ _ ∧ AllLt _ led) => lW)
  (with_reducible rename (_ ∧ _ ∧ _ ∧ AllLt _ led) => lB)
  (with_reducible rename (_ ∧ _ ∧ _ ∧ _ ∧ AllLt _ led) => lC)
  (with_reducible rename News _ _ _ _ => kN)
  have kN1 := news_drop1 kN
  clear kN
  k_here
  k_dflt (refine' storeX_C ?sF kN1 ?sc (UpdF.tail (Nat.ne_of_gt lC.2.2.1) (UpdF.tail (Nat.ne_of_gt lB.2.1) (UpdF.tail (Nat.ne_of_gt lW.1) (UpdF.head ?u3)))) ho1 ?_ ?sa ?sb)
  case sa => rfl
  case sb => rfl
  case sF => k_asm
  case sc => rfl
  case u3 =>
    intro q hq
    rcases List.mem_cons.mp hq with rfl | hq
    · exact h12.symm
    · exact n1 q hq
  intro h2 o1' F2 N2 ho1'
  clear kN1
  k_steps
  (with_reducible rename News _ _ _ _ => kN2)
  k_here
  k_dflt (refine' storeX_C ?tF kN2 ?tc (UpdF.tail (Nat.ne_of_gt lC.2.2.2.1) (UpdF.tail (Nat.ne_of_gt lB.2.2.1) (UpdF.tail (Nat.ne_of_gt lW.2.1) (UpdF.tail h12 (UpdF.head n2))))) ho2 ?_ ?ta ?tb)
  case ta => rfl
  case tb => rfl
  case tF => k_asm
  case tc => rfl
  intro h3 o2' F3 N3 ho2'
  clear kN2
  k_steps
  (with_reducible rename Fr _ _ _ _ => kF5)
  (with_reducible rename News _ _ _ _ => kN5)
  obtain ⟨M5, eM5, F5⟩ := fr_ext kF5
  refine hret _ _ _ _ _ o1' o2' _ ho1' ho2' (ktn_ltOf lW.2.2) lW.1 lW.2.1 lB.1 lC.1 (fr_map [Str.ofString "merges", Str.ofString "bare"] F5 (by subst eM5; walk_at "M map1") (by subst eM5; walk_at "M fr2")) (news_sub kN5 ?_)
  intro q hq
  rcases List.mem_cons.mp hq with rfl | hq
  · exact .tail _ (.tail _ (.head _))
  rcases List.mem_cons.mp hq with rfl | hq
  · exact .tail _ (.head _)
  rcases List.mem_cons.mp hq with rfl | hq
  · exact .head _
  · exact .tail _ (.tail _ (.tail _ hq))
end
end
section
theorem lines_L1N_0 : True := by
  walk_at "base"
  trivial
theorem lines_L1N_1 : True := by
  k_with "subscriptTail Name Constant ref int" => ((k_here; refine item_tupleT (News.isTup (by assumption) (by k_mem)) (by decide) (by decide) (by rfl) (by rfl) ?_))
  k_with "subscriptTail Name Constant ref int" => ((k_here; (with_reducible rename StrsAre _ _ => hSA); refine item_strsA (News.isList (by assumption) (by k_mem)) hSA (by decide) (by first | omega | (simp only [List.length_map]; omega)) (by decide) ?_; intro t'))
  k_with "call type:ValueError" => ((refine call_ValueError_made ?_; intro _ _ _))
  k_with "exec While Compare Name cons nil" => (refine Hold.mk ?_)
  k_with "exec While Compare" => (refine Hold.mk ?_)
  k_with "exec While Compare cons nil" => (refine Hold.mk ?_)
  k_with "exec While" => (refine Hold.mk ?_)
  k_with "binaryOp FloorDiv int int" => ((k_here; (with_reducible refine floordiv_pos ?kb1 ?kb2 ?_); (case kb1 => decide); (case kb2 => decide +kernel)))
  k_with "WhlIf" => ((refine whlIf_dec ?_ ?_ <;> intro _))
  k_with "subscriptTail Name Name ref int" => ((k_here; first
    | ((with_reducible rename StrsAre _ _ => hSA); refine item_strsA (News.isList (by assumption) (by k_mem)) hSA (by omega) (by omega) (by omega) ?_; intro t')
    | ((with_reducible rename IntsAre _ _ => hSA); refine item_intsA (News.isList (by assumption) (by k_mem)) hSA (by omega) (by omega) (by omega) ?_; intro t')))
  k_with "call builtin:len" => ((k_here; (with_reducible show wpAny _ _ (call (Value.builtin "len") [Value.ref _]) _ _ _); first
    | ((with_reducible rename StrsAre _ _ => hSA); refine len_strsA (News.isList (by assumption) (by k_mem)) hSA (by omega) ?_)
    | ((with_reducible rename IntsAre _ _ => hSA); refine len_intsA (News.isList (by assumption) (by k_mem)) hSA (by omega) ?_)))
  trivial
theorem lines_L1N_2 : True := by
  k_with "call builtin:len" => ((k_here; (with_reducible show wpAny _ _ (call (Value.builtin "len") [Value.ref _]) _ _ _); k_dflt (refine' len_L ?kN ?kM ?kz ?_; (case kN => with_reducible assumption); (case kM => k_mem); (case kz => omega))))
  k_with "call type:list" => ((k_here; (with_reducible show wpAny _ _ (call (Value.type "list") [Value.ref _]) _ _ _); k_dflt (refine' list_of_L ?zF ?zN ?zb ?zz ?_; (case zF => k_asm); (case zN => k_asm); (case zb => k_mem); (case zz => omega)); intro D' c' h' F' N' l1; (try k_sweep)))
  k_with "call type:list" => ((k_here; (with_reducible show wpAny _ _ (call (Value.type "list") [Value.ref _]) _ _ _); (with_reducible rename ZipLed _ _ _ _ => hZ); refine Hold.mk ?_))
  k_with "call type:zip" => ((refine Hold.mk ?_))
  trivial
section
variable {w : World} {p : Program} {loose : List PStr} {mean : ExcName → Option Value} {mg mb : PStr → Option Value}
    {dp un : Nat} {gd : Option (List Code)} {a : Addr} {ccd : Value} {c1 c2 c3 c4 c5 c6 c7 c8 : Addr} {A₀ : Around} {base h₀ : Heap} {L : Addr}
    {s : Shared} {news : Ldg}
    (B : Below A₀ base [] h₀) (X : (KK.heap_1 w.params).In h₀) (T : Top p loose mean mg mb h₀) (XB : (KK.heap_1 w.params).In base) (TB : Top p loose mean mg mb base)
include B X T XB TB
theorem t1_n {n : Nat} {W Bd C Bg En : Addr} {wvs bvs cvs gvs evs : List Value} {we be ce ge ee : Nat} {o1 o2 o3 o4 : Obj} {tq tm : Tok} {jk : PStr → Option Value} {Q : Flow → Shared → Prop} {E : Value → Shared → Prop}
   (hd5 : dp + 200 < recursionLimit) (hu5 : un + 2000 < cLine) (hn : n < 16)
   (F : Fr h₀ L s.heap (fun y => if y = Str.ofString "quotes" then some (.int ((qT n 4 : Nat) : Int) tq) else if y = Str.ofString "merges" then some (.int ((sumTz n : Nat) : Int) tm) else if y = Str.ofString "bare" then some (.ref Bd) else jk y))
   (N : News h₀ L s.heap news) (hc1 : (c1, o1) ∈ news) (ho1 : o1.data = .cell (some (.ref W))) (hc2 : (c2, o2) ∈ news) (ho2 : o2.data = .cell (some (.ref C))) (hc3 : (c3, o3) ∈ news) (ho3 : o3.data = .cell (some (.ref Bg))) (hc4 : (c4, o4) ∈ news) (ho4 : o4.data = .cell (some (.ref En)))
   (hW : (W, lstOf wvs we) ∈ news) (hB : (Bd, lstOf bvs be) ∈ news) (hC : (C, lstOf cvs ce) ∈ news) (hG : (Bg, lstOf gvs ge) ∈ news) (hEn : (En, lstOf evs ee) ∈ news)
   (hwl : wvs.length ≤ 15) (hbl : bvs.length ≤ 15) (hcl : cvs.length = n) (hgi : IntsAre gvs (bgT n 4)) (hei : IntsAre evs (enT n 4))
   (hret : ∀ (h' : Heap) (tk : Nat) (Sp Kp Kw Kb : Addr) (svs : List Value) (e1 e2 e3 : Nat) (tups : Ldg), TupsAre tups svs gvs evs → (∀ q ∈ (Kp, lstOf [.ref Kw, .ref Kb] 0) :: (Kb, lstOf bvs e3) :: (Kw, lstOf wvs e2) :: (tups ++ [(Sp, lstOf svs e1)]), ∀ r ∈ news, @LT.lt Nat _ r.1 q.1) →
      Fr h₀ L h' (fun y => if y = Str.ofString "kept" then some (.ref Kp) else if y = Str.ofString "spans" then some (.ref Sp) else if y = Str.ofString "quotes" then some (.int ((qT n 4 : Nat) : Int) tq) else if y = Str.ofString "merges" then some (.int ((sumTz n : Nat) : Int) tm) else if y = Str.ofString "bare" then some (.ref Bd) else jk y) →
      News h₀ L h' ((Kp, lstOf [.ref Kw, .ref Kb] 0) :: (Kb, lstOf bvs e3) :: (Kw, lstOf wvs e2) :: (tups ++ (Sp, lstOf svs e1) :: news)) → Q .next { s with heap := h', toks := tk }) :
   wpAny (model PySem.Challenge.rw_pm0034_01.row.prog w) (ktrTop dp un gd (Str.ofString "law") lawScope1 L a ccd (cells8 c1 c2 c3 c4 c5 c6 c7 c8) []) (execs ((lawStmts1.drop 5).take 3) (envX (Str.ofString "law") lawScope1 L a ccd (cells8 c1 c2 c3 c4 c5 c6 c7 c8))) Q E s := by
  walk_at "M fill"
  obtain ⟨q1, q2, q3, q4⟩ := sum_at hn
  have hgl := ints_length hgi
  have hel := ints_length hei
  show wpAny _ (ktrTop _ _ _ _ (Scope.mk _ _ _ _ _) _ _ _ _ _) (execs (_ :: _ :: _ :: []) (envX _ (Scope.mk _ _ _ _ _) _ _ _ _)) _ _ _
  k_steps
  all_goals (try (exfalso; omega; done))
  refine Hold.out ?_
  (with_reducible rename Fr _ _ _ _ => kF)
  refine zip_L (xs := gvs) (ys := evs) kF N hG hEn ?_
  intro z h2 zl hZ hz1 hz2 F2 N2
  clear kF
  k_steps
  refine Hold.out ?_
  (with_reducible rename Fr _ _ _ _ => kF)
  refine list_of_zip rfl hZ hz2 kF N2 hG hEn (by omega) (by omega) ?_
  intro Sp e1 h3 tk3 svs tups hT hSp htu F3 N3
  clear kF N2 hZ hz2
  have hB3 : (Bd, lstOf bvs be) ∈ tups ++ (Sp, lstOf svs e1) :: news := List.mem_append_right _ (.tail _ hB)
  have hW3 : (W, lstOf wvs we) ∈ tups ++ (Sp, lstOf svs e1) :: news := List.mem_append_right _ (.tail _ hW)
  have hc13 : (c1, o1) ∈ tups ++ (Sp, lstOf svs e1) :: news := List.mem_append_right _ (.tail _ hc1)
  k_steps
  (with_reducible rename (∀ p ∈ tups ++ (Sp, lstOf svs e1) :: news, p.1 < _) => hKw)
  (with_reducible rename (∀ p ∈ (_ : Addr × Obj) :: (tups ++ (Sp, lstOf svs e1) :: news), p.1 < _) => hKb)
  (with_reducible rename (_ ∧ _ ∧ AllLt _ (tups ++ (Sp, lstOf svs e1) :: news)) => hKp)
  refine hret _ _ Sp _ _ _ svs e1 _ _ tups hT ?_ (by assumption) (by assumption)
  have up : ∀ r ∈ news, r ∈ tups ++ (Sp, lstOf svs e1) :: news := fun r hr => List.mem_append_right _ (.tail _ hr)
  intro q hq r hr
  rcases List.mem_cons.mp hq with rfl | hq
  · exact ktn_ltOf hKp.2.2 r (up r hr)
  rcases List.mem_cons.mp hq with rfl | hq
  · exact hKb r (.tail _ (up r hr))
  rcases List.mem_cons.mp hq with rfl | hq
  · exact hKw r (up r hr)
  rcases List.mem_append.mp hq with hq | hq
  · exact Nat.lt_trans (hSp r hr) (htu q hq)
  · rw [List.mem_singleton.mp hq]; exact hSp r hr
end
end
section
theorem lines_L1L_0 : True := by
  walk_at "base"
  trivial
theorem lines_L1L_1 : True := by
  k_with "subscriptTail Name Constant ref int" => ((k_here; refine item_tupleT (News.isTup (by assumption) (by k_mem)) (by decide) (by decide) (by rfl) (by rfl) ?_))
  k_with "subscriptTail Name Constant ref int" => ((k_here; (with_reducible rename StrsAre _ _ => hSA); refine item_strsA (News.isList (by assumption) (by k_mem)) hSA (by decide) (by first | omega | (simp only [List.length_map]; omega)) (by decide) ?_; intro t'))
  k_with "call type:ValueError" => ((refine call_ValueError_made ?_; intro _ _ _))
  k_with "exec While Compare Name cons nil" => (refine Hold.mk ?_)
  k_with "exec While Compare" => (refine Hold.mk ?_)
  k_with "exec While Compare cons nil" => (refine Hold.mk ?_)
  k_with "exec While" => (refine Hold.mk ?_)
  k_with "binaryOp FloorDiv int int" => ((k_here; (with_reducible refine floordiv_pos ?kb1 ?kb2 ?_); (case kb1 => decide); (case kb2 => decide +kernel)))
  k_with "WhlIf" => ((refine whlIf_dec ?_ ?_ <;> intro _))
  k_with "subscriptTail Name Name ref int" => ((k_here; first
    | ((with_reducible rename StrsAre _ _ => hSA); refine item_strsA (News.isList (by assumption) (by k_mem)) hSA (by omega) (by omega) (by omega) ?_; intro t')
    | ((with_reducible rename IntsAre _ _ => hSA); refine item_intsA (News.isList (by assumption) (by k_mem)) hSA (by omega) (by omega) (by omega) ?_; intro t')))
  k_with "call builtin:len" => ((k_here; (with_reducible show wpAny _ _ (call (Value.builtin "len") [Value.ref _]) _ _ _); first
    | ((with_reducible rename StrsAre _ _ => hSA); refine len_strsA (News.isList (by assumption) (by k_mem)) hSA (by omega) ?_)
    | ((with_reducible rename IntsAre _ _ => hSA); refine len_intsA (News.isList (by assumption) (by k_mem)) hSA (by omega) ?_)))
  trivial
theorem lines_L1L_2 : True := by
  k_with "call builtin:len" => ((k_here; (with_reducible show wpAny _ _ (call (Value.builtin "len") [Value.ref _]) _ _ _); k_dflt (refine' len_L ?kN ?kM ?kz ?_; (case kN => with_reducible assumption); (case kM => k_mem); (case kz => omega))))
  k_with "M fr2" => ((intro y hy; (repeat (refine (if_neg (ne_of_out hy (by with_unfolding_all rfl))).trans ?_)); (refine Eq.symm ?_); (repeat (refine (if_neg (ne_of_out hy (by with_unfolding_all rfl))).trans ?_)); rfl))
  trivial
section
variable {w : World} {p : Program} {loose : List PStr} {mean : ExcName → Option Value} {mg mb : PStr → Option Value}
    {dp un : Nat} {gd : Option (List Code)} {a : Addr} {ccd : Value} {c1 c2 c3 c4 c5 c6 c7 c8 : Addr} {A₀ : Around} {base h₀ : Heap} {L : Addr}
    {s : Shared} {news : Ldg}
    (B : Below A₀ base [] h₀) (X : (KK.heap_1 w.params).In h₀) (T : Top p loose mean mg mb h₀) (XB : (KK.heap_1 w.params).In base) (TB : Top p loose mean mg mb base)
include B X T XB TB
theorem t1_l {C : Addr} {cvs : List Value} {o2 o3 o4 : Obj} {v3 v4 : Option Value} {ce : Nat} {led : Ldg} {jk : PStr → Option Value} {Q : Flow → Shared → Prop} {E : Value → Shared → Prop}
   (hd5 : dp + 200 < recursionLimit) (hu5 : un + 2000 < cLine) (F : Fr h₀ L s.heap jk)
   (N : News h₀ L s.heap ((c3, o3) :: (c4, o4) :: led)) (ho3 : o3.data = .cell v3) (ho4 : o4.data = .cell v4) (h34 : c3 ≠ c4) (n3 : ∀ q ∈ led, q.1 ≠ c3) (n4 : ∀ q ∈ led, q.1 ≠ c4)
   (hc2 : (c2, o2) ∈ led) (ho2 : o2.data = .cell (some (.ref C))) (hC : (C, lstOf cvs ce) ∈ led) (hcl : cvs.length ≤ 15)
   (hret : ∀ (h' : Heap) (tk : Nat) (Bg En : Addr) (o3' o4' : Obj) (tq tr : Tok), o3'.data = .cell (some (.ref Bg)) → o4'.data = .cell (some (.ref En)) → (∀ q ∈ led, @LT.lt Nat _ q.1 Bg) → (∀ q ∈ led, @LT.lt Nat _ q.1 En) → @Ne Nat Bg En → @Ne Nat Bg c3 → @Ne Nat Bg c4 → @Ne Nat En c3 → @Ne Nat En c4 →
      Fr h₀ L h' (fun y => if y = Str.ofString "quotes" then some (.int 0 tq) else if y = Str.ofString "run" then some (.int (cvs.length : Int) tr) else jk y) →
      News h₀ L h' ((Bg, lstOf [] 0) :: (En, lstOf [] 0) :: (c3, o3') :: (c4, o4') :: led) → Q .next { s with heap := h', toks := tk }) :
   wpAny (model PySem.Challenge.rw_pm0034_01.row.prog w) (ktrTop dp un gd (Str.ofString "law") lawScope1 L a ccd (cells8 c1 c2 c3 c4 c5 c6 c7 c8) []) (execs ((lawStmts1.drop 3).take 1) (envX (Str.ofString "law") lawScope1 L a ccd (cells8 c1 c2 c3 c4 c5 c6 c7 c8))) Q E s := by
  walk_at "M fill"
  show wpAny _ (ktrTop _ _ _ _ (Scope.mk _ _ _ _ _) _ _ _ _ _) (execs (_ :: []) (envX _ (Scope.mk _ _ _ _ _) _ _ _ _)) _ _ _
  k_steps
  (with_reducible rename (_ ∧ _ ∧ AllLt _ led) => l1)
  (with_reducible rename (_ ∧ _ ∧ _ ∧ AllLt _ led) => l2)
  (with_reducible rename News _ _ _ _ => kN)
  have kN1 := news_drop1 kN
  clear kN
  k_here
  k_dflt (refine' storeX_C ?sF kN1 ?sc (UpdF.tail (Nat.ne_of_gt l2.2.1) (UpdF.tail (Nat.ne_of_gt l1.1) (UpdF.head ?u3))) ho3 ?_ ?sa ?sb)
  case sa => rfl
  case sb => rfl
  case sF => k_asm
  case sc => rfl
  case u3 =>
    intro q hq
    rcases List.mem_cons.mp hq with rfl | hq
    · exact h34.symm
    · exact n3 q hq
  intro h2 o3' F2 N2 ho3'
  clear kN1
  k_steps
  k_here
  k_dflt (refine' storeX_C ?tF N2 ?tc (UpdF.tail (Nat.ne_of_gt l2.2.2.1) (UpdF.tail (Nat.ne_of_gt l1.2.1) (UpdF.tail h34 (UpdF.head n4)))) ho4 ?_ ?ta ?tb)
  case ta => rfl
  case tb => rfl
  case tF => k_asm
  case tc => rfl
  intro h3 o4' F3 N3 ho4'
  clear N2
  k_steps
  (with_reducible rename Fr _ _ _ _ => kF5)
  (with_reducible rename News _ _ _ _ => kN5)
  obtain ⟨M5, eM5, F5⟩ := fr_ext kF5
  refine hret _ _ _ _ o3' o4' _ _ ho3' ho4' (ktn_ltOf l1.2.2) (ktn_ltOf l2.2.2.2) (Nat.ne_of_lt l2.1) (Nat.ne_of_gt l1.1) (Nat.ne_of_gt l1.2.1) (Nat.ne_of_gt l2.2.1) (Nat.ne_of_gt l2.2.2.1) (fr_map [Str.ofString "quotes", Str.ofString "run"] F5 (by subst eM5; walk_at "M map1") (by subst eM5; walk_at "M fr2")) (news_sub kN5 ?_)
  intro q hq
  rcases List.mem_cons.mp hq with rfl | hq
  · exact .tail _ (.head _)
  rcases List.mem_cons.mp hq with rfl | hq
  · exact .head _
  · exact .tail _ (.tail _ hq)
end
end
section
theorem lines_D1B_0 : True := by
  walk_at "base"
  k_with "M enter" => ((
    refine wpAny_call ?_
    k_dflt (refine' code_def ?k1 ?k2 ?k3 ?k4 ?k5 ?kA ?kF ?kK ?k6 ?k7 ?k8 ?k9 ?kB ?_ ?c2 ?c3 ?c4 ?c5; (case kA => exact rfl); (case kF => exact rfl); (case kK => assumption); (case k1 => k_asm); (case k2 => k_asm); (case k3 => k_asm); (case k4 => k_asm); (case k5 => k_asm); (case k6 => k_is); (case k7 => k_is); (case k8 => ((try dsimp only); omega)); (case k9 => first | exact BindsTo.of_eq rfl | (refine' kp_binds ?kx ?ke; (case kx => first | (refine' myIn ?kf ?ki; (case kf => with_reducible assumption); (case ki => with_reducible assumption)) | k_in); (case ke => exact fun _ => rfl)) | exact binds_K (by first | (refine' myIn ?kf ?ki; (case kf => with_reducible assumption); (case ki => with_reducible assumption)) | k_in) rfl (by k_is) rfl rfl rfl); (case c5 => decide); (case kB => exact locs rfl); (case c2 => exact rfl); (case c3 => exact rfl); (case c4 => exact rfl); k_whole; intro g' L' h' FG' F' N' B' X' T'; (have D' := kts_dict B' (by assumption) FG' rfl); (try dsimp only); (try k_lift B'); (refine let_AE (f := execs _) ?_; intro vk ak); (refine f_QE ?_; intro qk ek))))
  trivial
theorem lines_D1B_1 : True := by
  k_with "subscriptTail Name Constant ref int" => ((k_here; refine item_tupleT (News.isTup (by assumption) (by k_mem)) (by decide) (by decide) (by rfl) (by rfl) ?_))
  k_with "subscriptTail Name Constant ref int" => ((k_here; (with_reducible rename StrsAre _ _ => hSA); refine item_strsA (News.isList (by assumption) (by k_mem)) hSA (by decide) (by first | omega | (simp only [List.length_map]; omega)) (by decide) ?_; intro t'))
  k_with "call type:ValueError" => ((refine call_ValueError_made ?_; intro _ _ _))
  k_with "exec While Compare Name cons nil" => (refine Hold.mk ?_)
  k_with "exec While Compare" => (refine Hold.mk ?_)
  k_with "exec While Compare cons nil" => (refine Hold.mk ?_)
  k_with "exec While" => (refine Hold.mk ?_)
  k_with "binaryOp FloorDiv int int" => ((k_here; (with_reducible refine floordiv_pos ?kb1 ?kb2 ?_); (case kb1 => decide); (case kb2 => decide +kernel)))
  k_with "WhlIf" => ((refine whlIf_dec ?_ ?_ <;> intro _))
  k_with "subscriptTail Name Name ref int" => ((k_here; first
    | ((with_reducible rename StrsAre _ _ => hSA); refine item_strsA (News.isList (by assumption) (by k_mem)) hSA (by omega) (by omega) (by omega) ?_; intro t')
    | ((with_reducible rename IntsAre _ _ => hSA); refine item_intsA (News.isList (by assumption) (by k_mem)) hSA (by omega) (by omega) (by omega) ?_; intro t')))
  k_with "call builtin:len" => ((k_here; (with_reducible show wpAny _ _ (call (Value.builtin "len") [Value.ref _]) _ _ _); first
    | ((with_reducible rename StrsAre _ _ => hSA); refine len_strsA (News.isList (by assumption) (by k_mem)) hSA (by omega) ?_)
    | ((with_reducible rename IntsAre _ _ => hSA); refine len_intsA (News.isList (by assumption) (by k_mem)) hSA (by omega) ?_)))
  k_with "call ref" => (((with_reducible show wpAny _ _ (call (Value.ref 108) _) _ _ _); refine' port_spec ?kB ?kX ?kT ?kXB ?kTB ?kD ?kh ?kd ?ku ?kF ?kN ?k6 ?kv ?_ ?_; (case kB => assumption); (case kX => assumption); (case kT => assumption); (case kXB => assumption); (case kTB => assumption); (case kD => assumption); (case kh => rfl); (case kd => ((try dsimp only); omega)); (case ku => ((try dsimp only); omega)); (case kF => with_reducible assumption); (case kN => with_reducible assumption); (case k6 => first | exact getD_640 (by assumption) _ | assumption); (case kv => first | assumption | (have q := bis_nv (by assumption) (by assumption) (by assumption); exact q) | (have q := bis_nv ((by assumption : 0 ≤ _ → ∀ msg, _ ≠ _) (by omega)) (by assumption) (by assumption); exact q))))
  k_with "call ref" => (first
    | ((with_reducible show wpAny _ _ (call (Value.ref 32) _ _) _ _ _); refine' bisR_full ?kB ?kX ?kT ?kXB ?kTB ?kD ?kh ?kd ?ku ?kF ?kN ?kra ?kro ?kl ?khi ?khv ?_ ?_; (case kB => assumption); (case kX => assumption); (case kT => assumption); (case kXB => assumption); (case kTB => assumption); (case kD => assumption); (case kh => rfl); (case kd => ((try dsimp only); omega)); (case ku => ((try dsimp only); omega)); (case kF => with_reducible assumption); (case kN => with_reducible assumption); (case kra => k_mem); (case kro => assumption); (case kl => omega); (case khi => assumption); (case khv => first | assumption | (have q := hv_app (by assumption) (by assumption); exact q) | (have q := hv_app (by assumption) rfl; exact q)))
    | ((with_reducible show wpAny _ _ (call (Value.ref 50) _ _) _ _ _); refine' bisL_full ?kB ?kX ?kT ?kXB ?kTB ?kD ?kh ?kd ?ku ?kF ?kN ?kra ?kro ?kl ?khi ?khv ?_ ?_; (case kB => assumption); (case kX => assumption); (case kT => assumption); (case kXB => assumption); (case kTB => assumption); (case kD => assumption); (case kh => rfl); (case kd => ((try dsimp only); omega)); (case ku => ((try dsimp only); omega)); (case kF => with_reducible assumption); (case kN => with_reducible assumption); (case kra => k_mem); (case kro => assumption); (case kl => omega); (case khi => assumption); (case khv => first | assumption | (have q := hv_app (by assumption) (by assumption); exact q) | (have q := hv_app (by assumption) rfl; exact q)))
    | ((with_reducible show wpAny _ _ (call (Value.ref 32) _ _) _ _ _); refine' bisR_four ?kB ?kX ?kT ?kXB ?kTB ?kD ?kh ?kd ?ku ?kF ?kN ?kra ?kro ?kkv ?kl ?khi ?khv ?_ ?_; (case kB => assumption); (case kX => assumption); (case kT => assumption); (case kXB => assumption); (case kTB => assumption); (case kD => assumption); (case kh => rfl); (case kd => ((try dsimp only); omega)); (case ku => ((try dsimp only); omega)); (case kF => with_reducible assumption); (case kN => with_reducible assumption); (case kra => k_mem); (case kro => assumption); (case kkv => rfl); (case kl => omega); (case khi => assumption); (case khv => first | assumption | (have q := hv_app (by assumption) (by assumption); exact q) | (have q := hv_app (by assumption) rfl; exact q)))
    | ((with_reducible show wpAny _ _ (call (Value.ref 50) _ _) _ _ _); refine' bisL_four ?kB ?kX ?kT ?kXB ?kTB ?kD ?kh ?kd ?ku ?kF ?kN ?kra ?kro ?kkv ?kl ?khi ?khv ?_ ?_; (case kB => assumption); (case kX => assumption); (case kT => assumption); (case kXB => assumption); (case kTB => assumption); (case kD => assumption); (case kh => rfl); (case kd => ((try dsimp only); omega)); (case ku => ((try dsimp only); omega)); (case kF => with_reducible assumption); (case kN => with_reducible assumption); (case kra => k_mem); (case kro => assumption); (case kkv => rfl); (case kl => omega); (case khi => assumption); (case khv => first | assumption | (have q := hv_app (by assumption) (by assumption); exact q) | (have q := hv_app (by assumption) rfl; exact q))))
  k_with "call builtin:list.insert" => ((k_here; (with_reducible show wpAny _ _ (call (Value.builtin _) [Value.ref _, Value.int _ _, _]) _ _ _); refine' kl_insert ?F ?N ?f ?e (upd_of (by assumption)) ?z ?_; (case F => with_reducible assumption); (case N => with_reducible assumption); (case f => exact fits_bis (by assumption) (by assumption) (by omega) (by omega)); (case e => rfl); (case z => exact room_vs (by assumption) (by omega)); intro h' F' N'))
  trivial
section
variable {w : World} {p : Program} {loose : List PStr} {mean : ExcName → Option Value} {mg mb : PStr → Option Value}
    {dp un : Nat} {gd : Option (List Code)} {cn : PStr} {cs : Scope} {a : Addr} {ccd : Value} {cl : List (PStr × Addr)} {outer : List Env} {A₀ : Around} {base h₀ : Heap} {L : Addr} {m : PStr → Option Value}
    {s : Shared} {Q E : Value → Shared → Prop} {news : Ldg}
    (B : Below A₀ base outer h₀) (X : (KK.heap_1 w.params).In h₀) (T : Top p loose mean mg mb h₀) (XB : (KK.heap_1 w.params).In base) (TB : Top p loose mean mg mb base) (D : KtsDicts (outer.filterMap (·.frame)) h₀) (hck : cs.kind = .function)
include B X T XB TB D hck
theorem insR_two {ra : Addr} {vs : List Value} {k : Nat → KRes} {nn ep n : Nat} {x : Int} {tx : Tok} {gN : Obj → Ldg} (hd5 : dp + 30 < recursionLimit) (hu5 : un + 200 < cLine) (F : Fr h₀ L s.heap m) (N : News h₀ L s.heap news)
   (U : UpdF ra (lstOf vs ep) news gN) (hrow : RowIs 108 .none vs k nn) (hl : nn ≤ 1000) (hok : bisZ true k x 0 nn = .ok n)
   (hret : ∀ h' tk, Fr h₀ L h' m → News h₀ L h' (gN (lstOf (kl_ins vs n (.int x tx)) (ep + 1))) → Q .none { s with heap := h', toks := tk }) :
   wpAny (model PySem.Challenge.rw_pm0034_01.row.prog w) (ktrTop dp un gd cn cs L a ccd cl outer) (call (.ref 23) [.ref ra, .int x tx] []) Q E s := by
  walk_at "M fill"
  have hrl := hrow.length
  have hra := updF_mem U
  have hhi : HiIs .none nn nn := .inl ⟨rfl, rfl⟩
  have hv0 : 0 ≤ (0 : Int) → ∀ msg, bisZ true k x 0 nn ≠ .error (.value, msg) := fun _ msg e => by rw [hok] at e; cases e
  walk_at "M enter"
  k_steps
  · (show Q _ _)
    (with_reducible rename bisZ true k x 0 nn = .ok _ => hb)
    obtain rfl := Except.ok.inj (hok.symm.trans hb)
    exact hret _ _ (by assumption) (by assumption)
  · (show E _ _)
    (with_reducible rename bisZ true k x 0 nn = .error _ => hb)
    rw [hok] at hb; cases hb
end
section
variable {w : World} {p : Program} {loose : List PStr} {mean : ExcName → Option Value} {mg mb : PStr → Option Value}
    {dp un : Nat} {gd : Option (List Code)} {cn : PStr} {cs : Scope} {a : Addr} {ccd : Value} {cl : List (PStr × Addr)} {outer : List Env} {A₀ : Around} {base h₀ : Heap} {L : Addr} {m : PStr → Option Value}
    {s : Shared} {Q E : Value → Shared → Prop} {news : Ldg}
    (B : Below A₀ base outer h₀) (X : (KK.heap_1 w.params).In h₀) (T : Top p loose mean mg mb h₀) (XB : (KK.heap_1 w.params).In base) (TB : Top p loose mean mg mb base) (D : KtsDicts (outer.filterMap (·.frame)) h₀) (hck : cs.kind = .function)
include B X T XB TB D hck
theorem insL_two {ra : Addr} {vs : List Value} {k : Nat → KRes} {nn ep n : Nat} {x : Int} {tx : Tok} {gN : Obj → Ldg} (hd5 : dp + 30 < recursionLimit) (hu5 : un + 200 < cLine) (F : Fr h₀ L s.heap m) (N : News h₀ L s.heap news)
   (U : UpdF ra (lstOf vs ep) news gN) (hrow : RowIs 108 .none vs k nn) (hl : nn ≤ 1000) (hok : bisZ false k x 0 nn = .ok n)
   (hret : ∀ h' tk, Fr h₀ L h' m → News h₀ L h' (gN (lstOf (kl_ins vs n (.int x tx)) (ep + 1))) → Q .none { s with heap := h', toks := tk }) :
   wpAny (model PySem.Challenge.rw_pm0034_01.row.prog w) (ktrTop dp un gd cn cs L a ccd cl outer) (call (.ref 41) [.ref ra, .int x tx] []) Q E s := by
  walk_at "M fill"
  have hrl := hrow.length
  have hra := updF_mem U
  have hhi : HiIs .none nn nn := .inl ⟨rfl, rfl⟩
  have hv0 : 0 ≤ (0 : Int) → ∀ msg, bisZ false k x 0 nn ≠ .error (.value, msg) := fun _ msg e => by rw [hok] at e; cases e
  walk_at "M enter"
  k_steps
  · (show Q _ _)
    (with_reducible rename bisZ false k x 0 nn = .ok _ => hb)
    obtain rfl := Except.ok.inj (hok.symm.trans hb)
    exact hret _ _ (by assumption) (by assumption)
  · (show E _ _)
    (with_reducible rename bisZ false k x 0 nn = .error _ => hb)
    rw [hok] at hb; cases hb
end
end
section
theorem lines_L1M_0 : True := by
  walk_at "base"
  trivial
theorem lines_L1M_1 : True := by
  k_with "subscriptTail Name Constant ref int" => ((k_here; refine item_tupleT (News.isTup (by assumption) (by k_mem)) (by decide) (by decide) (by rfl) (by rfl) ?_))
  k_with "subscriptTail Name Constant ref int" => ((k_here; (with_reducible rename StrsAre _ _ => hSA); refine item_strsA (News.isList (by assumption) (by k_mem)) hSA (by decide) (by first | omega | (simp only [List.length_map]; omega)) (by decide) ?_; intro t'))
  k_with "call type:ValueError" => ((refine call_ValueError_made ?_; intro _ _ _))
  k_with "exec While Compare Name cons nil" => (refine Hold.mk ?_)
  k_with "exec While Compare" => (refine Hold.mk ?_)
  k_with "exec While Compare cons nil" => (refine Hold.mk ?_)
  k_with "exec While" => (refine Hold.mk ?_)
  k_with "binaryOp FloorDiv int int" => ((k_here; (with_reducible refine floordiv_pos ?kb1 ?kb2 ?_); (case kb1 => decide); (case kb2 => decide +kernel)))
  k_with "WhlIf" => ((refine whlIf_dec ?_ ?_ <;> intro _))
  k_with "subscriptTail Name Name ref int" => ((k_here; first
    | ((with_reducible rename StrsAre _ _ => hSA); refine item_strsA (News.isList (by assumption) (by k_mem)) hSA (by omega) (by omega) (by omega) ?_; intro t')
    | ((with_reducible rename IntsAre _ _ => hSA); refine item_intsA (News.isList (by assumption) (by k_mem)) hSA (by omega) (by omega) (by omega) ?_; intro t')))
  k_with "call builtin:len" => ((k_here; (with_reducible show wpAny _ _ (call (Value.builtin "len") [Value.ref _]) _ _ _); first
    | ((with_reducible rename StrsAre _ _ => hSA); refine len_strsA (News.isList (by assumption) (by k_mem)) hSA (by omega) ?_)
    | ((with_reducible rename IntsAre _ _ => hSA); refine len_intsA (News.isList (by assumption) (by k_mem)) hSA (by omega) ?_)))
  k_with "call ref" => (((with_reducible show wpAny _ _ (call (Value.ref 101) _) _ _ _); refine' parse257_spec ?kB ?kX ?kT ?kXB ?kTB ?kD ?kh ?kd ?ku ?kF ?kN ?kl ?_ ?kx; (case kB => assumption); (case kX => assumption); (case kT => assumption); (case kXB => assumption); (case kTB => assumption); (case kD => assumption); (case kh => rfl); (case kd => ((try dsimp only); omega)); (case ku => ((try dsimp only); omega)); (case kF => with_reducible assumption); (case kN => with_reducible assumption); (case kl => omega); (case kx => (intro k g₂ e t h' tk hk; exact (ok_no (Reads.eq (by with_reducible assumption)) hk).elim)); intro xq tq hq tkq hkq Fq Nq; (have eq := ok_same (Reads.eq (by with_reducible assumption)) hkq); clear hkq; subst eq))
  trivial
theorem lines_L1M_2 : True := by
  k_with "pyIter ref" => ((refine Hold.mk ?_))
  k_with "exec For Name Tuple cons nil" => ((k_here; (refine' For_turns ?lF ?_ ?ls ?lE; (case lF => k_asm); (case ls => (intro x; rfl)); (case lE => assumption)); k_whole))
  k_with "call ref" => (((with_reducible show wpAny _ _ (call (Value.ref 41) _) _ _ _); refine Hold.mk ?_))
  k_with "call ref" => (((with_reducible show wpAny _ _ (call (Value.ref 23) _) _ _ _); refine Hold.mk ?_))
  k_with "compareOp NotEq str str" => ((refine ne_str_of (SameT.eq (by with_reducible assumption)) ?_))
  k_with "M fr2" => ((intro y hy; (repeat (refine (if_neg (ne_of_out hy (by with_unfolding_all rfl))).trans ?_)); (refine Eq.symm ?_); (repeat (refine (if_neg (ne_of_out hy (by with_unfolding_all rfl))).trans ?_)); rfl))
  k_with "call builtin:str.count" => ((k_here; (refine count_QX (by omega) ?_)))
  trivial
structure SameT (x y : PStr) : Prop where
  eq : x = y
structure ZS where
  k : Nat
  bvs : List Value
  be : Nat
  evs : List Value
  ee : Nat
  tq : Tok
  tr : Tok
  jk : PStr → Option Value
noncomputable def zMap (n : Nat) (σ : ZS) : PStr → Option Value := fun y =>
  if y = Str.ofString "quotes" then some (.int ((qT n σ.k : Nat) : Int) σ.tq) else if y = Str.ofString "run" then some (.int ((n / 2 ^ σ.k : Nat) : Int) σ.tr) else σ.jk y
noncomputable def zLed (Bg En : Addr) (nw : Ldg) (σ : ZS) : Ldg := (Bg, lstOf σ.bvs σ.be) :: (En, lstOf σ.evs σ.ee) :: nw
structure ZsC (n : Nat) (jk : PStr → Option Value) (u1 u2 u3 u4 : Tok) (as : List (Nat × Tok)) (σ : ZS) : Prop where
  as : as = (szs u1 u2 u3 u4).drop σ.k
  b : IntsAre σ.bvs (bgT n σ.k)
  e : IntsAre σ.evs (enT n σ.k)
  kle : σ.k ≤ 4
  j : ∀ y, y ∉ [Str.ofString "size", Str.ofString "told", Str.ofString "run", Str.ofString "quotes"] → σ.jk y = jk y
theorem with_szs1 {h₀ h : Heap} {L T : Addr} {l : Ldg} {u1 u2 u3 u4 : Tok} {G : Prop} (N : News h₀ L h ((T, tupOf [.int 1 u1, .int 2 u2, .int 4 u3, .int 8 u4]) :: l))
    (k : ∀ T' v1 v2 v3 v4, T' = T → News h₀ L h ((T', tupOf [.int 1 v1, .int 2 v2, .int 4 v3, .int 8 v4]) :: l) → G) : G := k T u1 u2 u3 u4 rfl N
theorem cnt_tab : ((List.range 16).all fun m => decide (Txt.count (QX m true) (Str.ofString "\"") = m) && decide (Txt.count (QX m false) (Str.ofString "\"") = m)) = true := by decide +kernel
theorem cnt_q {m : Nat} (h : m < 16) (b : Bool) : Txt.count (QX m b) (Str.ofString "\"") = m := by
  have := List.all_eq_true.mp cnt_tab m (List.mem_range.mpr h)
  simp only [Bool.and_eq_true, decide_eq_true_eq] at this
  cases b
  · exact this.2
  · exact this.1
theorem bgT_len (n : Nat) : ∀ k, (bgT n k).length ≤ k ∧ (enT n k).length ≤ k
  | 0 => ⟨Nat.le_refl _, Nat.le_refl _⟩
  | k + 1 => by
    have := bgT_len n k
    unfold bgT enT
    constructor
    · split
      · rw [List.length_cons]; omega
      · omega
    · split
      · rw [List.length_cons]; omega
      · omega
theorem count_QX {prog : Program} {w : World} {A : Around} {E : Value → Shared → Prop} {s : Shared} {m : Nat} {b : Bool} {t u : Tok} {Q : Value → Shared → Prop} (h : m < 16) (hq : Q (.int (m : Int) s.toks) { s with toks := s.toks + 1 }) : wpAny (model prog w) A (call (.builtin "str.count") [.str (QX m b) t, .str (Str.ofString "\"") u]) Q E s :=
  SC.count (by rw [cnt_q h]; exact hq)
theorem par_tab : ((List.range 16).all fun m => !(QX m true == QX m false)) = true := by decide +kernel
theorem par_q {m : Nat} (h : m < 16) (b : Bool) : (QX m b == Txt.mul (Str.ofString "\"") (m : Int)) = !b := by
  rw [mul_q (by omega)]
  have := List.all_eq_true.mp par_tab m (List.mem_range.mpr h)
  cases b
  · simp
  · simpa using this
section
variable {w : World} {p : Program} {loose : List PStr} {mean : ExcName → Option Value} {mg mb : PStr → Option Value}
    {dp un : Nat} {gd : Option (List Code)} {a : Addr} {ccd : Value} {c1 c2 c3 c4 c5 c6 c7 c8 : Addr} {A₀ : Around} {base h₀ : Heap} {L : Addr}
    {s : Shared} {news : Ldg}
    (B : Below A₀ base [] h₀) (X : (KK.heap_1 w.params).In h₀) (T : Top p loose mean mg mb h₀) (XB : (KK.heap_1 w.params).In base) (TB : Top p loose mean mg mb base)
include B X T XB TB
theorem t1_m {n : Nat} {Bg En : Addr} {o3 o4 : Obj} {led : Ldg} {tq tr : Tok} {jk : PStr → Option Value} {Q : Flow → Shared → Prop} {E : Value → Shared → Prop}
   (hd5 : dp + 200 < recursionLimit) (hu5 : un + 2000 < cLine) (hE : PassesOwn (model PySem.Challenge.rw_pm0034_01.row.prog w) (ktrTop dp un gd (Str.ofString "law") lawScope1 L a ccd (cells8 c1 c2 c3 c4 c5 c6 c7 c8) []) (envX (Str.ofString "law") lawScope1 L a ccd (cells8 c1 c2 c3 c4 c5 c6 c7 c8)) E) (hn : n < 16)
   (F : Fr h₀ L s.heap (fun y => if y = Str.ofString "quotes" then some (.int 0 tq) else if y = Str.ofString "run" then some (.int (n : Int) tr) else jk y))
   (N : News h₀ L s.heap ((Bg, lstOf [] 0) :: (En, lstOf [] 0) :: led)) (hBE : @Ne Nat Bg En) (nB : ∀ q ∈ led, q.1 ≠ Bg) (nE : ∀ q ∈ led, q.1 ≠ En)
   (hc3 : (c3, o3) ∈ led) (ho3 : o3.data = .cell (some (.ref Bg))) (hc4 : (c4, o4) ∈ led) (ho4 : o4.data = .cell (some (.ref En)))
   (hret : ∀ (h' : Heap) (tk : Nat) (bvs evs : List Value) (be ee : Nat) (tq' : Tok) (jk' : PStr → Option Value), IntsAre bvs (bgT n 4) → IntsAre evs (enT n 4) → (∀ y, y ∉ [Str.ofString "size", Str.ofString "told", Str.ofString "run", Str.ofString "quotes"] → jk' y = jk y) →
      Fr h₀ L h' (fun y => if y = Str.ofString "quotes" then some (.int ((qT n 4 : Nat) : Int) tq') else jk' y) → News h₀ L h' ((Bg, lstOf bvs be) :: (En, lstOf evs ee) :: led) → Q .next { s with heap := h', toks := tk }) :
   wpAny (model PySem.Challenge.rw_pm0034_01.row.prog w) (ktrTop dp un gd (Str.ofString "law") lawScope1 L a ccd (cells8 c1 c2 c3 c4 c5 c6 c7 c8) []) (execs ((lawStmts1.drop 4).take 1) (envX (Str.ofString "law") lawScope1 L a ccd (cells8 c1 c2 c3 c4 c5 c6 c7 c8))) Q E s := by
  walk_at "M fill"
  have D : KtsDicts (([] : List Env).filterMap (·.frame)) h₀ := fun b hb => nomatch hb
  have hck : lawScope1.kind = .function := by with_unfolding_all rfl
  show wpAny _ (ktrTop _ _ _ _ (Scope.mk _ _ _ _ _) _ _ _ _ _) (execs (_ :: []) (envX _ (Scope.mk _ _ _ _ _) _ _ _ _)) _ _ _
  k_steps
  refine Hold.out ?_
  (with_reducible rename Fr _ _ _ _ => kF)
  (with_reducible rename News _ _ _ _ => kN)
  (with_reducible rename (_ ∧ _ ∧ AllLt _ led) => l3)
  obtain ⟨M0, eM0, F0⟩ := fr_ext kF
  refine with_szs1 kN ?_
  clear kN
  intro T9 u1 u2 u3 u4 eT N0
  subst eT
  refine' pyIter_tupG (fun q : Nat × Tok => .int (q.1 : Int) q.2) (ZsC n jk u1 u2 u3 u4) (zMap n) (zLed Bg En ((T9, tupOf [.int 1 u1, .int 2 u2, .int 4 u3, .int 8 u4]) :: led)) (szs u1 u2 u3 u4) ⟨0, [], 0, [], 0, tq, tr, M0⟩ [Str.ofString "quotes", Str.ofString "run"] ?hv F0 (news_sub N0 ?n9) (.tail _ (.tail _ (.head _))) rfl ?hk ?c0 ?m1 ?m2 rfl ?turn ?done
  case hv => rfl
  case n9 =>
    intro q hq
    rcases List.mem_cons.mp hq with rfl | hq
    · exact .tail _ (.head _)
    rcases List.mem_cons.mp hq with rfl | hq
    · exact .tail _ (.tail _ (.head _))
    rcases List.mem_cons.mp hq with rfl | hq
    · exact .head _
    · exact .tail _ (.tail _ (.tail _ hq))
  case hk => exact fun as σ hC => .tail _ (.tail _ (.head _))
  case c0 =>
    refine ⟨rfl, .nil, .nil, Nat.zero_le 4, fun y hy => ?_⟩
    subst eM0
    dsimp only
    rw [if_neg (ne_of_out hy (by with_unfolding_all rfl)), if_neg (ne_of_out hy (by with_unfolding_all rfl))]
  case m1 =>
    subst eM0
    unfold zMap
    dsimp only
    rw [Nat.pow_zero, Nat.div_one]
    walk_at "M map1"
  case m2 => subst eM0; unfold zMap; walk_at "M fr2"
  case done =>
    rintro ⟨k, bvs, be, evs, ee, tq1, tr1, jk1⟩ h tk hC kF1 kN1
    obtain ⟨has, hb, he, hkl, hj⟩ := hC
    dsimp only at has hb he hkl hj
    unfold zMap at kF1
    unfold zLed at kN1
    dsimp only at kF1 kN1
    have hk : 4 ≤ k := by
      rcases Nat.lt_or_ge k 4 with q | q
      · have := congrArg List.length has
        simp at this
        omega
      · exact q
    have hk4 : k = 4 := Nat.le_antisymm hkl hk
    rw [hk4] at hb he kF1
    k_steps
    refine hret _ _ bvs evs be ee tq1 (fun y => if y = Str.ofString "run" then some (.int ((n / 2 ^ 4 : Nat) : Int) tr1) else jk1 y) hb he (fun y hy => ?_) (by assumption) (news_sub kN1 ?_)
    · rw [if_neg (ne_of_out hy (by with_unfolding_all rfl))]
      exact hj y hy
    · intro q hq
      rcases List.mem_cons.mp hq with rfl | hq
      · exact .head _
      rcases List.mem_cons.mp hq with rfl | hq
      · exact .tail _ (.head _)
      · exact .tail _ (.tail _ (.tail _ hq))
  case turn =>
    rintro ⟨a, ta⟩ as ⟨k, bvs, be, evs, ee, tq1, tr1, jk1⟩ h tk own hC hno kF1 kN1
    obtain ⟨has, hb, he, hkl, hj⟩ := hC
    obtain ⟨hk4, rfl, has3⟩ := szs_at has
    unfold zMap at kF1
    unfold zLed at kN1 hno
    dsimp only at hb he hkl hj hno kF1 kN1
    obtain ⟨r, er⟩ : ∃ r, r = n / 2 ^ k := ⟨_, rfl⟩
    rw [← er] at kF1
    have hr15 : r ≤ 15 := by have := Nat.div_le_self n (2 ^ k); omega
    have er2 : n / 2 ^ (k + 1) = r / 2 := by rw [Nat.pow_succ, ← Nat.div_div_eq_div_mul, ← er]
    have eq1 : ((qT n (k + 1) : Nat) : Int) = ((qT n k : Nat) : Int) + ((r / 2 : Nat) : Int) := by
      show ((qT n k + n / 2 ^ (k + 1) : Nat) : Int) = _
      rw [er2]; exact Int.natCast_add _ _
    have l5 : (Str.ofString "257 \"").length = 5 := by decide +kernel
    have l1 : (Str.ofString "x").length = 1 := by decide +kernel
    have l2 : (Str.ofString "\"").length = 1 := by decide +kernel
    have hrd1 : Reads (Str.ofString "257 \"" ++ Txt.mul (Str.ofString "\"") (r : Int) ++ Str.ofString "x") (QX (r / 2) (decide (r % 2 = 0))) := ⟨by
      rw [mul_q (by omega), PySem.Str.append_assoc, QX_x]; exact read_x r⟩
    have hrd2 : Reads (Str.ofString "257 \"" ++ Txt.mul (Str.ofString "\"") (r : Int)) (QX (r / 2) false) := ⟨by rw [mul_q (by omega)]; exact read_q r⟩
    have hsm : SameT (QX (r / 2) false) (Txt.mul (Str.ofString "\"") ((r : Int) / 2)) := ⟨by rw [show (r : Int) / 2 = ((r / 2 : Nat) : Int) by omega, mul_q (by omega)]⟩
    (show wpAny _ _ (assign _ _ (Value.int ((2 ^ k : Nat) : Int) ta)) _ _ _)
    k_fold
    k_steps
    · (with_reducible rename (_ == Txt.mul _ _) = true => hpq)
      rw [par_q (by omega)] at hpq
      have hodd : r % 2 = 1 := by
        have : ¬ r % 2 = 0 := fun c => by rw [decide_eq_true c] at hpq; cases hpq
        omega
      have hins := ins_at hn hk4 (by rw [← er]; exact hodd)
      rw [er2] at hins
      have ex : ((2 * 2 ^ k * (r / 2) : Nat) : Int) = 2 * ((2 ^ k : Nat) : Int) * ((r / 2 : Nat) : Int) := by rw [Int.natCast_mul, Int.natCast_mul]; rfl
      have ey : ((2 * 2 ^ k * (r / 2) + 2 ^ k : Nat) : Int) = 2 * ((2 ^ k : Nat) : Int) * ((r / 2 : Nat) : Int) + ((2 ^ k : Nat) : Int) := by rw [Int.natCast_add, ex]
      rw [ex, ey] at hins
      refine Hold.out ?_
      refine' insL_two (k := fun i => .ok ((bgT n k).getD i 0)) (nn := (bgT n k).length) ?kB ?kX ?kT ?kXB ?kTB ?kD rfl ?kd ?ku ?kF ?kN (UpdF.tail (Ne.symm (hno _ (.head _))) (UpdF.head ?u1)) (.inr ⟨_, hb, rfl, rfl, rfl⟩) ?kl hins.1 ?_
      case kB => assumption
      case kX => assumption
      case kT => assumption
      case kXB => assumption
      case kTB => assumption
      case kD => assumption
      case kd => ((try dsimp only); omega)
      case ku => ((try dsimp only); omega)
      case kF => with_reducible assumption
      case kN => with_reducible assumption
      case u1 =>
        intro q hq
        rcases List.mem_cons.mp hq with rfl | hq
        · exact hBE.symm
        rcases List.mem_cons.mp hq with rfl | hq
        · exact Nat.ne_of_gt l3.1
        · exact nB q hq
      case kl => have := bgT_len n k; omega
      intro h7 tk7 F7 N7
      rw [kl_ins_nat (n := 0) rfl (Nat.zero_le _)] at N7
      k_steps
      refine Hold.out ?_
      refine' insR_two (k := fun i => .ok ((enT n k).getD i 0)) (nn := (enT n k).length) ?jB ?jX ?jT ?jXB ?jTB ?jD rfl ?jd ?ju ?jF ?jN (UpdF.tail (Ne.symm (hno _ (.tail _ (.head _)))) (UpdF.tail ?u3 (UpdF.head ?u2))) (.inr ⟨_, he, rfl, rfl, rfl⟩) ?jl hins.2 ?_
      case jB => assumption
      case jX => assumption
      case jT => assumption
      case jXB => assumption
      case jTB => assumption
      case jD => assumption
      case jd => ((try dsimp only); omega)
      case ju => ((try dsimp only); omega)
      case jF => with_reducible assumption
      case jN => with_reducible assumption
      case u3 => exact hBE
      case u2 =>
        intro q hq
        rcases List.mem_cons.mp hq with rfl | hq
        · exact Nat.ne_of_gt l3.2.1
        · exact nE q hq
      case jl => have := bgT_len n k; omega
      intro h8 tk8 F8 N8
      rw [kl_ins_nat (n := 0) rfl (Nat.zero_le _)] at N8
      k_steps
      have hbit : n / 2 ^ k % 2 = 1 := by rw [← er]; exact hodd
      (with_reducible rename Fr _ _ _ _ => kF5)
      (with_reducible rename News _ _ _ _ => kN5)
      obtain ⟨M5, eM5, F5⟩ := fr_ext kF5
      refine' turnFr_next ⟨k + 1, _, be + 1, _, ee + 1, _, _, M5⟩ [Str.ofString "quotes", Str.ofString "run"] F5 kN5 ⟨has3, ?jba, ?jea, (show k + 1 ≤ 4 from hk4), ?jja⟩ ?jm1a ?jm2a (fun q hq => hq) ?joa
      case jm1a =>
        subst eM5
        unfold zMap
        dsimp only
        rw [eq1, er2]
        walk_at "M map1"
      case jm2a => subst eM5; unfold zMap; walk_at "M fr2"
      case jja =>
        intro y hy
        subst eM5
        dsimp only
        repeat (refine (if_neg (ne_of_out hy (by with_unfolding_all rfl))).trans ?_)
        exact hj y hy
      case jba =>
        show IntsAre _ (if _ then _ else _)
        rw [if_pos hbit, er2, ex]
        exact .cons _ _ hb
      case jea =>
        show IntsAre _ (if _ then _ else _)
        rw [if_pos hbit, er2, ey]
        exact .cons _ _ he
      case joa =>
        intro q hq
        rcases List.mem_cons.mp hq with rfl | hq
        · exact hno (Bg, lstOf bvs be) (.head _)
        rcases List.mem_cons.mp hq with rfl | hq
        · exact hno (En, lstOf evs ee) (.tail _ (.head _))
        · exact hno q (.tail _ (.tail _ hq))
    · (with_reducible rename (_ == Txt.mul _ _) = false => hpq)
      rw [par_q (by omega)] at hpq
      have hev : ¬ r % 2 = 1 := by
        have : r % 2 = 0 := by
          by_cases c : r % 2 = 0
          · exact c
          · rw [decide_eq_false c] at hpq; cases hpq
        omega
      have hbit : ¬ n / 2 ^ k % 2 = 1 := by rw [← er]; exact hev
      (with_reducible rename Fr _ _ _ _ => kF5)
      (with_reducible rename News _ _ _ _ => kN5)
      obtain ⟨M5, eM5, F5⟩ := fr_ext kF5
      refine' turnFr_next ⟨k + 1, bvs, be, evs, ee, _, _, M5⟩ [Str.ofString "quotes", Str.ofString "run"] F5 kN5 ⟨has3, ?jbb, ?jeb, (show k + 1 ≤ 4 from hk4), ?jjb⟩ ?jm1b ?jm2b (fun q hq => hq) ?job
      case jm1b =>
        subst eM5
        unfold zMap
        dsimp only
        rw [eq1, er2]
        walk_at "M map1"
      case jm2b => subst eM5; unfold zMap; walk_at "M fr2"
      case jjb =>
        intro y hy
        subst eM5
        dsimp only
        repeat (refine (if_neg (ne_of_out hy (by with_unfolding_all rfl))).trans ?_)
        exact hj y hy
      case jbb =>
        show IntsAre _ (if _ then _ else _)
        rw [if_neg hbit]
        exact hb
      case jeb =>
        show IntsAre _ (if _ then _ else _)
        rw [if_neg hbit]
        exact he
      case job =>
        intro q hq
        rcases List.mem_cons.mp hq with rfl | hq
        · exact hno (Bg, lstOf bvs be) (.head _)
        rcases List.mem_cons.mp hq with rfl | hq
        · exact hno (En, lstOf evs ee) (.tail _ (.head _))
        · exact hno q (.tail _ (.tail _ hq))
end
end
section
theorem lines_L1Z_0 : True := by
  walk_at "base"
  k_with "M sub" => ((
    (repeat' (with_reducible first | refine sub_cons ?_ ?_ | refine sub_app ?_ ?_ | exact sub_nil9))
    (all_goals (repeat (with_reducible first | exact sub_self9 | exact sub_l sub_self9 | exact List.mem_cons_self | refine sub_tl ?_ | refine sub_r ?_ | refine List.mem_cons_of_mem _ ?_ | refine List.mem_append_right _ ?_)))))
  trivial
theorem lines_L1Z_1 : True := by
  k_with "subscriptTail Name Constant ref int" => ((k_here; refine item_tupleT (News.isTup (by assumption) (by k_mem)) (by decide) (by decide) (by rfl) (by rfl) ?_))
  k_with "subscriptTail Name Constant ref int" => ((k_here; (with_reducible rename StrsAre _ _ => hSA); refine item_strsA (News.isList (by assumption) (by k_mem)) hSA (by decide) (by first | omega | (simp only [List.length_map]; omega)) (by decide) ?_; intro t'))
  k_with "call type:ValueError" => ((refine call_ValueError_made ?_; intro _ _ _))
  k_with "exec While Compare Name cons nil" => (refine Hold.mk ?_)
  k_with "exec While Compare" => (refine Hold.mk ?_)
  k_with "exec While Compare cons nil" => (refine Hold.mk ?_)
  k_with "exec While" => (refine Hold.mk ?_)
  k_with "binaryOp FloorDiv int int" => ((k_here; (with_reducible refine floordiv_pos ?kb1 ?kb2 ?_); (case kb1 => decide); (case kb2 => decide +kernel)))
  k_with "WhlIf" => ((refine whlIf_dec ?_ ?_ <;> intro _))
  k_with "subscriptTail Name Name ref int" => ((k_here; first
    | ((with_reducible rename StrsAre _ _ => hSA); refine item_strsA (News.isList (by assumption) (by k_mem)) hSA (by omega) (by omega) (by omega) ?_; intro t')
    | ((with_reducible rename IntsAre _ _ => hSA); refine item_intsA (News.isList (by assumption) (by k_mem)) hSA (by omega) (by omega) (by omega) ?_; intro t')))
  k_with "call builtin:len" => ((k_here; (with_reducible show wpAny _ _ (call (Value.builtin "len") [Value.ref _]) _ _ _); first
    | ((with_reducible rename StrsAre _ _ => hSA); refine len_strsA (News.isList (by assumption) (by k_mem)) hSA (by omega) ?_)
    | ((with_reducible rename IntsAre _ _ => hSA); refine len_intsA (News.isList (by assumption) (by k_mem)) hSA (by omega) ?_)))
  k_with "M fr2" => ((intro y hy; (repeat (refine (if_neg (ne_of_out hy (by with_unfolding_all rfl))).trans ?_)); (refine Eq.symm ?_); (repeat (refine (if_neg (ne_of_out hy (by with_unfolding_all rfl))).trans ?_)); rfl))
  trivial
theorem gt_ne {a b : Addr} (h : @LT.lt Nat _ a b) : b ≠ a := Nat.ne_of_gt h
theorem lt_neA {a b : Addr} (h : @LT.lt Nat _ a b) : a ≠ b := Nat.ne_of_lt h
section
variable {w : World} {p : Program} {loose : List PStr} {mean : ExcName → Option Value} {mg mb : PStr → Option Value}
    {dp un : Nat} {gd : Option (List Code)} {a : Addr} {ccd : Value} {c1 c2 c3 c4 c5 c6 c7 c8 : Addr} {A₀ : Around} {base h₀ : Heap} {L : Addr}
    {s : Shared} {news : Ldg}
    (B : Below A₀ base [] h₀) (X : (KK.heap_1 w.params).In h₀) (T : Top p loose mean mg mb h₀) (XB : (KK.heap_1 w.params).In base) (TB : Top p loose mean mg mb base)
include B X T XB TB
theorem law1_end {n : Nat} {W Bd C : Addr} {wvs bvs cvs : List Value} {we be ce : Nat} {o1 o2 o3 o4 o5 o6 o7 o8 : Obj} {pp : Nat → Int} {rep : Nat → PStr} {led : Ldg} {tb : Array Value} {tm : Tok} {jk : PStr → Option Value} {Q : Flow → Shared → Prop} {E : Value → Shared → Prop}
   (hd5 : dp + 200 < recursionLimit) (hu5 : un + 2000 < cLine) (hE : PassesOwn (model PySem.Challenge.rw_pm0034_01.row.prog w) (ktrTop dp un gd (Str.ofString "law") lawScope1 L a ccd (cells8 c1 c2 c3 c4 c5 c6 c7 c8) []) (envX (Str.ofString "law") lawScope1 L a ccd (cells8 c1 c2 c3 c4 c5 c6 c7 c8)) E) (hn : n < 16) (hn0 : 0 < n)
   (F : Fr h₀ L s.heap (fun y => if y = Str.ofString "merges" then some (.int ((sumTz n : Nat) : Int) tm) else if y = Str.ofString "bare" then some (.ref Bd) else jk y))
   (N : News h₀ L s.heap ((c3, o3) :: (c4, o4) :: (c5, o5) :: (c6, o6) :: (c7, o7) :: (c8, o8) :: led))
   (ho3 : o3.data = .cell none) (ho4 : o4.data = .cell none) (ho5 : o5.data = .cell none) (ho6 : o6.data = .cell none) (ho7 : o7.data = .cell none) (ho8 : o8.data = .cell none)
   (l34 : @LT.lt Nat _ c3 c4) (l45 : @LT.lt Nat _ c4 c5) (l56 : @LT.lt Nat _ c5 c6) (l67 : @LT.lt Nat _ c6 c7) (l78 : @LT.lt Nat _ c7 c8)
   (n3 : ∀ q ∈ led, q.1 ≠ c3) (n4 : ∀ q ∈ led, q.1 ≠ c4) (n5 : ∀ q ∈ led, q.1 ≠ c5) (n6 : ∀ q ∈ led, q.1 ≠ c6) (n7 : ∀ q ∈ led, q.1 ≠ c7) (n8 : ∀ q ∈ led, q.1 ≠ c8)
   (hc1 : (c1, o1) ∈ led) (ho1 : o1.data = .cell (some (.ref W))) (hc2 : (c2, o2) ∈ led) (ho2 : o2.data = .cell (some (.ref C)))
   (hW : (W, lstOf wvs we) ∈ led) (hB : (Bd, lstOf bvs be) ∈ led) (hC : (C, lstOf cvs ce) ∈ led) (hCw : CameW pp rep n cvs led) (hr : RepG pp rep n) (inj : ∀ i j, i < n → j < n → rep i = rep j → i = j) (hRW : RowW pp rep (.ref 108) (blk pp n) wvs) (hRB : RowW pp rep .none (blk pp n) bvs) (h131 : (131, tabObj tb) ∈ led)
   (hret : ∀ h' tk m' l', Fr h₀ L h' m' → News h₀ L h' l' → (131, tabObj tb) ∈ l' → Q (.ret (.bool true)) { s with heap := h', toks := tk }) :
   wpAny (model PySem.Challenge.rw_pm0034_01.row.prog w) (ktrTop dp un gd (Str.ofString "law") lawScope1 L a ccd (cells8 c1 c2 c3 c4 c5 c6 c7 c8) []) (execs (lawStmts1.drop 3) (envX (Str.ofString "law") lawScope1 L a ccd (cells8 c1 c2 c3 c4 c5 c6 c7 c8))) Q E s := by
  have l35 := Nat.lt_trans l34 l45
  have l36 := Nat.lt_trans l35 l56
  have l37 := Nat.lt_trans l36 l67
  have l38 := Nat.lt_trans l37 l78
  have l46 := Nat.lt_trans l45 l56
  have l47 := Nat.lt_trans l46 l67
  have l48 := Nat.lt_trans l47 l78
  have l57 := Nat.lt_trans l56 l67
  have l58 := Nat.lt_trans l57 l78
  have l68 := Nat.lt_trans l67 l78
  have hcl := hCw.len
  have hbl : (blk pp n).length = n := blk_len n hn
  have hwl : wvs.length = n := by rw [hRW.len, hbl]
  have hbvl : bvs.length = n := by rw [hRB.len, hbl]
  obtain ⟨M0, eM0, F0⟩ := fr_ext F
  refine chunk_W 1 ?_
  refine t1_l B X T XB TB (C := C) (cvs := cvs) (jk := M0) hd5 hu5 F0 N ho3 ho4 (lt_neA l34) ?a3 ?a4 (.tail _ (.tail _ (.tail _ (.tail _ hc2)))) ho2 (.tail _ (.tail _ (.tail _ (.tail _ hC)))) (by omega) ?_
  case a3 =>
    intro q hq
    simp only [List.mem_cons] at hq
    rcases hq with rfl | rfl | rfl | rfl | hq
    · exact gt_ne l35
    · exact gt_ne l36
    · exact gt_ne l37
    · exact gt_ne l38
    · exact n3 q hq
  case a4 =>
    intro q hq
    simp only [List.mem_cons] at hq
    rcases hq with rfl | rfl | rfl | rfl | hq
    · exact gt_ne l45
    · exact gt_ne l46
    · exact gt_ne l47
    · exact gt_ne l48
    · exact n4 q hq
  intro h1 k1 Bg En o3' o4' tq tr ho3' ho4' lBg lEn nBE nB3 nB4 nE3 nE4 F1 N1
  rw [hcl] at F1
  show wpAny (model PySem.Challenge.rw_pm0034_01.row.prog w) (ktrTop dp un gd (Str.ofString "law") lawScope1 L a ccd (cells8 c1 c2 c3 c4 c5 c6 c7 c8) []) (execs (lawStmts1.drop 4) (envX (Str.ofString "law") lawScope1 L a ccd (cells8 c1 c2 c3 c4 c5 c6 c7 c8))) Q E _
  refine chunk_W 1 ?_
  refine t1_m B X T XB TB (n := n) (Bg := Bg) (En := En) (jk := M0) hd5 hu5 hE hn F1 N1 nBE ?b3 ?b4 (.head _) ho3' (.tail _ (.head _)) ho4' ?_
  case b3 =>
    intro q hq
    rcases List.mem_cons.mp hq with rfl | hq
    · exact nB3.symm
    rcases List.mem_cons.mp hq with rfl | hq
    · exact nB4.symm
    · exact lt_neA (lBg q hq)
  case b4 =>
    intro q hq
    rcases List.mem_cons.mp hq with rfl | hq
    · exact nE3.symm
    rcases List.mem_cons.mp hq with rfl | hq
    · exact nE4.symm
    · exact lt_neA (lEn q hq)
  intro h2 k2 gvs evs ge ee tq' jk2 hgi hei hj2 F2 N2
  show wpAny (model PySem.Challenge.rw_pm0034_01.row.prog w) (ktrTop dp un gd (Str.ofString "law") lawScope1 L a ccd (cells8 c1 c2 c3 c4 c5 c6 c7 c8) []) (execs (lawStmts1.drop 5) (envX (Str.ofString "law") lawScope1 L a ccd (cells8 c1 c2 c3 c4 c5 c6 c7 c8))) Q E _
  have F2' : Fr h₀ L h2 (fun y => if y = Str.ofString "quotes" then some (.int ((qT n 4 : Nat) : Int) tq') else if y = Str.ofString "merges" then some (.int ((sumTz n : Nat) : Int) tm) else if y = Str.ofString "bare" then some (.ref Bd) else jk2 y) := by
    refine fr_to F2 (fun y => ?_)
    by_cases q1 : y = Str.ofString "quotes"
    · rw [if_pos q1, if_pos q1]
    rw [if_neg q1, if_neg q1]
    by_cases q2 : y = Str.ofString "merges"
    · rw [if_pos q2, q2, hj2 _ (by decide +kernel), eM0]; rfl
    rw [if_neg q2]
    by_cases q3 : y = Str.ofString "bare"
    · rw [if_pos q3, q3, hj2 _ (by decide +kernel), eM0]; rfl
    rw [if_neg q3]
  refine chunk_W 3 ?_
  refine t1_n B X T XB TB (n := n) (W := W) (Bd := Bd) (C := C) (Bg := Bg) (En := En) (jk := jk2) hd5 hu5 hn F2' N2 (.tail _ (.tail _ (.tail _ (.tail _ (.tail _ (.tail _ (.tail _ (.tail _ hc1)))))))) ho1 (.tail _ (.tail _ (.tail _ (.tail _ (.tail _ (.tail _ (.tail _ (.tail _ hc2)))))))) ho2 (.tail _ (.tail _ (.head _))) ho3' (.tail _ (.tail _ (.tail _ (.head _)))) ho4'
    (.tail _ (.tail _ (.tail _ (.tail _ (.tail _ (.tail _ (.tail _ (.tail _ hW)))))))) (.tail _ (.tail _ (.tail _ (.tail _ (.tail _ (.tail _ (.tail _ (.tail _ hB)))))))) (.tail _ (.tail _ (.tail _ (.tail _ (.tail _ (.tail _ (.tail _ (.tail _ hC)))))))) (.head _) (.tail _ (.head _)) (by omega) (by omega) hcl hgi hei ?_
  intro h3 k3 Sp Kp Kw Kb svs e1 e2 e3 tups hT hlt F3 N3
  show wpAny (model PySem.Challenge.rw_pm0034_01.row.prog w) (ktrTop dp un gd (Str.ofString "law") lawScope1 L a ccd (cells8 c1 c2 c3 c4 c5 c6 c7 c8) []) (execs (lawStmts1.drop 8) (envX (Str.ofString "law") lawScope1 L a ccd (cells8 c1 c2 c3 c4 c5 c6 c7 c8))) Q E _
  obtain ⟨M3, eM3, F3⟩ := fr_ext F3
  have front : ∀ (c : Addr), c = c5 ∨ c = c6 ∨ c = c7 ∨ c = c8 → ∀ q ∈ (Kp, lstOf [.ref Kw, .ref Kb] 0) :: (Kb, lstOf bvs e3) :: (Kw, lstOf wvs e2) :: (tups ++ [(Sp, lstOf svs e1)]), q.1 ≠ c := by
    intro c hc q hq
    rcases hc with rfl | rfl | rfl | rfl
    · exact gt_ne (hlt q hq (_, o5) (.tail _ (.tail _ (.tail _ (.tail _ (.head _))))))
    · exact gt_ne (hlt q hq (_, o6) (.tail _ (.tail _ (.tail _ (.tail _ (.tail _ (.head _)))))))
    · exact gt_ne (hlt q hq (_, o7) (.tail _ (.tail _ (.tail _ (.tail _ (.tail _ (.tail _ (.head _))))))))
    · exact gt_ne (hlt q hq (_, o8) (.tail _ (.tail _ (.tail _ (.tail _ (.tail _ (.tail _ (.tail _ (.head _)))))))))
  generalize hfr : (Kp, lstOf [.ref Kw, .ref Kb] 0) :: (Kb, lstOf bvs e3) :: (Kw, lstOf wvs e2) :: (tups ++ [(Sp, lstOf svs e1)]) = fro at front
  have iKp : (Kp, lstOf [.ref Kw, .ref Kb] 0) ∈ fro := by rw [← hfr]; exact .head _
  have iKb : (Kb, lstOf bvs e3) ∈ fro := by rw [← hfr]; exact .tail _ (.head _)
  have iKw : (Kw, lstOf wvs e2) ∈ fro := by rw [← hfr]; exact .tail _ (.tail _ (.head _))
  have iSp : (Sp, lstOf svs e1) ∈ fro := by rw [← hfr]; exact .tail _ (.tail _ (.tail _ (List.mem_append_right _ (.head _))))
  have iT : ∀ q ∈ tups, q ∈ fro := fun q hq => by rw [← hfr]; exact .tail _ (.tail _ (.tail _ (List.mem_append_left _ hq)))
  have N3' : News h₀ L h3 (fro ++ (Bg, lstOf gvs ge) :: (En, lstOf evs ee) :: (c3, o3') :: (c4, o4') :: (c5, o5) :: (c6, o6) :: (c7, o7) :: (c8, o8) :: led) := by
    refine news_sub N3 ?_
    rw [← hfr]
    intro q hq
    simpa [List.append_assoc] using hq
  clear N3 hlt
  have backOf : ∀ (c : Addr), (∀ q ∈ fro, q.1 ≠ c) → Bg ≠ c → En ≠ c → c3 ≠ c → c4 ≠ c → (∀ q ∈ led, q.1 ≠ c) → ∀ q ∈ fro ++ (Bg, lstOf gvs ge) :: (En, lstOf evs ee) :: (c3, o3') :: (c4, o4') :: led, q.1 ≠ c := by
    intro c h1 h2 h3 h4 h5 h6 q hq
    rcases List.mem_append.mp hq with hq | hq
    · exact h1 q hq
    rcases List.mem_cons.mp hq with rfl | hq
    · exact h2
    rcases List.mem_cons.mp hq with rfl | hq
    · exact h3
    rcases List.mem_cons.mp hq with rfl | hq
    · exact h4
    rcases List.mem_cons.mp hq with rfl | hq
    · exact h5
    · exact h6 q hq
  have x5 := backOf c5 (front c5 (.inl rfl)) (gt_ne (lBg _ (.head _))) (gt_ne (lEn _ (.head _))) (lt_neA l35) (lt_neA l45) n5
  have x6 := backOf c6 (front c6 (.inr (.inl rfl))) (gt_ne (lBg _ (.tail _ (.head _)))) (gt_ne (lEn _ (.tail _ (.head _)))) (lt_neA l36) (lt_neA l46) n6
  have x7 := backOf c7 (front c7 (.inr (.inr (.inl rfl)))) (gt_ne (lBg _ (.tail _ (.tail _ (.head _))))) (gt_ne (lEn _ (.tail _ (.tail _ (.head _))))) (lt_neA l37) (lt_neA l47) n7
  have x8 := backOf c8 (front c8 (.inr (.inr (.inr rfl)))) (gt_ne (lBg _ (.tail _ (.tail _ (.tail _ (.head _)))))) (gt_ne (lEn _ (.tail _ (.tail _ (.tail _ (.head _)))))) (lt_neA l38) (lt_neA l48) n8
  have N4 : News h₀ L h3 ((c5, o5) :: (c6, o6) :: (c7, o7) :: (c8, o8) :: (fro ++ (Bg, lstOf gvs ge) :: (En, lstOf evs ee) :: (c3, o3') :: (c4, o4') :: led)) := by
    refine news_sub N3' ?_
    walk_at "M sub"
  clear N3' front backOf
  generalize hbk : fro ++ (Bg, lstOf gvs ge) :: (En, lstOf evs ee) :: (c3, o3') :: (c4, o4') :: led = bk at *
  have uf : ∀ q ∈ fro, q ∈ bk := fun q hq => by rw [← hbk]; exact List.mem_append_left _ hq
  have ub : ∀ q ∈ led, q ∈ bk := fun q hq => by rw [← hbk]; exact List.mem_append_right _ (.tail _ (.tail _ (.tail _ (.tail _ hq))))
  have uBg : (Bg, lstOf gvs ge) ∈ bk := by rw [← hbk]; exact List.mem_append_right _ (.head _)
  have uEn : (En, lstOf evs ee) ∈ bk := by rw [← hbk]; exact List.mem_append_right _ (.tail _ (.head _))
  have u3 : (c3, o3') ∈ bk := by rw [← hbk]; exact List.mem_append_right _ (.tail _ (.tail _ (.head _)))
  have u4 : (c4, o4') ∈ bk := by rw [← hbk]; exact List.mem_append_right _ (.tail _ (.tail _ (.tail _ (.head _))))
  have cons8 : ∀ {c : Addr} {o : Obj}, (c, o) ∈ bk → (c, o) ∈ (c8, o8) :: bk := fun h => .tail _ h
  have put8 : ∀ {c : Addr}, c8 ≠ c → (∀ q ∈ bk, q.1 ≠ c) → ∀ q ∈ (c8, o8) :: bk, q.1 ≠ c := fun h1 h2 q hq => by
    rcases List.mem_cons.mp hq with rfl | hq
    · exact h1
    · exact h2 q hq
  refine chunk_W 1 ?_
  refine t1_s B X T XB TB (n := n) (W := W) (Bd := Bd) (C := C) (Sp := Sp) (pp := pp) (rep := rep) (jk := M3) hd5 hu5 hE hn (fr_map [Str.ofString "spans", Str.ofString "bare"] F3 (by subst eM3; walk_at "M map1") (by walk_at "M fr2")) N4 (lt_neA l56) (lt_neA l57) (lt_neA l67) (put8 (gt_ne l58) x5) (put8 (gt_ne l68) x6) (put8 (gt_ne l78) x7) ho5 ho6 ho7
    (cons8 (ub _ hc1)) ho1 (cons8 (ub _ hc2)) ho2 (cons8 (ub _ hW)) (cons8 (ub _ hB)) (cons8 (ub _ hC)) (hCw.mono fun q hq => .tail _ (ub q hq)) hr hRW hRB (cons8 (uf _ iSp)) (hT.mono fun q hq => .tail _ (uf _ (iT q hq))) hgi hei ?_
  intro h4 k4 o5' o6' o7' jk4 hj4 F4 N5
  show wpAny (model PySem.Challenge.rw_pm0034_01.row.prog w) (ktrTop dp un gd (Str.ofString "law") lawScope1 L a ccd (cells8 c1 c2 c3 c4 c5 c6 c7 c8) []) (execs (lawStmts1.drop 9) (envX (Str.ofString "law") lawScope1 L a ccd (cells8 c1 c2 c3 c4 c5 c6 c7 c8))) Q E _
  obtain ⟨M4, eM4, F4⟩ := fr_ext F4
  have N6 : News h₀ L h4 ((c8, o8) :: (c5, o5') :: (c6, o6') :: (c7, o7') :: bk) := by
    refine news_sub N5 ?_
    walk_at "M sub"
  have up : ∀ q ∈ bk, q ∈ (c5, o5') :: (c6, o6') :: (c7, o7') :: bk := fun q hq => .tail _ (.tail _ (.tail _ hq))
  have hSW : StrsAre wvs ((blk pp n).map rep) := by
    rcases hRW with ⟨_, h⟩ | ⟨e, _⟩
    · exact h
    · cases e
  have hSB : IntsAre bvs ((blk pp n).map pp) := by
    rcases hRB with ⟨e, _⟩ | ⟨_, h⟩
    · cases e
    · exact h
  refine chunk_W 1 ?_
  refine t1_v B X T XB TB (n := n) (W := W) (C := C) (Bg := Bg) (En := En) (pp := pp) (rep := rep) (jk := M4) hd5 hu5 hE hn inj F4 N6 ?d8 ho8 (up _ (ub _ hc1)) ho1 (up _ (ub _ hc2)) ho2 (up _ u3) ho3' (up _ u4) ho4' (up _ (ub _ hW)) (up _ (ub _ hC)) (hCw.mono fun q hq => up q (ub q hq)) (up _ uBg) (up _ uEn) hSW hgi hei ?_
  case d8 =>
    intro q hq
    rcases List.mem_cons.mp hq with rfl | hq
    · exact lt_neA l58
    rcases List.mem_cons.mp hq with rfl | hq
    · exact lt_neA l68
    rcases List.mem_cons.mp hq with rfl | hq
    · exact lt_neA l78
    · exact x8 q hq
  intro h5 k5 o8' jk5 hj5 F5 N7
  show wpAny (model PySem.Challenge.rw_pm0034_01.row.prog w) (ktrTop dp un gd (Str.ofString "law") lawScope1 L a ccd (cells8 c1 c2 c3 c4 c5 c6 c7 c8) []) (execs (lawStmts1.drop 10) (envX (Str.ofString "law") lawScope1 L a ccd (cells8 c1 c2 c3 c4 c5 c6 c7 c8))) Q E _
  have F5' : Fr h₀ L h5 (dM Kp Bd jk5) := by
    refine fr_to F5 (fun y => ?_)
    unfold dM
    by_cases q1 : y = Str.ofString "kept"
    · rw [if_pos q1, q1, hj5 _ (by decide +kernel), eM4]
      show jk4 (Str.ofString "kept") = _
      rw [hj4 _ (by decide +kernel), eM3]; rfl
    rw [if_neg q1]
    by_cases q2 : y = Str.ofString "bare"
    · rw [if_pos q2, q2, hj5 _ (by decide +kernel), eM4]; rfl
    rw [if_neg q2]
  have up2 : ∀ q ∈ bk, q ∈ (c8, o8') :: (c5, o5') :: (c6, o6') :: (c7, o7') :: bk := fun q hq => .tail _ (up q hq)
  refine chunk_W 1 ?_
  refine t1_y B X T XB TB (n := n) (W := W) (Bd := Bd) (Kp := Kp) (Kw := Kw) (Kb := Kb) (pp := pp) (rep := rep) (jk := jk5) hd5 hu5 hE hn hn0 F5' N7 (up2 _ (ub _ hc1)) ho1 (up2 _ (ub _ hW)) (up2 _ (ub _ hB)) hr hRW hRB (up2 _ (uf _ iKp)) (up2 _ (uf _ iKw)) (up2 _ (uf _ iKb)) hSW hSB ?_
  intro h6 k6 jk6 F6 N8
  show wpAny (model PySem.Challenge.rw_pm0034_01.row.prog w) (ktrTop dp un gd (Str.ofString "law") lawScope1 L a ccd (cells8 c1 c2 c3 c4 c5 c6 c7 c8) []) (execs (lawStmts1.drop 11) (envX (Str.ofString "law") lawScope1 L a ccd (cells8 c1 c2 c3 c4 c5 c6 c7 c8))) Q E _
  have fin := fun tk => hret h6 tk _ _ F6 N8 (up2 _ (ub _ h131))
  show wpAny _ (ktrTop _ _ _ _ (Scope.mk _ _ _ _ _) _ _ _ _ _) (execs (_ :: []) (envX _ (Scope.mk _ _ _ _ _) _ _ _ _)) _ _ _
  k_steps
  exact fin _
end
end
section
theorem lines_YS_0 : True := by
  walk_at "base"
  k_with "M enter" => ((
    refine wpAny_call ?_
    k_dflt (refine' code_def ?k1 ?k2 ?k3 ?k4 ?k5 ?kA ?kF ?kK ?k6 ?k7 ?k8 ?k9 ?kB ?_ ?c2 ?c3 ?c4 ?c5; (case kA => exact rfl); (case kF => exact rfl); (case kK => assumption); (case k1 => k_asm); (case k2 => k_asm); (case k3 => k_asm); (case k4 => k_asm); (case k5 => k_asm); (case k6 => k_is); (case k7 => k_is); (case k8 => ((try dsimp only); omega)); (case k9 => first | exact BindsTo.of_eq rfl | (refine' kp_binds ?kx ?ke; (case kx => first | (refine' myIn ?kf ?ki; (case kf => with_reducible assumption); (case ki => with_reducible assumption)) | k_in); (case ke => exact fun _ => rfl)) | exact binds_K (by first | (refine' myIn ?kf ?ki; (case kf => with_reducible assumption); (case ki => with_reducible assumption)) | k_in) rfl (by k_is) rfl rfl rfl); (case c5 => decide); (case kB => exact locs rfl); (case c2 => exact rfl); (case c3 => exact rfl); (case c4 => exact rfl); k_whole; intro g' L' h' FG' F' N' B' X' T'; (have D' := kts_dict B' (by assumption) FG' rfl); (try dsimp only); (try k_lift B'); (refine let_AE (f := execs _) ?_; intro vk ak); (refine f_QE ?_; intro qk ek))))
  trivial
theorem lines_YS_1 : True := by
  k_with "subscriptTail Name Constant ref int" => ((k_here; refine item_tupleT (News.isTup (by assumption) (by k_mem)) (by decide) (by decide) (by rfl) (by rfl) ?_))
  k_with "subscriptTail Name Constant ref int" => ((k_here; (with_reducible rename StrsAre _ _ => hSA); refine item_strsA (News.isList (by assumption) (by k_mem)) hSA (by decide) (by first | omega | (simp only [List.length_map]; omega)) (by decide) ?_; intro t'))
  k_with "call type:ValueError" => ((refine call_ValueError_made ?_; intro _ _ _))
  k_with "exec While Compare Name cons nil" => (refine Hold.mk ?_)
  k_with "exec While Compare" => (refine Hold.mk ?_)
  k_with "exec While Compare cons nil" => (refine Hold.mk ?_)
  k_with "exec While" => (refine Hold.mk ?_)
  k_with "binaryOp FloorDiv int int" => ((k_here; (with_reducible refine floordiv_pos ?kb1 ?kb2 ?_); (case kb1 => decide); (case kb2 => decide +kernel)))
  k_with "WhlIf" => ((refine whlIf_dec ?_ ?_ <;> intro _))
  k_with "subscriptTail Name Name ref int" => ((k_here; first
    | ((with_reducible rename StrsAre _ _ => hSA); refine item_strsA (News.isList (by assumption) (by k_mem)) hSA (by omega) (by omega) (by omega) ?_; intro t')
    | ((with_reducible rename IntsAre _ _ => hSA); refine item_intsA (News.isList (by assumption) (by k_mem)) hSA (by omega) (by omega) (by omega) ?_; intro t')))
  k_with "call builtin:len" => ((k_here; (with_reducible show wpAny _ _ (call (Value.builtin "len") [Value.ref _]) _ _ _); first
    | ((with_reducible rename StrsAre _ _ => hSA); refine len_strsA (News.isList (by assumption) (by k_mem)) hSA (by omega) ?_)
    | ((with_reducible rename IntsAre _ _ => hSA); refine len_intsA (News.isList (by assumption) (by k_mem)) hSA (by omega) ?_)))
  k_with "binaryOp Add str str" => ((k_here; (with_reducible show wpAny _ _ (binaryOp Operator.Add (Value.str _ _) (Value.str _ _)) _ _ _); refine add_lb (K := 800000) (L := 800000) ?kb ?kd ?ke ?_; (case kb => omega); (case kd => omega); (case ke => decide); intro _ _ hk hl; (try dsimp only at hk)))
  k_with "call builtin:str.replace" => ((k_here; (with_reducible show wpAny _ _ (call (Value.builtin "str.replace") [Value.str _ _, Value.str _ _, Value.str _ _]) _ _ _); refine rep_dbl ?a1 ?a2 ?a3 ?a4 ?_; (case a1 => ((show @Ne Nat _ _); first | omega | ((try dsimp only); omega))); (case a2 => ((show @Ne Nat _ _); first | omega | ((try dsimp only); omega))); (case a3 => ((show @Ne Nat _ _); first | omega | ((try dsimp only); omega))); (case a4 => omega); intro _ _ hk hr; (try dsimp only at hk)))
  k_with "binaryOp Add str str" => ((k_here; (with_reducible show wpAny _ _ (binaryOp Operator.Add (Value.str _ _) (Value.str (Txt.slice _ _ _) _)) _ _ _); refine add_lb (K := 800000) (L := 800000) ?kb ?kd ?ke ?_; (case kb => omega); (case kd => exact Nat.le_trans (Txt.slice_le _ _ _) (by omega)); (case ke => decide); intro _ _ hk hl; (try dsimp only at hk)))
  k_with "exec If" => (((fail_if_success (with_reducible show wpAny _ _ _ (TokGe _ _) _ _)); refine tok_wrap (Nat.le_refl _) ?_))
  k_with "eval Subscript" => (((fail_if_success (with_reducible show wpAny _ _ _ (TokGe _ _) _ _)); refine tok_wrap (Nat.le_refl _) ?_))
  k_with "TokGe" => ((intro hk; (try dsimp only at hk)))
  k_with "exec Assign" => (((fail_if_success (with_reducible show wpAny _ _ _ (TokGe _ _) _ _)); refine tok_wrap (Nat.le_refl _) ?_))
  k_with "exec Expr" => (((fail_if_success (with_reducible show wpAny _ _ _ (TokGe _ _) _ _)); refine tok_wrap (Nat.le_refl _) ?_))
  k_with "call builtin:list.extend" => ((refine Hold.mk ?_))
  k_with "call builtin:str.replace" => ((k_here; (with_reducible show wpAny _ _ (call (Value.builtin "str.replace") [Value.str _ _, Value.str _ _, Value.str _ _]) _ _ _); refine' rep_lb ?a1 ?a2 ?a3 ?a4 ?a5 ?a6 ?_; (case a1 => ((show @Ne Nat _ _); first | omega | ((try dsimp only); omega))); (case a2 => ((show @Ne Nat _ _); first | omega | ((try dsimp only); omega))); (case a3 => ((show @Ne Nat _ _); first | omega | ((try dsimp only); omega))); (case a4 => assumption); (case a5 => exact sh16_len _); (case a6 => omega); intro _ _ hk hr; (try dsimp only at hk)))
  k_with "subscriptTail Name Name ref int" => ((k_here; (with_reducible rename StrsAre _ _ => hSA); refine item_strsA (News.isList (by assumption) (by k_mem)) hSA (by omega) (sh16_lt (by assumption)) (by omega) ?_; intro t'; rw [sh16_int (by assumption)]))
  trivial
theorem sh16_len (k : Nat) : (sh16 k).length ≤ 40 := by
  unfold sh16; split <;> decide +kernel
abbrev shs : List PStr := [Str.ofString "(|||#|)", Str.ofString ")(!1!h!00#!)", Str.ofString "(\"\"\"#\") (|||9|)", Str.ofString "((((#()", Str.ofString "(   # )", Str.ofString "(||| +# |)", Str.ofString "(xxx#x)", Str.ofString "(999#9)", Str.ofString "(|||0_#|)", Str.ofString "(|||#|)", Str.ofString ")(|||#|x", Str.ofString "(|||#|!)", Str.ofString "(||||#|)", Str.ofString "(|||#o|)", Str.ofString "2#2)", Str.ofString "(||#|)"]
theorem sh16_lt {k : Nat} (h : k < 16) : (k : Int) < shs.length := by
  show (k : Int) < 16; omega
theorem sh16_int {k : Nat} (h : k < 16) : shs.getD ((k : Int)).toNat Str.empty = sh16 k := by
  show shs.getD k Str.empty = sh16 k
  match k, h with
  | 0, _ => rfl
  | 1, _ => rfl
  | 2, _ => rfl
  | 3, _ => rfl
  | 4, _ => rfl
  | 5, _ => rfl
  | 6, _ => rfl
  | 7, _ => rfl
  | 8, _ => rfl
  | 9, _ => rfl
  | 10, _ => rfl
  | 11, _ => rfl
  | 12, _ => rfl
  | 13, _ => rfl
  | 14, _ => rfl
  | 15, _ => rfl
  | n + 16, h => omega
theorem gen_vs {h₀ h : Heap} {L D : Addr} {a : Addr × Obj} {vs : List Value} {e : Nat} {l : Ldg} {ws : List PStr} {G : Prop} (hS : StrsAre vs ws) (N : News h₀ L h ([a] ++ (D, lstOf vs e) :: l)) (k : ∀ vs', StrsAre vs' ws → News h₀ L h ((D, lstOf vs' e) :: l) → G) : G :=
  k vs hS (fun q hq => N q (.tail _ hq))
section
variable {w : World} {p : Program} {loose : List PStr} {mean : ExcName → Option Value} {mg mb : PStr → Option Value}
    {dp un : Nat} {gd : Option (List Code)} {cn : PStr} {cs : Scope} {a : Addr} {ccd : Value} {cl : List (PStr × Addr)} {outer : List Env} {A₀ : Around} {base h₀ : Heap} {L : Addr} {m : PStr → Option Value}
    {s : Shared} {Q E : Value → Shared → Prop} {news : Ldg}
    (B : Below A₀ base outer h₀) (X : (KK.heap_1 w.params).In h₀) (T : Top p loose mean mg mb h₀) (XB : (KK.heap_1 w.params).In base) (TB : Top p loose mean mg mb base) (D : KtsDicts (outer.filterMap (·.frame)) h₀) (hck : cs.kind = .function)
include B X T XB TB D hck
theorem lreply1 {k : Nat} {po le : PStr} {t0 tl : Tok} {t1 : Nat} (hd5 : dp + 5 < recursionLimit) (hu5 : un + 50 < cLine) (F : Fr h₀ L s.heap m) (N : News h₀ L s.heap news)
   (hk16 : k < 16) (hpo : po.length ≤ 8) (hle : le.length = 1) (hne : (Str.ofString "#" == po) = false) (ht1 : 1 ≤ t1 ∧ t1 < s.toks)
   (hret1 : k < 9 → ∀ d t h' tk, Fr h₀ L h' m → News h₀ L h' ((d, lstOf [.str (repR k po le) t, .none] 0) :: news) → (∀ p ∈ news, p.1 < d) → Q (.ref d) { s with heap := h', toks := tk })
   (hret2 : 9 ≤ k → ∀ d t u h' tk, Fr h₀ L h' m → News h₀ L h' ((d, lstOf [.str (repR k po le) t, .str (dueR k po le) u] 0) :: news) → (∀ p ∈ news, p.1 < d) → Q (.ref d) { s with heap := h', toks := tk }) :
   wpAny (model PySem.Challenge.rw_pm0034_01.row.prog w) (ktrTop dp un gd cn cs L a ccd cl outer) (call (.ref 122) [.int (k : Int) t0, .str po t1, .str le tl]) Q E s := by
  walk_at "M fill"
  have l0 : (Str.ofString "229 ").length = 4 := by decide +kernel
  have l1 : (Str.ofString " ").length = 1 := by decide +kernel
  have l2 : (Str.ofString "227").length = 3 := by decide +kernel
  have l3 : (Str.ofString "value invalid literal for int() with base 10: '").length = 47 := by decide +kernel
  have l4 : (Str.ofString "o'").length = 2 := by decide +kernel
  have l5 : (Str.ofString "reply 227").length = 9 := by decide +kernel
  have l6 : (Str.ofString "proto ").length = 6 := by decide +kernel
  walk_at "M enter"
  k_steps
  refine Hold.out ?_
  (with_reducible rename News _ _ _ _ => kN)
  (with_reducible rename Fr _ _ _ _ => kF)
  (with_reducible rename (_ ∧ AllLt _ news) => l3)
  refine extend_in (own := [_]) kF kN (apart1 ?xo) ?xr (kN _ (.head _)).1 ?_ ?xz
  case xo => exact Nat.ne_of_gt l3.1
  case xr => exact fun q hq => Nat.ne_of_lt ((by assumption : ∀ p ∈ news, p.1 < _) q hq)
  case xz => exact Nat.le_trans (show 16 ≤ 1000 by decide) (by decide)
  intro h6 n6 F6 N6
  clear kF kN
  refine' gen_vs (ws := shs) ?hS N6 ?_
  case hS => (repeat first | exact StrsAre.nil | refine StrsAre.cons _ _ ?_)
  clear N6
  intro vs hSA N6
  k_steps
  · (show Q _ _)
    have h9 : k < 9 := by omega
    have e : repR k po le = Str.ofString "229 " ++ le ++ Str.ofString " " ++ Txt.replace (sh16 k) (Str.ofString "#") po := by
      unfold repR repG; rw [if_neg (by omega)]
    rw [e] at hret1
    (with_reducible rename (_ ∧ AllLt _ news) => hlt)
    exact hret1 h9 _ _ _ _ (by assumption) (news_d2 (by assumption)) (ktn_ltOf hlt.2)
  · (show Q _ _)
    have h9 : k = 9 := by omega
    subst h9
    have e : repR 9 po le = Str.ofString "227" ++ Txt.slice (Str.ofString "229 " ++ le ++ Str.ofString " " ++ Txt.replace (sh16 9) (Str.ofString "#") po) (some 3) none := rfl
    have e2 : dueR 9 po le = Str.ofString "reply 227" ++ Txt.slice (Str.ofString "229 " ++ le ++ Str.ofString " " ++ Txt.replace (sh16 9) (Str.ofString "#") po) (some 3) none := rfl
    rw [e, e2] at hret2
    (with_reducible rename (_ ∧ AllLt _ news) => hlt)
    exact hret2 (Nat.le_refl 9) _ _ _ _ _ (by assumption) (news_d2 (by assumption)) (ktn_ltOf hlt.2)
  · (show Q _ _)
    have h13 : k = 13 := by omega
    subst h13
    have e : repR 13 po le = Str.ofString "229 " ++ le ++ Str.ofString " " ++ Txt.replace (sh16 13) (Str.ofString "#") po := rfl
    have e2 : dueR 13 po le = Str.ofString "value invalid literal for int() with base 10: '" ++ po ++ Str.ofString "o'" := rfl
    rw [e, e2] at hret2
    (with_reducible rename (_ ∧ AllLt _ news) => hlt)
    exact hret2 (by decide) _ _ _ _ _ (by assumption) (news_d2 (by assumption)) (ktn_ltOf hlt.2)
  · (show Q _ _)
    have h9 : 9 ≤ k ∧ k ≠ 9 ∧ k ≠ 13 := by omega
    have e : repR k po le = Str.ofString "229 " ++ le ++ Str.ofString " " ++ Txt.replace (sh16 k) (Str.ofString "#") po := by
      unfold repR repG; rw [if_neg h9.2.1]
    have e2 : dueR k po le = Str.ofString "proto " ++ (Str.ofString "229 " ++ le ++ Str.ofString " " ++ Txt.replace (sh16 k) (Str.ofString "#") po) := by
      unfold dueR repG; rw [if_neg h9.2.1, if_neg h9.2.2]
    rw [e, e2] at hret2
    (with_reducible rename (_ ∧ AllLt _ news) => hlt)
    exact hret2 h9.1 _ _ _ _ _ (by assumption) (news_d2 (by assumption)) (ktn_ltOf hlt.2)
end
end
section
theorem lines_L1A_0 : True := by
  walk_at "base"
  trivial
theorem lines_L1A_1 : True := by
  k_with "subscriptTail Name Constant ref int" => ((k_here; refine item_tupleT (News.isTup (by assumption) (by k_mem)) (by decide) (by decide) (by rfl) (by rfl) ?_))
  k_with "subscriptTail Name Constant ref int" => ((k_here; (with_reducible rename StrsAre _ _ => hSA); refine item_strsA (News.isList (by assumption) (by k_mem)) hSA (by decide) (by first | omega | (simp only [List.length_map]; omega)) (by decide) ?_; intro t'))
  k_with "call type:ValueError" => ((refine call_ValueError_made ?_; intro _ _ _))
  k_with "exec While Compare Name cons nil" => (refine Hold.mk ?_)
  k_with "exec While Compare" => (refine Hold.mk ?_)
  k_with "exec While Compare cons nil" => (refine Hold.mk ?_)
  k_with "exec While" => (refine Hold.mk ?_)
  k_with "binaryOp FloorDiv int int" => ((k_here; (with_reducible refine floordiv_pos ?kb1 ?kb2 ?_); (case kb1 => decide); (case kb2 => decide +kernel)))
  k_with "WhlIf" => ((refine whlIf_dec ?_ ?_ <;> intro _))
  k_with "subscriptTail Name Name ref int" => ((k_here; first
    | ((with_reducible rename StrsAre _ _ => hSA); refine item_strsA (News.isList (by assumption) (by k_mem)) hSA (by omega) (by omega) (by omega) ?_; intro t')
    | ((with_reducible rename IntsAre _ _ => hSA); refine item_intsA (News.isList (by assumption) (by k_mem)) hSA (by omega) (by omega) (by omega) ?_; intro t')))
  k_with "call builtin:len" => ((k_here; (with_reducible show wpAny _ _ (call (Value.builtin "len") [Value.ref _]) _ _ _); first
    | ((with_reducible rename StrsAre _ _ => hSA); refine len_strsA (News.isList (by assumption) (by k_mem)) hSA (by omega) ?_)
    | ((with_reducible rename IntsAre _ _ => hSA); refine len_intsA (News.isList (by assumption) (by k_mem)) hSA (by omega) ?_)))
  k_with "subscriptTail Name Constant ref int" => ((k_here; refine item_listL (News.isList (by assumption) (by k_mem)) (by decide) (by decide) (by rfl) ?_))
  trivial
theorem lines_L1A_2 : True := by
  k_with "call type:list" => ((k_here; (with_reducible show wpAny _ _ (call (Value.type "list") [Value.ref _]) _ _ _); k_dflt (refine' list_of_L ?zF ?zN ?zb ?zz ?_; (case zF => k_asm); (case zN => k_asm); (case zb => k_mem); (case zz => omega)); intro D' c' h' F' N' l1; (try k_sweep)))
  k_with "call ref" => (((with_reducible show wpAny _ _ (call (Value.ref 122) _) _ _ _); refine Hold.mk ?_))
  trivial
noncomputable abbrev hTi (i : Nat) : PStr := ⟨#[(97 + (i : Int)).toNat]⟩
theorem hTi_eq (i : Nat) : hTi i = leS (97 + i) := by
  show (⟨#[(97 + (i : Int)).toNat]⟩ : PStr) = _
  congr 2
section
variable {w : World} {p : Program} {loose : List PStr} {mean : ExcName → Option Value} {mg mb : PStr → Option Value}
    {dp un : Nat} {gd : Option (List Code)} {a : Addr} {ccd : Value} {c1 c2 c3 c4 c5 c6 c7 c8 : Addr} {A₀ : Around} {base h₀ : Heap} {L : Addr}
    {s : Shared} {news : Ldg}
    (B : Below A₀ base [] h₀) (X : (KK.heap_1 w.params).In h₀) (T : Top p loose mean mg mb h₀) (XB : (KK.heap_1 w.params).In base) (TB : Top p loose mean mg mb base)
include B X T XB TB
theorem t1_a {dn W : Addr} {nvs wvs : List Value} {ns : List Int} {o1 : Obj} {i we : Nat} {ti : Tok} {jk : PStr → Option Value} {Q : Flow → Shared → Prop} {E : Value → Shared → Prop}
   (hd5 : dp + 200 < recursionLimit) (hu5 : un + 2000 < cLine) (hi : i < ns.length)
   (F : Fr h₀ L s.heap (fun y => if y = Str.ofString "turn" then some (.int i ti) else if y = Str.ofString "numbers" then some (.ref dn) else jk y))
   (N : News h₀ L s.heap news) (hc1 : (c1, o1) ∈ news) (ho1 : o1.data = .cell (some (.ref W))) (hW : (W, lstOf wvs we) ∈ news) (hwl : wvs.length ≤ 15) (hdn : (dn, lstOf nvs 0) ∈ news) (hns : IntsAre nvs ns) (hnl : ns.length ≤ 15)
   (hret : ∀ (h' : Heap) (tk : Nat) (S : Addr) (sc : Nat) (wh : Int) (tw tr th tp : Tok) (dv : Value), (wh = 2 ∨ wh = 3) → ((kOf ns i < 9 ∧ dv = .none) ∨ (9 ≤ kOf ns i ∧ ∃ te, dv = .str (dueR (kOf ns i) (poS (jOf ns i)) (hTi i)) te)) →
      Fr h₀ L h' (fun y => if y = Str.ofString "which" then some (.int wh tw) else if y = Str.ofString "stood" then some (.ref S) else if y = Str.ofString "due" then some dv else if y = Str.ofString "reply" then some (.str (repR (kOf ns i) (poS (jOf ns i)) (hTi i)) tr) else if y = Str.ofString "host" then some (.str (hTi i) th) else if y = Str.ofString "port" then some (.int ((ns.getD i 0 / 16).fmod 5 * 7) tp) else if y = Str.ofString "turn" then some (.int i ti) else if y = Str.ofString "numbers" then some (.ref dn) else jk y) →
      News h₀ L h' ((S, lstOf wvs sc) :: news) → (∀ q ∈ news, q.1 < S) → Q .next { s with heap := h', toks := tk }) :
   wpAny (model PySem.Challenge.rw_pm0034_01.row.prog w) (ktrTop dp un gd (Str.ofString "law") lawScope1 L a ccd (cells8 c1 c2 c3 c4 c5 c6 c7 c8) []) (execs (turn1.take 5) (envX (Str.ofString "law") lawScope1 L a ccd (cells8 c1 c2 c3 c4 c5 c6 c7 c8))) Q E s := by
  walk_at "M fill"
  have D : KtsDicts (([] : List Env).filterMap (·.frame)) h₀ := fun b hb => nomatch hb
  have hck : lawScope1.kind = .function := by with_unfolding_all rfl
  show wpAny _ (ktrTop _ _ _ _ (Scope.mk _ _ _ _ _) _ _ _ _ _) (execs (_ :: _ :: _ :: _ :: _ :: []) (envX _ (Scope.mk _ _ _ _ _) _ _ _ _)) _ _ _
  k_steps
  refine Hold.out ?_
  have ein : ns.getD ((i : Int)).toNat 0 = ns.getD i 0 := rfl
  rw [ein, ← (kOf_lt (ns := ns) i).2]
  have hpo := pos_at1 (jOf_lt (ns := ns) i).1
  unfold poS at hpo hret
  rw [(jOf_lt (ns := ns) i).2] at hpo hret
  refine' lreply1 (k := kOf ns i) ?kB ?kX ?kT ?kXB ?kTB ?kD ?kh ?kd ?ku ?kF ?kN (kOf_lt i).1 hpo.1 ?kl hpo.2 ?kt ?_ ?_; (case kl => exact rfl); (case kB => assumption); (case kX => assumption); (case kT => assumption); (case kXB => assumption); (case kTB => assumption); (case kD => assumption); (case kh => rfl); (case kd => ((try dsimp only); omega)); (case ku => ((try dsimp only); omega)); (case kF => with_reducible assumption); (case kN => with_reducible assumption); (case kt => ((try dsimp only); omega))
  · intro hk d t h' tk F2 N2 l2
    k_steps
    all_goals (
      (with_reducible rename (∀ p ∈ ((_ : Addr × Obj) :: news), p.1 < _) => l9)
      first
      | exact hret _ _ _ _ 2 _ _ _ _ _ (.inl rfl) (.inl ⟨hk, rfl⟩) (by assumption) (news_d2 (by assumption)) (fun q hq => l9 q (.tail _ hq))
      | exact hret _ _ _ _ 3 _ _ _ _ _ (.inr rfl) (.inl ⟨hk, rfl⟩) (by assumption) (news_d2 (by assumption)) (fun q hq => l9 q (.tail _ hq)))
  · intro hk d t u h' tk F2 N2 l2
    k_steps
    all_goals (
      (with_reducible rename (∀ p ∈ ((_ : Addr × Obj) :: news), p.1 < _) => l9)
      first
      | exact hret _ _ _ _ 2 _ _ _ _ _ (.inl rfl) (.inr ⟨hk, _, rfl⟩) (by assumption) (news_d2 (by assumption)) (fun q hq => l9 q (.tail _ hq))
      | exact hret _ _ _ _ 3 _ _ _ _ _ (.inr rfl) (.inr ⟨hk, _, rfl⟩) (by assumption) (news_d2 (by assumption)) (fun q hq => l9 q (.tail _ hq)))
end
end
section
theorem lines_L1B_0 : True := by
  walk_at "base"
  trivial
theorem lines_L1B_1 : True := by
  k_with "subscriptTail Name Constant ref int" => ((k_here; refine item_tupleT (News.isTup (by assumption) (by k_mem)) (by decide) (by decide) (by rfl) (by rfl) ?_))
  k_with "subscriptTail Name Constant ref int" => ((k_here; (with_reducible rename StrsAre _ _ => hSA); refine item_strsA (News.isList (by assumption) (by k_mem)) hSA (by decide) (by first | omega | (simp only [List.length_map]; omega)) (by decide) ?_; intro t'))
  k_with "call type:ValueError" => ((refine call_ValueError_made ?_; intro _ _ _))
  k_with "exec While Compare Name cons nil" => (refine Hold.mk ?_)
  k_with "exec While Compare" => (refine Hold.mk ?_)
  k_with "exec While Compare cons nil" => (refine Hold.mk ?_)
  k_with "exec While" => (refine Hold.mk ?_)
  k_with "binaryOp FloorDiv int int" => ((k_here; (with_reducible refine floordiv_pos ?kb1 ?kb2 ?_); (case kb1 => decide); (case kb2 => decide +kernel)))
  k_with "WhlIf" => ((refine whlIf_dec ?_ ?_ <;> intro _))
  k_with "subscriptTail Name Name ref int" => ((k_here; first
    | ((with_reducible rename StrsAre _ _ => hSA); refine item_strsA (News.isList (by assumption) (by k_mem)) hSA (by omega) (by omega) (by omega) ?_; intro t')
    | ((with_reducible rename IntsAre _ _ => hSA); refine item_intsA (News.isList (by assumption) (by k_mem)) hSA (by omega) (by omega) (by omega) ?_; intro t')))
  k_with "call builtin:len" => ((k_here; (with_reducible show wpAny _ _ (call (Value.builtin "len") [Value.ref _]) _ _ _); first
    | ((with_reducible rename StrsAre _ _ => hSA); refine len_strsA (News.isList (by assumption) (by k_mem)) hSA (by omega) ?_)
    | ((with_reducible rename IntsAre _ _ => hSA); refine len_intsA (News.isList (by assumption) (by k_mem)) hSA (by omega) ?_)))
  trivial
theorem lines_L1B_2 : True := by
  k_with "call ref" => (((with_reducible show wpAny _ _ (call (Value.ref 115) _) _ _ _); refine Hold.mk ?_))
  k_with "call ref" => (((with_reducible show wpAny _ _ (call (Value.ref 94) _) _ _ _); refine Hold.mk ?_))
  k_with "call builtin:len" => ((k_here; (with_reducible show wpAny _ _ (call (Value.builtin "len") [Value.ref _]) _ _ _); k_dflt (refine' len_L ?kN ?kM ?kz ?_; (case kN => with_reducible assumption); (case kM => k_mem); (case kz => omega))))
  k_with "binaryOp Add ref ref" => ((refine Hold.mk ?_))
  k_with "compareOp NotEq ref ref" => ((refine Hold.mk ?_))
  k_with "call builtin:list.append" => ((refine Hold.mk ?_))
  trivial
structure Ne3 (W D C : Addr) (led : Ldg) : Prop where
  a : W ≠ D
  b : W ≠ C
  c : D ≠ C
  l1 : ∀ p ∈ led, p.1 ≠ W
  l2 : ∀ p ∈ led, p.1 ≠ D
  l3 : ∀ p ∈ led, p.1 ≠ C
theorem Ne3.u1 {W D C : Addr} {led : Ldg} (h : Ne3 W D C led) {o o2 o3 : Obj} : UpdF W o ((W, o) :: (D, o2) :: (C, o3) :: led) (fun o => (W, o) :: (D, o2) :: (C, o3) :: led) :=
  UpdF.head fun p hp => by
    rcases List.mem_cons.mp hp with rfl | hp
    · exact h.a.symm
    rcases List.mem_cons.mp hp with rfl | hp
    · exact h.b.symm
    · exact h.l1 p hp
theorem Ne3.u2 {W D C : Addr} {led : Ldg} (h : Ne3 W D C led) {o o1 o3 : Obj} : UpdF D o ((W, o1) :: (D, o) :: (C, o3) :: led) (fun o => (W, o1) :: (D, o) :: (C, o3) :: led) :=
  UpdF.tail h.a (UpdF.head fun p hp => by
    rcases List.mem_cons.mp hp with rfl | hp
    · exact h.c.symm
    · exact h.l2 p hp)
theorem Ne3.u3 {W D C : Addr} {led : Ldg} (h : Ne3 W D C led) {o o1 o2 : Obj} : UpdF C o ((W, o1) :: (D, o2) :: (C, o) :: led) (fun o => (W, o1) :: (D, o2) :: (C, o) :: led) :=
  UpdF.tail h.b (UpdF.tail h.c (UpdF.head h.l3))
theorem RowW.strs {p : Nat → Int} {rep : Nat → PStr} {kv : Value} {W : List Nat} {vs : List Value} (h : RowW p rep kv W vs) (hk : kv = .ref 108) : StrsAre vs (W.map rep) := by
  rcases h with ⟨_, h⟩ | ⟨e, _⟩
  · exact h
  · rw [hk] at e; cases e
theorem ne_tup_same' {prog : Program} {w : World} {A : Around} {E : Value → Shared → Prop} {s : Shared} {h₀ : Heap} {L : Addr} {news : Ldg}
    {x y : Addr} {hs : PStr} {n : Int} {t u t' u' : Tok} {Q : Value → Shared → Prop} (N : News h₀ L s.heap news) (hx : (x, tupOf [.str hs t, .int n u]) ∈ news) (hy : (y, tupOf [.str hs t', .int n u']) ∈ news) (hu : A.units + 64 < cLine)
    (h : Q (.bool false) s) : wpAny (model prog w) A (compareOp .NotEq (.ref x) (.ref y)) Q E s := by
  have hxt : s.heap.IsTuple x [.str hs t, .int n u].toArray := ⟨_, (N _ hx).1, rfl, _, rfl⟩
  have hyt : s.heap.IsTuple y [.str hs t', .int n u'].toArray := ⟨_, (N _ hy).1, rfl, _, rfl⟩
  refine PySem.SeqAt.RcNeAt.tuples (e := fun _ => true) hxt hyt (by omega) (fun j j1 j2 => ?_) prog w E Q h
  match j, j1 with
  | 0, _ =>
    have := PySem.SeqAt.EqAt.str_str (A := A.in1) (s := s) hs t hs t'
    rw [beq_self_eq_true] at this
    exact this
  | 1, _ =>
    have := PySem.SeqAt.EqAt.int_int (A := A.in1) (s := s) n u n u'
    rw [beq_self_eq_true] at this
    exact this
structure NewOk (new : PStr) (port : Int) : Prop where
  p : p229 new = .ok port
  len : new.length ≤ 60
theorem ins_last {r : Bool} {k : Nat → KRes} {kx : KRes} {x : Int} (h : kx = .ok x) (n : Nat) : insZ r k kx (n : Int) n = .ok n := by
  rw [insZ_ok h]
  rw [bisZ_nat, Nat.sub_self]
  rfl
theorem kl_last {l : List Value} {n : Nat} {y : Value} (h : n = l.length) : kl_ins l (n : Int) y = l ++ [y] := by
  rw [kl_ins_nat rfl (Nat.le_of_eq h), h, List.take_length, List.drop_length]
section
variable {w : World} {p : Program} {loose : List PStr} {mean : ExcName → Option Value} {mg mb : PStr → Option Value}
    {dp un : Nat} {gd : Option (List Code)} {a : Addr} {ccd : Value} {c1 c2 c3 c4 c5 c6 c7 c8 : Addr} {A₀ : Around} {base h₀ : Heap} {L : Addr}
    {s : Shared} {news : Ldg}
    (B : Below A₀ base [] h₀) (X : (KK.heap_1 w.params).In h₀) (T : Top p loose mean mg mb h₀) (XB : (KK.heap_1 w.params).In base) (TB : Top p loose mean mg mb base)
include B X T XB TB
theorem t1_g1 {W Bd C S : Addr} {wvs bvs cvs : List Value} {o1 : Obj} {we be ce n : Nat} {wh port : Int} {new : PStr} {pp : Nat → Int} {rep : Nat → PStr} {WL : List Nat} {led : Ldg} {tw tr : Tok} {jk : PStr → Option Value} {Q : Flow → Shared → Prop} {E : Value → Shared → Prop}
   (hd5 : dp + 200 < recursionLimit) (hu5 : un + 2000 < cLine) (hw : wh = 2 ∨ wh = 3) (hp : NewOk new port)
   (F : Fr h₀ L s.heap (fun y => if y = Str.ofString "which" then some (.int wh tw) else if y = Str.ofString "stood" then some (.ref S) else if y = Str.ofString "due" then some .none else if y = Str.ofString "reply" then some (.str new tr) else jk y))
   (N : News h₀ L s.heap ((W, lstOf wvs we) :: (Bd, lstOf bvs be) :: (C, lstOf cvs ce) :: led)) (hne : Ne3 W Bd C led) (hc1 : (c1, o1) ∈ led) (ho1 : o1.data = .cell (some (.ref W)))
   (hrW : RowW pp rep (.ref 108) WL wvs) (hr : RepG pp rep n) (hWL : ∀ x ∈ WL, x < n) (hl : WL.length ≤ 15)
   (hret : ∀ h' tk, Fr h₀ L h' (fun y => if y = Str.ofString "which" then some (.int wh tw) else if y = Str.ofString "stood" then some (.ref S) else if y = Str.ofString "due" then some .none else if y = Str.ofString "reply" then some (.str new tr) else jk y) → News h₀ L h' ((W, lstOf (wvs ++ [.str new tr]) (we + 1)) :: (Bd, lstOf bvs be) :: (C, lstOf cvs ce) :: led) → Q .next { s with heap := h', toks := tk }) :
   wpAny (model PySem.Challenge.rw_pm0034_01.row.prog w) (ktrTop dp un gd (Str.ofString "law") lawScope1 L a ccd (cells8 c1 c2 c3 c4 c5 c6 c7 c8) []) (execs ((turn1.drop 5).take 2) (envX (Str.ofString "law") lawScope1 L a ccd (cells8 c1 c2 c3 c4 c5 c6 c7 c8))) Q E s := by
  walk_at "M fill"
  have D : KtsDicts (([] : List Env).filterMap (·.frame)) h₀ := fun b hb => nomatch hb
  have hck : lawScope1.kind = .function := by with_unfolding_all rfl
  have hvl := hrW.len
  have hnl := hp.len
  obtain ⟨k, hri, hk⟩ := hrW.is hr hWL
  rw [← hvl] at hri
  show wpAny _ (ktrTop _ _ _ _ (Scope.mk _ _ _ _ _) _ _ _ _ _) (execs (_ :: _ :: []) (envX _ (Scope.mk _ _ _ _ _) _ _ _ _)) _ _ _
  k_steps
  refine Hold.out ?_
  refine' told_ok ?kB ?kX ?kT ?kXB ?kTB ?kD rfl ?kd ?ku ?kF ?kN hw hne.u1 hri (.inl ⟨new, tr, rfl, rfl, hp.p.symm, ?kz⟩) ?kl ?klo (.inr ⟨_, rfl, Nat.le_refl _⟩) ⟨ins_last rfl wvs.length⟩ (fun _ h => nomatch h) (InsOk_bis (ins_last rfl wvs.length)) ?_
  case kB => assumption
  case kX => assumption
  case kT => assumption
  case kXB => assumption
  case kTB => assumption
  case kD => assumption
  case kd => (try dsimp only); omega
  case ku => (try dsimp only); omega
  case kF => with_reducible assumption
  case kN => with_reducible assumption
  case kl => omega
  case klo => omega
  case kz => omega
  rw [kl_last rfl]
  intro h4 tk4 kF5 kN5
  k_steps
  exact hret _ _ (by assumption) (by assumption)
end
section
variable {w : World} {p : Program} {loose : List PStr} {mean : ExcName → Option Value} {mg mb : PStr → Option Value}
    {dp un : Nat} {gd : Option (List Code)} {a : Addr} {ccd : Value} {c1 c2 c3 c4 c5 c6 c7 c8 : Addr} {A₀ : Around} {base h₀ : Heap} {L : Addr}
    {s : Shared} {news : Ldg}
    (B : Below A₀ base [] h₀) (X : (KK.heap_1 w.params).In h₀) (T : Top p loose mean mg mb h₀) (XB : (KK.heap_1 w.params).In base) (TB : Top p loose mean mg mb base)
include B X T XB TB
theorem t1_g2 {W Bd C S : Addr} {wvs bvs cvs : List Value} {o1 o2 : Obj} {we be ce sc n : Nat} {wh port : Int} {new hs : PStr} {pp : Nat → Int} {rep : Nat → PStr} {WL : List Nat} {led : Ldg} {tw tr th tp : Tok} {jk : PStr → Option Value} {Q : Flow → Shared → Prop} {E : Value → Shared → Prop}
   (hd5 : dp + 200 < recursionLimit) (hu5 : un + 2000 < cLine) (hw : wh = 2 ∨ wh = 3) (hp : NewOk new port) (hhs : hs.length ≤ 10)
   (F : Fr h₀ L s.heap (fun y => if y = Str.ofString "which" then some (.int wh tw) else if y = Str.ofString "stood" then some (.ref S) else if y = Str.ofString "reply" then some (.str new tr) else if y = Str.ofString "host" then some (.str hs th) else if y = Str.ofString "port" then some (.int port tp) else if y = Str.ofString "bare" then some (.ref Bd) else jk y))
   (N : News h₀ L s.heap ((W, lstOf (wvs ++ [.str new tr]) we) :: (Bd, lstOf bvs be) :: (C, lstOf cvs ce) :: led)) (hne : Ne3 W Bd C led) (hc1 : (c1, o1) ∈ led) (ho1 : o1.data = .cell (some (.ref W))) (hc2 : (c2, o2) ∈ led) (ho2 : o2.data = .cell (some (.ref C))) (hS : (S, lstOf wvs sc) ∈ led)
   (hrW : RowW pp rep (.ref 108) WL wvs) (hrB : RowW pp rep .none WL bvs) (hr : RepG pp rep n) (hWL : ∀ x ∈ WL, x < n) (hl : WL.length ≤ 15) (hcl : cvs.length ≤ 15)
   (hret : ∀ h' tk P, (∀ q ∈ (W, lstOf (wvs ++ [.str new tr]) we) :: (Bd, lstOf bvs be) :: (C, lstOf cvs ce) :: led, q.1 < P) → Fr h₀ L h' (fun y => if y = Str.ofString "which" then some (.int wh tw) else if y = Str.ofString "stood" then some (.ref S) else if y = Str.ofString "reply" then some (.str new tr) else if y = Str.ofString "host" then some (.str hs th) else if y = Str.ofString "port" then some (.int port tp) else if y = Str.ofString "bare" then some (.ref Bd) else jk y) →
      News h₀ L h' ((W, lstOf (wvs ++ [.str new tr]) we) :: (Bd, lstOf (bvs ++ [.int port tp]) (be + 1)) :: (C, lstOf (cvs ++ [.ref P]) (ce + 1)) :: (P, lstOf [.int port tp, .str new tr] 0) :: led) → Q .next { s with heap := h', toks := tk }) :
   wpAny (model PySem.Challenge.rw_pm0034_01.row.prog w) (ktrTop dp un gd (Str.ofString "law") lawScope1 L a ccd (cells8 c1 c2 c3 c4 c5 c6 c7 c8) []) (execs ((turn1.drop 7).take 2) (envX (Str.ofString "law") lawScope1 L a ccd (cells8 c1 c2 c3 c4 c5 c6 c7 c8))) Q E s := by
  walk_at "M fill"
  have D : KtsDicts (([] : List Env).filterMap (·.frame)) h₀ := fun b hb => nomatch hb
  have hck : lawScope1.kind = .function := by with_unfolding_all rfl
  have hvl := hrW.len
  have hbl := hrB.len
  have hnl := hp.len
  have hp' := hp.p
  obtain ⟨k, hri, hk⟩ := hrB.is hr hWL
  rw [← hbl] at hri
  show wpAny _ (ktrTop _ _ _ _ (Scope.mk _ _ _ _ _) _ _ _ _ _) (execs (_ :: _ :: []) (envX _ (Scope.mk _ _ _ _ _) _ _ _ _)) _ _ _
  k_steps
  refine Hold.out ?_
  (show wpAny _ _ (binaryOp Operator.Add _ _) _ _ _)
  (with_reducible rename Fr _ _ _ _ => kF)
  (with_reducible rename News _ _ _ _ => kN)
  refine add_listsN kF kN (.tail _ (.tail _ (.tail _ (.tail _ hS)))) (.head _) (show wvs.length + 1 ≤ 1000 by omega) ?_
  intro D2 h2 F2 N2 l2
  clear kF kN
  k_steps
  refine Hold.out ?_
  refine ne_strs_L (xs := WL.map rep ++ [new]) (ys := WL.map rep ++ [new]) N2 (.tail _ (.tail _ (.head _))) (.head _) ?s1 ?s2 ?s3 ?_
  case s1 => exact (hrW.strs rfl).append' (.cons _ _ .nil)
  case s2 => exact (hrW.strs rfl).append' (.cons _ _ .nil)
  case s3 => first | units_room | k_room | ((try dsimp only); omega)
  rw [decide_eq_true rfl]
  k_steps
  refine Hold.out ?_
  refine' parse229_spec (hs := hs) ?kB ?kX ?kT ?kXB ?kTB ?kD ?kh ?kd ?ku ?kF ?kN ?k6 ?kp ?kv ?_ ?_
  case kB => assumption
  case kX => assumption
  case kT => assumption
  case kXB => assumption
  case kTB => assumption
  case kD => assumption
  case kh => rfl
  case kd => ((try dsimp only); omega)
  case ku => ((try dsimp only); omega)
  case kF => with_reducible assumption
  case kN => with_reducible assumption
  case k6 => omega
  case kp => exact .head _
  case kv => exact fun msg e => by rw [hp'] at e; cases e
  rotate_left
  · intro k5 g₂ e5 t5 h5 tk5 e'
    rw [hp'] at e'; cases e'
  intro n5 ra tn hn2 tkn e3 F3 N3 l3
  rw [hp'] at e3
  obtain rfl := Except.ok.inj e3
  k_steps
  refine Hold.out ?_
  (show wpAny _ _ (compareOp CmpOp.NotEq _ _) _ _ _)
  (with_reducible rename News _ _ _ _ => kN)
  refine ne_tup_same' kN (.tail _ (.head _)) (.head _) (by first | units_room | k_room | ((try dsimp only); omega)) ?_
  have kN9 := news_drop1 (news_drop1 (news_drop1 (news_drop1 (news_drop1 kN))))
  clear kN
  k_steps
  refine Hold.out ?_
  refine' told_ok ?kB2 ?kX2 ?kT2 ?kXB2 ?kTB2 ?kD2 rfl ?kd2 ?ku2 ?kF2 kN9 hw hne.u2 hri (.inr ⟨port, tp, rfl, rfl, rfl⟩) ?kl2 ?klo2 (.inr ⟨_, rfl, Nat.le_refl _⟩) ⟨ins_last rfl bvs.length⟩ (fun _ h => nomatch h) (InsOk_bis (ins_last rfl bvs.length)) ?_
  case kB2 => assumption
  case kX2 => assumption
  case kT2 => assumption
  case kXB2 => assumption
  case kTB2 => assumption
  case kD2 => assumption
  case kd2 => (try dsimp only); omega
  case ku2 => (try dsimp only); omega
  case kF2 => with_reducible assumption
  case kl2 => omega
  case klo2 => omega
  rw [kl_last rfl]
  intro h4 tk4 kF5 kN5
  clear kN9
  k_steps
  refine Hold.out ?_
  (with_reducible rename News _ _ _ _ => kN6)
  (with_reducible rename Fr _ _ _ _ => kF6)
  (with_reducible rename (_ ∧ _ ∧ _ ∧ AllLt _ led) => hlt)
  refine append_L kF6 kN6 (UpdF.tail (Nat.ne_of_gt hlt.2.2.1) hne.u3) (by omega) ?_
  intro h7 F7 N7
  k_steps
  have hl9 : ∀ q ∈ (W, lstOf (wvs ++ [.str new tr]) we) :: (Bd, lstOf bvs be) :: (C, lstOf cvs ce) :: led, q.1 < _ := ktn_ltOf hlt
  refine hret _ _ _ hl9 (by assumption) (news_sub N7 ?_)
  · intro q hq
    rcases List.mem_cons.mp hq with rfl | hq
    · exact .tail _ (.head _)
    rcases List.mem_cons.mp hq with rfl | hq
    · exact .tail _ (.tail _ (.head _))
    rcases List.mem_cons.mp hq with rfl | hq
    · exact .tail _ (.tail _ (.tail _ (.head _)))
    rcases List.mem_cons.mp hq with rfl | hq
    · exact .head _
    · exact .tail _ (.tail _ (.tail _ (.tail _ hq)))
end
end
section
theorem lines_J1_0 : True := by
  walk_at "base"
  trivial
theorem lines_J1_1 : True := by
  k_with "subscriptTail Name Constant ref int" => ((k_here; refine item_tupleT (News.isTup (by assumption) (by k_mem)) (by decide) (by decide) (by rfl) (by rfl) ?_))
  k_with "subscriptTail Name Constant ref int" => ((k_here; (with_reducible rename StrsAre _ _ => hSA); refine item_strsA (News.isList (by assumption) (by k_mem)) hSA (by decide) (by first | omega | (simp only [List.length_map]; omega)) (by decide) ?_; intro t'))
  k_with "call type:ValueError" => ((refine call_ValueError_made ?_; intro _ _ _))
  k_with "exec While Compare Name cons nil" => (refine Hold.mk ?_)
  k_with "exec While Compare" => (refine Hold.mk ?_)
  k_with "exec While Compare cons nil" => (refine Hold.mk ?_)
  k_with "exec While" => (refine Hold.mk ?_)
  k_with "binaryOp FloorDiv int int" => ((k_here; (with_reducible refine floordiv_pos ?kb1 ?kb2 ?_); (case kb1 => decide); (case kb2 => decide +kernel)))
  k_with "WhlIf" => ((refine whlIf_dec ?_ ?_ <;> intro _))
  k_with "subscriptTail Name Name ref int" => ((k_here; first
    | ((with_reducible rename StrsAre _ _ => hSA); refine item_strsA (News.isList (by assumption) (by k_mem)) hSA (by omega) (by omega) (by omega) ?_; intro t')
    | ((with_reducible rename IntsAre _ _ => hSA); refine item_intsA (News.isList (by assumption) (by k_mem)) hSA (by omega) (by omega) (by omega) ?_; intro t')))
  k_with "call builtin:len" => ((k_here; (with_reducible show wpAny _ _ (call (Value.builtin "len") [Value.ref _]) _ _ _); first
    | ((with_reducible rename StrsAre _ _ => hSA); refine len_strsA (News.isList (by assumption) (by k_mem)) hSA (by omega) ?_)
    | ((with_reducible rename IntsAre _ _ => hSA); refine len_intsA (News.isList (by assumption) (by k_mem)) hSA (by omega) ?_)))
  k_with "M enterC" => ((
    refine wpC_call ?_
    k_dflt (refine' code_def_C ?k1 ?k2 ?k3 ?k4 ?k5 ?kA ?kF ?kK ?k6 ?k7 ?k8 ?k9 ?kB ?_ ?c2 ?c3 ?c4 ?c5; (case kA => exact rfl); (case kF => exact rfl); (case kK => assumption); (case k1 => k_asm); (case k2 => k_asm); (case k3 => k_asm); (case k4 => k_asm); (case k5 => k_asm); (case k6 => k_is); (case k7 => k_is); (case k8 => ((try dsimp only); omega)); (case k9 => first | exact BindsTo.of_eq rfl | (refine' kp_binds ?kx ?ke; (case kx => first | (refine' myIn ?kf ?ki; (case kf => with_reducible assumption); (case ki => with_reducible assumption)) | k_in); (case ke => exact fun _ => rfl)) | exact binds_K (by first | (refine' myIn ?kf ?ki; (case kf => with_reducible assumption); (case ki => with_reducible assumption)) | k_in) rfl (by k_is) rfl rfl rfl); (case c5 => decide); (case kB => exact locs rfl); (case c2 => exact rfl); (case c3 => exact rfl); (case c4 => exact rfl); k_whole; intro g' L' h' FG' F' N' B' X' T'; (have D' := kts_dict B' (by assumption) FG' rfl); (try dsimp only); (try k_lift B'))))
  k_with "M enter0C" => ((
    refine wpC_call ?_
    k_dflt (refine' code_defS0_C ?k1 ?k2 ?k3 ?k4 ?k5 ?kA ?kF ?kK ?k6 ?k7 ?k8 ?k9 ?kB ?_ ?c2 ?c3 ?c4 ?c5; (case kA => exact rfl); (case kF => exact rfl); (case kK => assumption); (case k1 => k_asm); (case k2 => k_asm); (case k3 => k_asm); (case k4 => k_asm); (case k5 => k_asm); (case k6 => k_is); (case k7 => k_is); (case k8 => ((try dsimp only); omega)); (case k9 => first | exact BindsTo.of_eq rfl | (refine' kp_binds ?kx ?ke; (case kx => first | (refine' myIn ?kf ?ki; (case kf => with_reducible assumption); (case ki => with_reducible assumption)) | k_in); (case ke => exact fun _ => rfl)) | exact binds_K (by first | (refine' myIn ?kf ?ki; (case kf => with_reducible assumption); (case ki => with_reducible assumption)) | k_in) rfl (by k_is) rfl rfl rfl); (case c5 => decide); (case kB => exact locs rfl); (case c2 => exact rfl); (case c3 => exact rfl); (case c4 => exact rfl); k_whole; intro g' L' h' FG' F' N' B' X' T' D'; (try dsimp only); (try k_lift B'))))
  trivial
section
variable {w : World} {p : Program} {loose : List PStr} {mean : ExcName → Option Value} {mg mb : PStr → Option Value}
    {dp un : Nat} {gd : Option (List Code)} {cn : PStr} {cs : Scope} {a : Addr} {ccd : Value} {cl : List (PStr × Addr)} {outer : List Env} {A₀ : Around} {base h₀ : Heap} {L : Addr} {m : PStr → Option Value}
    {s : Shared} {Q E : Value → Shared → Prop} {news : Ldg}
    (B : Below A₀ base outer h₀) (X : (KK.heap_1 w.params).In h₀) (T : Top p loose mean mg mb h₀) (XB : (KK.heap_1 w.params).In base) (TB : Top p loose mean mg mb base) (D : KtsDicts (outer.filterMap (·.frame)) h₀) (hck : cs.kind = .function)
include B X T XB TB D hck
theorem parse229_val {r hs msg : PStr} {t1 t2 t3 : Tok} {i : Int} {pa : Addr} (hd5 : dp + 5 < recursionLimit) (hu5 : un + 50 < cLine) (F : Fr h₀ L s.heap m) (N : News h₀ L s.heap news)
   (h640' : r.length ≤ 640) (hpa : (pa, tupOf [.str hs t2, .int i t3]) ∈ news) (hval : p229 r = .error (.value, msg)) (hrep : RepOk r)
   (hexc : ∀ g₂ e t t1 h' tk, Fr h₀ L g₂ m → RaisedS base g₂ (envX cn cs L a ccd cl :: outer) e (clsOf .value) t [.str msg t1] news h' → RaisedK base (envX cn cs L a ccd cl :: outer) e (clsOf .value) t [.str msg t1] news h' → g₂.UpToSlots h' → E (.ref e) { s with heap := h', toks := tk }) :
   wpC (model PySem.Challenge.rw_pm0034_01.row.prog w) (ktrTop dp un gd cn cs L a ccd cl outer) (call (.ref 94) [.str r t1, .ref pa]) Q E s := by
  walk_at "M fill"
  have hr : r.length ≤ 200000 := Nat.le_trans h640' (by decide)
  have h640 := Nat.le_trans (p229in_len r) h640'
  have f1 := fact_open r
  have f2 := fact_close r (Txt.find r (Str.ofString "(") + 1) (by omega)
  walk_at "M enterC"
  refine execs_pre (pre := [_, _, _, _, _, _, _, _, _]) (rest := [_, _]) ?_
  k_fold
  k_steps
  · (show E _ _); exact (val_not hval (p229_code (by assumption)) (by decide)).elim
  · (show E _ _); exact (val_not hval (p229_open (by assumption) (by assumption)) (by decide)).elim
  · (show E _ _); exact (val_not hval (p229_close (by assumption) (by assumption) (by assumption)) (by decide)).elim
  · (show E _ _); exact (val_not hval (p229_sep (by assumption) (by assumption) (by assumption) (by assumption)) (by decide)).elim
  · (show E _ _); exact (val_not hval (p229_five (by assumption) (by assumption) (by assumption) (by assumption) (by assumption) (by assumption)) (by decide)).elim
  have hlast := p229_last (by assumption : (Txt.slice r none (some 3) != Str.ofString "229") = false) (by assumption) (by assumption) (by assumption) (by assumption) (by assumption)
  obtain ⟨hno, rfl⟩ := p229_val hval hlast
  have hrp := hrep.part (by assumption)
  refine execs_C ?_
  refine assign_raises_C ?_
  refine call_name_C ?_
  k_fold
  k_steps
  refine callWith_type1_C ?_
  k_fold
  k_steps
  refine call_int_refused (Nat.le_trans (getD_len (by assumption)) h640) hrp hno rfl fun hh tkh tkh' eh hm => ?_
  k_steps
  (show E _ _)
  exact hexc _ _ _ _ _ _ (by assumption) (raisedS_sub (by assumption) sub_tail) (raisedK_sub (by assumption) sub_tail) (by assumption)
end
section
variable {w : World} {p : Program} {loose : List PStr} {mean : ExcName → Option Value} {mg mb : PStr → Option Value}
    {dp un : Nat} {gd : Option (List Code)} {cn : PStr} {cs : Scope} {a : Addr} {ccd : Value} {cl : List (PStr × Addr)} {outer : List Env} {A₀ : Around} {base h₀ : Heap} {L : Addr} {m : PStr → Option Value}
    {s : Shared} {Q E : Value → Shared → Prop} {news : Ldg}
    (B : Below A₀ base outer h₀) (X : (KK.heap_1 w.params).In h₀) (T : Top p loose mean mg mb h₀) (XB : (KK.heap_1 w.params).In base) (TB : Top p loose mean mg mb base) (D : KtsDicts (outer.filterMap (·.frame)) h₀) (hck : cs.kind = .function)
include B X T XB TB D hck
theorem port_val {r msg : PStr} {t1 : Tok} (hd5 : dp + 10 < recursionLimit) (hu5 : un + 60 < cLine) (F : Fr h₀ L s.heap m) (N : News h₀ L s.heap news)
   (h640 : r.length ≤ 640) (hval : p229 r = .error (.value, msg)) (hrep : RepOk r)
   (hexc : ∀ g₂ e t t1 h' tk, Fr h₀ L g₂ m → RaisedS base g₂ (envX cn cs L a ccd cl :: outer) e (clsOf .value) t [.str msg t1] news h' → RaisedK base (envX cn cs L a ccd cl :: outer) e (clsOf .value) t [.str msg t1] news h' → g₂.UpToSlots h' → E (.ref e) { s with heap := h', toks := tk }) :
   wpC (model PySem.Challenge.rw_pm0034_01.row.prog w) (ktrTop dp un gd cn cs L a ccd cl outer) (call (.ref 108) [.str r t1]) Q E s := by
  walk_at "M fill"
  walk_at "M enterC"
  refine execs_C ?_
  refine return_C ?_
  refine subscript_raises_C ?_
  refine call_name_C ?_
  k_fold
  k_steps
  refine callWith_K_C (by k_asm) (by k_is) ?_
  k_fold
  k_steps
  refine' parse229_val ?kB ?kX ?kT ?kXB ?kTB ?kD ?kh ?kd ?ku ?kF ?kN ?k6 ?kp ?kv ?krp ?_
  case kB => assumption
  case kX => assumption
  case kT => assumption
  case kXB => assumption
  case kTB => assumption
  case kD => assumption
  case kh => rfl
  case kd => ((try dsimp only); omega)
  case ku => ((try dsimp only); omega)
  case kF => with_reducible assumption
  case kN => with_reducible assumption
  case k6 => assumption
  case kp => exact .head _
  case kv => exact hval
  case krp => exact hrep
  intro g₂ e t t1 h' tk FF SS RR UU
  k_steps
  (show E _ _)
  exact hexc _ _ _ _ _ _ (by assumption) (raisedS_sub (by assumption) sub_tail) (raisedK_sub (by assumption) sub_tail) (by assumption)
end
end
section
theorem lines_L1_0 : True := by
  walk_at "base"
  trivial
theorem lines_L1_1 : True := by
  k_with "subscriptTail Name Constant ref int" => ((k_here; refine item_tupleT (News.isTup (by assumption) (by k_mem)) (by decide) (by decide) (by rfl) (by rfl) ?_))
  k_with "subscriptTail Name Constant ref int" => ((k_here; (with_reducible rename StrsAre _ _ => hSA); refine item_strsA (News.isList (by assumption) (by k_mem)) hSA (by decide) (by first | omega | (simp only [List.length_map]; omega)) (by decide) ?_; intro t'))
  k_with "call type:ValueError" => ((refine call_ValueError_made ?_; intro _ _ _))
  k_with "exec While Compare Name cons nil" => (refine Hold.mk ?_)
  k_with "exec While Compare" => (refine Hold.mk ?_)
  k_with "exec While Compare cons nil" => (refine Hold.mk ?_)
  k_with "exec While" => (refine Hold.mk ?_)
  k_with "binaryOp FloorDiv int int" => ((k_here; (with_reducible refine floordiv_pos ?kb1 ?kb2 ?_); (case kb1 => decide); (case kb2 => decide +kernel)))
  k_with "WhlIf" => ((refine whlIf_dec ?_ ?_ <;> intro _))
  k_with "subscriptTail Name Name ref int" => ((k_here; first
    | ((with_reducible rename StrsAre _ _ => hSA); refine item_strsA (News.isList (by assumption) (by k_mem)) hSA (by omega) (by omega) (by omega) ?_; intro t')
    | ((with_reducible rename IntsAre _ _ => hSA); refine item_intsA (News.isList (by assumption) (by k_mem)) hSA (by omega) (by omega) (by omega) ?_; intro t')))
  k_with "call builtin:len" => ((k_here; (with_reducible show wpAny _ _ (call (Value.builtin "len") [Value.ref _]) _ _ _); first
    | ((with_reducible rename StrsAre _ _ => hSA); refine len_strsA (News.isList (by assumption) (by k_mem)) hSA (by omega) ?_)
    | ((with_reducible rename IntsAre _ _ => hSA); refine len_intsA (News.isList (by assumption) (by k_mem)) hSA (by omega) ?_)))
  k_with "M enterC" => ((
    refine wpC_call ?_
    k_dflt (refine' code_def_C ?k1 ?k2 ?k3 ?k4 ?k5 ?kA ?kF ?kK ?k6 ?k7 ?k8 ?k9 ?kB ?_ ?c2 ?c3 ?c4 ?c5; (case kA => exact rfl); (case kF => exact rfl); (case kK => assumption); (case k1 => k_asm); (case k2 => k_asm); (case k3 => k_asm); (case k4 => k_asm); (case k5 => k_asm); (case k6 => k_is); (case k7 => k_is); (case k8 => ((try dsimp only); omega)); (case k9 => first | exact BindsTo.of_eq rfl | (refine' kp_binds ?kx ?ke; (case kx => first | (refine' myIn ?kf ?ki; (case kf => with_reducible assumption); (case ki => with_reducible assumption)) | k_in); (case ke => exact fun _ => rfl)) | exact binds_K (by first | (refine' myIn ?kf ?ki; (case kf => with_reducible assumption); (case ki => with_reducible assumption)) | k_in) rfl (by k_is) rfl rfl rfl); (case c5 => decide); (case kB => exact locs rfl); (case c2 => exact rfl); (case c3 => exact rfl); (case c4 => exact rfl); k_whole; intro g' L' h' FG' F' N' B' X' T'; (have D' := kts_dict B' (by assumption) FG' rfl); (try dsimp only); (try k_lift B'))))
  k_with "M enter0C" => ((
    refine wpC_call ?_
    k_dflt (refine' code_defS0_C ?k1 ?k2 ?k3 ?k4 ?k5 ?kA ?kF ?kK ?k6 ?k7 ?k8 ?k9 ?kB ?_ ?c2 ?c3 ?c4 ?c5; (case kA => exact rfl); (case kF => exact rfl); (case kK => assumption); (case k1 => k_asm); (case k2 => k_asm); (case k3 => k_asm); (case k4 => k_asm); (case k5 => k_asm); (case k6 => k_is); (case k7 => k_is); (case k8 => ((try dsimp only); omega)); (case k9 => first | exact BindsTo.of_eq rfl | (refine' kp_binds ?kx ?ke; (case kx => first | (refine' myIn ?kf ?ki; (case kf => with_reducible assumption); (case ki => with_reducible assumption)) | k_in); (case ke => exact fun _ => rfl)) | exact binds_K (by first | (refine' myIn ?kf ?ki; (case kf => with_reducible assumption); (case ki => with_reducible assumption)) | k_in) rfl (by k_is) rfl rfl rfl); (case c5 => decide); (case kB => exact locs rfl); (case c2 => exact rfl); (case c3 => exact rfl); (case c4 => exact rfl); k_whole; intro g' L' h' FG' F' N' B' X' T' D'; (try dsimp only); (try k_lift B'))))
  k_with "call ref" => (((with_reducible show wpAny _ _ (call (Value.ref 108) _) _ _ _); refine' port_spec ?kB ?kX ?kT ?kXB ?kTB ?kD ?kh ?kd ?ku ?kF ?kN ?k6 ?kv ?_ ?_; (case kB => assumption); (case kX => assumption); (case kT => assumption); (case kXB => assumption); (case kTB => assumption); (case kD => assumption); (case kh => rfl); (case kd => ((try dsimp only); omega)); (case ku => ((try dsimp only); omega)); (case kF => with_reducible assumption); (case kN => with_reducible assumption); (case k6 => first | exact getD_640 (by assumption) _ | assumption); (case kv => first | assumption | (have q := bis_nv (by assumption) (by assumption) (by assumption); exact q) | (have q := bis_nv ((by assumption : 0 ≤ _ → ∀ msg, _ ≠ _) (by omega)) (by assumption) (by assumption); exact q))))
  k_with "M portC" => ((refine' port_val ?kB ?kX ?kT ?kXB ?kTB ?kD ?kh ?kd ?ku ?kF ?kN ?k6 ?kv ?krp ?_; (case kB => assumption); (case kX => assumption); (case kT => assumption); (case kXB => assumption); (case kTB => assumption); (case kD => assumption); (case kh => rfl); (case kd => ((try dsimp only); omega)); (case ku => ((try dsimp only); omega)); (case kF => with_reducible assumption); (case kN => with_reducible assumption); (case k6 => first | with_reducible assumption | exact getD_640 (by with_reducible assumption) _); (case kv => with_reducible assumption); (case krp => with_reducible assumption); intro g₂ e t t1 h' tk FF SS RR UU; k_steps))
  trivial
section
variable {w : World} {p : Program} {loose : List PStr} {mean : ExcName → Option Value} {mg mb : PStr → Option Value}
    {dp un : Nat} {gd : Option (List Code)} {cn : PStr} {cs : Scope} {a : Addr} {ccd : Value} {cl : List (PStr × Addr)} {outer : List Env} {A₀ : Around} {base h₀ : Heap} {L : Addr} {m : PStr → Option Value}
    {s : Shared} {Q E : Value → Shared → Prop} {news : Ldg}
    (B : Below A₀ base outer h₀) (X : (KK.heap_1 w.params).In h₀) (T : Top p loose mean mg mb h₀) (XB : (KK.heap_1 w.params).In base) (TB : Top p loose mean mg mb base) (D : KtsDicts (outer.filterMap (·.frame)) h₀) (hck : cs.kind = .function)
include B X T XB TB D hck
theorem insR_valx {ra : Addr} {xr : PStr} {lo : Int} {hv : Value} {xt tl : Tok} {msg : PStr} (hd5 : dp + 30 < recursionLimit) (hu5 : un + 200 < cLine) (F : Fr h₀ L s.heap m) (N : News h₀ L s.heap news)
   (hx640 : xr.length ≤ 640) (hxrp : RepOk xr) (hkx : p229 xr = .error (.value, msg))
   (hexc : ∀ g₂ e t t1 h' tk, Fr h₀ L g₂ m → RaisedS base g₂ (envX cn cs L a ccd cl :: outer) e (clsOf .value) t [.str msg t1] news h' → RaisedK base (envX cn cs L a ccd cl :: outer) e (clsOf .value) t [.str msg t1] news h' → g₂.UpToSlots h' → E (.ref e) { s with heap := h', toks := tk }) :
   wpC (model PySem.Challenge.rw_pm0034_01.row.prog w) (ktrTop dp un gd cn cs L a ccd cl outer) (call (.ref 23) [.ref ra, .str xr xt, .int lo tl, hv] [(Str.ofString "key", .ref 108)]) Q E s := by
  walk_at "M fill"
  walk_at "M enterC"
  refine execs_C ?_
  refine if_C ?_
  refine wpC_any ?_
  k_fold
  k_steps
  refine execs_C ?_
  refine assign_raises_C ?_
  refine call_name_KW_C ?_
  k_fold
  k_steps
  refine callWith_args_C ?_
  k_fold
  k_steps
  refine call_name_C ?_
  k_fold
  k_steps
  refine callWith_K_C (by k_asm) (by k_is) ?_
  k_fold
  k_steps
  walk_at "M portC"
  (show E _ _)
  exact hexc _ _ _ _ _ _ (by assumption) (by assumption) (by assumption) (by assumption)
end
section
variable {w : World} {p : Program} {loose : List PStr} {mean : ExcName → Option Value} {mg mb : PStr → Option Value}
    {dp un : Nat} {gd : Option (List Code)} {cn : PStr} {cs : Scope} {a : Addr} {ccd : Value} {cl : List (PStr × Addr)} {outer : List Env} {A₀ : Around} {base h₀ : Heap} {L : Addr} {m : PStr → Option Value}
    {s : Shared} {Q E : Value → Shared → Prop} {news : Ldg}
    (B : Below A₀ base outer h₀) (X : (KK.heap_1 w.params).In h₀) (T : Top p loose mean mg mb h₀) (XB : (KK.heap_1 w.params).In base) (TB : Top p loose mean mg mb base) (D : KtsDicts (outer.filterMap (·.frame)) h₀) (hck : cs.kind = .function)
include B X T XB TB D hck
theorem insL_valx {ra : Addr} {xr : PStr} {lo : Int} {hv : Value} {xt tl : Tok} {msg : PStr} (hd5 : dp + 30 < recursionLimit) (hu5 : un + 200 < cLine) (F : Fr h₀ L s.heap m) (N : News h₀ L s.heap news)
   (hx640 : xr.length ≤ 640) (hxrp : RepOk xr) (hkx : p229 xr = .error (.value, msg))
   (hexc : ∀ g₂ e t t1 h' tk, Fr h₀ L g₂ m → RaisedS base g₂ (envX cn cs L a ccd cl :: outer) e (clsOf .value) t [.str msg t1] news h' → RaisedK base (envX cn cs L a ccd cl :: outer) e (clsOf .value) t [.str msg t1] news h' → g₂.UpToSlots h' → E (.ref e) { s with heap := h', toks := tk }) :
   wpC (model PySem.Challenge.rw_pm0034_01.row.prog w) (ktrTop dp un gd cn cs L a ccd cl outer) (call (.ref 41) [.ref ra, .str xr xt, .int lo tl, hv] [(Str.ofString "key", .ref 108)]) Q E s := by
  walk_at "M fill"
  walk_at "M enterC"
  refine execs_C ?_
  refine if_C ?_
  refine wpC_any ?_
  k_fold
  k_steps
  refine execs_C ?_
  refine assign_raises_C ?_
  refine call_name_KW_C ?_
  k_fold
  k_steps
  refine callWith_args_C ?_
  k_fold
  k_steps
  refine call_name_C ?_
  k_fold
  k_steps
  refine callWith_K_C (by k_asm) (by k_is) ?_
  k_fold
  k_steps
  walk_at "M portC"
  (show E _ _)
  exact hexc _ _ _ _ _ _ (by assumption) (by assumption) (by assumption) (by assumption)
end
end
section
theorem lines_M1_0 : True := by
  walk_at "base"
  trivial
theorem lines_M1_1 : True := by
  k_with "subscriptTail Name Constant ref int" => ((k_here; refine item_tupleT (News.isTup (by assumption) (by k_mem)) (by decide) (by decide) (by rfl) (by rfl) ?_))
  k_with "subscriptTail Name Constant ref int" => ((k_here; (with_reducible rename StrsAre _ _ => hSA); refine item_strsA (News.isList (by assumption) (by k_mem)) hSA (by decide) (by first | omega | (simp only [List.length_map]; omega)) (by decide) ?_; intro t'))
  k_with "call type:ValueError" => ((refine call_ValueError_made ?_; intro _ _ _))
  k_with "exec While Compare Name cons nil" => (refine Hold.mk ?_)
  k_with "exec While Compare" => (refine Hold.mk ?_)
  k_with "exec While Compare cons nil" => (refine Hold.mk ?_)
  k_with "exec While" => (refine Hold.mk ?_)
  k_with "binaryOp FloorDiv int int" => ((k_here; (with_reducible refine floordiv_pos ?kb1 ?kb2 ?_); (case kb1 => decide); (case kb2 => decide +kernel)))
  k_with "WhlIf" => ((refine whlIf_dec ?_ ?_ <;> intro _))
  k_with "subscriptTail Name Name ref int" => ((k_here; first
    | ((with_reducible rename StrsAre _ _ => hSA); refine item_strsA (News.isList (by assumption) (by k_mem)) hSA (by omega) (by omega) (by omega) ?_; intro t')
    | ((with_reducible rename IntsAre _ _ => hSA); refine item_intsA (News.isList (by assumption) (by k_mem)) hSA (by omega) (by omega) (by omega) ?_; intro t')))
  k_with "call builtin:len" => ((k_here; (with_reducible show wpAny _ _ (call (Value.builtin "len") [Value.ref _]) _ _ _); first
    | ((with_reducible rename StrsAre _ _ => hSA); refine len_strsA (News.isList (by assumption) (by k_mem)) hSA (by omega) ?_)
    | ((with_reducible rename IntsAre _ _ => hSA); refine len_intsA (News.isList (by assumption) (by k_mem)) hSA (by omega) ?_)))
  k_with "M enterC" => ((
    refine wpC_call ?_
    k_dflt (refine' code_def_C ?k1 ?k2 ?k3 ?k4 ?k5 ?kA ?kF ?kK ?k6 ?k7 ?k8 ?k9 ?kB ?_ ?c2 ?c3 ?c4 ?c5; (case kA => exact rfl); (case kF => exact rfl); (case kK => assumption); (case k1 => k_asm); (case k2 => k_asm); (case k3 => k_asm); (case k4 => k_asm); (case k5 => k_asm); (case k6 => k_is); (case k7 => k_is); (case k8 => ((try dsimp only); omega)); (case k9 => first | exact BindsTo.of_eq rfl | (refine' kp_binds ?kx ?ke; (case kx => first | (refine' myIn ?kf ?ki; (case kf => with_reducible assumption); (case ki => with_reducible assumption)) | k_in); (case ke => exact fun _ => rfl)) | exact binds_K (by first | (refine' myIn ?kf ?ki; (case kf => with_reducible assumption); (case ki => with_reducible assumption)) | k_in) rfl (by k_is) rfl rfl rfl); (case c5 => decide); (case kB => exact locs rfl); (case c2 => exact rfl); (case c3 => exact rfl); (case c4 => exact rfl); k_whole; intro g' L' h' FG' F' N' B' X' T'; (have D' := kts_dict B' (by assumption) FG' rfl); (try dsimp only); (try k_lift B'))))
  k_with "M enter0C" => ((
    refine wpC_call ?_
    k_dflt (refine' code_defS0_C ?k1 ?k2 ?k3 ?k4 ?k5 ?kA ?kF ?kK ?k6 ?k7 ?k8 ?k9 ?kB ?_ ?c2 ?c3 ?c4 ?c5; (case kA => exact rfl); (case kF => exact rfl); (case kK => assumption); (case k1 => k_asm); (case k2 => k_asm); (case k3 => k_asm); (case k4 => k_asm); (case k5 => k_asm); (case k6 => k_is); (case k7 => k_is); (case k8 => ((try dsimp only); omega)); (case k9 => first | exact BindsTo.of_eq rfl | (refine' kp_binds ?kx ?ke; (case kx => first | (refine' myIn ?kf ?ki; (case kf => with_reducible assumption); (case ki => with_reducible assumption)) | k_in); (case ke => exact fun _ => rfl)) | exact binds_K (by first | (refine' myIn ?kf ?ki; (case kf => with_reducible assumption); (case ki => with_reducible assumption)) | k_in) rfl (by k_is) rfl rfl rfl); (case c5 => decide); (case kB => exact locs rfl); (case c2 => exact rfl); (case c3 => exact rfl); (case c4 => exact rfl); k_whole; intro g' L' h' FG' F' N' B' X' T' D'; (try dsimp only); (try k_lift B'))))
  k_with "call ref" => (((with_reducible show wpAny _ _ (call (Value.ref 108) _) _ _ _); refine' port_spec ?kB ?kX ?kT ?kXB ?kTB ?kD ?kh ?kd ?ku ?kF ?kN ?k6 ?kv ?_ ?_; (case kB => assumption); (case kX => assumption); (case kT => assumption); (case kXB => assumption); (case kTB => assumption); (case kD => assumption); (case kh => rfl); (case kd => ((try dsimp only); omega)); (case ku => ((try dsimp only); omega)); (case kF => with_reducible assumption); (case kN => with_reducible assumption); (case k6 => first | exact getD_640 (by assumption) _ | assumption); (case kv => first | assumption | (have q := bis_nv (by assumption) (by assumption) (by assumption); exact q) | (have q := bis_nv ((by assumption : 0 ≤ _ → ∀ msg, _ ≠ _) (by omega)) (by assumption) (by assumption); exact q))))
  k_with "M portC" => ((refine' port_val ?kB ?kX ?kT ?kXB ?kTB ?kD ?kh ?kd ?ku ?kF ?kN ?k6 ?kv ?krp ?_; (case kB => assumption); (case kX => assumption); (case kT => assumption); (case kXB => assumption); (case kTB => assumption); (case kD => assumption); (case kh => rfl); (case kd => ((try dsimp only); omega)); (case ku => ((try dsimp only); omega)); (case kF => with_reducible assumption); (case kN => with_reducible assumption); (case k6 => first | with_reducible assumption | exact getD_640 (by with_reducible assumption) _); (case kv => with_reducible assumption); (case krp => with_reducible assumption); intro g₂ e t t1 h' tk FF SS RR UU; k_steps))
  k_with "call type:str" => ((k_here; (with_reducible show wpAny _ _ (call (Value.type "str") [Value.ref _]) _ _ _); refine' str_own ?U ?X ?N ?G ?hs ?hm ?_; (case G => assumption); (case N => assumption); (case U => first | units_room | k_room | ((try dsimp only); omega)); (case X => first | (refine' myIn ?kf ?ki; (case kf => with_reducible assumption); (case ki => with_reducible assumption)) | k_in); (case hs => k_is); (case hm => k_is)))
  k_with "M insC" => (first
    | (refine' insR_valx ?kB ?kX ?kT ?kXB ?kTB ?kD ?kh ?kd ?ku ?kF ?kN ?kx6 ?krp ?kkx ?_; (case kB => assumption); (case kX => assumption); (case kT => assumption); (case kXB => assumption); (case kTB => assumption); (case kD => assumption); (case kh => rfl); (case kd => ((try dsimp only); omega)); (case ku => ((try dsimp only); omega)); (case kF => with_reducible assumption); (case kN => with_reducible assumption); (case krp => with_reducible assumption); (case kx6 => with_reducible assumption); (case kkx => with_reducible assumption); intro g₂ e t t1 h' tk FF SS RR UU; k_steps)
    | (refine' insL_valx ?kB ?kX ?kT ?kXB ?kTB ?kD ?kh ?kd ?ku ?kF ?kN ?kx6 ?krp ?kkx ?_; (case kB => assumption); (case kX => assumption); (case kT => assumption); (case kXB => assumption); (case kTB => assumption); (case kD => assumption); (case kh => rfl); (case kd => ((try dsimp only); omega)); (case ku => ((try dsimp only); omega)); (case kF => with_reducible assumption); (case kN => with_reducible assumption); (case krp => with_reducible assumption); (case kx6 => with_reducible assumption); (case kkx => with_reducible assumption); intro g₂ e t t1 h' tk FF SS RR UU; k_steps))
  trivial
section
variable {w : World} {p : Program} {loose : List PStr} {mean : ExcName → Option Value} {mg mb : PStr → Option Value}
    {dp un : Nat} {gd : Option (List Code)} {cn : PStr} {cs : Scope} {a : Addr} {ccd : Value} {cl : List (PStr × Addr)} {A₀ : Around} {base h₀ : Heap} {L : Addr} {m : PStr → Option Value}
    {s : Shared} {Q E : Value → Shared → Prop} {news : Ldg}
    (B : Below A₀ base [] h₀) (X : (KK.heap_1 w.params).In h₀) (T : Top p loose mean mg mb h₀) (XB : (KK.heap_1 w.params).In base) (TB : Top p loose mean mg mb base) (hck : cs.kind = .function)
include B X T XB TB hck
theorem told_val2x {ra : Addr} {xr : PStr} {lo : Int} {hv : Value} {tw xt tl : Tok} {msg : PStr} (hd5 : dp + 40 < recursionLimit) (hu5 : un + 300 < cLine) (F : Fr h₀ L s.heap m) (N : News h₀ L s.heap news)
   (hx640 : xr.length ≤ 640) (hxrp : RepOk xr) (hkx : p229 xr = .error (.value, msg))
   (hexc : ∀ t h' tk, Fr h₀ L h' m → News h₀ L h' news → Q (.str (toldTxt .value msg) t) { s with heap := h', toks := tk }) :
   wpC (model PySem.Challenge.rw_pm0034_01.row.prog w) (ktrTop dp un gd cn cs L a ccd cl []) (call (.ref 115) [.int 2 tw, .ref ra, .str xr xt, .int lo tl, hv, .ref 108]) Q E s := by
  walk_at "M fill"
  have hz := p229_err_len hkx hx640
  walk_at "M enter0C"
  refine execs_C ?_
  refine try_C ?_
  refine execs_C ?_
  refine if_C ?_
  refine wpC_any ?_
  k_fold
  k_steps
  refine wpC_any (wpAny_execs_nil ?_)
  refine execs_C ?_
  refine return_C ?_
  refine ifExp_C ?_
  refine wpC_any ?_
  k_fold
  k_steps
  refine call_name_KW_C ?_
  k_fold
  k_steps
  refine callWith_KW_C (by k_asm) (by k_is) rfl ?_
  k_fold
  k_steps
  walk_at "M insC"
  (show Q (Value.str (toldTxt .value _) _) _)
  exact hexc _ _ _ (by assumption) (by assumption)
end
section
variable {w : World} {p : Program} {loose : List PStr} {mean : ExcName → Option Value} {mg mb : PStr → Option Value}
    {dp un : Nat} {gd : Option (List Code)} {cn : PStr} {cs : Scope} {a : Addr} {ccd : Value} {cl : List (PStr × Addr)} {A₀ : Around} {base h₀ : Heap} {L : Addr} {m : PStr → Option Value}
    {s : Shared} {Q E : Value → Shared → Prop} {news : Ldg}
    (B : Below A₀ base [] h₀) (X : (KK.heap_1 w.params).In h₀) (T : Top p loose mean mg mb h₀) (XB : (KK.heap_1 w.params).In base) (TB : Top p loose mean mg mb base) (hck : cs.kind = .function)
include B X T XB TB hck
theorem told_val3x {ra : Addr} {xr : PStr} {lo : Int} {hv : Value} {tw xt tl : Tok} {msg : PStr} (hd5 : dp + 40 < recursionLimit) (hu5 : un + 300 < cLine) (F : Fr h₀ L s.heap m) (N : News h₀ L s.heap news)
   (hx640 : xr.length ≤ 640) (hxrp : RepOk xr) (hkx : p229 xr = .error (.value, msg))
   (hexc : ∀ t h' tk, Fr h₀ L h' m → News h₀ L h' news → Q (.str (toldTxt .value msg) t) { s with heap := h', toks := tk }) :
   wpC (model PySem.Challenge.rw_pm0034_01.row.prog w) (ktrTop dp un gd cn cs L a ccd cl []) (call (.ref 115) [.int 3 tw, .ref ra, .str xr xt, .int lo tl, hv, .ref 108]) Q E s := by
  walk_at "M fill"
  have hz := p229_err_len hkx hx640
  walk_at "M enter0C"
  refine execs_C ?_
  refine try_C ?_
  refine execs_C ?_
  refine if_C ?_
  refine wpC_any ?_
  k_fold
  k_steps
  refine wpC_any (wpAny_execs_nil ?_)
  refine execs_C ?_
  refine return_C ?_
  refine ifExp_C ?_
  refine wpC_any ?_
  k_fold
  k_steps
  refine call_name_KW_C ?_
  k_fold
  k_steps
  refine callWith_KW_C (by k_asm) (by k_is) rfl ?_
  k_fold
  k_steps
  walk_at "M insC"
  (show Q (Value.str (toldTxt .value _) _) _)
  exact hexc _ _ _ (by assumption) (by assumption)
end
end
section
theorem lines_L1C_0 : True := by
  walk_at "base"
  trivial
theorem lines_L1C_1 : True := by
  k_with "subscriptTail Name Constant ref int" => ((k_here; refine item_tupleT (News.isTup (by assumption) (by k_mem)) (by decide) (by decide) (by rfl) (by rfl) ?_))
  k_with "subscriptTail Name Constant ref int" => ((k_here; (with_reducible rename StrsAre _ _ => hSA); refine item_strsA (News.isList (by assumption) (by k_mem)) hSA (by decide) (by first | omega | (simp only [List.length_map]; omega)) (by decide) ?_; intro t'))
  k_with "call type:ValueError" => ((refine call_ValueError_made ?_; intro _ _ _))
  k_with "exec While Compare Name cons nil" => (refine Hold.mk ?_)
  k_with "exec While Compare" => (refine Hold.mk ?_)
  k_with "exec While Compare cons nil" => (refine Hold.mk ?_)
  k_with "exec While" => (refine Hold.mk ?_)
  k_with "binaryOp FloorDiv int int" => ((k_here; (with_reducible refine floordiv_pos ?kb1 ?kb2 ?_); (case kb1 => decide); (case kb2 => decide +kernel)))
  k_with "WhlIf" => ((refine whlIf_dec ?_ ?_ <;> intro _))
  k_with "subscriptTail Name Name ref int" => ((k_here; first
    | ((with_reducible rename StrsAre _ _ => hSA); refine item_strsA (News.isList (by assumption) (by k_mem)) hSA (by omega) (by omega) (by omega) ?_; intro t')
    | ((with_reducible rename IntsAre _ _ => hSA); refine item_intsA (News.isList (by assumption) (by k_mem)) hSA (by omega) (by omega) (by omega) ?_; intro t')))
  k_with "call builtin:len" => ((k_here; (with_reducible show wpAny _ _ (call (Value.builtin "len") [Value.ref _]) _ _ _); first
    | ((with_reducible rename StrsAre _ _ => hSA); refine len_strsA (News.isList (by assumption) (by k_mem)) hSA (by omega) ?_)
    | ((with_reducible rename IntsAre _ _ => hSA); refine len_intsA (News.isList (by assumption) (by k_mem)) hSA (by omega) ?_)))
  trivial
theorem lines_L1C_2 : True := by
  k_with "call builtin:len" => ((k_here; (with_reducible show wpAny _ _ (call (Value.builtin "len") [Value.ref _]) _ _ _); k_dflt (refine' len_L ?kN ?kM ?kz ?_; (case kN => with_reducible assumption); (case kM => k_mem); (case kz => omega))))
  k_with "compareOp NotEq ref ref" => ((k_here; (with_reducible show wpAny _ _ (compareOp CmpOp.NotEq (Value.ref _) (Value.ref _)) _ _ _); k_dflt (refine' ne_strs_same ?zN ?za ?zb ?zs ?zu ?_; (case zN => k_asm); (case za => k_mem); (case zb => k_mem); (case zs => with_reducible assumption); (case zu => first | units_room | k_room | ((try dsimp only); omega)))))
  trivial
structure BadIs (x : PStr) (ek : EK) (msg due : PStr) : Prop where
  eq : p229 x = .error (ek, msg)
  txt : toldTxt ek msg = due
  len : x.length ≤ 60
  rep : ek = .value → RepOk x
section
variable {w : World} {p : Program} {loose : List PStr} {mean : ExcName → Option Value} {mg mb : PStr → Option Value}
    {dp un : Nat} {gd : Option (List Code)} {cn : PStr} {cs : Scope} {a : Addr} {ccd : Value} {cl : List (PStr × Addr)} {A₀ : Around} {base h₀ : Heap} {L : Addr} {m : PStr → Option Value}
    {s : Shared} {Q E : Value → Shared → Prop} {news : Ldg}
    (B : Below A₀ base [] h₀) (X : (KK.heap_1 w.params).In h₀) (T : Top p loose mean mg mb h₀) (XB : (KK.heap_1 w.params).In base) (TB : Top p loose mean mg mb base) (hck : cs.kind = .function)
include B X T XB TB hck
theorem told_bad {ra : Addr} {vs : List Value} {k : Nat → KRes} {nn ep : Nat} {bad msg due : PStr} {ek : EK} {lo wh : Int} {hi : Nat} {hv : Value} {tw tl tx : Tok} {gN : Obj → Ldg} (hd5 : dp + 40 < recursionLimit) (hu5 : un + 300 < cLine) (F : Fr h₀ L s.heap m) (N : News h₀ L s.heap news)
   (hw : wh = 2 ∨ wh = 3) (U : UpdF ra (lstOf vs ep) news gN) (hrow : RowIs 108 (.ref 108) vs k nn) (hb : BadIs bad ek msg due) (hl : nn ≤ 1000) (hlo : lo ≤ 1000) (hhi : HiIs hv hi nn)
   (hret : ∀ t h' tk, Fr h₀ L h' m → News h₀ L h' news → Q (.str due t) { s with heap := h', toks := tk }) :
   wpC (model PySem.Challenge.rw_pm0034_01.row.prog w) (ktrTop dp un gd cn cs L a ccd cl []) (call (.ref 115) [.int wh tw, .ref ra, .str bad tx, .int lo tl, hv, .ref 108]) Q E s := by
  by_cases hv2 : ek = .value
  · subst hv2
    have hexc : ∀ t h' tk, Fr h₀ L h' m → News h₀ L h' news → Q (.str (toldTxt .value msg) t) { s with heap := h', toks := tk } := by rw [hb.txt]; exact hret
    rcases hw with rfl | rfl
    · exact told_val2x B X T XB TB hck hd5 hu5 F N (Nat.le_trans hb.len (by decide)) (hb.rep rfl) hb.eq hexc
    · exact told_val3x B X T XB TB hck hd5 hu5 F N (Nat.le_trans hb.len (by decide)) (hb.rep rfl) hb.eq hexc
  · refine wpC_any ?_
    refine told_ins B X T XB TB hck hd5 hu5 F N hw U hrow (.inl ⟨bad, tx, rfl, rfl, hb.eq.symm, Nat.le_trans hb.len (by decide)⟩) hl hlo hhi (fun msg2 e => hv2 (congrArg Prod.fst (Except.error.inj e))) (fun x e => nomatch e) (fun n h' tk e => nomatch e) ?_
    intro ek2 r2 t2 h' tk e F2 N2
    obtain ⟨rfl, rfl⟩ := Prod.mk.inj (Except.error.inj (show (Except.error (ek, msg) : Except (EK × PStr) Nat) = .error (ek2, r2) from e))
    rw [hb.txt]
    exact hret _ _ _ F2 N2
end
section
variable {w : World} {p : Program} {loose : List PStr} {mean : ExcName → Option Value} {mg mb : PStr → Option Value}
    {dp un : Nat} {gd : Option (List Code)} {a : Addr} {ccd : Value} {c1 c2 c3 c4 c5 c6 c7 c8 : Addr} {A₀ : Around} {base h₀ : Heap} {L : Addr}
    {s : Shared} {news : Ldg}
    (B : Below A₀ base [] h₀) (X : (KK.heap_1 w.params).In h₀) (T : Top p loose mean mg mb h₀) (XB : (KK.heap_1 w.params).In base) (TB : Top p loose mean mg mb base)
include B X T XB TB
theorem t1_b5 {W : Addr} {wvs : List Value} {o1 : Obj} {we n : Nat} {wh : Int} {bad msg due : PStr} {ek : EK} {pp : Nat → Int} {rep : Nat → PStr} {WL : List Nat} {led : Ldg} {tw tr te : Tok} {jk : PStr → Option Value} {Q : Flow → Shared → Prop} {E : Value → Shared → Prop}
   (hd5 : dp + 200 < recursionLimit) (hu5 : un + 2000 < cLine) (hw : wh = 2 ∨ wh = 3) (hb : BadIs bad ek msg due)
   (F : Fr h₀ L s.heap (fun y => if y = Str.ofString "which" then some (.int wh tw) else if y = Str.ofString "due" then some (.str due te) else if y = Str.ofString "reply" then some (.str bad tr) else jk y))
   (N : News h₀ L s.heap ((W, lstOf wvs we) :: led)) (hne : ∀ q ∈ led, q.1 ≠ W) (hc1 : (c1, o1) ∈ led) (ho1 : o1.data = .cell (some (.ref W)))
   (hrW : RowW pp rep (.ref 108) WL wvs) (hr : RepG pp rep n) (hWL : ∀ x ∈ WL, x < n) (hl : WL.length ≤ 15)
   (hret : ∀ h' tk, Fr h₀ L h' (fun y => if y = Str.ofString "which" then some (.int wh tw) else if y = Str.ofString "due" then some (.str due te) else if y = Str.ofString "reply" then some (.str bad tr) else jk y) → News h₀ L h' ((W, lstOf wvs we) :: led) → Q .next { s with heap := h', toks := tk }) :
   wpC (model PySem.Challenge.rw_pm0034_01.row.prog w) (ktrTop dp un gd (Str.ofString "law") lawScope1 L a ccd (cells8 c1 c2 c3 c4 c5 c6 c7 c8) []) (execs ((turn1.drop 5).take 1) (envX (Str.ofString "law") lawScope1 L a ccd (cells8 c1 c2 c3 c4 c5 c6 c7 c8))) Q E s := by
  walk_at "M fill"
  have D : KtsDicts (([] : List Env).filterMap (·.frame)) h₀ := fun b hb => nomatch hb
  have hck : lawScope1.kind = .function := by with_unfolding_all rfl
  have hvl := hrW.len
  obtain ⟨k, hri, hk⟩ := hrW.is hr hWL
  rw [← hvl] at hri
  show wpC _ (ktrTop _ _ _ _ (Scope.mk _ _ _ _ _) _ _ _ _ _) (execs (_ :: []) (envX _ (Scope.mk _ _ _ _ _) _ _ _ _)) _ _ _
  refine execs_C ?_
  refine if_C ?_
  refine isTrue_compare_C ?_
  refine call_name_C ?_
  k_fold
  k_steps
  refine callWith_K_C (by k_asm) (by k_is) ?_
  k_fold
  k_steps
  refine' told_bad B X T XB TB hck ?kd ?ku ?kF ?kN hw (UpdF.head hne) hri hb ?kl ?klo (.inr ⟨_, rfl, Nat.le_refl _⟩) ?_
  case kd => omega
  case ku => omega
  case kF => with_reducible assumption
  case kN => with_reducible assumption
  case kl => omega
  case klo => omega
  intro t2 h' tk F2 N2
  k_steps
  · refine absurd (by assumption : (due != due) = true) (by simp)
  · refine wpC_any (wpAny_execs_nil ?_)
    refine wpC_any (wpAny_execs_nil ?_)
    exact hret _ _ (by assumption) (by assumption)
end
section
variable {w : World} {p : Program} {loose : List PStr} {mean : ExcName → Option Value} {mg mb : PStr → Option Value}
    {dp un : Nat} {gd : Option (List Code)} {a : Addr} {ccd : Value} {c1 c2 c3 c4 c5 c6 c7 c8 : Addr} {A₀ : Around} {base h₀ : Heap} {L : Addr}
    {s : Shared} {news : Ldg}
    (B : Below A₀ base [] h₀) (X : (KK.heap_1 w.params).In h₀) (T : Top p loose mean mg mb h₀) (XB : (KK.heap_1 w.params).In base) (TB : Top p loose mean mg mb base)
include B X T XB TB
theorem t1_b6 {W S : Addr} {wvs : List Value} {o1 : Obj} {we sc n : Nat} {wh : Int} {bad msg due : PStr} {ek : EK} {pp : Nat → Int} {rep : Nat → PStr} {WL : List Nat} {led : Ldg} {tw tr te : Tok} {jk : PStr → Option Value} {Q : Flow → Shared → Prop} {E : Value → Shared → Prop}
   (hd5 : dp + 200 < recursionLimit) (hu5 : un + 2000 < cLine) (hw : wh = 2 ∨ wh = 3) (hb : BadIs bad ek msg due)
   (F : Fr h₀ L s.heap (fun y => if y = Str.ofString "which" then some (.int wh tw) else if y = Str.ofString "stood" then some (.ref S) else if y = Str.ofString "due" then some (.str due te) else if y = Str.ofString "reply" then some (.str bad tr) else jk y))
   (N : News h₀ L s.heap ((W, lstOf wvs we) :: led)) (hne : ∀ q ∈ led, q.1 ≠ W) (hc1 : (c1, o1) ∈ led) (ho1 : o1.data = .cell (some (.ref W))) (hS : (S, lstOf wvs sc) ∈ led)
   (hrW : RowW pp rep (.ref 108) WL wvs) (hsW : StrsAre wvs (WL.map rep)) (hr : RepG pp rep n) (hWL : ∀ x ∈ WL, x < n) (hl : WL.length ≤ 15)
   (hret : ∀ h' tk, Fr h₀ L h' (fun y => if y = Str.ofString "which" then some (.int wh tw) else if y = Str.ofString "stood" then some (.ref S) else if y = Str.ofString "due" then some (.str due te) else if y = Str.ofString "reply" then some (.str bad tr) else jk y) → News h₀ L h' ((W, lstOf wvs we) :: led) → Q .cont { s with heap := h', toks := tk }) :
   wpC (model PySem.Challenge.rw_pm0034_01.row.prog w) (ktrTop dp un gd (Str.ofString "law") lawScope1 L a ccd (cells8 c1 c2 c3 c4 c5 c6 c7 c8) []) (execs ((turn1.drop 6).take 1) (envX (Str.ofString "law") lawScope1 L a ccd (cells8 c1 c2 c3 c4 c5 c6 c7 c8))) Q E s := by
  walk_at "M fill"
  have D : KtsDicts (([] : List Env).filterMap (·.frame)) h₀ := fun b hb => nomatch hb
  have hck : lawScope1.kind = .function := by with_unfolding_all rfl
  have hvl := hrW.len
  obtain ⟨k, hri, hk⟩ := hrW.is hr hWL
  rw [← hvl] at hri
  show wpC _ (ktrTop _ _ _ _ (Scope.mk _ _ _ _ _) _ _ _ _ _) (execs (_ :: []) (envX _ (Scope.mk _ _ _ _ _) _ _ _ _)) _ _ _
  refine execs_C ?_
  refine if_C ?_
  refine wpC_any ?_
  k_fold
  k_steps
  refine execs_C ?_
  refine if_C ?_
  refine isTrue_or_C ?_
  refine wpC_any ?_
  k_fold
  k_steps
  refine or_C ?_
  refine isTrue_compare_C ?_
  refine call_name_C ?_
  k_fold
  k_steps
  refine callWith_K_C (by k_asm) (by k_is) ?_
  k_fold
  k_steps
  refine' told_bad B X T XB TB hck ?kd ?ku ?kF ?kN hw (UpdF.head hne) hri hb ?kl ?klo (.inl ⟨rfl, rfl⟩) ?_
  case kd => omega
  case ku => omega
  case kF => with_reducible assumption
  case kN => with_reducible assumption
  case kl => omega
  case klo => omega
  intro t2 h' tk F2 N2
  k_steps
  · refine absurd (by assumption : (due != due) = true) (by simp)
  · refine or_one_C ?_
    k_fold
    k_steps
    refine wpC_any (wpAny_execs_nil ?_)
    refine wpC_any ?_
    k_fold
    k_steps
    exact hret _ _ (by assumption) (by assumption)
end
end
section
theorem lines_L1E_0 : True := by
  walk_at "base"
  trivial
theorem lines_L1E_1 : True := by
  k_with "subscriptTail Name Constant ref int" => ((k_here; refine item_tupleT (News.isTup (by assumption) (by k_mem)) (by decide) (by decide) (by rfl) (by rfl) ?_))
  k_with "subscriptTail Name Constant ref int" => ((k_here; (with_reducible rename StrsAre _ _ => hSA); refine item_strsA (News.isList (by assumption) (by k_mem)) hSA (by decide) (by first | omega | (simp only [List.length_map]; omega)) (by decide) ?_; intro t'))
  k_with "call type:ValueError" => ((refine call_ValueError_made ?_; intro _ _ _))
  k_with "exec While Compare Name cons nil" => (refine Hold.mk ?_)
  k_with "exec While Compare" => (refine Hold.mk ?_)
  k_with "exec While Compare cons nil" => (refine Hold.mk ?_)
  k_with "exec While" => (refine Hold.mk ?_)
  k_with "binaryOp FloorDiv int int" => ((k_here; (with_reducible refine floordiv_pos ?kb1 ?kb2 ?_); (case kb1 => decide); (case kb2 => decide +kernel)))
  k_with "WhlIf" => ((refine whlIf_dec ?_ ?_ <;> intro _))
  k_with "subscriptTail Name Name ref int" => ((k_here; first
    | ((with_reducible rename StrsAre _ _ => hSA); refine item_strsA (News.isList (by assumption) (by k_mem)) hSA (by omega) (by omega) (by omega) ?_; intro t')
    | ((with_reducible rename IntsAre _ _ => hSA); refine item_intsA (News.isList (by assumption) (by k_mem)) hSA (by omega) (by omega) (by omega) ?_; intro t')))
  k_with "call builtin:len" => ((k_here; (with_reducible show wpAny _ _ (call (Value.builtin "len") [Value.ref _]) _ _ _); first
    | ((with_reducible rename StrsAre _ _ => hSA); refine len_strsA (News.isList (by assumption) (by k_mem)) hSA (by omega) ?_)
    | ((with_reducible rename IntsAre _ _ => hSA); refine len_intsA (News.isList (by assumption) (by k_mem)) hSA (by omega) ?_)))
  k_with "subscriptTail Name Constant ref int" => ((k_here; refine item_listL (News.isList (by assumption) (by k_mem)) (by decide) (by decide) (by rfl) ?_))
  trivial
theorem lines_L1E_2 : True := by
  k_with "CompSrc" => ((refine Hold.mk ?_))
  k_with "call ref" => (((with_reducible show wpAny _ _ (call (Value.ref 129) _) _ _ _); refine Hold.mk ?_))
  k_with "compareOp NotEq ref ref" => ((refine Hold.mk ?_))
  trivial
theorem RowW.ints' {p : Nat → Int} {rep : Nat → PStr} {kv : Value} {W : List Nat} {vs : List Value} (h : RowW p rep kv W vs) (hk : kv = .none) : IntsAre vs (W.map p) := by
  rcases h with ⟨e, _⟩ | ⟨_, h⟩
  · rw [hk] at e; cases e
  · exact h
theorem ints_snoc {vs : List Value} {ns : List Int} {k : Int} {t : Tok} (h : IntsAre vs ns) : IntsAre (vs ++ [.int k t]) (ns ++ [k]) := intsAre_append h (.cons k t .nil)
theorem strs_snoc {vs : List Value} {ys : List PStr} {y : PStr} {u : Tok} (h : StrsAre vs ys) : StrsAre (vs ++ [.str y u]) (ys ++ [y]) := h.append' (.cons y u .nil)
theorem take_map_succ {α β : Type} (f : α → β) {l : List α} {j : Nat} {x : α} (h : l[j]? = some x) : (l.take (j + 1)).map f = (l.take j).map f ++ [f x] := by
  rw [List.take_add_one, h, List.map_append]; rfl
theorem blkVs_at {pp : Nat → Int} {rep : Nat → PStr} {n j : Nat} {cvs : List Value} {l : Ldg} {v : Value} (hn : n < 16) (hC : CameW pp rep n cvs l) (h : (blkVs pp n cvs)[j]? = some v) : ∃ i a t t' e, (blk pp n)[j]? = some i ∧ v = .ref a ∧ (a, lstOf [.int (pp i) t, .str (rep i) t'] e) ∈ l := by
  unfold blkVs at h
  rw [List.getElem?_map] at h
  cases e : (blk pp n)[j]? with
  | none => rw [e] at h; cases h
  | some i =>
    rw [e] at h
    have hi : i < n := blk_mem hn (List.mem_of_getElem? e)
    obtain ⟨a, t, t', ee, h1, h2⟩ := hC.at' i hi
    refine ⟨i, a, t, t', ee, rfl, ?_, h2⟩
    have := Option.some.inj h
    rw [← this]
    show cvs.getD i .none = _
    rw [List.getD_eq_getElem?_getD, h1]; rfl
section
variable {w : World} {p : Program} {loose : List PStr} {mean : ExcName → Option Value} {mg mb : PStr → Option Value}
    {dp un : Nat} {gd : Option (List Code)} {a : Addr} {ccd : Value} {c1 c2 c3 c4 c5 c6 c7 c8 : Addr} {A₀ : Around} {base h₀ : Heap} {L : Addr}
    {s : Shared} {news : Ldg}
    (B : Below A₀ base [] h₀) (X : (KK.heap_1 w.params).In h₀) (T : Top p loose mean mg mb h₀) (XB : (KK.heap_1 w.params).In base) (TB : Top p loose mean mg mb base)
include B X T XB TB
theorem t1_e {W Bd Db dn : Addr} {wvs bvs cvs nvs : List Value} {o1 : Obj} {we be de n1 i : Nat} {pp : Nat → Int} {rep : Nat → PStr} {ns : List Int} {led : Ldg} {ti td : Tok} {jk : PStr → Option Value} {Q : Flow → Shared → Prop} {E : Value → Shared → Prop}
   (hd5 : dp + 200 < recursionLimit) (hu5 : un + 2000 < cLine) (hi : i < ns.length) (hn0 : 0 < n1) (hn16 : n1 < 16)
   (F : Fr h₀ L s.heap (fun y => if y = Str.ofString "blocks" then some (.ref Db) else if y = Str.ofString "done" then some (.int (tzM n1 : Int) td) else if y = Str.ofString "bare" then some (.ref Bd) else if y = Str.ofString "turn" then some (.int i ti) else if y = Str.ofString "numbers" then some (.ref dn) else jk y))
   (N : News h₀ L s.heap ((Bd, lstOf bvs be) :: led)) (hne : ∀ q ∈ led, q.1 ≠ Bd)
   (hc1 : (c1, o1) ∈ led) (ho1 : o1.data = .cell (some (.ref W))) (hW : (W, lstOf wvs we) ∈ led) (hDb : (Db, lstOf (blkVs pp n1 cvs) de) ∈ led) (hdn : (dn, lstOf nvs 0) ∈ led) (hns : IntsAre nvs ns) (hnl : ns.length ≤ 15)
   (hr : RepG pp rep n1) (hrW : StrsAre wvs ((blk pp n1).map rep)) (hrB : RowW pp rep .none (blk pp (n1 - 1) ++ [n1 - 1]) bvs) (hCw : CameW pp rep n1 cvs led)
   (hret : ∀ (h' : Heap) (tk : Nat) (vs' : List Value) (ep' : Nat), RowW pp rep .none (blk pp n1) vs' →
      Fr h₀ L h' (fun y => if y = Str.ofString "blocks" then some (.ref Db) else if y = Str.ofString "done" then some (.int (tzM n1 : Int) td) else if y = Str.ofString "bare" then some (.ref Bd) else if y = Str.ofString "turn" then some (.int i ti) else if y = Str.ofString "numbers" then some (.ref dn) else jk y) →
      News h₀ L h' ((Bd, lstOf vs' ep') :: led) → Q .next { s with heap := h', toks := tk }) :
   wpAny (model PySem.Challenge.rw_pm0034_01.row.prog w) (ktrTop dp un gd (Str.ofString "law") lawScope1 L a ccd (cells8 c1 c2 c3 c4 c5 c6 c7 c8) []) (execs ((turn1.drop 12).take 1) (envX (Str.ofString "law") lawScope1 L a ccd (cells8 c1 c2 c3 c4 c5 c6 c7 c8))) Q E s := by
  walk_at "M fill"
  have D : KtsDicts (([] : List Env).filterMap (·.frame)) h₀ := fun b hb => nomatch hb
  have hck : lawScope1.kind = .function := by with_unfolding_all rfl
  have hbl : (blk pp n1).length = n1 := blk_len n1 hn16
  have hbv : (blkVs pp n1 cvs).length = n1 := by unfold blkVs; rw [List.length_map, hbl]
  have hz : (blkVs pp n1 cvs).toArray.size ≤ sizeLine := by rw [List.size_toArray]; exact Nat.le_trans (m := 1000) (by omega) (by decide)
  show wpAny _ (ktrTop _ _ _ _ (Scope.mk _ _ _ _ _) _ _ _ _ _) (execs (_ :: []) (envX _ (Scope.mk _ _ _ _ _) _ _ _ _)) _ _ _
  k_steps
  refine Hold.out ?_
  have ein : ns.getD ((i : Int)).toNat 0 = ns.getD i 0 := rfl
  rw [ein]
  refine' merge_spec (n1 := n1) (rep := rep) ?kB ?kX ?kT ?kXB ?kTB ?kD ?kh ?kd ?ku ?kF N hne ?ke hn0 hn16 hr hrB ?_
  case kB => assumption
  case kX => assumption
  case kT => assumption
  case kXB => assumption
  case kTB => assumption
  case kD => assumption
  case kh => rfl
  case kd => ((try dsimp only); omega)
  case ku => ((try dsimp only); omega)
  case kF => with_reducible assumption
  case ke =>
    have h1 := Int.fmod_nonneg_of_pos (ns.getD i 0 / 80) (show (0 : Int) < 2 by decide)
    have h2 := Int.fmod_lt_of_pos (ns.getD i 0 / 80) (show (0 : Int) < 2 by decide)
    omega
  intro h2 tk2 t2 vs2 ep2 hrB2 F2 N2
  clear N
  k_steps
  all_goals (try (first | (exact absurd rfl (by assumption); done) | (exfalso; omega; done)))
  · refine Hold.out ?_
    (with_reducible rename News _ _ _ _ => kN0)
    refine LCg.CompSrc.ledger (its := (blkVs pp n1 cvs).toArray) (k := de) rfl (by assumption) kN0 (.tail _ (.tail _ hDb)) hz ?_
    clear kN0
    intro g
    refine comp_ind (fun j ys nw => nw = _ :: (Bd, lstOf vs2 ep2) :: led ∧ IntsAre ys (((blk pp n1).take j).map pp)) ⟨rfl, .nil⟩ ?turn ?fin
    case turn =>
      rintro j v I oI C oC D' m₂ ys nw h tk E' hi hv ⟨rfl, hI⟩ hC hx kF kN off ne
      obtain ⟨i9, r, t9, u, e, hb9, rfl, hr9⟩ := blkVs_at hn16 hCw (by simpa using hv)
      have hr3 := memOf kN (.tail _ (.tail _ (.tail _ (.tail _ (.tail _ hr9)))))
      (with_reducible show wpAny _ _ _ _ _ _)
      k_fold
      k_steps
      refine LCg.CompEnd.intro kF kN _ (fun p hp => hp) off (.inr ⟨_, .tail _ (.tail _ hDb), rfl, _, rfl⟩) ⟨rfl, ?_⟩
      rw [take_map_succ pp hb9]
      exact ints_snoc hI
    case fin =>
      rintro ys nw ⟨rfl, hI⟩
      intro D1 h tk kF kN off
      rw [List.size_toArray, hbv, List.take_of_length_le (by omega)] at hI
      k_steps
      refine Hold.out ?_
      refine LCg.CompSrc.ledger (its := (blkVs pp n1 cvs).toArray) (k := de) rfl (by assumption) kN (.tail _ (.tail _ (.tail _ hDb))) hz ?_
      clear kN
      intro g2
      refine comp_ind (fun j ys2 nw => nw = (D1, _) :: _ :: (Bd, lstOf vs2 ep2) :: led ∧ StrsAre ys2 (((blk pp n1).take j).map rep)) ⟨rfl, .nil⟩ ?turn2 ?fin2
      case turn2 =>
        rintro j v I oI C oC D' m₂ ys2 nw h tk E' hi hv ⟨rfl, hI2⟩ hC hx kF kN off ne
        obtain ⟨i9, r, t9, u, e, hb9, rfl, hr9⟩ := blkVs_at hn16 hCw (by simpa using hv)
        have hr3 := memOf kN (.tail _ (.tail _ (.tail _ (.tail _ (.tail _ (.tail _ hr9))))))
        (with_reducible show wpAny _ _ _ _ _ _)
        k_fold
        k_steps
        refine LCg.CompEnd.intro kF kN _ (fun p hp => hp) off (.inr ⟨_, .tail _ (.tail _ (.tail _ hDb)), rfl, _, rfl⟩) ⟨rfl, ?_⟩
        rw [take_map_succ rep hb9]
        exact strs_snoc hI2
      case fin2 =>
        rintro ys2 nw ⟨rfl, hI2⟩
        intro D2 h tk kF kN off
        rw [List.size_toArray, hbv, List.take_of_length_le (by omega)] at hI2
        k_steps
        refine Hold.out ?_
        (show wpAny _ _ (compareOp CmpOp.NotEq _ _) _ _ _)
        (with_reducible rename News _ _ _ _ => kN9)
        have hbi := hrB2.ints' rfl
        refine ne_two_same (ea := ep2) (eb := we) kN9 (.tail _ (.tail _ (.tail _ (.head _)))) (.head _) (.tail _ (.tail _ (.tail _ (.tail _ (.head _))))) (.tail _ (.tail _ (.tail _ (.tail _ (.tail _ hW))))) (.tail _ (.tail _ (.head _))) (.tail _ (.head _))
          (by rw [ints_length hbi, ints_length hI]) (by rw [hrW.len_eq, hI2.len_eq]) (fun A' => eqAt_ints hbi hI) (fun A' => eqAt_strs hrW hI2) (by first | units_room | k_room | ((try dsimp only); omega)) ?_
        k_steps
        exact hret _ _ vs2 ep2 hrB2 (by assumption) (news_drop1 (news_drop1 (news_drop1 (news_drop1 (by assumption)))))
end
end
section
theorem lines_L1F_0 : True := by
  walk_at "base"
  k_with "M sub" => ((
    (repeat' (with_reducible first | refine sub_cons ?_ ?_ | refine sub_app ?_ ?_ | exact sub_nil9))
    (all_goals (repeat (with_reducible first | exact sub_self9 | exact sub_l sub_self9 | exact List.mem_cons_self | refine sub_tl ?_ | refine sub_r ?_ | refine List.mem_cons_of_mem _ ?_ | refine List.mem_append_right _ ?_)))))
  trivial
theorem lines_L1F_1 : True := by
  k_with "subscriptTail Name Constant ref int" => ((k_here; refine item_tupleT (News.isTup (by assumption) (by k_mem)) (by decide) (by decide) (by rfl) (by rfl) ?_))
  k_with "subscriptTail Name Constant ref int" => ((k_here; (with_reducible rename StrsAre _ _ => hSA); refine item_strsA (News.isList (by assumption) (by k_mem)) hSA (by decide) (by first | omega | (simp only [List.length_map]; omega)) (by decide) ?_; intro t'))
  k_with "call type:ValueError" => ((refine call_ValueError_made ?_; intro _ _ _))
  k_with "exec While Compare Name cons nil" => (refine Hold.mk ?_)
  k_with "exec While Compare" => (refine Hold.mk ?_)
  k_with "exec While Compare cons nil" => (refine Hold.mk ?_)
  k_with "exec While" => (refine Hold.mk ?_)
  k_with "binaryOp FloorDiv int int" => ((k_here; (with_reducible refine floordiv_pos ?kb1 ?kb2 ?_); (case kb1 => decide); (case kb2 => decide +kernel)))
  k_with "WhlIf" => ((refine whlIf_dec ?_ ?_ <;> intro _))
  k_with "subscriptTail Name Name ref int" => ((k_here; first
    | ((with_reducible rename StrsAre _ _ => hSA); refine item_strsA (News.isList (by assumption) (by k_mem)) hSA (by omega) (by omega) (by omega) ?_; intro t')
    | ((with_reducible rename IntsAre _ _ => hSA); refine item_intsA (News.isList (by assumption) (by k_mem)) hSA (by omega) (by omega) (by omega) ?_; intro t')))
  k_with "call builtin:len" => ((k_here; (with_reducible show wpAny _ _ (call (Value.builtin "len") [Value.ref _]) _ _ _); first
    | ((with_reducible rename StrsAre _ _ => hSA); refine len_strsA (News.isList (by assumption) (by k_mem)) hSA (by omega) ?_)
    | ((with_reducible rename IntsAre _ _ => hSA); refine len_intsA (News.isList (by assumption) (by k_mem)) hSA (by omega) ?_)))
  k_with "M fr2" => ((intro y hy; (repeat (refine (if_neg (ne_of_out hy (by with_unfolding_all rfl))).trans ?_)); (refine Eq.symm ?_); (repeat (refine (if_neg (ne_of_out hy (by with_unfolding_all rfl))).trans ?_)); rfl))
  trivial
theorem Out1.ne {W Bd C : Addr} {K : Ldg} {q : Addr × Obj} (h : Out1 W Bd C K q) : q.1 ≠ W ∧ q.1 ≠ Bd ∧ q.1 ≠ C ∧ q.1 ≠ 131 := ⟨h.a, h.b, h.c, h.t⟩
section
variable {w : World} {p : Program} {loose : List PStr} {mean : ExcName → Option Value} {mg mb : PStr → Option Value}
    {dp un : Nat} {gd : Option (List Code)} {a : Addr} {ccd : Value} {c1 c2 c3 c4 c5 c6 c7 c8 : Addr} {A₀ : Around} {base h₀ : Heap} {L : Addr}
    {s : Shared} {news : Ldg}
    (B : Below A₀ base [] h₀) (X : (KK.heap_1 w.params).In h₀) (T : Top p loose mean mg mb h₀) (XB : (KK.heap_1 w.params).In base) (TB : Top p loose mean mg mb base)
include B X T XB TB
theorem turn1_all {W Bd C dn : Addr} {nvs : List Value} {ns : List Int} {σ : S1} {o1 o2 : Obj} {K mid0 : Ldg} {i : Nat} {ti : Tok} {own : Addr × Obj} {Q : Flow → Shared → Prop} {E : Value → Shared → Prop}
   (hd5 : dp + 200 < recursionLimit) (hu5 : un + 2000 < cLine) (hi : i < ns.length) (hA : Apt1 W Bd C K) (hC : Ok1 ns nvs W Bd C dn c1 c2 o1 o2 K mid0 i σ) (hown : ∀ q ∈ l1 W Bd C K σ, q.1 ≠ own.1)
   (ho1 : o1.data = .cell (some (.ref W))) (ho2 : o2.data = .cell (some (.ref C))) (hns : IntsAre nvs ns) (hnl : ns.length ≤ 15)
   (F : Fr h₀ L s.heap (fun y => if y = Str.ofString "turn" then some (.int i ti) else m1 dn Bd (sumTz (nT ns i)) σ y)) (N : News h₀ L s.heap (own :: l1 W Bd C K σ))
   (hret : ∀ (f : Flow) (h' : Heap) (tk : Nat) (σ' : S1), (f = .next ∨ f = .cont) → Ok1 ns nvs W Bd C dn c1 c2 o1 o2 K mid0 (i + 1) σ' → (∀ q ∈ l1 W Bd C K σ', q.1 ≠ own.1) → Fr h₀ L h' (m1 dn Bd (sumTz (nT ns (i + 1))) σ') → News h₀ L h' (own :: l1 W Bd C K σ') → Q f { s with heap := h', toks := tk }) :
   wpC (model PySem.Challenge.rw_pm0034_01.row.prog w) (ktrTop dp un gd (Str.ofString "law") lawScope1 L a ccd (cells8 c1 c2 c3 c4 c5 c6 c7 c8) []) (execs turn1 (envX (Str.ofString "law") lawScope1 L a ccd (cells8 c1 c2 c3 c4 c5 c6 c7 c8))) Q E s := by
  have D : KtsDicts (([] : List Env).filterMap (·.frame)) h₀ := fun b hb => nomatch hb
  have hck : lawScope1.kind = .function := by with_unfolding_all rfl
  obtain ⟨wvs, we, bvs, be, cvs, ce, tb, tm, mid, jk⟩ := σ
  obtain ⟨hrW, hrB, hcW, hlam, hout, hh1, hh2, hdn, hsub⟩ := hC
  dsimp only at hrW hrB hcW hlam hout hh1 hh2 hdn hsub
  unfold l1 at N hown
  unfold m1 at F
  dsimp only at N hown F
  obtain ⟨k, ek⟩ : ∃ k, k = nT ns i := ⟨_, rfl⟩
  rw [← ek] at hrW hrB hcW F
  have hki : k ≤ i := by rw [ek]; exact nT_le i
  have hwl := hrW.len
  have hbl := hrB.len
  have hcl := hcW.len
  rw [blk_len k (by omega)] at hwl hbl
  have hkN : k ≤ nT ns ns.length := by rw [ek]; exact nT_mono (by omega)
  have hrep : RepG (pT ns) (rT ns) k := repG_T hkN
  have hblt : ∀ x ∈ blk (pT ns) k, x < k := fun x hx => blk_mem (by omega) hx
  have hbk : (blk (pT ns) k).length ≤ 15 := by rw [blk_len k (by omega)]; omega
  have w0 : own.1 ≠ W := (hown _ (.head _)).symm
  have w1 : own.1 ≠ Bd := (hown _ (.tail _ (.head _))).symm
  have w2 : own.1 ≠ C := (hown _ (.tail _ (.tail _ (.head _)))).symm
  have w3 : own.1 ≠ 131 := (hown _ (.tail _ (.tail _ (.tail _ (.head _))))).symm
  have wm : ∀ q ∈ K ++ mid, q.1 ≠ own.1 := fun q hq => hown _ (.tail _ (.tail _ (.tail _ (.tail _ hq))))
  have km : ∀ q ∈ K ++ mid, q.1 ≠ W ∧ q.1 ≠ Bd ∧ q.1 ≠ C ∧ q.1 ≠ 131 := fun q hq => by
    rcases List.mem_append.mp hq with hq | hq
    · exact ⟨hA.k1 q hq, hA.k2 q hq, hA.k3 q hq, hA.k4 q hq⟩
    · exact (hout q hq).ne
  show wpC (model PySem.Challenge.rw_pm0034_01.row.prog w) (ktrTop dp un gd (Str.ofString "law") lawScope1 L a ccd (cells8 c1 c2 c3 c4 c5 c6 c7 c8) []) (execs (turn1.drop 0) (envX (Str.ofString "law") lawScope1 L a ccd (cells8 c1 c2 c3 c4 c5 c6 c7 c8))) Q E s
  obtain ⟨M0, eM0, F0⟩ := fr_ext F
  refine chunk_any 5 ?_
  refine t1_a B X T XB TB (dn := dn) (W := W) (jk := M0) (i := i) hd5 hu5 hi (fr_map [Str.ofString "turn", Str.ofString "numbers"] F0 (by subst eM0; walk_at "M map1") (by walk_at "M fr2")) N (.tail _ (.tail _ (.tail _ (.tail _ (.tail _ (List.mem_append_right _ hh1)))))) ho1 (.tail _ (.head _)) (by omega) (.tail _ (.tail _ (.tail _ (.tail _ (.tail _ (List.mem_append_right _ hdn)))))) hns hnl ?_
  intro h1 tk1 S sc wh tw tr th tp dv hwh hdv F1a N1 hS
  rw [← (jOf_lt (ns := ns) i).2] at F1a
  rw [hTi_eq] at F1a hdv
  rw [show repR (kOf ns i) (poS (jOf ns i)) (leS (97 + i)) = repT ns i from rfl] at F1a
  rw [show dueR (kOf ns i) (poS (jOf ns i)) (leS (97 + i)) = dueT ns i from rfl] at hdv
  have sW : ∀ q ∈ own :: (W, lstOf wvs we) :: (Bd, lstOf bvs be) :: (C, lstOf cvs ce) :: (131, tabObj tb) :: (K ++ mid), q.1 ≠ S := fun q hq => Nat.ne_of_lt (hS q hq)
  rcases hdv with ⟨hk9, rfl⟩ | ⟨hk9, te, rfl⟩
  · -- a good one
    obtain ⟨M1, eM1, F1⟩ := fr_ext F1a
    clear F1a
    show wpC (model PySem.Challenge.rw_pm0034_01.row.prog w) (ktrTop dp un gd (Str.ofString "law") lawScope1 L a ccd (cells8 c1 c2 c3 c4 c5 c6 c7 c8) []) (execs (turn1.drop 5) (envX (Str.ofString "law") lawScope1 L a ccd (cells8 c1 c2 c3 c4 c5 c6 c7 c8))) Q E _
    have enx : nT ns (i + 1) = k + 1 := by rw [nT_good hk9, ek]
    have egA : gAt ns k = i := by rw [ek]; exact gAt_at hk9 hi
    have epT : pT ns k = (jOf ns i : Int) * 7 := by unfold pT; rw [egA]
    have erT : rT ns k = repT ns i := by unfold rT; rw [egA]
    have hp : NewOk (repT ns i) ((jOf ns i : Int) * 7) := ⟨(repT_good hk9).1, (repT_good hk9).2⟩
    have hkN1 : k + 1 ≤ nT ns ns.length := by rw [← enx]; exact nT_mono (by omega)
    have hrep1 : RepG (pT ns) (rT ns) (k + 1) := repG_T hkN1
    have hk14 : k ≤ 14 := by omega
    have hsum : sumTz k ≤ 42 := Nat.le_trans (sumTz_le k) (by omega)
    generalize hport : (jOf ns i : Int) * 7 = port at *
    generalize hnew : repT ns i = new at *
    have hne3 : Ne3 W Bd C ((S, lstOf wvs sc) :: own :: (131, tabObj tb) :: (K ++ mid)) := ⟨hA.a, hA.b, hA.c, fun q hq => by
        rcases List.mem_cons.mp hq with rfl | hq
        · exact (sW _ (.tail _ (.head _))).symm
        rcases List.mem_cons.mp hq with rfl | hq
        · exact w0
        rcases List.mem_cons.mp hq with rfl | hq
        · exact hA.t1.symm
        · exact (km q hq).1, fun q hq => by
        rcases List.mem_cons.mp hq with rfl | hq
        · exact (sW _ (.tail _ (.tail _ (.head _)))).symm
        rcases List.mem_cons.mp hq with rfl | hq
        · exact w1
        rcases List.mem_cons.mp hq with rfl | hq
        · exact hA.t2.symm
        · exact (km q hq).2.1, fun q hq => by
        rcases List.mem_cons.mp hq with rfl | hq
        · exact (sW _ (.tail _ (.tail _ (.tail _ (.head _))))).symm
        rcases List.mem_cons.mp hq with rfl | hq
        · exact w2
        rcases List.mem_cons.mp hq with rfl | hq
        · exact hA.t3.symm
        · exact (km q hq).2.2.1⟩
    refine chunk_any 2 ?_
    refine t1_g1 B X T XB TB (bvs := bvs) (cvs := cvs) (W := W) (we := we) (Bd := Bd) (be := be) (C := C) (ce := ce) (S := S) (jk := M1) (n := k) (port := port) (new := new) (pp := pT ns) (rep := rT ns) (WL := blk (pT ns) k) (tw := tw) (tr := tr) (led := (S, lstOf wvs sc) :: own :: (131, tabObj tb) :: (K ++ mid)) hd5 hu5 hwh hp (fr_map [Str.ofString "which", Str.ofString "stood", Str.ofString "due", Str.ofString "reply"] F1 (by subst eM1; walk_at "M map1") (by walk_at "M fr2")) (news_sub N1 ?g1) hne3 (.tail _ (.tail _ (.tail _ (List.mem_append_right _ hh1)))) ho1 hrW hrep hblt hbk ?_
    case g1 =>
      walk_at "M sub"
    intro h2 tk2 F2 N2
    show wpC (model PySem.Challenge.rw_pm0034_01.row.prog w) (ktrTop dp un gd (Str.ofString "law") lawScope1 L a ccd (cells8 c1 c2 c3 c4 c5 c6 c7 c8) []) (execs (turn1.drop 7) (envX (Str.ofString "law") lawScope1 L a ccd (cells8 c1 c2 c3 c4 c5 c6 c7 c8))) Q E _
    obtain ⟨M2, eM2, F2⟩ := fr_ext F2
    refine chunk_any 2 ?_
    refine t1_g2 B X T XB TB (W := W) (we := we + 1) (Bd := Bd) (be := be) (C := C) (ce := ce) (S := S) (sc := sc) (jk := M2) (n := k) (port := port) (new := new) (hs := leS (97 + i)) (pp := pT ns) (rep := rT ns) (WL := blk (pT ns) k) (tw := tw) (tr := tr) (tp := tp) (th := th) (led := (S, lstOf wvs sc) :: own :: (131, tabObj tb) :: (K ++ mid)) hd5 hu5 hwh hp (show (1 : Nat) ≤ 10 by decide) (fr_map [Str.ofString "which", Str.ofString "stood", Str.ofString "reply", Str.ofString "host", Str.ofString "port", Str.ofString "bare"] F2 (by subst eM2 eM1 eM0; walk_at "M map1") (by walk_at "M fr2")) N2 hne3 (.tail _ (.tail _ (.tail _ (List.mem_append_right _ hh1)))) ho1 (.tail _ (.tail _ (.tail _ (List.mem_append_right _ hh2)))) ho2 (.head _) hrW hrB hrep hblt hbk (by omega) ?_
    intro h3 tk3 P hP F3 N3
    show wpC (model PySem.Challenge.rw_pm0034_01.row.prog w) (ktrTop dp un gd (Str.ofString "law") lawScope1 L a ccd (cells8 c1 c2 c3 c4 c5 c6 c7 c8) []) (execs (turn1.drop 9) (envX (Str.ofString "law") lawScope1 L a ccd (cells8 c1 c2 c3 c4 c5 c6 c7 c8))) Q E _
    obtain ⟨M3, eM3, F3⟩ := fr_ext F3
    have pW : P ≠ W := Nat.ne_of_gt (hP _ (.head _))
    have pB : P ≠ Bd := Nat.ne_of_gt (hP _ (.tail _ (.head _)))
    have pC : P ≠ C := Nat.ne_of_gt (hP _ (.tail _ (.tail _ (.head _))))
    have pO : own.1 ≠ P := Nat.ne_of_lt (hP _ (.tail _ (.tail _ (.tail _ (.tail _ (.head _))))))
    have pT1 : P ≠ 131 := Nat.ne_of_gt (hP _ (.tail _ (.tail _ (.tail _ (.tail _ (.tail _ (.head _)))))))
    have pm : ∀ q ∈ K ++ mid, q.1 ≠ P := fun q hq => Nat.ne_of_lt (hP _ (.tail _ (.tail _ (.tail _ (.tail _ (.tail _ (.tail _ hq)))))))
    have hcW1 : CameW (pT ns) (rT ns) (k + 1) (cvs ++ [.ref P]) ((P, lstOf [.int port tp, .str new tr] 0) :: mid) := came_snoc hcW (by rw [epT, erT]; exact .head _) (fun q hq => .tail _ hq) (fun q hq => pm q (List.mem_append_right _ hq))
    have hrW1 := row_snocS (t := tr) hrW erT
    have hrB1 := row_snocI (t := tp) hrB epT
    refine chunk_any 3 ?_
    refine t1_d B X T XB TB (we := we + 1) (tb := tb) (ls := mid) (ce := ce + 1) (W := W) (C := C) (dn := dn) (jk := M3) (n1 := k + 1) (sm := (sumTz k : Int)) (tm := tm) (i := i) (ti := ti) (rep := rT ns) (led := (Bd, lstOf (bvs ++ [.int port tp]) (be + 1)) :: (C, lstOf (cvs ++ [.ref P]) (ce + 1)) :: (P, lstOf [.int port tp, .str new tr] 0) :: own :: (K ++ mid)) hd5 hu5 hi (by omega) (by omega) (by omega) (fr_map [Str.ofString "turn", Str.ofString "numbers", Str.ofString "merges"] F3 (by subst eM3 eM2 eM1 eM0; walk_at "M map1") (by walk_at "M fr2")) (news_sub N3 ?d1) hA.t1 ?d2 ?d3 hlam ?d4 (.tail _ (.tail _ (.tail _ (.tail _ (List.mem_append_right _ hh1))))) ho1 (.tail _ (.tail _ (.tail _ (.tail _ (List.mem_append_right _ hh2))))) ho2 (.tail _ (.head _)) (.tail _ (.tail _ (.tail _ (.tail _ (List.mem_append_right _ hdn))))) hns hnl hrep1 hrW1 ?d5 ?_
    case d1 =>
      walk_at "M sub"
    case d2 =>
      intro q hq
      rcases List.mem_cons.mp hq with rfl | hq
      · exact hA.a.symm
      rcases List.mem_cons.mp hq with rfl | hq
      · exact hA.b.symm
      rcases List.mem_cons.mp hq with rfl | hq
      · exact pW
      rcases List.mem_cons.mp hq with rfl | hq
      · exact w0
      · exact (km q hq).1
    case d3 =>
      intro q hq
      rcases List.mem_cons.mp hq with rfl | hq
      · exact hA.t2
      rcases List.mem_cons.mp hq with rfl | hq
      · exact hA.t3
      rcases List.mem_cons.mp hq with rfl | hq
      · exact pT1
      rcases List.mem_cons.mp hq with rfl | hq
      · exact w3
      · exact (km q hq).2.2.2
    case d4 => exact fun q hq => .tail _ (.tail _ (.tail _ (.tail _ (List.mem_append_right _ hq))))
    case d5 =>
      refine hcW1.mono fun q hq => ?_
      rcases List.mem_cons.mp hq with rfl | hq
      · exact .tail _ (.tail _ (.head _))
      · exact .tail _ (.tail _ (.tail _ (.tail _ (List.mem_append_right _ hq))))
    intro h4 tk4 vs4 ep4 Db de4 tb4 ex t41 t42 hrW4 hlam4 hex4 hexT hexN hDb4 F4 N4
    show wpC (model PySem.Challenge.rw_pm0034_01.row.prog w) (ktrTop dp un gd (Str.ofString "law") lawScope1 L a ccd (cells8 c1 c2 c3 c4 c5 c6 c7 c8) []) (execs (turn1.drop 12) (envX (Str.ofString "law") lawScope1 L a ccd (cells8 c1 c2 c3 c4 c5 c6 c7 c8))) Q E _
    obtain ⟨M4, eM4, F4⟩ := fr_ext F4
    have dW : ∀ q ∈ ex, q.1 ≠ W := fun q hq => by
      obtain ⟨vs, hd⟩ := hex4 q hq
      refine ne_by_data N4 (q := q) (r := (W, lstOf vs4 ep4)) (.tail _ (.tail _ (.tail _ (List.mem_append_left _ hq)))) (.tail _ (.tail _ (.head _))) ?_
      rw [hd]; intro c; cases c
    have dB : ∀ q ∈ ex, q.1 ≠ Bd := fun q hq => by
      obtain ⟨vs, hd⟩ := hex4 q hq
      refine ne_by_data N4 (q := q) (r := (Bd, _)) (.tail _ (.tail _ (.tail _ (List.mem_append_left _ hq)))) (.tail _ (.tail _ (.tail _ (List.mem_append_right _ (.head _))))) ?_
      rw [hd]; intro c; cases c
    have dC : ∀ q ∈ ex, q.1 ≠ C := fun q hq => by
      obtain ⟨vs, hd⟩ := hex4 q hq
      refine ne_by_data N4 (q := q) (r := (C, _)) (.tail _ (.tail _ (.tail _ (List.mem_append_left _ hq)))) (.tail _ (.tail _ (.tail _ (List.mem_append_right _ (.tail _ (.head _)))))) ?_
      rw [hd]; intro c; cases c
    have dK : ∀ q ∈ ex, ∀ r ∈ K, q.1 ≠ r.1 := fun q hq r hr => by
      obtain ⟨vs, hd⟩ := hex4 q hq
      refine ne_by_data N4 (q := q) (r := r) (.tail _ (.tail _ (.tail _ (List.mem_append_left _ hq)))) (.tail _ (.tail _ (.tail _ (List.mem_append_right _ (.tail _ (.tail _ (.tail _ (.tail _ (List.mem_append_left _ hr))))))))) ?_
      rw [hd, hA.kd r hr]; intro c; cases c
    have dO : ∀ q ∈ ex, q.1 ≠ own.1 := fun q hq => by
      rcases hexN q hq with h | h
      · exact wm q (List.mem_append_right _ h)
      · exact (h own (.tail _ (.tail _ (.tail _ (.head _))))).symm
    have hcW2 : ∀ q ∈ (P, lstOf [.int port tp, .str new tr] 0) :: mid, q ∈ (Db, lstOf (blkVs (pT ns) (k + 1) (cvs ++ [.ref P])) de4) :: (131, tabObj tb4) :: (W, lstOf vs4 ep4) :: (ex ++ (C, lstOf (cvs ++ [.ref P]) (ce + 1)) :: (P, lstOf [.int port tp, .str new tr] 0) :: own :: (K ++ mid)) := fun q hq => by
      rcases List.mem_cons.mp hq with rfl | hq
      · exact .tail _ (.tail _ (.tail _ (List.mem_append_right _ (.tail _ (.head _)))))
      · exact .tail _ (.tail _ (.tail _ (List.mem_append_right _ (.tail _ (.tail _ (.tail _ (List.mem_append_right _ hq)))))))
    have cin : ∀ q ∈ mid, q ∈ (Db, lstOf (blkVs (pT ns) (k + 1) (cvs ++ [.ref P])) de4) :: (131, tabObj tb4) :: (W, lstOf vs4 ep4) :: (ex ++ (C, lstOf (cvs ++ [.ref P]) (ce + 1)) :: (P, lstOf [.int port tp, .str new tr] 0) :: own :: (K ++ mid)) := fun q hq => hcW2 q (.tail _ hq)
    refine chunk_any 1 ?_
    refine t1_e B X T XB TB (W := W) (we := ep4) (Bd := Bd) (Db := Db) (de := de4) (dn := dn) (be := be + 1) (jk := M4) (n1 := k + 1) (i := i) (ti := ti) (rep := rT ns) (td := t41) (led := (Db, lstOf (blkVs (pT ns) (k + 1) (cvs ++ [.ref P])) de4) :: (131, tabObj tb4) :: (W, lstOf vs4 ep4) :: (ex ++ (C, lstOf (cvs ++ [.ref P]) (ce + 1)) :: (P, lstOf [.int port tp, .str new tr] 0) :: own :: (K ++ mid))) hd5 hu5 hi (by omega) (by omega) (fr_map [Str.ofString "blocks", Str.ofString "done", Str.ofString "bare", Str.ofString "turn", Str.ofString "numbers"] F4 (by subst eM4 eM3 eM2 eM1 eM0; walk_at "M map1") (by walk_at "M fr2")) (news_sub N4 ?e1) ?e2 (cin _ hh1) ho1 (.tail _ (.tail _ (.head _))) (.head _) (cin _ hdn) hns hnl hrep1 (hrW4.strs rfl) hrB1 (hcW1.mono hcW2) ?_
    case e1 =>
      walk_at "M sub"
    case e2 =>
      intro q hq
      rcases List.mem_cons.mp hq with rfl | hq
      · exact (hDb4 _ (.head _)).symm
      rcases List.mem_cons.mp hq with rfl | hq
      · exact hA.t2.symm
      rcases List.mem_cons.mp hq with rfl | hq
      · exact hA.a
      rcases List.mem_append.mp hq with hq | hq
      · exact dB q hq
      rcases List.mem_cons.mp hq with rfl | hq
      · exact hA.c.symm
      rcases List.mem_cons.mp hq with rfl | hq
      · exact pB
      rcases List.mem_cons.mp hq with rfl | hq
      · exact w1
      · exact (km q hq).2.1
    intro h5 tk5 vs5 ep5 hrB5 F5 N5
    show wpC (model PySem.Challenge.rw_pm0034_01.row.prog w) (ktrTop dp un gd (Str.ofString "law") lawScope1 L a ccd (cells8 c1 c2 c3 c4 c5 c6 c7 c8) []) (execs (turn1.drop 13) (envX (Str.ofString "law") lawScope1 L a ccd (cells8 c1 c2 c3 c4 c5 c6 c7 c8))) Q E _
    obtain ⟨M5, eM5, F5⟩ := fr_ext F5
    show wpC (model PySem.Challenge.rw_pm0034_01.row.prog w) (ktrTop dp un gd (Str.ofString "law") lawScope1 L a ccd (cells8 c1 c2 c3 c4 c5 c6 c7 c8) []) (execs [] (envX (Str.ofString "law") lawScope1 L a ccd (cells8 c1 c2 c3 c4 c5 c6 c7 c8))) Q E _
    refine wpC_any (wpAny_execs_nil ?_)
    refine hret .next h5 tk5 ⟨vs4, ep4, vs5, ep5, cvs ++ [.ref P], ce + 1, tb4, t42, ex ++ (P, lstOf [.int port tp, .str new tr] 0) :: mid, M5⟩ (.inl rfl) ⟨by rw [enx]; exact hrW4, by rw [enx]; exact hrB5, by rw [enx]; exact hcW1.mono fun q hq => List.mem_append_right _ hq, hlam4.mono fun q hq => List.mem_append_left _ hq, ?f1, List.mem_append_right _ (.tail _ hh1), List.mem_append_right _ (.tail _ hh2), List.mem_append_right _ (.tail _ hdn), fun q hq => List.mem_append_right _ (.tail _ (hsub q hq))⟩ ?f2 ?f3 (news_sub N5 ?f4)
    case f1 =>
      intro q hq
      dsimp only at hq
      rcases List.mem_append.mp hq with hq | hq
      · exact ⟨dW q hq, dB q hq, dC q hq, hexT q hq, dK q hq⟩
      rcases List.mem_cons.mp hq with rfl | hq
      · exact ⟨pW, pB, pC, pT1, fun r hr => (pm r (List.mem_append_left _ hr)).symm⟩
      · exact hout q hq
    case f2 =>
      intro q hq
      unfold l1 at hq
      dsimp only at hq
      rcases List.mem_cons.mp hq with rfl | hq
      · exact w0.symm
      rcases List.mem_cons.mp hq with rfl | hq
      · exact w1.symm
      rcases List.mem_cons.mp hq with rfl | hq
      · exact w2.symm
      rcases List.mem_cons.mp hq with rfl | hq
      · exact w3.symm
      rcases List.mem_append.mp hq with hq | hq
      · exact wm q (List.mem_append_left _ hq)
      rcases List.mem_append.mp hq with hq | hq
      · exact dO q hq
      rcases List.mem_cons.mp hq with rfl | hq
      · exact pO.symm
      · exact wm q (List.mem_append_right _ hq)
    case f3 =>
      rw [enx]
      unfold m1
      have es : ((sumTz (k + 1) : Nat) : Int) = (sumTz k : Int) + (tzM (k + 1) : Int) := Int.natCast_add _ _
      rw [es]
      exact fr_map [Str.ofString "numbers", Str.ofString "merges", Str.ofString "bare"] F5 (by subst eM5 eM4 eM3 eM2 eM1 eM0; walk_at "M map1") (by walk_at "M fr2")
    case f4 =>
      unfold l1
      dsimp only
      walk_at "M sub"
  · -- a spoiled one
    obtain ⟨M1, eM1, F1⟩ := fr_ext F1a
    clear F1a
    show wpC (model PySem.Challenge.rw_pm0034_01.row.prog w) (ktrTop dp un gd (Str.ofString "law") lawScope1 L a ccd (cells8 c1 c2 c3 c4 c5 c6 c7 c8) []) (execs (turn1.drop 5) (envX (Str.ofString "law") lawScope1 L a ccd (cells8 c1 c2 c3 c4 c5 c6 c7 c8))) Q E _
    obtain ⟨ek2, msg, hb1, hb2, hb3, hb4⟩ := repT_bad (ns := ns) (t := i) (by omega)
    have hb : BadIs (repT ns i) ek2 msg (dueT ns i) := ⟨hb1, hb2, hb3, hb4⟩
    have enx : nT ns (i + 1) = k := by rw [nT_bad (by omega), ek]
    refine chunk_C 1 ?_
    refine t1_b5 B X T XB TB (W := W) (we := we) (jk := M1) (n := k) (pp := pT ns) (rep := rT ns) (WL := blk (pT ns) k) (te := te) (tw := tw) (tr := tr) (led := (S, lstOf wvs sc) :: own :: (Bd, lstOf bvs be) :: (C, lstOf cvs ce) :: (131, tabObj tb) :: (K ++ mid)) hd5 hu5 hwh hb (fr_map [Str.ofString "which", Str.ofString "due", Str.ofString "reply"] F1 (by subst eM1; walk_at "M map1") (by walk_at "M fr2")) (news_sub N1 ?n1) ?n2 (.tail _ (.tail _ (.tail _ (.tail _ (.tail _ (List.mem_append_right _ hh1)))))) ho1 hrW hrep hblt hbk ?_
    case n1 =>
      walk_at "M sub"
    case n2 =>
      intro q hq
      rcases List.mem_cons.mp hq with rfl | hq
      · exact (sW _ (.tail _ (.head _))).symm
      rcases List.mem_cons.mp hq with rfl | hq
      · exact w0
      rcases List.mem_cons.mp hq with rfl | hq
      · exact hA.a.symm
      rcases List.mem_cons.mp hq with rfl | hq
      · exact hA.b.symm
      rcases List.mem_cons.mp hq with rfl | hq
      · exact hA.t1.symm
      · exact (km q hq).1
    intro h2 tk2 F2 N2
    show wpC (model PySem.Challenge.rw_pm0034_01.row.prog w) (ktrTop dp un gd (Str.ofString "law") lawScope1 L a ccd (cells8 c1 c2 c3 c4 c5 c6 c7 c8) []) (execs (turn1.drop 6) (envX (Str.ofString "law") lawScope1 L a ccd (cells8 c1 c2 c3 c4 c5 c6 c7 c8))) Q E _
    obtain ⟨M2, eM2, F2⟩ := fr_ext F2
    refine chunk_C 1 ?_
    refine t1_b6 B X T XB TB (W := W) (we := we) (jk := M2) (n := k) (pp := pT ns) (rep := rT ns) (WL := blk (pT ns) k) (te := te) (tw := tw) (tr := tr) (sc := sc) (S := S) (led := (S, lstOf wvs sc) :: own :: (Bd, lstOf bvs be) :: (C, lstOf cvs ce) :: (131, tabObj tb) :: (K ++ mid)) hd5 hu5 hwh hb (fr_map [Str.ofString "which", Str.ofString "stood", Str.ofString "due", Str.ofString "reply"] F2 (by subst eM2 eM1; walk_at "M map1") (by walk_at "M fr2")) N2 ?n3 (.tail _ (.tail _ (.tail _ (.tail _ (.tail _ (List.mem_append_right _ hh1)))))) ho1 (.head _) hrW (hrW.strs rfl) hrep hblt hbk ?_
    case n3 =>
      intro q hq
      rcases List.mem_cons.mp hq with rfl | hq
      · exact (sW _ (.tail _ (.head _))).symm
      rcases List.mem_cons.mp hq with rfl | hq
      · exact w0
      rcases List.mem_cons.mp hq with rfl | hq
      · exact hA.a.symm
      rcases List.mem_cons.mp hq with rfl | hq
      · exact hA.b.symm
      rcases List.mem_cons.mp hq with rfl | hq
      · exact hA.t1.symm
      · exact (km q hq).1
    intro h3 tk3 F3 N3
    obtain ⟨M3, eM3, F3⟩ := fr_ext F3
    refine hret .cont h3 tk3 ⟨wvs, we, bvs, be, cvs, ce, tb, tm, mid, M3⟩ (.inr rfl) ⟨by rw [enx]; exact hrW, by rw [enx]; exact hrB, by rw [enx]; exact hcW, hlam, hout, hh1, hh2, hdn, hsub⟩ hown (by rw [enx]; unfold m1; exact fr_map [Str.ofString "numbers", Str.ofString "merges", Str.ofString "bare"] F3 (by subst eM3 eM2 eM1 eM0; walk_at "M map1") (by walk_at "M fr2")) (news_sub N3 ?_)
    unfold l1
    walk_at "M sub"
end
end
section
theorem lines_L1G_0 : True := by
  walk_at "base"
  trivial
theorem lines_L1G_1 : True := by
  k_with "subscriptTail Name Constant ref int" => ((k_here; refine item_tupleT (News.isTup (by assumption) (by k_mem)) (by decide) (by decide) (by rfl) (by rfl) ?_))
  k_with "subscriptTail Name Constant ref int" => ((k_here; (with_reducible rename StrsAre _ _ => hSA); refine item_strsA (News.isList (by assumption) (by k_mem)) hSA (by decide) (by first | omega | (simp only [List.length_map]; omega)) (by decide) ?_; intro t'))
  k_with "call type:ValueError" => ((refine call_ValueError_made ?_; intro _ _ _))
  k_with "exec While Compare Name cons nil" => (refine Hold.mk ?_)
  k_with "exec While Compare" => (refine Hold.mk ?_)
  k_with "exec While Compare cons nil" => (refine Hold.mk ?_)
  k_with "exec While" => (refine Hold.mk ?_)
  k_with "binaryOp FloorDiv int int" => ((k_here; (with_reducible refine floordiv_pos ?kb1 ?kb2 ?_); (case kb1 => decide); (case kb2 => decide +kernel)))
  k_with "WhlIf" => ((refine whlIf_dec ?_ ?_ <;> intro _))
  k_with "subscriptTail Name Name ref int" => ((k_here; first
    | ((with_reducible rename StrsAre _ _ => hSA); refine item_strsA (News.isList (by assumption) (by k_mem)) hSA (by omega) (by omega) (by omega) ?_; intro t')
    | ((with_reducible rename IntsAre _ _ => hSA); refine item_intsA (News.isList (by assumption) (by k_mem)) hSA (by omega) (by omega) (by omega) ?_; intro t')))
  k_with "call builtin:len" => ((k_here; (with_reducible show wpAny _ _ (call (Value.builtin "len") [Value.ref _]) _ _ _); first
    | ((with_reducible rename StrsAre _ _ => hSA); refine len_strsA (News.isList (by assumption) (by k_mem)) hSA (by omega) ?_)
    | ((with_reducible rename IntsAre _ _ => hSA); refine len_intsA (News.isList (by assumption) (by k_mem)) hSA (by omega) ?_)))
  trivial
theorem lines_L1G_2 : True := by
  k_with "call builtin:len" => ((k_here; (with_reducible show wpAny _ _ (call (Value.builtin "len") [Value.ref _]) _ _ _); k_dflt (refine' len_L ?kN ?kM ?kz ?_; (case kN => with_reducible assumption); (case kM => k_mem); (case kz => omega))))
  k_with "CompSrcT" => ((refine Hold.mk ?_))
  k_with "CompSrc" => ((refine Hold.mk ?_))
  k_with "subscriptTail Name Constant ref int" => ((k_here; refine item_listL (News.isList (by assumption) (by k_mem)) (by decide) (by decide) (by rfl) ?_))
  k_with "call builtin:len" => ((k_here; (with_reducible show wpAny _ _ (call (Value.builtin "len") [Value.ref _]) _ _ _); k_dflt (refine' len_intsA (News.isList ?kN ?kM) ?kI ?kf ?_; (case kN => with_reducible assumption); (case kM => k_mem); (case kI => with_reducible assumption); (case kf => omega))))
  k_with "pyIter ref" => ((refine Hold.mk ?_))
  trivial
theorem turnFr_cont {ι : Type} {C : ι → Prop} {M : ι → Str → Option Value} {Nw : ι → Ldg} {own : Addr × Obj} {g h' : Heap} {L : Addr} {s : Shared} {Q : Flow → Shared → Prop} {tk : Nat} {M0 : Str → Option Value} {news0 : Ldg} (σ : ι) (names : List Str) (F : Fr g L h' M0) (N : News g L h' news0) (hc : C σ)
    (m1 : ∀ n ∈ names, M0 n = M σ n) (m2 : ∀ y, y ∉ names → M0 y = M σ y) (n0 : ∀ q ∈ own :: Nw σ, q ∈ news0) (hd : ∀ p ∈ Nw σ, p.1 ≠ own.1) : TurnFr C M Nw own g L s Q .cont { s with heap := h', toks := tk } :=
  ⟨σ, h', tk, rfl, hc, fr_map names F m1 m2, fun q hq => N q (n0 q hq), hd⟩
section
variable {w : World} {p : Program} {loose : List PStr} {mean : ExcName → Option Value} {mg mb : PStr → Option Value}
    {dp un : Nat} {gd : Option (List Code)} {a : Addr} {ccd : Value} {c1 c2 c3 c4 c5 c6 c7 c8 : Addr} {A₀ : Around} {base h₀ : Heap} {L : Addr}
    {s : Shared} {news : Ldg}
    (B : Below A₀ base [] h₀) (X : (KK.heap_1 w.params).In h₀) (T : Top p loose mean mg mb h₀) (XB : (KK.heap_1 w.params).In base) (TB : Top p loose mean mg mb base)
include B X T XB TB
theorem law1_loop {W Bd C dn : Addr} {nvs : List Value} {ns : List Int} {σ₀ : S1} {o1 o2 : Obj} {K mid0 : Ldg} {Q : Flow → Shared → Prop} {E : Value → Shared → Prop}
   (hd5 : dp + 200 < recursionLimit) (hu5 : un + 2000 < cLine) (hE : PassesOwn (model PySem.Challenge.rw_pm0034_01.row.prog w) (ktrTop dp un gd (Str.ofString "law") lawScope1 L a ccd (cells8 c1 c2 c3 c4 c5 c6 c7 c8) []) (envX (Str.ofString "law") lawScope1 L a ccd (cells8 c1 c2 c3 c4 c5 c6 c7 c8)) E)
   (hA : Apt1 W Bd C K) (hC : Ok1 ns nvs W Bd C dn c1 c2 o1 o2 K mid0 0 σ₀) (ho1 : o1.data = .cell (some (.ref W))) (ho2 : o2.data = .cell (some (.ref C))) (hns : IntsAre nvs ns) (hnl : ns.length ≤ 15)
   (F : Fr h₀ L s.heap (m1 dn Bd (sumTz (nT ns 0)) σ₀)) (N : News h₀ L s.heap (l1 W Bd C K σ₀))
   (hret : ∀ (h' : Heap) (tk : Nat) (σ' : S1), Ok1 ns nvs W Bd C dn c1 c2 o1 o2 K mid0 ns.length σ' → Fr h₀ L h' (m1 dn Bd (sumTz (nT ns ns.length)) σ') → News h₀ L h' (l1 W Bd C K σ') → Q .next { s with heap := h', toks := tk }) :
   wpC (model PySem.Challenge.rw_pm0034_01.row.prog w) (ktrTop dp un gd (Str.ofString "law") lawScope1 L a ccd (cells8 c1 c2 c3 c4 c5 c6 c7 c8) []) (execs ((lawStmts1.drop 2).take 1) (envX (Str.ofString "law") lawScope1 L a ccd (cells8 c1 c2 c3 c4 c5 c6 c7 c8))) Q E s := by
  walk_at "M fill"
  have hdn : (dn, lstOf nvs 0) ∈ l1 W Bd C K σ₀ := by unfold l1; exact .tail _ (.tail _ (.tail _ (.tail _ (List.mem_append_right _ hC.dn))))
  show wpC _ (ktrTop _ _ _ _ (Scope.mk _ _ _ _ _) _ _ _ _ _) (execs (_ :: []) (envX _ (Scope.mk _ _ _ _ _) _ _ _ _)) _ _ _
  refine execs_C ?_
  refine' For_turns_C F ?_ ?hs ?hE
  case hE => exact hE
  case hs => intro x; rfl
  k_fold
  k_steps
  refine Hold.out ?_
  refine' pyIter_rangeC (fun i (σ : S1) => Ok1 ns nvs W Bd C dn c1 c2 o1 o2 K mid0 i σ) (fun i σ => m1 dn Bd (sumTz (nT ns i)) σ) (fun _ σ => l1 W Bd C K σ) ns.length σ₀ [] (by assumption) (by assumption) (by assumption) rfl (by omega) hC (fun _ h => nomatch h) (fun _ _ => rfl) (fun q hq => by first | exact hq | exact .tail _ hq) ?turn ?done
  case done =>
    intro σ h tk hc kF kN
    refine wpC_any (wpAny_execs_nil ?_)
    exact hret _ _ _ hc kF kN
  case turn =>
    intro i σ h tk t own hi hc hne kF kN
    dsimp only at kF kN
    k_fold
    k_steps
    refine turn1_all (dn := dn) (W := W) (Bd := Bd) (C := C) (o1 := o1) (o2 := o2) (K := K) (mid0 := mid0) (nvs := nvs) (ns := ns) (σ := σ) (own := own) B X T XB TB hd5 hu5 hi hA hc hne ho1 ho2 hns hnl (by assumption) (by assumption) ?_
    intro f h2 tk2 σ' hf hC' hown' F2 N2
    rcases hf with rfl | rfl
    · exact turnFr_next σ' [] F2 N2 hC' (fun _ h => nomatch h) (fun _ _ => rfl) (fun q hq => hq) hown'
    · exact turnFr_cont σ' [] F2 N2 hC' (fun _ h => nomatch h) (fun _ _ => rfl) (fun q hq => hq) hown'
end
end
section
theorem lines_L1REST_0 : True := by
  walk_at "base"
  k_with "M sub" => ((
    (repeat' (with_reducible first | refine sub_cons ?_ ?_ | refine sub_app ?_ ?_ | exact sub_nil9))
    (all_goals (repeat (with_reducible first | exact sub_self9 | exact sub_l sub_self9 | exact List.mem_cons_self | refine sub_tl ?_ | refine sub_r ?_ | refine List.mem_cons_of_mem _ ?_ | refine List.mem_append_right _ ?_)))))
  trivial
theorem lines_L1REST_1 : True := by
  k_with "subscriptTail Name Constant ref int" => ((k_here; refine item_tupleT (News.isTup (by assumption) (by k_mem)) (by decide) (by decide) (by rfl) (by rfl) ?_))
  k_with "subscriptTail Name Constant ref int" => ((k_here; (with_reducible rename StrsAre _ _ => hSA); refine item_strsA (News.isList (by assumption) (by k_mem)) hSA (by decide) (by first | omega | (simp only [List.length_map]; omega)) (by decide) ?_; intro t'))
  k_with "call type:ValueError" => ((refine call_ValueError_made ?_; intro _ _ _))
  k_with "exec While Compare Name cons nil" => (refine Hold.mk ?_)
  k_with "exec While Compare" => (refine Hold.mk ?_)
  k_with "exec While Compare cons nil" => (refine Hold.mk ?_)
  k_with "exec While" => (refine Hold.mk ?_)
  k_with "binaryOp FloorDiv int int" => ((k_here; (with_reducible refine floordiv_pos ?kb1 ?kb2 ?_); (case kb1 => decide); (case kb2 => decide +kernel)))
  k_with "WhlIf" => ((refine whlIf_dec ?_ ?_ <;> intro _))
  k_with "subscriptTail Name Name ref int" => ((k_here; first
    | ((with_reducible rename StrsAre _ _ => hSA); refine item_strsA (News.isList (by assumption) (by k_mem)) hSA (by omega) (by omega) (by omega) ?_; intro t')
    | ((with_reducible rename IntsAre _ _ => hSA); refine item_intsA (News.isList (by assumption) (by k_mem)) hSA (by omega) (by omega) (by omega) ?_; intro t')))
  k_with "call builtin:len" => ((k_here; (with_reducible show wpAny _ _ (call (Value.builtin "len") [Value.ref _]) _ _ _); first
    | ((with_reducible rename StrsAre _ _ => hSA); refine len_strsA (News.isList (by assumption) (by k_mem)) hSA (by omega) ?_)
    | ((with_reducible rename IntsAre _ _ => hSA); refine len_intsA (News.isList (by assumption) (by k_mem)) hSA (by omega) ?_)))
  k_with "M fr2" => ((intro y hy; (repeat (refine (if_neg (ne_of_out hy (by with_unfolding_all rfl))).trans ?_)); (refine Eq.symm ?_); (repeat (refine (if_neg (ne_of_out hy (by with_unfolding_all rfl))).trans ?_)); rfl))
  trivial
theorem nT_pos {ns : List Int} (h0 : ns.getD 0 0 = 48) (hl : 0 < ns.length) : 0 < nT ns ns.length := by
  have hk : kOf ns 0 = 0 := by
    have := (kOf_lt (ns := ns) 0).2
    rw [h0] at this
    have e : (48 : Int).fmod 16 = 0 := by decide
    rw [e] at this
    omega
  have h1 : nT ns 1 = nT ns 0 + 1 := nT_good (by omega)
  have h2 := nT_mono (ns := ns) (t := 1) (u := ns.length) hl
  omega
section
variable {w : World} {p : Program} {loose : List PStr} {mean : ExcName → Option Value} {mg mb : PStr → Option Value}
    {dp un : Nat} {gd : Option (List Code)} {a : Addr} {ccd : Value} {c1 c2 c3 c4 c5 c6 c7 c8 : Addr} {A₀ : Around} {base h₀ : Heap} {L : Addr}
    {s : Shared} {news : Ldg}
    (B : Below A₀ base [] h₀) (X : (KK.heap_1 w.params).In h₀) (T : Top p loose mean mg mb h₀) (XB : (KK.heap_1 w.params).In base) (TB : Top p loose mean mg mb base)
include B X T XB TB
theorem law1_rest {dn : Addr} {nvs : List Value} {ns : List Int} {o1 o2 o3 o4 o5 o6 o7 o8 : Obj} {m : PStr → Option Value} {Q : Flow → Shared → Prop} {E : Value → Shared → Prop}
   (hd5 : dp + 200 < recursionLimit) (hu5 : un + 2000 < cLine) (hE : PassesOwn (model PySem.Challenge.rw_pm0034_01.row.prog w) (ktrTop dp un gd (Str.ofString "law") lawScope1 L a ccd (cells8 c1 c2 c3 c4 c5 c6 c7 c8) []) (envX (Str.ofString "law") lawScope1 L a ccd (cells8 c1 c2 c3 c4 c5 c6 c7 c8)) E)
   (F : Fr h₀ L s.heap (fun y => if y = Str.ofString "numbers" then some (.ref dn) else m y)) (N : News h₀ L s.heap [(dn, lstOf nvs 0), (c8, o8), (c7, o7), (c6, o6), (c5, o5), (c4, o4), (c3, o3), (c2, o2), (c1, o1), (131, tabObj #[])])
   (l01 : @LT.lt Nat _ 131 c1) (l12 : @LT.lt Nat _ c1 c2) (l23 : @LT.lt Nat _ c2 c3) (l34 : @LT.lt Nat _ c3 c4) (l45 : @LT.lt Nat _ c4 c5) (l56 : @LT.lt Nat _ c5 c6) (l67 : @LT.lt Nat _ c6 c7) (l78 : @LT.lt Nat _ c7 c8) (l8d : @LT.lt Nat _ c8 dn)
   (ho1 : o1.data = .cell none) (ho2 : o2.data = .cell none) (ho3 : o3.data = .cell none) (ho4 : o4.data = .cell none) (ho5 : o5.data = .cell none) (ho6 : o6.data = .cell none) (ho7 : o7.data = .cell none) (ho8 : o8.data = .cell none)
   (hns : IntsAre nvs ns) (hnl : ns.length ≤ 15) (hn0 : 0 < ns.length) (h48 : ns.getD 0 0 = 48)
   (hret : ∀ h' tk m' l' tb, Fr h₀ L h' m' → News h₀ L h' l' → (131, tabObj tb) ∈ l' → Q (.ret (.bool true)) { s with heap := h', toks := tk }) :
   wpC (model PySem.Challenge.rw_pm0034_01.row.prog w) (ktrTop dp un gd (Str.ofString "law") lawScope1 L a ccd (cells8 c1 c2 c3 c4 c5 c6 c7 c8) []) (execs (lawStmts1.drop 1) (envX (Str.ofString "law") lawScope1 L a ccd (cells8 c1 c2 c3 c4 c5 c6 c7 c8))) Q E s := by
  have l02 := Nat.lt_trans l01 l12
  have l03 := Nat.lt_trans l02 l23
  have l04 := Nat.lt_trans l03 l34
  have l05 := Nat.lt_trans l04 l45
  have l06 := Nat.lt_trans l05 l56
  have l07 := Nat.lt_trans l06 l67
  have l08 := Nat.lt_trans l07 l78
  have l13 := Nat.lt_trans l12 l23
  have l14 := Nat.lt_trans l13 l34
  have l15 := Nat.lt_trans l14 l45
  have l16 := Nat.lt_trans l15 l56
  have l17 := Nat.lt_trans l16 l67
  have l18 := Nat.lt_trans l17 l78
  have l24 := Nat.lt_trans l23 l34
  have l25 := Nat.lt_trans l24 l45
  have l26 := Nat.lt_trans l25 l56
  have l27 := Nat.lt_trans l26 l67
  have l28 := Nat.lt_trans l27 l78
  have d1 := Nat.lt_trans l18 l8d
  have d2 := Nat.lt_trans l28 l8d
  have d0 := Nat.lt_trans l08 l8d
  have d7 := Nat.lt_trans l78 l8d
  have d6 := Nat.lt_trans l67 d7
  have d5 := Nat.lt_trans l56 d6
  have d4 := Nat.lt_trans l45 d5
  have d3 := Nat.lt_trans l34 d4
  have N0 : News h₀ L s.heap ((c1, o1) :: (c2, o2) :: [(dn, lstOf nvs 0), (c8, o8), (c7, o7), (c6, o6), (c5, o5), (c4, o4), (c3, o3), (131, tabObj #[])]) := by
    refine news_sub N ?_
    walk_at "M sub"
  obtain ⟨M0, eM0, F0⟩ := fr_ext F
  refine chunk_any 1 ?_
  refine t1_o B X T XB TB (jk := M0) hd5 hu5 F0 N0 ho1 ho2 (lt_neA l12) ?n1 ?n2 ?_
  case n1 =>
    (repeat' (with_reducible first | refine all_cons ?_ ?_ | exact all_nil9))
    · exact gt_ne d1
    · exact gt_ne l18
    · exact gt_ne l17
    · exact gt_ne l16
    · exact gt_ne l15
    · exact gt_ne l14
    · exact gt_ne l13
    · exact lt_neA l01
  case n2 =>
    (repeat' (with_reducible first | refine all_cons ?_ ?_ | exact all_nil9))
    · exact gt_ne d2
    · exact gt_ne l28
    · exact gt_ne l27
    · exact gt_ne l26
    · exact gt_ne l25
    · exact gt_ne l24
    · exact gt_ne l23
    · exact lt_neA l02
  intro h1 k1 W Bd C o1' o2' tm ho1' ho2' lW w1 w2 wb bc F1 N1
  show wpC (model PySem.Challenge.rw_pm0034_01.row.prog w) (ktrTop dp un gd (Str.ofString "law") lawScope1 L a ccd (cells8 c1 c2 c3 c4 c5 c6 c7 c8) []) (execs (lawStmts1.drop 2) (envX (Str.ofString "law") lawScope1 L a ccd (cells8 c1 c2 c3 c4 c5 c6 c7 c8))) Q E _
  obtain ⟨M1, eM1, F1⟩ := fr_ext F1
  have wd : @LT.lt Nat _ dn W := lW _ (.head _)
  have w8 : @LT.lt Nat _ c8 W := lW _ (.tail _ (.head _))
  have w7 : @LT.lt Nat _ c7 W := lW _ (.tail _ (.tail _ (.head _)))
  have w6 : @LT.lt Nat _ c6 W := lW _ (.tail _ (.tail _ (.tail _ (.head _))))
  have w5 : @LT.lt Nat _ c5 W := lW _ (.tail _ (.tail _ (.tail _ (.tail _ (.head _)))))
  have w4 : @LT.lt Nat _ c4 W := lW _ (.tail _ (.tail _ (.tail _ (.tail _ (.tail _ (.head _))))))
  have w3 : @LT.lt Nat _ c3 W := lW _ (.tail _ (.tail _ (.tail _ (.tail _ (.tail _ (.tail _ (.head _)))))))
  have w0 : @LT.lt Nat _ 131 W := lW (131, tabObj #[]) (.tail _ (.tail _ (.tail _ (.tail _ (.tail _ (.tail _ (.tail _ (.head _))))))))
  have wc := Nat.lt_trans wb bc
  have hKW : ∀ (Z : Addr), (∀ x, @LT.lt Nat _ x W → x ≠ Z) → ∀ q ∈ [(c3, o3), (c4, o4), (c5, o5), (c6, o6), (c7, o7), (c8, o8)], q.1 ≠ Z := by
    intro Z hZ q hq
    simp only [List.mem_cons, List.not_mem_nil, or_false] at hq
    rcases hq with rfl | rfl | rfl | rfl | rfl | rfl
    · exact hZ _ w3
    · exact hZ _ w4
    · exact hZ _ w5
    · exact hZ _ w6
    · exact hZ _ w7
    · exact hZ _ w8
  have hA : Apt1 W Bd C [(c3, o3), (c4, o4), (c5, o5), (c6, o6), (c7, o7), (c8, o8)] := by
    refine ⟨lt_neA wb, lt_neA wc, lt_neA bc, gt_ne w0, gt_ne (Nat.lt_trans w0 wb), gt_ne (Nat.lt_trans w0 wc), hKW W fun x h => lt_neA h, hKW Bd fun x h => lt_neA (Nat.lt_trans h wb), hKW C fun x h => lt_neA (Nat.lt_trans h wc), ?_, ?_⟩
    · (repeat' (with_reducible first | refine all_cons ?_ ?_ | exact all_nil9))
      · exact gt_ne l03
      · exact gt_ne l04
      · exact gt_ne l05
      · exact gt_ne l06
      · exact gt_ne l07
      · exact gt_ne l08
    · intro q hq
      simp only [List.mem_cons, List.not_mem_nil, or_false] at hq
      rcases hq with rfl | rfl | rfl | rfl | rfl | rfl <;> assumption
  have hout : ∀ (b : Addr) (o : Obj), @LT.lt Nat _ b W → b ≠ 131 → b ≠ c3 → b ≠ c4 → b ≠ c5 → b ≠ c6 → b ≠ c7 → b ≠ c8 → Out1 W Bd C [(c3, o3), (c4, o4), (c5, o5), (c6, o6), (c7, o7), (c8, o8)] (b, o) := by
    intro b o g1 g2 g3 g4 g5 g6 g7 g8
    refine ⟨lt_neA g1, lt_neA (Nat.lt_trans g1 wb), lt_neA (Nat.lt_trans g1 wc), g2, ?_⟩
    intro r hr
    simp only [List.mem_cons, List.not_mem_nil, or_false] at hr
    rcases hr with rfl | rfl | rfl | rfl | rfl | rfl <;> assumption
  have b0 : blk (pT ns) (nT ns 0) = [] := by
    have e : nT ns 0 = 0 := by have := nT_le (ns := ns) 0; omega
    rw [e]
    exact List.eq_nil_of_length_eq_zero (blk_len 0 (by decide))
  refine chunk_C 1 ?_
  refine law1_loop (W := W) (Bd := Bd) (C := C) (dn := dn) (nvs := nvs) (ns := ns) (σ₀ := ⟨[], 0, [], 0, [], 0, #[], tm, [(dn, lstOf nvs 0), (c1, o1'), (c2, o2')], M1⟩) (o1 := o1') (o2 := o2') (K := [(c3, o3), (c4, o4), (c5, o5), (c6, o6), (c7, o7), (c8, o8)]) (mid0 := []) B X T XB TB hd5 hu5 hE hA ?hok ho1' ho2' hns hnl ?hF ?hN ?_
  case hok =>
    refine ⟨.inl ⟨rfl, ?_⟩, .inr ⟨rfl, ?_⟩, ⟨rfl, ?_, ?_⟩, .inl rfl, ?_, .tail _ (.head _), .tail _ (.tail _ (.head _)), .head _, fun q hq => nomatch hq⟩
    · rw [b0]; exact .nil
    · rw [b0]; exact .nil
    · intro i hi
      exact absurd hi (Nat.not_lt_zero i)
    · intro i j v h1 h2
      simp at h1
    · (repeat' (with_reducible first | refine all_cons ?_ ?_ | exact all_nil9))
      · exact hout dn _ wd (gt_ne d0) (gt_ne d3) (gt_ne d4) (gt_ne d5) (gt_ne d6) (gt_ne d7) (gt_ne l8d)
      · exact hout c1 _ w1 (gt_ne l01) (lt_neA l13) (lt_neA l14) (lt_neA l15) (lt_neA l16) (lt_neA l17) (lt_neA l18)
      · exact hout c2 _ w2 (gt_ne l02) (lt_neA l23) (lt_neA l24) (lt_neA l25) (lt_neA l26) (lt_neA l27) (lt_neA l28)
  case hF =>
    unfold m1
    exact fr_map [Str.ofString "numbers", Str.ofString "merges", Str.ofString "bare"] F1 (by subst eM1 eM0; walk_at "M map1") (by walk_at "M fr2")
  case hN =>
    refine news_sub N1 ?_
    unfold l1
    dsimp only [List.cons_append, List.nil_append]
    walk_at "M sub"
  intro h2 k2 σ hC F2 N2
  show wpC (model PySem.Challenge.rw_pm0034_01.row.prog w) (ktrTop dp un gd (Str.ofString "law") lawScope1 L a ccd (cells8 c1 c2 c3 c4 c5 c6 c7 c8) []) (execs (lawStmts1.drop 3) (envX (Str.ofString "law") lawScope1 L a ccd (cells8 c1 c2 c3 c4 c5 c6 c7 c8))) Q E _
  obtain ⟨M2, eM2, F2⟩ := fr_ext F2
  unfold m1 at eM2
  refine wpC_any ?_
  have hin : ∀ q ∈ σ.mid, q ∈ (W, lstOf σ.wvs σ.we) :: (Bd, lstOf σ.bvs σ.be) :: (C, lstOf σ.cvs σ.ce) :: (131, tabObj σ.tb) :: σ.mid := fun q hq => .tail _ (.tail _ (.tail _ (.tail _ hq)))
  have hall : ∀ (r : Addr × Obj), r ∈ [(c3, o3), (c4, o4), (c5, o5), (c6, o6), (c7, o7), (c8, o8)] → ∀ q ∈ (W, lstOf σ.wvs σ.we) :: (Bd, lstOf σ.bvs σ.be) :: (C, lstOf σ.cvs σ.ce) :: (131, tabObj σ.tb) :: σ.mid, q.1 ≠ r.1 := by
    intro r hr q hq
    rcases List.mem_cons.mp hq with rfl | hq
    · exact (hA.k1 r hr).symm
    rcases List.mem_cons.mp hq with rfl | hq
    · exact (hA.k2 r hr).symm
    rcases List.mem_cons.mp hq with rfl | hq
    · exact (hA.k3 r hr).symm
    rcases List.mem_cons.mp hq with rfl | hq
    · exact (hA.k4 r hr).symm
    · exact (hC.out q hq).k r hr
  have hnl2 := nT_le (ns := ns) ns.length
  refine law1_end B X T XB TB (n := nT ns ns.length) (W := W) (Bd := Bd) (C := C) (o1 := o1') (o2 := o2') (pp := pT ns) (rep := rT ns) (tm := σ.tm) (jk := M2) hd5 hu5 hE (by omega) (nT_pos h48 hn0) (fr_map [Str.ofString "merges", Str.ofString "bare"] F2 (by subst eM2; walk_at "M map1") (by walk_at "M fr2")) (news_sub N2 ?q1) ho3 ho4 ho5 ho6 ho7 ho8 l34 l45 l56 l67 l78
    (hall (c3, o3) (.head _)) (hall (c4, o4) (.tail _ (.head _))) (hall (c5, o5) (.tail _ (.tail _ (.head _)))) (hall (c6, o6) (.tail _ (.tail _ (.tail _ (.head _))))) (hall (c7, o7) (.tail _ (.tail _ (.tail _ (.tail _ (.head _)))))) (hall (c8, o8) (.tail _ (.tail _ (.tail _ (.tail _ (.tail _ (.head _)))))))
    (hin _ hC.h1) ho1' (hin _ hC.h2) ho2' (.head _) (.tail _ (.head _)) (.tail _ (.tail _ (.head _))) (hC.cW.mono hin) (repG_T (Nat.le_refl _)) (fun i j hi hj e => rT_inj hi hj e) hC.rW hC.rB (.tail _ (.tail _ (.tail _ (.head _)))) ?_
  case q1 =>
    unfold l1
    dsimp only [List.cons_append, List.nil_append]
    walk_at "M sub"
  intro h3 k3 m' l' F3 N3 h131
  exact hret _ _ _ _ _ F3 N3 h131
end
end
section
theorem lines_EC1_0 : True := by
  walk_at "base"
  trivial
theorem lines_EC1_1 : True := by
  k_with "subscriptTail Name Constant ref int" => ((k_here; refine item_tupleT (News.isTup (by assumption) (by k_mem)) (by decide) (by decide) (by rfl) (by rfl) ?_))
  k_with "subscriptTail Name Constant ref int" => ((k_here; (with_reducible rename StrsAre _ _ => hSA); refine item_strsA (News.isList (by assumption) (by k_mem)) hSA (by decide) (by first | omega | (simp only [List.length_map]; omega)) (by decide) ?_; intro t'))
  k_with "call type:ValueError" => ((refine call_ValueError_made ?_; intro _ _ _))
  k_with "exec While Compare Name cons nil" => (refine Hold.mk ?_)
  k_with "exec While Compare" => (refine Hold.mk ?_)
  k_with "exec While Compare cons nil" => (refine Hold.mk ?_)
  k_with "exec While" => (refine Hold.mk ?_)
  k_with "binaryOp FloorDiv int int" => ((k_here; (with_reducible refine floordiv_pos ?kb1 ?kb2 ?_); (case kb1 => decide); (case kb2 => decide +kernel)))
  k_with "WhlIf" => ((refine whlIf_dec ?_ ?_ <;> intro _))
  k_with "subscriptTail Name Name ref int" => ((k_here; first
    | ((with_reducible rename StrsAre _ _ => hSA); refine item_strsA (News.isList (by assumption) (by k_mem)) hSA (by omega) (by omega) (by omega) ?_; intro t')
    | ((with_reducible rename IntsAre _ _ => hSA); refine item_intsA (News.isList (by assumption) (by k_mem)) hSA (by omega) (by omega) (by omega) ?_; intro t')))
  k_with "call builtin:len" => ((k_here; (with_reducible show wpAny _ _ (call (Value.builtin "len") [Value.ref _]) _ _ _); first
    | ((with_reducible rename StrsAre _ _ => hSA); refine len_strsA (News.isList (by assumption) (by k_mem)) hSA (by omega) ?_)
    | ((with_reducible rename IntsAre _ _ => hSA); refine len_intsA (News.isList (by assumption) (by k_mem)) hSA (by omega) ?_)))
  k_with "subscriptTail Name Constant ref int" => ((k_here; refine item_listL (News.isList (by assumption) (by k_mem)) (by decide) (by decide) (by rfl) ?_))
  trivial
theorem lines_EC1_2 : True := by
  k_with "call builtin:len" => ((k_here; (with_reducible show wpAny _ _ (call (Value.builtin "len") [Value.ref _]) _ _ _); k_dflt (refine' len_intsA (News.isList ?kN ?kM) ?kI ?kf ?_; (case kN => with_reducible assumption); (case kM => k_mem); (case kI => with_reducible assumption); (case kf => omega))))
  k_with "subscriptTail List cons Slice ref ref" => ((k_here; k_dflt (refine' slice_LA ?zF ?zN ?zl ?zp ?zq ?zz ?ze ?_; (case zF => k_asm); (case zN => k_asm); (case zl => k_mem); (case zp => kmk_part); (case zq => kmk_part); (case zz => exact Nat.le_of_ble_eq_true rfl); (case ze => exact kms_from (by omega))); intro D' h' F' N' l1; (try simp only [AllLt, and_true] at l1); (try k_sweep)))
  k_with "binaryOp Add ref ref" => ((k_here; (with_reducible show wpAny _ _ (binaryOp Operator.Add (Value.ref _) (Value.ref _)) _ _ _); k_dflt (refine' add_listsA ?laF ?laN ?laA ?laB ?z ?_; (case laF => with_reducible assumption); (case laN => with_reducible assumption); (case laA => k_mem); (case laB => k_mem); (case' z => try ((simp only [List.length_append, List.length_cons, List.length_nil, List.length_drop]; omega))); (rotate_left)); intro D' h' F' N' l1; (try simp only [AllLt, and_true] at l1); (try k_sweep)))
  k_with "execs nil" => ((refine wpAny_execs_nil ?_))
  trivial
theorem pick19 {h₀ h : Heap} {L dn c1 c2 c3 c4 c5 c6 c7 c8 cz : Addr} {od o1 o2 o3 o4 o5 o6 o7 o8 oz : Obj} {r : Ldg} (N : News h₀ L h ((dn, od) :: r)) (h8 : List.Mem (c8, o8) r) (h7 : List.Mem (c7, o7) r) (h6 : List.Mem (c6, o6) r) (h5 : List.Mem (c5, o5) r) (h4 : List.Mem (c4, o4) r) (h3 : List.Mem (c3, o3) r) (h2 : List.Mem (c2, o2) r) (h1 : List.Mem (c1, o1) r) (hz : List.Mem (cz, oz) r) : News h₀ L h [(dn, od), (c8, o8), (c7, o7), (c6, o6), (c5, o5), (c4, o4), (c3, o3), (c2, o2), (c1, o1), (cz, oz)] := by
  refine news_sub N (fun p hp => ?_)
  simp only [List.mem_cons, List.not_mem_nil, or_false] at hp
  rcases hp with rfl | rfl | rfl | rfl | rfl | rfl | rfl | rfl | rfl | rfl
  · exact .head _
  · exact .tail _ h8
  · exact .tail _ h7
  · exact .tail _ h6
  · exact .tail _ h5
  · exact .tail _ h4
  · exact .tail _ h3
  · exact .tail _ h2
  · exact .tail _ h1
  · exact .tail _ hz
theorem ghost_end {cw : ClaimW} {cl : Str → Option Addr} {mean : ExcName → Option Value} {args : List WData} {s₁ s' : Shared} {tabs : List (Addr × Addr)} {r : Result} (hT : TabsAt tabs s₁.heap) (hr : ∀ a x, cw.raises a x = false)
    (h : GoodW cw cl mean args { s₁ with heap := ghostOf s₁.heap tabs } r s') (hgr : GrownAll tabs s'.heap) : GoodWG cw cl mean args s₁ r s' := by
  obtain ⟨hc, hk, hos, hg⟩ := h
  have keep : ∀ b o, b ∉ tabs.map (·.2) → s₁.heap.get? b = some o → s'.heap.get? b = some o := fun b o hb e => hk b o (ghost_ne e hb)
  have grown : ∀ b o, b ∈ tabs.map (·.2) → s₁.heap.get? b = some o → isCodeTable s₁.heap b ∧ o = tabObj #[] ∧ ∃ ps, s'.heap.get? b = some (tabObj ps) := by
    intro b o hb e
    obtain ⟨q, hq, rfl⟩ := List.mem_map.mp hb
    have e2 := (hT q hq).2
    rw [e] at e2
    exact ⟨((hT q hq).1.tab (hT q hq).2).isCodeTable, Option.some.inj e2, hgr.get q hq⟩
  refine ⟨?_, ⟨?_, ?_⟩, hos, .of_eq hg⟩
  · rcases hc with ⟨v, d, as, r1, r2, r3, r4, r5⟩ | ⟨e, ob, x, _, _, _, r4, _⟩
    · refine .inl ⟨v, d, as, r1, r2, r3, r4, fun q => ⟨(r5 q).1, fun a ha => ?_⟩⟩
      cases q1 : s₁.heap.get? a with
      | none => rfl
      | some o =>
        exfalso
        by_cases hb : a ∈ tabs.map (·.2)
        · obtain ⟨_, _, ps, hP⟩ := grown a o hb q1
          exact absurd ha (readsW_apart hP rfl r3)
        · have e3 := (r5 q).2 a ha
          rw [show (ghostOf s₁.heap tabs).get? a = some o from ghost_ne q1 hb] at e3
          cases e3
    · rw [hr] at r4; cases r4
  · intro b o e
    by_cases hb : b ∈ tabs.map (·.2)
    · obtain ⟨ht, rfl, ps, hP⟩ := grown b o hb e
      exact .inr (.inl ⟨ht, rfl, #[], ps, rfl, by rw [Array.empty_append]; exact hP⟩)
    · exact .inl (keep b o hb e)
  · intro b o e
    by_cases hb : b ∈ tabs.map (·.2)
    · obtain ⟨_, _, ps, hP⟩ := grown b o hb e
      exact ⟨_, hP⟩
    · exact ⟨o, keep b o hb e⟩
/- the twins that the head shall not lay: their names are taken -/
theorem ent.tw1001812845318439239 : True := trivial
theorem ent.tw10295008580627740225 : True := trivial
theorem ent.tw10510438458574914626 : True := trivial
theorem ent.tw10583607000972789515 : True := trivial
theorem ent.tw10869375691930559665 : True := trivial
theorem ent.tw10874421164506754273 : True := trivial
theorem ent.tw1093658620362908362 : True := trivial
theorem ent.tw10958061025027715889 : True := trivial
theorem ent.tw10992592450313219679 : True := trivial
theorem ent.tw11148115983323863130 : True := trivial
theorem ent.tw11189685292102728872 : True := trivial
theorem ent.tw11257841790516057740 : True := trivial
theorem ent.tw11291609993749100930 : True := trivial
theorem ent.tw11356663266649361772 : True := trivial
theorem ent.tw1145989232014901681 : True := trivial
theorem ent.tw11907130770946733735 : True := trivial
theorem ent.tw12252386231092461936 : True := trivial
theorem ent.tw12388912854107882591 : True := trivial
theorem ent.tw12462445518292977384 : True := trivial
theorem ent.tw12574925566878204980 : True := trivial
theorem ent.tw12734911647419630985 : True := trivial
theorem ent.tw1276069683049400837 : True := trivial
theorem ent.tw12892755558628803750 : True := trivial
theorem ent.tw12985108035480580945 : True := trivial
theorem ent.tw13199158980435300145 : True := trivial
theorem ent.tw13462005219501872095 : True := trivial
theorem ent.tw13506949055404273276 : True := trivial
theorem ent.tw1352465541377036375 : True := trivial
theorem ent.tw1363416733154142822 : True := trivial
theorem ent.tw13709641985461573907 : True := trivial
theorem ent.tw13905818789508939664 : True := trivial
theorem ent.tw13916356613168261786 : True := trivial
theorem ent.tw13944327399264198136 : True := trivial
theorem ent.tw14111626740852556293 : True := trivial
theorem ent.tw14192836532788278720 : True := trivial
theorem ent.tw14245994812190181737 : True := trivial
theorem ent.tw14622243764988241408 : True := trivial
theorem ent.tw1473326306436843419 : True := trivial
theorem ent.tw14745009381108952041 : True := trivial
theorem ent.tw15012419659496536121 : True := trivial
theorem ent.tw15114520583717274073 : True := trivial
theorem ent.tw15367471717129635425 : True := trivial
theorem ent.tw15660893225672353441 : True := trivial
theorem ent.tw15724696601769196168 : True := trivial
theorem ent.tw15780559988839259520 : True := trivial
theorem ent.tw15902464354496096016 : True := trivial
theorem ent.tw15925379042571917565 : True := trivial
theorem ent.tw16124138642107745952 : True := trivial
theorem ent.tw16172999034200545164 : True := trivial
theorem ent.tw16466561070405325201 : True := trivial
theorem ent.tw16542025787011736414 : True := trivial
theorem ent.tw16588165971427943659 : True := trivial
theorem ent.tw16885544382368610166 : True := trivial
theorem ent.tw17007370634044993865 : True := trivial
theorem ent.tw17007612951780779675 : True := trivial
theorem ent.tw1714110176373728574 : True := trivial
theorem ent.tw1715766599821997538 : True := trivial
theorem ent.tw17179242877527149779 : True := trivial
theorem ent.tw17446647621500494670 : True := trivial
theorem ent.tw17489713426283772547 : True := trivial
theorem ent.tw17563570890829398819 : True := trivial
theorem ent.tw17740047394508217023 : True := trivial
theorem ent.tw17784896917641293491 : True := trivial
theorem ent.tw17804288696469691632 : True := trivial
theorem ent.tw1782018966378916780 : True := trivial
theorem ent.tw17913069728290004601 : True := trivial
theorem ent.tw18203195787516250047 : True := trivial
theorem ent.tw189906275203427425 : True := trivial
theorem ent.tw2206173332334135606 : True := trivial
theorem ent.tw2416441627814563113 : True := trivial
theorem ent.tw2541269205139136696 : True := trivial
theorem ent.tw2583563571068428837 : True := trivial
theorem ent.tw2654965641325855343 : True := trivial
theorem ent.tw268349278618165966 : True := trivial
theorem ent.tw2695968606971779601 : True := trivial
theorem ent.tw27972703828295635 : True := trivial
theorem ent.tw2952821138061978621 : True := trivial
theorem ent.tw2981542330891961723 : True := trivial
theorem ent.tw302925282514158191 : True := trivial
theorem ent.tw3613486918298342436 : True := trivial
theorem ent.tw3789240652969731326 : True := trivial
theorem ent.tw393718415690007529 : True := trivial
theorem ent.tw3963461674482965927 : True := trivial
theorem ent.tw40194086403242480 : True := trivial
theorem ent.tw4078818987496997734 : True := trivial
theorem ent.tw4162229239276148266 : True := trivial
theorem ent.tw4210206887473176571 : True := trivial
theorem ent.tw4270661790439858547 : True := trivial
theorem ent.tw4341923390679760871 : True := trivial
theorem ent.tw4424947311138813309 : True := trivial
theorem ent.tw4456649331118035084 : True := trivial
theorem ent.tw4602870790579085505 : True := trivial
theorem ent.tw4730012468683516458 : True := trivial
theorem ent.tw479306314723591682 : True := trivial
theorem ent.tw4851271275485956769 : True := trivial
theorem ent.tw5026189896229334823 : True := trivial
theorem ent.tw5145174064968752092 : True := trivial
theorem ent.tw5523907872389222047 : True := trivial
theorem ent.tw5615458117615260142 : True := trivial
theorem ent.tw5713655896999693038 : True := trivial
theorem ent.tw5724548805580408354 : True := trivial
theorem ent.tw5823907512306456361 : True := trivial
theorem ent.tw6202851732022225869 : True := trivial
theorem ent.tw6258093155284320175 : True := trivial
theorem ent.tw6426901304308559227 : True := trivial
theorem ent.tw6562632098338578410 : True := trivial
theorem ent.tw6633636003890328382 : True := trivial
theorem ent.tw6697463210497724188 : True := trivial
theorem ent.tw6891139855123302505 : True := trivial
theorem ent.tw6937287935812079051 : True := trivial
theorem ent.tw722616712557508445 : True := trivial
theorem ent.tw7673044618739906305 : True := trivial
theorem ent.tw7820406090498821349 : True := trivial
theorem ent.tw7867800897534519721 : True := trivial
theorem ent.tw7916063436755054448 : True := trivial
theorem ent.tw8032228961122177110 : True := trivial
theorem ent.tw8126022878953759100 : True := trivial
theorem ent.tw8323785048828036238 : True := trivial
theorem ent.tw8334166801288535734 : True := trivial
theorem ent.tw8512247190054367176 : True := trivial
theorem ent.tw8557860023024666854 : True := trivial
theorem ent.tw8645904929498791394 : True := trivial
theorem ent.tw8662977992423808911 : True := trivial
theorem ent.tw877696312361013255 : True := trivial
theorem ent.tw901652852892279037 : True := trivial
theorem ent.tw9083101432570292833 : True := trivial
theorem ent.tw9150221764502145784 : True := trivial
theorem ent.tw921565586725828724 : True := trivial
theorem ent.tw9302528812593556092 : True := trivial
theorem ent.tw9408631248412832856 : True := trivial
theorem ent.tw9489627583872016878 : True := trivial
theorem ent.tw9586656179246055992 : True := trivial
theorem ent.tw9686484013550378922 : True := trivial
theorem ent.tw9718144307104509591 : True := trivial
theorem ent.tw9826517634475178137 : True := trivial
theorem ent.tw9848687169120497713 : True := trivial
theorem ent.tw9869077265322623275 : True := trivial
theorem ent.tw2771316829565461559 : True := trivial
set_option Elab.async true
theorem ent : PySem.Challenge.rw_pm0034_01.Holds := by
  w_on
  o_law
  o_head (kmHook KK.heap_1 [2, 3, 6, 15, 16, 17, 19, 20, 22, 23, 24, 25, 26, 28, 29, 31, 32, 33, 34, 35, 37, 38, 40, 41, 42, 43, 44, 46, 47, 49, 50, 51, 58, 59, 60, 61, 64, 71, 72, 73, 76, 83, 84, 85, 88, 90, 91, 93, 94, 95, 97, 98, 100, 101, 102, 104, 105, 107, 108, 109, 111, 112, 114, 115, 116, 118, 119, 121, 122, 123, 125, 126, 128, 129, 130, 132, 133, 135, 136, 137, 140, 141] (fun _ => by kernel_rfl) [131])
  (case hw => w_witness2)
  w_top off
  k_fill
  intro w s₀ s₁ mg mb G Y a o pm cd doc dV kV ho hdat hcd hD hmg hg args vals as hpre hlay hrd hwl hlo
  have KX := km_in_of Y
  have hT8 := km_tabs_of Y
  have X := (Ground.X G).1
  have V := (Ground.X G).2
  have hT9 : TabsAt ([(135, 131)] : List (Addr × Addr)) s₁.heap := List.forall_mem_cons.mpr ⟨⟨codeHd_of_K (c := 135) (P := 131) KX (by kernel_rfl), hT8 131 (.head _)⟩, fun _ h => nomatch h⟩
  refine Ground.open G ?_
  intro T B D TE TW
  try (refine guard_noD D (by decide +kernel) ?_; clear D)
  obtain ⟨_, _, M⟩ := bmod_of_top T
  have TA := at_of_top T
  try (obtain ⟨_, _, he, B0⟩ := based_of_top T rfl hmg ho hdat; have he' : cd = _ := he; subst he'; clear he)
  clear hmg
  wrow_args hpre hlay hrd hwl hlo
  refine codeC_mono (R := fun r s' => GoodW _ _ _ _ { s₁ with heap := ghostOf s₁.heap [(135, 131)] } r s' ∧ GrownAll [(135, 131)] s'.heap) ?_ (fun _ _ g => ghost_end hT9 (fun _ _ => rfl) g.1 g.2)
  have he := Dflts.none hD rfl; subst he; have he := Dflts.noKw hD; subst he
  refine call_cells_C (by decide) ho (fd_plain hdat) (Top.nolimit T) hcd rfl (kinds_of (by kinds_ok)) (by decide) fun h₁ tk₁ cells F N0 X0 => ?_
  cells_open X0
  rename_i w8 w7 w6 w5 w4 w3 w2 w1 hw8 hw7 hw6 hw5 hw4 hw3 hw2 hw1
  clear hdat
  have KX9 := ghost_K hT9 KX (by kernel_rfl)
  have T9 := ghost_top hT9 T
  have K9 := ghost_below hT9
  have N9 := ghost_news hT9 F N0
  have F9 := ghost_fr hT9 F
  have l9 : @LT.lt Nat _ 131 s₁.heap.objs.size := ghost_lt hT9 F _ (.head _)
  kn_lists hT9
  simp only [tabNews, List.map_cons, List.map_nil, List.nil_append, List.cons_append] at N9
  clear N0 F KX T X
  k_drop
  refine execs_pre (pre := [_]) (rest := _) ?_
  k_fold
  k_steps
  case' z => ((with_reducible rename IntsAre _ _ => hIz); have q := ints_length hIz; rw [List.length_take] at q; (simp only [List.length_cons, List.length_nil]); omega)
  (with_reducible rename Fr _ _ _ _ => kF)
  (with_reducible rename News _ _ _ _ => kN)
  have hn8 : w8.data = .cell none := by with_unfolding_all exact hw8
  have hn7 : w7.data = .cell none := by with_unfolding_all exact hw7
  have hn6 : w6.data = .cell none := by with_unfolding_all exact hw6
  have hn5 : w5.data = .cell none := by with_unfolding_all exact hw5
  have hn4 : w4.data = .cell none := by with_unfolding_all exact hw4
  have hn3 : w3.data = .cell none := by with_unfolding_all exact hw3
  have hn2 : w2.data = .cell none := by with_unfolding_all exact hw2
  have hn1 : w1.data = .cell none := by with_unfolding_all exact hw1
  clear hw8 hw7 hw6 hw5 hw4 hw3 hw2 hw1 X0
  refine' law1_rest (o1 := w1) (o2 := w2) (o3 := w3) (o4 := w4) (o5 := w5) (o6 := w6) (o7 := w7) (o8 := w8) (A₀ := callerA) K9 KX9 T9 KX9 T9 ?a1 ?a2 ?a3 kF (pick19 kN ?b8 ?b7 ?b6 ?b5 ?b4 ?b3 ?b2 ?b1 ?bz) ?l0 ?l1 ?l2 ?l3 ?l4 ?l5 ?l6 ?l7 ?l8 hn1 hn2 hn3 hn4 hn5 hn6 hn7 hn8 (intsAre_append ?a8 (by assumption)) ?a9 ?a11 ?a12 ?a10
  case a8 => (repeat' constructor)
  case a1 => decide +kernel
  case a2 => decide +kernel
  case a3 => passes_own
  case b8 => (repeat (first | exact List.Mem.head _ | refine List.Mem.tail _ ?_))
  case b7 => (repeat (first | exact List.Mem.head _ | refine List.Mem.tail _ ?_))
  case b6 => (repeat (first | exact List.Mem.head _ | refine List.Mem.tail _ ?_))
  case b5 => (repeat (first | exact List.Mem.head _ | refine List.Mem.tail _ ?_))
  case b4 => (repeat (first | exact List.Mem.head _ | refine List.Mem.tail _ ?_))
  case b3 => (repeat (first | exact List.Mem.head _ | refine List.Mem.tail _ ?_))
  case b2 => (repeat (first | exact List.Mem.head _ | refine List.Mem.tail _ ?_))
  case b1 => (repeat (first | exact List.Mem.head _ | refine List.Mem.tail _ ?_))
  case bz => (repeat (first | exact List.Mem.head _ | refine List.Mem.tail _ ?_))
  case l0 => omega
  case l1 => omega
  case l2 => omega
  case l3 => omega
  case l4 => omega
  case l5 => omega
  case l6 => omega
  case l7 => omega
  case l8 => omega
  case a9 => (simp only [List.length_append, List.length_take, List.length_drop, List.length_cons, List.length_nil]; omega)
  case a11 => (simp only [List.length_append, List.length_cons, List.length_nil]; omega)
  case a12 => rfl
  case a10 =>
    intro h' tk m' l' tb F' N' hm
    refine ⟨?_, GrownAt.of N' hm, trivial⟩
    k_steps
set_option Elab.async false
end
end Mine
end
set_option maxRecDepth 100000 in
theorem PySem.Challenge.cw_pm0034_01_holds : PySem.Challenge.rw_pm0034_01.Holds :=
  Mine.ent
