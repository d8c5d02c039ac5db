import PyProof.Rows.All
import Wide.All
import OpenK.AllK
import Wide.FinOn
import Lean
import PySem.Challenge.RW_pm0034_03
set_option rowWalk.seconds 6000
set_option Elab.async false
section
open PySem PySem.W PyProof.Rows PySem.Spec PySem.Calls
set_option Elab.async false
set_option maxRecDepth 100000
set_option linter.unusedVariables false
namespace Mine
/-! contexts whose stack bears the claim's caller: there a refusal of int() books nothing -/
def Called (Γ : PySem.Ctx) : Prop := (Γ.below.any fun x => x.1.isCaller) = true
theorem Called.enter {Γ : PySem.Ctx} (h : Called Γ) (c : Code) (hd : Option Value) (p : Pos) : Called (Γ.enter c hd p) := by
  unfold Called at *
  show ((Γ.code, p) :: Γ.below).any _ = true
  rw [List.any_cons, h, Bool.or_true]
theorem Called.goto {Γ : PySem.Ctx} (h : Called Γ) (c : Code) : Called (Γ.goto c) := h

def wpC {α : Type} (M : Model) (A : Around) (t : Sem α) (Q : α → Shared → Prop) (E : Value → Shared → Prop) (s : Shared) : Prop :=
  ∀ Γ p, Γ.In A → Called Γ → Sem.wp M Γ t (fun a _ s' => Q a s') (fun e _ s' => E e s') p s
def codeC (M : Model) (A : Around) (c : Code) (R : Result → Shared → Prop) (s : Shared) : Prop :=
  ∀ Γ p, Γ.code = c → Γ.Below A → Called Γ → wpCode M Γ R p s

section
variable {α β : Type} {M : Model} {A : Around} {E : Value → Shared → Prop} {s : Shared}
theorem wpC_any {t : Sem α} {Q : α → Shared → Prop} (h : wpAny M A t Q E s) : wpC M A t Q E s := fun Γ p hΓ _ => h Γ p hΓ
theorem codeC_any {c : Code} {R : Result → Shared → Prop} (h : codeAny M A c R s) : codeC M A c R s := fun Γ p hc hΓ _ => h Γ p hc hΓ
theorem wpC_pure {a : α} {Q : α → Shared → Prop} (h : Q a s) : wpC M A (pure a) Q E s := fun _ _ _ _ => h
theorem wpC_throw {e : Value} {Q : α → Shared → Prop} (h : E e s) : wpC M A (throw e : Sem α) Q E s := fun _ _ _ _ => h
theorem wpC_mono {t : Sem α} {Q Q' : α → Shared → Prop} {E' : Value → Shared → Prop} (h : wpC M A t Q E s) (hQ : ∀ a s, Q a s → Q' a s) (hE : ∀ e s, E e s → E' e s) : wpC M A t Q' E' s :=
  fun Γ p hΓ hc => Sem.wp_mono M Γ t (fun a _ s => hQ a s) (fun e _ s => hE e s) p s (h Γ p hΓ hc)
theorem codeC_mono {c : Code} {R R' : Result → Shared → Prop} (h : codeC M A c R s) (hR : ∀ r s, R r s → R' r s) : codeC M A c R' s :=
  fun Γ p hc hΓ hk => wpCode_mono hR (h Γ p hc hΓ hk)
theorem wpC_bind {m : Sem α} {f : α → Sem β} {Q : β → Shared → Prop} (h : wpC M A m (fun a s' => wpC M A (f a) Q E s') E s) : wpC M A (m >>= f) Q E s := fun Γ p hΓ hc => by
  rw [Sem.wp_bind']
  exact Sem.wp_mono M Γ m (fun a p' s' h' => h' Γ p' hΓ hc) (fun _ _ _ h' => h') p s (h Γ p hΓ hc)
/-- the first part in any context, the rest in a called one -/
theorem wpC_then {m : Sem α} {f : α → Sem β} {Q : β → Shared → Prop} (h : wpAny M A m (fun a s' => wpC M A (f a) Q E s') E s) : wpC M A (m >>= f) Q E s := wpC_bind (wpC_any h)
theorem wpC_tryCatch {m : Sem α} {k : Value → Sem α} {Q : α → Shared → Prop} (h : wpC M A m Q (fun e s' => wpC M A (k e) Q E s') s) : wpC M A (tryCatch m k) Q E s := fun Γ p hΓ hc => by
  rw [Sem.wp_tryCatch']
  exact Sem.wp_mono M Γ m (fun _ _ _ h' => h') (fun e p' s' h' => h' Γ p' hΓ hc) p s (h Γ p hΓ hc)
theorem wpC_onRaise {m : Sem α} {k : Value → Sem Unit} {Q : α → Shared → Prop} (h : wpC M A m Q (fun e s' => wpC M A (k e) (fun _ s'' => E e s'') E s') s) : wpC M A (m.onRaise k) Q E s := fun Γ p hΓ hc => by
  rw [Sem.wp_onRaise]
  exact Sem.wp_mono M Γ m (fun _ _ _ h' => h') (fun e p' s' h' => h' Γ p' hΓ hc) p s (h Γ p hΓ hc)
theorem wpC_attempt {m : Sem α} {Q : Except Value α → Shared → Prop} (h : wpC M A m (fun a => Q (.ok a)) (fun e => Q (.error e)) s) : wpC M A m.attempt Q E s := fun Γ p hΓ hc => by
  rw [Sem.wp_attempt]; exact h Γ p hΓ hc
theorem wpC_holding {vs : List Value} {m : Sem α} {Q : α → Shared → Prop} (h : wpC M A m Q E s) : wpC M A (holding vs m) Q E s :=
  fun Γ p hΓ hc => by rw [Sem.wp_holding]; exact h Γ p hΓ hc
theorem wpC_keep {vs : List Value} {m : Sem α} {Q : α → Shared → Prop} (h : wpC M A m Q E s) : wpC M A (m.keep vs) Q E s :=
  fun Γ p hΓ hc => by rw [Sem.wp_keep]; exact h Γ p hΓ hc
theorem wpC_standAt {pos : Pos} {Q : Unit → Shared → Prop} (h : Q () s) : wpC M A (standAt pos) Q E s := fun _ _ _ _ => h
theorem wpC_run {c : Code} {h : Option Value} {Q : Flow → Shared → Prop}
    (hc : codeC M (A.mark h) c (fun r s' => match r with | .ok f => Q f s' | .error e => E e s') s) (hnb : h ≠ some byPass := by intro x; cases x) : wpC M A (run c h) Q E s :=
  fun Γ p hΓ hk => by rw [Sem.wp_run]; exact hc _ p rfl (hΓ.enter c h p hnb) (hk.enter ..)
theorem wpC_call {f : Value} {pos : List Value} {kw : List (Str × Value)} {Q : Value → Shared → Prop}
    (hc : codeC M A (.call f ⟨pos, kw⟩) (fun r s' => match r with | .ok (.ret v) => Q v s' | .ok _ => False | .error e => E e s') s) : wpC M A (call f pos kw) Q E s :=
  fun Γ p hΓ hk => by
    show Sem.wp M Γ (runValue _) _ _ p s
    rw [Sem.wp_runValue]; exact hc _ p rfl (hΓ.enter _ none p (by intro x; cases x)) (hk.enter ..)
theorem wpC_runValue {c : Code} {Q : Value → Shared → Prop}
    (hc : codeC M A c (fun r s' => match r with | .ok (.ret v) => Q v s' | .ok _ => False | .error e => E e s') s) : wpC M A (runValue c) Q E s :=
  fun Γ p hΓ hk => by rw [Sem.wp_runValue]; exact hc _ p rfl (hΓ.enter _ none p (by intro x; cases x)) (hk.enter ..)
theorem codeC_of_tree {c : Code} {R : Result → Shared → Prop}
    (h : wpC M (A.under c) (M.den c) (fun fin s' => match fin with | .done f => R (.ok f) s' | .again c' => c'.quiet = true ∧ codeC M A c' R s') (fun e s' => R (.error e) s') s) : codeC M A c R s := fun Γ p hc hΓ hk => by
  rw [wpCode_iff_wp, hc]
  refine Sem.wp_mono M Γ _ (fun fin p' s' h' => ?_) (fun _ _ _ h' => h') p s (h Γ p (hc ▸ hΓ.in) hk)
  cases fin with
  | done f => exact h'
  | again c' => exact ⟨h'.1, h'.2 (Γ.goto c') p' rfl (hΓ.goto c') hk⟩
theorem wpC_ite {c : Prop} [Decidable c] {a b : Sem α} {Q : α → Shared → Prop} (h : if c then wpC M A a Q E s else wpC M A b Q E s) : wpC M A (if c then a else b) Q E s := by split <;> simp_all
/-- the mark of a refusal: nothing, where the caller is below -/
theorem wpC_markTheRefusal {own : List String} {e : Value} {Q : Unit → Shared → Prop} (h : Q () s) : wpC M A (markTheRefusal own e) Q E s := by
  intro Γ p hΓ hc
  unfold markTheRefusal
  rw [Sem.wp_bind']
  unfold stack
  rw [Sem.wp_stack, Sem.wp_pure]
  have hf : pythonCodeMadeTheCall own ((((Γ.code, p) :: Γ.below)).map (·.1)) = false := by
    have h1 : ((((Γ.code, p) :: Γ.below)).map (·.1)).any Code.isCaller = true := by
      rw [List.map_cons, List.any_cons, List.any_map]
      have h2 : (Γ.below.any (Code.isCaller ∘ fun x => x.1)) = true := hc
      rw [h2, Bool.or_true]
    have h3 : ∀ L : List Code, L.any Code.isCaller = true → pythonCodeMadeTheCall own L = false := by
      intro L hL
      unfold pythonCodeMadeTheCall
      rw [Bool.and_assoc]
      exact Bool.and_eq_false_iff.mpr (Or.inl (by
        have e : (L.any fun c => match c with | Code.builtin "claim.caller" _ => true | _ => false) = L.any Code.isCaller := rfl
        first | (rw [Bool.not_eq_false']; exact hL) | (simp only [Bool.not_eq_false']; exact hL)))
    exact h3 _ h1
  rw [hf]
  exact h
end
section
variable {prog : Program} {w : World} {A : Around} {s : Shared} {R : Result → Shared → Prop}
theorem codeC_builtin {id : String} {args : Args} {b : Builtin} (hb : entryFor table id = some b)
    (h : wpC (model prog w) (A.under (.builtin id args)) (b args) (fun fin s' => match fin with | .done f => R (.ok f) s' | .again c' => c'.quiet = true ∧ codeC (model prog w) A c' R s') (fun e s' => R (.error e) s') s) :
    codeC (model prog w) A (.builtin id args) R s := by
  refine codeC_of_tree ?_
  show wpC _ _ (match entryFor table id with | some b => b args | none => unsupported ((withoutEnding? id "#data").getD id)) _ _ s
  rw [hb]; exact h
theorem codeC_call_builtin {id : String} {args : Args} {b : Builtin} (hq : plainId id = true) (hb : entryFor table id = some b) (hk : checkBuiltinCall id args = pure ())
    (h : wpC (model prog w) A.in1 (b args) (fun fin s' => match fin with | .done f => R (.ok f) s' | .again c' => c'.quiet = true ∧ codeC (model prog w) A c' R s') (fun e s' => R (.error e) s') s) :
    codeC (model prog w) A (.call (.builtin id) args) R s := by
  refine codeC_of_tree ?_
  show wpC _ A.in1 (do checkBuiltinCall id args; again (.builtin id args)) _ _ s
  rw [hk]
  refine wpC_pure (And.intro (plainId_quiet hq args) (codeC_builtin hb ?_))
  rw [Around.under_plainId hq]
  exact h
end
end Mine
end
section
open PySem PySem.W PyProof.Rows PySem.Spec PySem.Calls
set_option Elab.async false
set_option maxRecDepth 100000
set_option maxHeartbeats 4000000
set_option linter.unusedVariables false
namespace Mine
section
variable {prog : Program} {w : World} {A : Around} {E : Value → Shared → Prop} {s : Shared}
/-- what int() makes of a text that is no number: from the new's tree on -/
theorem callInt_C {v : Value} {Q : Value → Shared → Prop} (h : codeC (model prog w) A.in1 (.call (.builtin "int.__new__") ⟨[.type "int", v], []⟩) (fun r s' => match r with | .ok _ => False | .error e => E e s') s) :
    wpC (model prog w) A (call (.type "int") [v]) Q E s := by
  obtain ⟨c, tl, hmro⟩ := F.called_int.mro
  have hmade := F.called_int.made
  have hsub := F.called_int.sub
  refine wpC_call (codeC_of_tree ?_)
  show wpC _ _ (callAny (.type "int") _) _ _ _
  refine wpC_pure ⟨Code.quiet_builtin _ (by decide +kernel), codeC_builtin F.entry_type_call ?_⟩
  rw [Around.under_plain (weight_type_call_type "int" [v] []) (units_type_call_type "int" [v] [])]
  have h1 := F.called_int.notType
  have h2 := F.called_int.canCreate
  unfold Builtin.«type.__call__»
  simp only [h1, h2, Bool.false_eq_true, if_false, hmro, hmade, F.typeCall_int_1, pure_bind, List.isEmpty_cons]
  refine wpC_bind (wpC_holding (wpC_call (codeC_mono h fun r s' hr => ?_)))
  cases r with
  | ok f => exact hr.elim
  | error e => exact hr

theorem intNew_C {x : Str} {t : Tok} {Q : Fin → Shared → Prop}
    (h : wpC (model prog w) A ((int_private% "intFromText") (.str x t) (numTextOf x) 10) (fun _ _ => False) E s) :
    wpC (model prog w) A (Builtin.«int.__new__» ⟨[.type "int", .str x t], []⟩) Q E s := by
  have f1 := F.conv_sub_int
  have f2 := F.madeHere_int
  have f3 := KIN.str_int
  have f4 := KIN.str_idx
  have f5 := KIN.str_trunc
  have f6 : typeOf (.str x t) = pure (.type "str") := rfl
  unfold Builtin.«int.__new__»
  have g1 : isType (.type "int") = pure true := rfl
  have g2 : ((.type "int" : Value) == .type "int") = true := by decide
  simp only [g1, f1, f2, g2, pure_bind, Bool.not_true, Bool.false_eq_true, if_false, if_true, List.isEmpty_nil, List.length_cons, List.length_nil, Bool.true_and, List.head?_cons, List.forIn_nil, Nat.zero_add, Nat.reduceAdd, Nat.reduceLT, gt_iff_lt, decide_false, List.getElem?_cons_succ, List.getElem?_nil, List.head?_nil, Option.map_none]
  show wpC _ _ (((int_private% "intFromObject") (.str x t)) >>= fun v => ret v) _ _ _
  refine wpC_bind ?_
  obtain ⟨hp, g, d, tk, os⟩ := s
  refine wpC_mono (Q := fun _ _ => False) ?_ (fun _ _ q => q.elim) fun _ _ q => q
  (with_unfolding_all refine wpC_then ?_)
  repeat (first | assumption | wp_step)

def intRefusal (x : Str) : Str := Str.ofString "invalid literal for int() with base 10: " ++ ⟨(reprText x).cps.extract 0 200⟩
theorem intText_C {x : Str} {t : Tok} (hl : x.length ≤ 640) (hz : (reprText x).length ≤ 10000) (hn : PySem.intText? x = none) (hh : A.handled = none)
    (h : ∀ h' tk tk' e, Heap.MadeExc s.heap h' e "ValueError" [.str (intRefusal x) tk'] → E (.ref e) { s with heap := h', toks := tk }) :
    wpC (model prog w) A ((int_private% "intFromText") (.str x t) (numTextOf x) 10) (fun _ _ => False) E s := by
  have hs : (numSeenOf x).length ≤ 640 := Nat.le_trans (seen_length x) hl
  have hr : (int_private% "readNumeral") 0 10 (numSeenOf x) = int_private% "Numeral.invalid" ∨
      ∃ i, (int_private% "readNumeral") 0 10 (numSeenOf x) = (int_private% "Numeral.value") i ∧ ¬ ((numSeenOf x).length == (numTextOf x).length) = true := by
    rcases read0 x hs with ⟨m, h1, h2, h3⟩ | ⟨h1, h2⟩
    · rw [hn] at h1
      cases h1
    · exact h2
  show wpC _ _ (if (numSeenOf x).length ≤ 640 then _ else _) _ _ _
  rw [if_pos hs]
  refine wpC_then (wpAny_pure ?_)
  have fin : wpC (model prog w) A (do
      rule "int.__new__.invalid-literal"
      let shown ← pyRepr (.str x t)
      let refusal ← newExc (.type "ValueError") [← mkStr (((s!"invalid literal for int() with base {10}: " : String) ++ ⟨shown.cps.extract 0 200⟩ : Str))]
      markTheRefusal ["int.__new__"] refusal
      raiseNew refusal : Sem Value) (fun _ _ => False) E s := by
    refine wpC_then (wpAny_rule ?_)
    refine wpC_then (wpAny_pyRepr_str ?_ (Nat.le_trans hz (by decide)))
    refine wpC_then (wpAny_mkStr ?_ ?_)
    · refine wpC_then (wpAny_newExc_plain plainExc_ValueError fun h' e hm => ?_)
      refine wpC_bind (wpC_markTheRefusal ?_)
      refine wpC_any (wpAny_raiseNew_none hh ?_)
      exact h h' _ _ e hm
    · show (Str.append (Str.ofString _) _).length ≤ sizeLine
      have e1 : (Str.ofString (toString "invalid literal for int() with base " ++ toString 10 ++ toString ": ")).length = 40 := by decide +kernel
      have e2 : (⟨(reprText x).cps.extract 0 200⟩ : Str).length ≤ 200 := by
        show ((reprText x).cps.extract 0 200).size ≤ 200
        rw [Array.size_extract]; omega
      have e3 := Str.length_append (Str.ofString (toString "invalid literal for int() with base " ++ toString 10 ++ toString ": ")) (⟨(reprText x).cps.extract 0 200⟩ : Str)
      have e4 : (240 : Nat) ≤ sizeLine := by decide
      exact Nat.le_trans (Nat.le_of_eq e3) (by omega)
  have hb : (int_private% "bytesOf?") (.str x t) = pure none := rfl
  dsimp only
  rcases hr with hr | ⟨i, hr, hall⟩
  · rw [hr]
    dsimp only
    rw [hb]
    refine wpC_then (wpAny_pure ?_)
    exact fin
  · rw [hr]
    dsimp only
    rw [if_neg hall]
    exact fin
theorem call_int_refused {x : Str} {t : Tok} {Q : Value → Shared → Prop} (hl : x.length ≤ 640) (hz : (reprText x).length ≤ 10000) (hn : PySem.intText? x = none) (hh : A.handled = none)
    (h : ∀ h' tk tk' e, Heap.MadeExcOf s.heap h' e (.type "ValueError") [.str (intRefusal x) tk'] → E (.ref e) { s with heap := h', toks := tk }) :
    wpC (model prog w) A (call (.type "int") [.str x t]) Q E s :=
  callInt_C (codeC_call_builtin (by decide +kernel) F.entry_int_new (F.newCall_int_1 _) (wpC_mono (Q := fun _ _ => False)
    (intNew_C (intText_C hl hz hn hh fun h' tk tk' e hm => h h' tk tk' e ⟨hm.keeps, hm.new, hm.there⟩)) (fun _ _ q => q.elim) fun _ _ q => q))
end
end Mine
end
section
open PySem PySem.W PyProof.Rows PySem.Spec PySem.Calls
set_option Elab.async false
set_option maxRecDepth 100000
set_option maxHeartbeats 4000000
set_option linter.unusedVariables false
namespace Mine
section
variable {α : Type} {M : Model} {A : Around} {E : Value → Shared → Prop} {s : Shared} {env : Env}
theorem execs_C {st : Stmt} {rest : List Stmt} {Q : Flow → Shared → Prop} (h : wpC M A (exec st env) (fun f s' => match f with | .next => wpC M A (execs rest env) Q E s' | f => Q f s') E s) :
    wpC M A (execs (st :: rest) env) Q E s := fun Γ p hΓ hc => by
  rw [execs_cons, Sem.wp_bind']
  refine Sem.wp_mono M Γ _ (fun f p' s' h' => ?_) (fun _ _ _ h' => h') _ _ (h Γ p hΓ hc)
  cases f <;> first | exact h' Γ p' hΓ hc | exact h'
theorem execs_app (rest : List Stmt) : ∀ pre : List Stmt, execs (pre ++ rest) env = (do match ← execs pre env with | .next => execs rest env | f => pure f)
  | [] => rfl
  | st :: pre => by
    have ih := execs_app rest pre
    rw [List.cons_append, execs_cons, execs_cons, ih, bind_assoc]
    congr 1
    funext f
    cases f <;> rfl
/-- the first statements in any context -/
theorem execs_pre {pre rest : List Stmt} {Q : Flow → Shared → Prop} (h : wpAny M A (execs pre env) (fun f s' => match f with | .next => wpC M A (execs rest env) Q E s' | f => Q f s') E s) :
    wpC M A (execs (pre ++ rest) env) Q E s := by
  rw [execs_app]
  refine wpC_then (wpAny_mono h (fun f s' h' => ?_) fun _ _ x => x)
  cases f <;> first | exact h' | exact wpC_pure h'
theorem return_C {e : Expr} {pos : Pos} {Q : Flow → Shared → Prop} (h : wpC M A (eval e env) (fun v => Q (.ret v)) E s) : wpC M A (exec (.Return (some e) pos) env) Q E s := by
  rw [exec_Return_some]
  exact wpC_bind (wpC_standAt (wpC_bind (wpC_mono h (fun v s' hv => wpC_pure hv) fun _ _ x => x)))
theorem if_C {test : Expr} {body orelse : List Stmt} {pos : Pos} {Q : Flow → Shared → Prop}
    (h : wpC M A (isTrue test env (eval test env)) (fun b s₂ => if b then wpC M A (execs body env) Q E s₂ else wpC M A (execs orelse env) Q E s₂) E s) :
    wpC M A (exec (.If test body orelse pos) env) Q E s := by
  rw [exec_If]
  refine wpC_bind (wpC_standAt (wpC_bind (wpC_mono h (fun b s' hb => ?_) fun _ _ x => x)))
  cases b <;> exact hb
theorem ifExp_C {test body orelse : Expr} {pos : Pos} {Q : Value → Shared → Prop}
    (h : wpC M A (isTrue test env (eval test env)) (fun b s₂ => if b then wpC M A (eval body env) Q E s₂ else wpC M A (eval orelse env) Q E s₂) E s) :
    wpC M A (eval (.IfExp test body orelse pos) env) Q E s := by
  rw [arm_eval_IfExp]
  refine wpC_bind (wpC_mono h (fun b s' hb => ?_) fun _ _ x => x)
  cases b <;> exact hb
/-- a value that raises: its assignment -/
theorem assign_raises_C {x : Str} {pos' pos : Pos} {value : Expr} {Q : Flow → Shared → Prop} (h : wpC M A (eval value env) (fun _ _ => False) E s)
    (hs : swapsWith value (some (.Name x pos')) pos.line env = pure false := by rfl) : wpC M A (exec (.Assign [.Name x pos'] value pos) env) Q E s := by
  rw [exec_Assign_Name env x pos' value pos hs]
  exact wpC_bind (wpC_standAt (wpC_bind (wpC_mono h (fun _ _ x => x.elim) fun _ _ x => x)))
theorem subscript_raises_C {v i : Expr} {pos : Pos} {Q : Value → Shared → Prop} {k : Value → Sem Value} (h : wpC M A (eval v env) (fun _ _ => False) E s) (he : eval (.Subscript v i pos) env = (eval v env >>= k) := by rfl) :
    wpC M A (eval (.Subscript v i pos) env) Q E s := by
  rw [he]
  exact wpC_bind (wpC_mono h (fun _ _ x => x.elim) fun _ _ x => x)
/-- a test whose left side is walked in a called context -/
theorem isTrue_compare_C {l r : Expr} {op : CmpOp} {pos : Pos} {whole : Sem Value} {Q : Bool → Shared → Prop}
    (h : wpC M A (eval l env) (fun a s₁ => wpAny M A (eval r env) (fun b s₂ => wpAny M A (compareOp op a b) (fun c s₃ => wpAny M A (truthy c) Q E s₃) E s₂) E s₁) E s)
    (hm : behindInMarks op r = false := by with_unfolding_all rfl) : wpC M A (isTrue (.Compare l [op] [r] pos) env whole) Q E s := fun Γ p hΓ hc => by
  simp only [isTrue_Compare1, markedBehindIn_of_false hm, Sem.wp_bind', Sem.wp_holding, Sem.wp_cmd_standAt, Sem.wp_operate]
  exact Sem.wp_mono M Γ _ (fun a p₁ s₁ h₁ => Sem.wp_mono M Γ _ (fun b _ s₂ h₂ => Sem.wp_mono M Γ _ (fun c p₃ s₃ h₃ => h₃ Γ p₃ hΓ)
    (fun _ _ _ h' => h') _ _ (h₂ Γ _ hΓ)) (fun _ _ _ h' => h') _ _ (h₁ Γ p₁ hΓ)) (fun _ _ _ h' => h') _ _ (h Γ p hΓ hc)
/-- the left side stands, the right one raises -/
theorem isTrue_compare_raises_C {l r : Expr} {op : CmpOp} {pos : Pos} {whole : Sem Value} {Q : Bool → Shared → Prop}
    (h : wpAny M A (eval l env) (fun a s₁ => wpC M A (eval r env) (fun _ _ => False) E s₁) E s)
    (hm : behindInMarks op r = false := by with_unfolding_all rfl) : wpC M A (isTrue (.Compare l [op] [r] pos) env whole) Q E s := by
  rw [isTrue_Compare1, markedBehindIn_of_false hm]
  exact wpC_then (wpAny_mono h (fun a s₁ h₁ => wpC_bind (wpC_holding (wpC_mono h₁ (fun _ _ x => x.elim) fun _ _ x => x))) fun _ _ x => x)
theorem isTrue_compare_left_raises_C {l r : Expr} {op : CmpOp} {pos : Pos} {whole : Sem Value} {Q : Bool → Shared → Prop}
    (h : wpC M A (eval l env) (fun _ _ => False) E s) (hm : behindInMarks op r = false := by with_unfolding_all rfl) : wpC M A (isTrue (.Compare l [op] [r] pos) env whole) Q E s := by
  rw [isTrue_Compare1, markedBehindIn_of_false hm]
  exact wpC_bind (wpC_mono h (fun _ _ x => x.elim) fun _ _ x => x)
theorem isTrue_or_C {x : Expr} {rest : List Expr} {pos : Pos} {whole : Sem Value} {Q : Bool → Shared → Prop}
    (h : wpC M A (isTrue x env (eval x env)) (fun b s₁ => if b then Q true s₁ else wpC M A (allTrue .Or rest env) Q E s₁) E s) : wpC M A (isTrue (.BoolOp .Or (x :: rest) pos) env whole) Q E s := by
  rw [arm_isTrue_BoolOp, arm_allTrue_cons]
  refine wpC_bind (wpC_mono h (fun b s₁ h₁ => ?_) fun _ _ x => x)
  cases b with
  | true => exact wpC_pure h₁
  | false => exact h₁
theorem or_C {x : Expr} {rest : List Expr} {Q : Bool → Shared → Prop}
    (h : wpC M A (isTrue x env (eval x env)) (fun b s₁ => if b then Q true s₁ else wpC M A (allTrue .Or rest env) Q E s₁) E s) : wpC M A (allTrue .Or (x :: rest) env) Q E s := by
  rw [arm_allTrue_cons]
  refine wpC_bind (wpC_mono h (fun b s₁ h₁ => ?_) fun _ _ x => x)
  cases b with
  | true => exact wpC_pure h₁
  | false => exact h₁
theorem spliced_C {x : Sem Value} {rest : List (Bool × Sem Value)} {Q : List Value → Shared → Prop}
    (h : wpC M A x (fun v s₁ => wpC M A (spliced rest) (fun vs s₂ => Q (v :: vs) s₂) E s₁) E s) : wpC M A (spliced ((false, x) :: rest)) Q E s := by
  rw [spliced]
  refine wpC_bind (wpC_mono h (fun v s₁ h₁ => ?_) fun _ _ x => x)
  simp only [Bool.false_eq_true, if_false]
  exact wpC_bind (wpC_pure (wpC_bind (wpC_holding (wpC_mono h₁ (fun vs s₂ h₂ => wpC_pure h₂) fun _ _ x => x))))
theorem evalArgs_raises_C {f : Value} {x : Bool × Sem Value} {rest : List (Bool × Sem Value)} {keywords : List (Option Str × Sem Value)} {Q : Args → Shared → Prop}
    (h : wpC M A (spliced ((false, x.2) :: rest)) (fun _ _ => False) E s) (hx : x.1 = false) : wpC M A (evalArgs f true (x :: rest) keywords) Q E s := by
  obtain ⟨b, t⟩ := x
  cases hx
  unfold evalArgs
  show wpC M A (spliced ((false, t) :: rest) >>= _) Q E s
  exact wpC_bind (wpC_mono h (fun _ _ x => x.elim) fun _ _ x => x)
/-- a call: the function and its arguments in any context, the call itself in a called one -/
theorem callWith_C {P : Heap → Prop} {pos : Pos} {f : Value} {first : List Value} {args : List (Bool × Sem Value)} {keywords : List (Option Str × Sem Value)} {Q : Value → Shared → Prop}
    (hplain : (args.any (·.1) || keywords.any (·.1.isNone)) = false) (hk : ∀ h, P h → ∃ k, (k = Keeper.frame ∨ k = Keeper.machine ∨ k = Keeper.boundFrame) ∧ Looks M h (keeperOf f) k)
    (h : wpC M A (evalArgs f true args keywords) (fun a s₁ => P s₁.heap ∧ wpC M A (call f (first ++ a.pos) a.kw) Q E s₁) E s) : wpC M A (callWith pos f first args keywords) Q E s := by
  unfold callWith
  refine wpC_bind (wpC_holding (wpC_mono h (fun a s₁ h₁ => wpC_bind (wpC_standAt ?_)) fun _ _ x => x))
  obtain ⟨k, hk', L⟩ := hk _ h₁.1
  simp only [hplain]
  refine wpC_then (L.here ?_)
  have tail : ∀ {t : Sem Value}, wpC M A t Q E s₁ → wpC M A (t >>= fun r => holding [r] point >>= fun _ => pure r) Q E s₁ := fun ht =>
    wpC_bind (wpC_mono ht (fun r s₂ hr => wpC_then (wpAny_holding (wpAny_point (wpC_pure hr)))) fun _ _ x => x)
  have marked (mk : Value) : wpC M A (callMarked mk f (first ++ a.pos) a.kw) Q E s₁ := by unfold callMarked; exact wpC_keep h₁.2
  rcases hk' with rfl | rfl | rfl <;> dsimp only <;> first | exact tail h₁.2 | (split <;> first | exact tail h₁.2 | exact tail (marked _))
theorem callWith_raises_C {pos : Pos} {f : Value} {first : List Value} {args : List (Bool × Sem Value)} {keywords : List (Option Str × Sem Value)} {Q : Value → Shared → Prop}
    (h : wpC M A (evalArgs f true args keywords) (fun _ _ => False) E s) : wpC M A (callWith pos f first args keywords) Q E s := by
  unfold callWith
  exact wpC_bind (wpC_holding (wpC_mono h (fun _ _ x => x.elim) fun _ _ x => x))
theorem evalCall_C {func : Expr} {args : List Expr} {kws : List Keyword} {pos : Pos} {Q : Value → Shared → Prop}
    (h : wpAny M A (eval func env) (fun f s₁ => wpC M A (callWith pos f [] (backTo pos (starEach args env)) (backToKw pos (keywordEach kws env))) Q E s₁) E s)
    (he : eval (.Call func args kws pos) env = (do callWith pos (← eval func env) [] (backTo pos (starEach args env)) (backToKw pos (keywordEach kws env))) := by rfl) :
    wpC M A (eval (.Call func args kws pos) env) Q E s := by
  rw [he]; exact wpC_then h
end
section
variable {prog : Program} {w : World} {A : Around} {E : Value → Shared → Prop} {R : Result → Shared → Prop} {s : Shared} {env : Env}
theorem try_C {body orelse : List Stmt} {h₀ : ExceptHandler} {hs : List ExceptHandler} {pos : Pos} {Q : Flow → Shared → Prop}
    (h : wpC (model prog w) A (execs body env) (fun f s₁ => match f with | .next => wpAny (model prog w) A (execs orelse env) Q E s₁ | f => Q f s₁)
      (fun e s₁ => wpAny (model prog w) A (noteFrame e env) (fun _ s₂ => wpAny (model prog w) A (setFlight e none) (fun _ s₃ => wpAny (model prog w) A (handleBy e env (h₀ :: hs)) Q E s₃) E s₂) E s₁) s) :
    wpC (model prog w) A (exec (.Try body (h₀ :: hs) orelse [] pos) env) Q E s := by
  rw [arm_exec_Try]
  refine wpC_bind (wpC_standAt ?_)
  unfold tryStmt
  simp only [List.isEmpty_nil, if_true, List.isEmpty_cons, Bool.false_and, Bool.false_eq_true, if_false]
  refine wpC_bind (wpC_attempt (wpC_mono h (fun f s₁ h₁ => ?_) fun e s₁ h₁ => ?_))
  · cases f <;> first | exact wpC_any h₁ | exact wpC_pure h₁
  · exact wpC_then (wpAny_mono h₁ (fun _ _ h₂ => wpC_any (wpAny_bind h₂)) fun _ _ x => x)
theorem codeC_func {body : List Stmt}
    (h : wpC (model prog w) (A.deeper env) (execs body env) (fun f s' => R (.ok (.ret (match f with | .ret v => v | _ => .none))) s')
      (fun e s' => wpAny (model prog w) (A.deeper env) (leaving env e) (fun _ s'' => R (.error e) s'') (fun e' s'' => R (.error e') s'') s') s) :
    codeC (model prog w) A (.func body env) R s := by
  refine codeC_of_tree ?_
  show wpC _ (A.deeper env) (do point; match ← (execs body env).onRaise (leaving env) with | .ret v => ret v | _ => ret .none) _ _ s
  refine wpC_then (wpAny_point (wpC_bind (wpC_onRaise (wpC_mono h (fun f s' h' => ?_) fun _ _ h' => wpC_any h'))))
  cases f <;> exact wpC_pure h'
theorem codeC_call_function {a : Addr} {args : Args} {o : Obj} {fd : FuncData} {body : List Stmt} (hroom : A.depth < recursionLimit) (ho : s.heap.get? a = some o)
    (hd' : o.data = .func fd) (hco : fd.scope.isCoroutine = false) (hgen : fd.scope.isGenerator = false) (hbody : fd.body = .stmts body) (hcd : s.heap.CodeRec fd.code fd.qualname)
    (h : wpAny (model prog w) A.in1 (bindArgs fd args) (fun binds s₁ =>
      wpAny (model prog w) A.in1 (newFunctionEnv fd.scope fd.globals fd.closure binds (fd.qualname ++ ".<locals>.") (some a) fd.code none fd.builtins)
        (fun env s₂ => s₂.heap.NoLimit ∧ codeC (model prog w) A (.func body env) R s₂) (fun e s' => R (.error e) s') s₁) (fun e s' => R (.error e) s') s) :
    codeC (model prog w) A (.call (.ref a) args) R s := by
  refine codeC_of_tree ?_
  show wpC _ A.in1 (callAny (.ref a) args) _ _ s
  simp only [callAny]
  refine wpC_then (wpAny_load ho ?_)
  obtain ⟨c, oc, vs, tq, hc, hoc, hdc, hq⟩ := hcd
  simp only [hd', callFunction, hco, hgen, hbody, hc]
  rw [hc] at h
  refine wpC_then (m := field (.ref c) 1) (wpAny_field hoc hdc hq ?_)
  refine wpC_then (wpAny_pure ?_)
  refine wpC_then (wpAny_mono h (fun binds s₁ h₁ => wpC_then (wpAny_mono h₁ (fun env s₂ h₂ => wpC_then (wpAny_enterFrame h₂.1 hroom (wpC_pure (And.intro rfl h₂.2)))) fun _ _ h' => h')) fun _ _ h' => h')
theorem codeC_call_def {a : Addr} {o : Obj} {fd : FuncData} {body : List Stmt} {args : Args} {binds : List (Str × Value)}
    (hroom : A.depth < recursionLimit) (ho : s.heap.get? a = some o) (hdata : o.data = .func fd) (hlim : s.heap.NoLimit) (hcd : s.heap.CodeRec fd.code fd.qualname)
    (hbody : fd.body = .stmts body) (hbind : BindsTo s fd args binds)
    (hcell : ∀ x ∈ fd.scope.names, x.2 ≠ .cell) (hloc : ∀ x ∈ binds, fd.scope.names.lookup x.1 = some .local)
    (h : ∀ h₀, h₀.Ns s.heap.objs.size (fun x => binds.reverse.lookup x) → (∀ b o, s.heap.get? b = some o → h₀.get? b = some o) →
      wpC (model prog w) (A.deeper (callEnv fd s.heap.objs.size a)) (execs body (callEnv fd s.heap.objs.size a)) (fun f s' => R (.ok (.ret (match f with | .ret v => v | _ => .none))) s')
        (fun e s' => wpAny (model prog w) (A.deeper (callEnv fd s.heap.objs.size a)) (leaving (callEnv fd s.heap.objs.size a) e) (fun _ s'' => R (.error e) s'') (fun e' s'' => R (.error e') s'') s')
        { s with heap := h₀, toks := s.toks + binds.length })
    (hco : fd.scope.isCoroutine = false := by rfl) (hgen : fd.scope.isGenerator = false := by rfl) (hk : fd.scope.kind = .function := by rfl) :
    codeC (model prog w) A (.call (.ref a) args) R s := by
  refine codeC_call_function hroom ho hdata hco hgen hbody hcd (hbind _ _ _ _ ?_)
  refine wpAny_newFunctionEnv hcell hloc (fun h₀ hns₀ hsb₀ => ⟨hlim.fresh _ hsb₀, codeC_func (h h₀ hns₀ fun b o e => ?_)⟩) hk
  exact hsb₀.extBut b o (Nat.ne_of_lt (Heap.lt_size e)) (Heap.get?_push_of_some _ e)
end
section
variable {prog : Program} {w : World} {A A₀ : Around} {E : Value → Shared → Prop} {s : Shared} {K : Frag} {L : Addr} {h₀ base : Heap} {m mg mb : Str → Option Value} {news : List (Addr × Obj)} {p : Program} {loose : List Str} {mean : ExcName → Option Value} {Q : Value → Shared → Prop}
/-- a def of the text is called: as code_def, in a called context -/
theorem code_def_C {env : Env} {outer : List Env} {R : Result → Shared → Prop} {name qual : Str} {params : Arguments} {body : List Stmt} {scope : Scope} {dV kV doc pm cdv ct oc : Value} {an od : Option Addr} {osl : Array (Option Value)} {f : Addr} {args : Args} {binds : List (Str × Value)}
    (B : Below A₀ base outer h₀) (F : Fr h₀ L s.heap m) (X₀ : K.In h₀) (N : News h₀ L s.heap news) (T : Top p loose mean mg mb h₀) (hA : A.frames = some (env :: outer)) (hf : env.frame = some L) (hke : env.scope.kind = .function)
    (ho : K.lookup f = some ⟨oc, od, .func (fnOf name qual params body scope dV kV doc pm an cdv ct), osl⟩) (hcd : codeIn K cdv qual = true) (hroom : A.depth < recursionLimit)
    (hbind : BindsTo s (fnOf name qual params body scope dV kV doc pm an cdv ct) args binds) (hloc : ∀ y ∈ binds, scope.names.lookup y.1 = some .local)
    (h : ∀ g L' h₁, Fr h₀ L g m → Fr g L' h₁ (fun y => binds.reverse.lookup y) → News g L' h₁ news → Below A base (env :: outer) g → K.In g → Top p loose mean mg mb g →
      wpC (model prog w) (A.deeper (envOf qual scope L' f cdv)) (execs body (envOf qual scope L' f cdv))
        (fun fl s' => LeaveK h₀ L m g R (match fl with | .ret v => v | _ => .none) s')
        (fun e s' => wpAny (model prog w) (A.deeper (envOf qual scope L' f cdv)) (leaving (envOf qual scope L' f cdv) e) (fun _ s'' => R (.error e) s'') (fun e' s'' => R (.error e') s'') s')
        { s with heap := h₁, toks := s.toks + binds.length })
    (hco : scope.isCoroutine = false) (hgen : scope.isGenerator = false) (hk : scope.kind = .function) (hcell : ∀ x ∈ scope.names, x.2 ≠ .cell) : codeC (model prog w) A (.call (.ref f) args) R s := by
  obtain ⟨FG, BG, st, lv⟩ := groundX (R := R) B F N hA hf hke
  refine codeC_call_def (fd := fnOf name qual params body scope dV kV doc pm an cdv ct) (body := body) (binds := binds) hroom ((X₀.keeps F.keep) _ _ ho) rfl (T.nolimit.keeps F.keep) (codeRec_of (X₀.keeps F.keep) hcd) rfl hbind hcell hloc (fun h₁ hns hk₁ => ?_) hco hgen hk
  exact wpC_mono (h _ s.heap.objs.size h₁ FG ⟨hns, fun b o e => hk₁ b o (of_hideAll _ e), Nat.le_of_eq (hideAll_size _ _)⟩
    (fun p hp => ⟨hk₁ _ _ (N p hp).1, Nat.ne_of_lt (Heap.lt_size (N p hp).1), hideAll_none _ (List.mem_map_of_mem hp)⟩) BG (X₀.keeps st) (T.keeps st)) (fun fl s' hl => lv _ _ hl) fun _ _ y => y
end
end Mine
end
section
open PySem PySem.W PyProof.Rows PySem.Spec PySem.Calls
set_option Elab.async false
set_option maxRecDepth 100000
set_option maxHeartbeats 4000000
set_option linter.unusedVariables false
namespace Mine
/-- the claim's own context -/
abbrev callerCtx : PySem.Ctx := ⟨.builtin "claim.caller" {}, none, none, [], none⟩
theorem call_at_caller {prog : Program} {w : World} {f : Value} {vs : List Value} {s : Shared} {Q E : Value → Shared → Prop}
    (h : codeC (model prog w) callerA (.call f ⟨vs, []⟩) (fun r s' => match r with | .ok (.ret v) => Q v s' | .ok _ => False | .error e => E e s') s) (p : Pos) :
    Sem.wp (model prog w) callerCtx (PySem.call f vs) (fun a _ s' => Q a s') (fun e _ s' => E e s') p s := by
  show Sem.wp (model prog w) callerCtx (runValue _) _ _ p s
  rw [Sem.wp_runValue]
  exact h _ p rfl (Ctx.In.enter caller_in _ none p (by intro x; cases x)) rfl
theorem thread_ends_C {prog : Program} {w : World} {t : Sem Fin} {s : Shared} {R : Result → Shared → Prop} (hreg : s.asleep)
    (h : Sem.wp (model prog w) callerCtx t (fun fin _ s' => ∃ f, fin = .done f ∧ (R (.ok f) s' ∧ leftWithCleanup s'.gens = false)) (fun e _ s' => R (.error e) s' ∧ leftWithCleanup s'.gens = false) default s) :
    ∃ n r s' s'', runN (denote table) prog w n s ⟨t, .builtin "claim.caller" {}, default, []⟩ = .halted (outcomeOf r) s' ∧
      schedN (denote table) prog w n (.single s ⟨t, .builtin "claim.caller" {}, default, []⟩) = .halted (outcomeOf r) s' ∧ s'.forget = s''.forget ∧ R r s'' := by
  have h' : Sem.wp (model prog w) callerCtx t (Sem.finPost (model prog w) callerCtx fun r s' => R r s' ∧ leftWithCleanup s'.gens = false)
      (fun e _ s' => R (.error e) s' ∧ leftWithCleanup s'.gens = false) default s := by
    refine Sem.wp_mono _ _ t (fun fin p' s' q => ?_) (fun _ _ _ q => q) _ _ h
    obtain ⟨f, rfl, hf⟩ := q
    exact hf
  obtain ⟨n, r, s₁, s₂, hs, hn, hfo, hR⟩ := wp_halts_full (M := model prog w) (R := R) hreg h'
  exact ⟨n, r, s₂, s₁, hn, hs, hfo, hR⟩
theorem callFrom_C {c : ClaimW} {tree : List Value → Sem Fin} {w : World} {s : Shared} {free : Addr → Prop} {gens : Prop} {kept : Heap → Prop} (hz : s.asleep) (hgens : s.gens = #[])
    (hspec : ∀ args, c.pre args = true → WData.layableAll args = true →
      ∀ ord : List DictEntry → List DictEntry, (∀ l, (ord l).Perm l) →
      ∃ vs s₁, layAllW c.records (classAt s.heap) w.params ord args s = some (vs, s₁) ∧
        Sem.wp (model c.prog w) callerCtx (tree vs) (fun fin _ s' => ∃ f, fin = .done f ∧ (c.Ends s args vs s₁ (.ok f) s' ∧ s'.os = s.os ∧ AllBare s'.gens ∧ kept s'.heap))
          (fun e _ s' => c.Ends s args vs s₁ (.error e) s' ∧ s'.os = s.os ∧ AllBare s'.gens ∧ kept s'.heap) default s₁) :
    c.CallFrom (fun vs => ⟨tree vs, .builtin "claim.caller" {}, default, []⟩) w free gens kept s := by
  intro args hpre hlay ord hord
  obtain ⟨vs, s₁, hlaid, hcode⟩ := hspec args hpre hlay ord hord
  have hal := layAllW_rest _ _ _ hlaid
  have hcode' := Sem.wp_mono _ _ _ (post' := fun fin _ s' => ∃ f, fin = PySem.Fin.done f ∧ ((c.Ends s args vs s₁ (.ok f) s' ∧ s'.os = s.os ∧ kept s'.heap) ∧ leftWithCleanup s'.gens = false))
    (exc' := fun e _ s' => (c.Ends s args vs s₁ (.error e) s' ∧ s'.os = s.os ∧ kept s'.heap) ∧ leftWithCleanup s'.gens = false)
    (fun fin _ s' ⟨f, e, h1, h2, h3, h4⟩ => ⟨f, e, ⟨h1, h2, h4⟩, leftWithCleanup_false_of_bare h3⟩)
    (fun e _ s' ⟨h1, h2, h3, h4⟩ => ⟨⟨h1, h2, h4⟩, leftWithCleanup_false_of_bare h3⟩) _ _ hcode
  obtain ⟨k, r, s', s'', hrun, hsched, hfo, hcase, hos, hkp⟩ := thread_ends_C (prog := c.prog) (w := w) (t := tree vs) (s := s₁)
    (R := fun r s' => c.Ends s args vs s₁ r s' ∧ s'.os = s.os ∧ kept s'.heap) (Shared.asleep_of_life hal.2.2.2 hz) hcode'
  obtain ⟨eh, _, _, eo, _⟩ := Shared.forget_eq hfo
  have hcase := hcase.congr eh
  rw [← eh] at hkp
  rw [← eo] at hos
  have hlife : s'.heap.life = s.heap.life := (runN_life _ _ _ hrun).trans hal.2.2.2
  refine ⟨vs, s₁, hlaid, k, _, s', hsched, ?_, (fun _ i x hx => by rw [hgens] at hx; simp at hx), hkp, by rw [hlife], Shared.rest_eq hos⟩
  rcases hcase with ⟨v, rfl, d1, d2, d3, d4, d5⟩ | ⟨e, ob, cls, rfl, d1, d2, d3, d4, d5⟩
  · exact .inl ⟨v, rfl, d1, d2, d3, fun b o y _ => d4 b o y, d5⟩
  · exact .inr ⟨e, ob, cls, rfl, d1, d2, d3, d4, fun b o y _ => d5 b o y⟩

/-- the walk that is asked, in called contexts alone -/
abbrev WalkC (q : Program) (loose : List Str) (XP : (Str → Option Value) → Heap → Prop) (YP : World → Heap → Prop) (r : RowW) (d : DefRec) (kwd : List (Str × Expr)) : Prop :=
  ∀ (w : World) (s₀ s₁ : Shared) (mg mb : Str → Option Value), Ground q loose r.records XP w s₀ mg mb s₁.heap → YP w s₁.heap → ∀ (a : Addr) (o : Obj) (pm cd doc dV kV : Value), s₁.heap.get? a = some o →
    o.data = .func { docDef d.name d.params d.body d.scope pm cd doc with defaults := dV, kwdefaults := kV } → s₁.heap.CodeRec cd d.name → Dflts mg s₁.heap d.params kwd dV kV → mg d.name = some (.ref a) → s₁.gens = #[] →
    ∀ (args : List WData) (vals : List Value) (as : List Addr), r.claim.pre args = true → WData.layableAll args = true → ReadsAllW r.records (classAt s₀.heap) s₁.heap vals args as → WellAll w.params s₁.heap vals args → (∀ a ∈ as, (a == sysModules) = false) →
      codeC (model r.prog w) callerA (.call (.ref a) ⟨vals, []⟩) (GoodWG r.claim (classAt s₀.heap) (ExcName.means s₀.heap) args s₁) s₁
theorem PySem.W.holds_open {r : OpenRow} {q : Program} {loose : List Str} {Xt : Shared → Bool} {XP : (Str → Option Value) → Heap → Prop} {α : Type} {Yf : Shared → α} {Ya : World → α} {YP : World → Heap → Prop} {d : DefRec} {kwd : List (Str × Expr)} {N : Nat}
    (left : LeftO r.prog q loose Xt Yf Ya N) (hY : ∀ w s, Yf s = Ya w → YP w s.heap) (hYk : ∀ w h h', YP w h → (∀ b o, h.get? b = some o → h'.get? b = some o) → YP w h')
    (hX : ∀ s, Xt s = true → XP (s.heap.nsMap mainGlobals) s.heap) (hXk : ∀ mg h h', XP mg h → (∀ b o, h.get? b = some o → h'.get? b = some o) → XP mg h')
    (hdef : defOf q r.name = some (d, kwd)) (hp : r.prog.theDef r.name = some (d.params, d.body, d.scope)) (hk : kwWritten? d.params.kwonlyargs d.params.kw_defaults = some kwd) (hRf : ∀ s, Xt s = true → RecFacts r.records s.heap) (hwr : (!r.writes || r.records.isEmpty) = true)
    (k1 : r.wellSaid = true) (ok : (chainsOk q && opensWell r.prog && (frees r.toRowW && r.within.isEmpty)) = true) (hb : r.prog.bare) (hw : r.toRowW.promised)
    (call : WalkC q loose XP YP r.toRowW d kwd) : r.Holds := by
  obtain ⟨ok, k5⟩ := Bool.and_eq_true_iff.mp ok
  obtain ⟨hch, o1⟩ := Bool.and_eq_true_iff.mp ok
  obtain ⟨k5, k6⟩ := Bool.and_eq_true_iff.mp k5
  obtain ⟨hsame, hu, ha, hap, hm⟩ := frees_parts k5
  refine ⟨k1, hw, ⟨hb, o1, by show r.toRowW.makers.map _ = []; rw [hm]; rfl⟩, hw.witness, fun w => ⟨(left.behind hX hch w).1, fun s' hs' => ?_⟩⟩
  obtain ⟨s₀, hf, hg0, s, hT, hz, hgens, hg, G00, y⟩ := (left.behind (XP := fun mg h => XP mg h ∧ RecFacts r.records h) (fun s hs => ⟨hX s hs, hRf s hs⟩) hch w).2 s' hs'
  have G0 : Ground q loose [] XP w s (s.heap.nsMap mainGlobals) (s.heap.nsMap builtinsNs) s.heap := ⟨G00.T, G00.B, G00.D, G00.TE, G00.TD, G00.W, G00.X.1, G00.cls, G00.has, G00.apart, G00.once, G00.K⟩
  have RF := G00.X.2
  have hT' := hT
  refine ⟨s₀, hf, hg0, s, hT, fun n hn => ?_, RF.1, RF.2.1, ?_⟩
  · obtain rfl : n = r.name := by split at hn <;> simp_all
    exact pinned_of_view hg G0 hdef hp hk
  have hgens : s.gens = #[] := Array.eq_empty_of_size_eq_zero (beq_iff_eq.mp hgens)
  have G : Ground q loose r.records XP w s _ _ s.heap := RF.ground G0
  refine callFrom_C (c := r.toRowW.claim) hz hgens fun args hpre hlay ord hord => ?_
  obtain ⟨⟨vs, s₁⟩, hlaid⟩ := Option.isSome_iff_exists.mp (layAllW_isSome (P := w.params) (ord := ord) G.has args r.args s (pre_splitW hpre).1)
  have keeps := layAllW_keeps _ _ _ hlaid
  have hal := layAllW_rest _ _ _ hlaid
  obtain ⟨as, hrd, hin, hold⟩ := reads_layAllW hord _ _ _ hlaid hlay s₁.heap (fun _ _ e => e)
  have L : Laid r.records w s s₁ args vs as := ⟨⟨ord, hord, hlaid⟩, hrd, hin, hold, keeps, hal.1.trans hgens, hal.2.2.1⟩
  have G₁ := G.keeps hXk keeps
  obtain ⟨a, o, pm, cd, doc, dV, kV, h1, h2, h3, h4, h5⟩ := G₁.fn hdef
  have h := call w s s₁ _ _ G₁ (hYk _ _ _ (hY w s y) keeps) a o pm cd doc dV kV h2 h3 h4 h5 (defOf_name hdef ▸ h1) L.gens args vs as hpre hlay L.reads L.well (L.low G.low)
  have hi := ident_freeW hu ha hap
  have hwi : r.toRowW.claim.within = [] := List.isEmpty_iff.mp k6
  refine ⟨vs, s₁, hlaid, ?_⟩
  show Sem.wp (model r.prog w) callerCtx (do match ← nsGet mainNs r.name with
      | some f => do ret (← PySem.call f vs)
      | none => unsupported "claim.caller:no-such-global") _ _ default s₁
  rw [Sem.wp_bind']
  refine (Sem.wp_nsGet _ _ _ _ _ G₁.T.g _ _).mpr ?_
  rw [show s.heap.nsMap mainGlobals r.name = some (.ref a) from h1]
  show Sem.wp (model r.prog w) callerCtx (PySem.call (.ref a) vs >>= fun v => ret v) _ _ default s₁
  rw [Sem.wp_bind']
  refine Sem.wp_mono _ _ _ (fun v _ s' g => ?_) (fun e _ s' g => ?_) _ _ (call_at_caller (Q := fun v s' => GoodWG r.toRowW.claim (classAt s.heap) (ExcName.means s.heap) args s₁ (.ok (.ret v)) s')
    (E := fun e s' => GoodWG r.toRowW.claim (classAt s.heap) (ExcName.means s.heap) args s₁ (.error e) s') (codeC_mono h fun res s' g => ?_) default)
  · exact ⟨_, rfl, have z := g.laid (c := r.toRowW.claim) hsame hwi hi L; ⟨z.1, z.2.1, z.2.2, fun q => ⟨namesKept_of hT' hg _ keeps g.2.1.old, noTable hwr q⟩⟩⟩
  · exact have z := g.laid (c := r.toRowW.claim) hsame hwi hi L; ⟨z.1, z.2.1, z.2.2, fun q => ⟨namesKept_of hT' hg _ keeps g.2.1.old, noTable hwr q⟩⟩
  · rcases g.1 with ⟨v, _, _, rfl, _⟩ | ⟨e, _, _, rfl, _⟩ <;> exact g
end Mine
end
section
open PySem PySem.W PyProof.Rows PySem.Spec PySem.Calls
set_option Elab.async false
set_option maxRecDepth 100000
set_option maxHeartbeats 4000000
set_option linter.unusedVariables false
namespace Mine
/-- what codeAny_mono was fed -/
theorem of_codeAny_mono {R R' : Result → Shared → Prop} (h : ∀ (M : Model) (A : Around) (cd : Code) (s : Shared), codeAny M A cd R s → codeAny M A cd R' s) (r : Result) (s : Shared) (hr : R r s) : R' r s := by
  let t : Sem Fin := match r with | .ok f => pure (.done f) | .error e => throw e
  let M : Model := ⟨fun _ => t, default, ⟨fun _ _ => 0, ⟨fun _ => 0, fun _ => 0, id, fun _ => 0, fun _ _ => 0, fun _ => false, fun _ => 0, .refcount, .text, fun _ => 0, fun _ => none, fun _ => false, fun _ _ _ => true, fun _ y a => a ≥ y, true, fun _ => false, fun _ => none, fun _ => none, fun _ _ _ => 0, fun _ _ => none, fun _ => none, fun _ => (0, false, "UTC"), fun _ => none, fun d => d, fun _ => false⟩⟩⟩
  let A : Around := { handled := none, depth := 1000, frames := none, guards := none, units := 1000 }
  let Γ : PySem.Ctx := ⟨.builtin "x" {}, none, none, [], none⟩
  have hΓ : Γ.Below A := ⟨rfl, (show frameCount [] ≤ 1000 by decide), (fun l hl => nomatch hl), (fun g hg => nomatch hg), (show unitsOf [] ≤ 1000 by decide)⟩
  have h1 : codeAny M A (.builtin "x" {}) R s := by
    refine codeAny_of_tree ?_
    show wpAny M _ t _ _ s
    cases r with
    | ok f => exact wpAny_pure hr
    | error e => exact wpAny_throw hr
  have h2 := h M A _ s h1 Γ default rfl hΓ
  rw [wpCode_iff_wp] at h2
  have h3 : Sem.wp M Γ t (Sem.finPost M Γ R') (fun e _ s' => R' (.error e) s') default s := h2
  cases r with
  | ok f => exact h3
  | error e => exact h3
section
variable {prog : Program} {w : World} {A : Around} {s : Shared}
theorem call_cells_C {R : Result → Shared → Prop} {name : Str} {params : Arguments} {body : List Stmt} {scope : Scope}
    {pm cd doc : Value} {a : Addr} {o : Obj} {args : List Value} {binds : List (Str × Value)}
    (hroom : A.depth < recursionLimit) (ho : s.heap.get? a = some o) (hdata : o.data = .func (Calls.docDef name params body scope pm cd doc)) (hlim : s.heap.NoLimit) (hcd : s.heap.CodeRec cd name)
    (hbind : bindArgs (Calls.docDef name params body scope pm cd doc) ⟨args, []⟩ = pure binds)
    (hkind : ∀ x ∈ binds, scope.names.lookup x.1 = some .local ∨ (scope.names.lookup x.1 = some .cell ∧ ((cellsFrom (s.heap.objs.size + 1) scope.names []).lookup x.1).isSome = true))
    (hnd : ((cellsFrom 0 scope.names []).map (·.1)).Nodup)
    (h : ∀ h₁ tk cells, Fr s.heap s.heap.objs.size h₁ (bindL (envOfC name scope s.heap.objs.size a cd).kindOf binds fun _ => none) → News s.heap s.heap.objs.size h₁ cells →
      CellsAre (bindC (envOfC name scope s.heap.objs.size a cd).kindOf binds fun _ => none) (cellsFrom (s.heap.objs.size + 1) scope.names []) cells →
      wpC (model prog w) (A.deeper (envOfC name scope s.heap.objs.size a cd)) (execs body (envOfC name scope s.heap.objs.size a cd))
        (fun f s' => R (.ok (.ret (match f with | .ret v => v | _ => .none))) s')
        (fun e s' => wpAny (model prog w) (A.deeper (envOfC name scope s.heap.objs.size a cd)) (leaving (envOfC name scope s.heap.objs.size a cd) e)
          (fun _ s'' => R (.error e) s'') (fun e' s'' => R (.error e') s'') s')
        { s with heap := h₁, toks := tk })
    (hco : scope.isCoroutine = false := by rfl) (hgen : scope.isGenerator = false := by rfl) (hk : scope.kind = .function := by rfl) :
    codeC (model prog w) A (.call (.ref a) ⟨args, []⟩) R s := by
  refine codeC_call_function (fd := Calls.docDef name params body scope pm cd doc) hroom ho hdata hco hgen rfl hcd ?_
  rw [hbind]
  refine wpAny_pure (wpAny_newFunctionEnv_cells hk hkind fun env he s' X => ?_)
  subst he
  refine ⟨hlim.keeps X.toInCall.keep, codeC_func ?_⟩
  obtain ⟨h₁, tk, rfl, _⟩ := X.done
  have F : Fr s.heap s.heap.objs.size h₁ _ := ⟨X.toInCall.ns, X.toInCall.keep, X.toInCall.fresh⟩
  obtain ⟨cells, N, Y⟩ := Cl.news (h₀ := s.heap) (Nat.le_refl _) fun n c hm => ⟨X.cell n c (lookup_of_mem_nodup (cellsFrom_names scope.names 0 (s.heap.objs.size + 1) [] [] rfl ▸ hnd) hm), X.above n c hm⟩
  exact h h₁ tk cells F N Y
end
end Mine
end
section
open PySem PySem.W PyProof.Rows PySem.Spec PySem.Calls
set_option Elab.async false
set_option maxRecDepth 100000
set_option maxHeartbeats 8000000
namespace Mine
section
/-- the head stops once its heap is written out -/
local macro_rules | `(tactic| o_head $_) => `(tactic| assumption)
theorem KK (hh : PySem.Challenge.rw_pm0034_03.row.Holds) : PySem.Challenge.rw_pm0034_03.row.Holds := by
  k_head
end
end Mine
end
section
open PySem PySem.W PyProof.Rows PySem.Spec PySem.Calls PyProof.V
set_option Elab.async false
set_option maxRecDepth 100000
set_option maxHeartbeats 4000000
set_option linter.all false
namespace Mine
theorem fr_to {g h : Heap} {L : Addr} {M M' : Str → Option Value} (F : Fr g L h M) (e : ∀ y, M y = M' y) : Fr g L h M' := (funext e : M = M') ▸ F
/-- the end of a turn of a while under a measure -/
def WhlEnd {ι : Type} (μ : ι → Nat) (P : ι → Heap → Nat → Prop) (i : ι) (s : Shared) (Q : Flow → Shared → Prop) (f : Flow) (s' : Shared) : Prop :=
  match f with
  | .next | .cont => ∃ i' h' tk', s' = { s with heap := h', toks := tk' } ∧ μ i' < μ i ∧ P i' h' tk'
  | .brk => Q .next s'
  | .ret v => Q (.ret v) s'
section
variable {prog : Program} {w : World} {A : Around} {E : Value → Shared → Prop} {s : Shared} {env : Env} {test : PySem.Expr} {body orelse : List Stmt} {Q : Flow → Shared → Prop}
theorem while_my {ι : Type} (μ : ι → Nat) (P : ι → Heap → Nat → Prop) (i₀ : ι) {pos : Pos} (start : P i₀ s.heap s.toks)
    (step : ∀ i h tk, P i h tk → wpAny (model prog w) A (isTrue test env (eval test env)) (fun b s₂ => WhlIf b (wpAny (model prog w) A (execs body env) (WhlEnd μ P i s Q) E s₂) (wpAny (model prog w) A (execs orelse env) Q E s₂)) E { s with heap := h, toks := tk })
    (hE : PassesOwn (model prog w) A env E) :
    wpAny (model prog w) A (exec (.While test body orelse pos) env) Q E s := by
  refine whl_start 0 ?_
  have go : ∀ n i h tk, μ i < n → P i h tk → WhlRest prog w A E env test body orelse Q (0 + 1) { s with heap := h, toks := tk } := by
    intro n
    induction n with
    | zero => exact fun i h tk hi _ => absurd hi (Nat.not_lt_zero _)
    | succ n ih =>
      intro i h tk hi hP
      refine whl_turn hE (wpAny_mono (step i h tk hP) (fun b s₂ h₂ => ?_) fun _ _ x => x)
      cases b with
      | false => exact WhlIf.no rfl h₂
      | true =>
        refine WhlIf.yes rfl (wpAny_mono (show wpAny _ _ _ (WhlEnd μ P i s Q) E s₂ from h₂) (fun f s₃ h₃ => ?_) fun _ _ x => x)
        cases f with
        | ret v => exact h₃
        | brk => exact h₃
        | next =>
          obtain ⟨i', h', tk', rfl, hm, hP'⟩ := h₃
          exact ih i' h' tk' (Nat.lt_of_lt_of_le hm (Nat.le_of_lt_succ hi)) hP'
        | cont =>
          obtain ⟨i', h', tk', rfl, hm, hP'⟩ := h₃
          exact ih i' h' tk' (Nat.lt_of_lt_of_le hm (Nat.le_of_lt_succ hi)) hP'
  exact go _ i₀ s.heap s.toks (Nat.lt_succ_self _) start
/-! in called contexts -/
theorem wpC_runOwn {c : Code} {h : Option Value} {Q : Flow → Shared → Prop}
    (hc : codeC (model prog w) (A.mark h) c (fun r s' => match r with | .ok f => Q f s' | .error e => cameBackBy (model prog w) A env E e s') s) (hnb : h ≠ some byPass := by intro x; cases x) :
    wpC (model prog w) A (runOwn c env h) Q E s := by
  unfold runOwn
  exact wpC_onRaise (wpC_mono (wpC_run hc hnb) (fun _ _ x => x) fun e s' x => wpC_any x)
theorem wpC_noted {α : Type} {m : Sem α} {Q : α → Shared → Prop} (h : wpC (model prog w) A m Q (notedBy (model prog w) A env E) s) : wpC (model prog w) A (m.onRaise fun x => do noteFrame x env; theTreesLotGoes x) Q E s :=
  wpC_onRaise (wpC_mono h (fun _ _ q => q) fun _ _ hx => wpC_any (wpAny_bind (wpAny_mono hx (fun _ _ e => wpAny_theTreesLotGoes e) fun _ _ e => e)))
/-- a while in a called context: `body` may be walked there -/
theorem while_C {ι : Type} (μ : ι → Nat) (P : ι → Heap → Nat → Prop) (i₀ : ι) {pos : Pos} (start : P i₀ s.heap s.toks)
    (step : ∀ i h tk, P i h tk → wpAny (model prog w) A (isTrue test env (eval test env)) (fun b s₂ => WhlIf b (wpC (model prog w) A (execs body env) (WhlEnd μ P i s Q) E s₂) (wpAny (model prog w) A (execs orelse env) Q E s₂)) E { s with heap := h, toks := tk })
    (hE : PassesOwn (model prog w) A env E) :
    wpC (model prog w) A (exec (.While test body orelse pos) env) Q E s := by
  rw [exec_While]
  refine wpC_bind (wpC_standAt (wpC_runOwn ?_))
  have go : ∀ n i h tk, μ i < n → P i h tk → codeC (model prog w) A (.whileLoop test body orelse env) (fun r s' => match r with | .ok f => Q f s' | .error e => cameBackBy (model prog w) A env E e s') { s with heap := h, toks := tk } := by
    intro n
    induction n with
    | zero => exact fun i h tk hi _ => absurd hi (Nat.not_lt_zero _)
    | succ n ih =>
      intro i h tk hi hP
      refine codeC_of_tree ?_
      show wpC _ A ((whileTurn test body orelse env).onRaise (fun x => do noteFrame x env; theTreesLotGoes x)) _ _ _
      refine wpC_noted ?_
      simp only [whileTurn]
      refine wpC_then (wpAny_mono (step i h tk hP) (fun b s₂ h₂ => ?_) hE)
      cases b with
      | false =>
        have h₃ : wpAny (model prog w) A (execs orelse env) Q E s₂ := by
          unfold WhlIf at h₂
          rw [if_neg Bool.false_ne_true] at h₂
          exact h₂
        simp only [Bool.false_eq_true, if_false]
        exact wpC_any (wpAny_bind (wpAny_mono h₃ (fun f s₃ h₄ => wpAny_pure h₄) hE))
      | true =>
        have h₃ : wpC (model prog w) A (execs body env) (WhlEnd μ P i s Q) E s₂ := by
          unfold WhlIf at h₂
          rw [if_pos rfl] at h₂
          exact h₂
        simp only [if_true]
        refine wpC_bind (wpC_mono h₃ (fun f s₃ h₄ => ?_) hE)
        cases f with
        | ret v => exact wpC_pure h₄
        | brk => exact wpC_pure h₄
        | next =>
          obtain ⟨i', h', tk', rfl, hm, hP'⟩ := h₄
          exact wpC_pure ⟨rfl, ih i' h' tk' (Nat.lt_of_lt_of_le hm (Nat.le_of_lt_succ hi)) hP'⟩
        | cont =>
          obtain ⟨i', h', tk', rfl, hm, hP'⟩ := h₄
          exact wpC_pure ⟨rfl, ih i' h' tk' (Nat.lt_of_lt_of_le hm (Nat.le_of_lt_succ hi)) hP'⟩
  exact go _ i₀ s.heap s.toks (Nat.lt_succ_self _) start
theorem codeC_loop' {c : Code} {R : Result → Shared → Prop} (hq : c.quiet = true) (I : Nat → Shared → Prop)
    (turn : ∀ n s, I n s → wpC (model prog w) (A.under c) ((model prog w).den c)
      (fun fin s' => match fin with
        | .done f => R (.ok f) s'
        | .again c' => (c' = c ∧ ∃ m, m < n ∧ I m s') ∨ (c'.quiet = true ∧ codeC (model prog w) A c' R s')) (fun e s' => R (.error e) s') s)
    (n : Nat) (h : I n s) : codeC (model prog w) A c R s := by
  induction n using Nat.strongRecOn generalizing s with
  | ind n ih =>
    refine codeC_of_tree (wpC_mono (turn n s h) (fun fin s' hf => ?_) fun _ _ h' => h')
    cases fin with
    | done f => exact hf
    | again c' =>
      rcases hf with ⟨rfl, m, hm, hI⟩ | hf
      · exact ⟨hq, ih m hm hI⟩
      · exact hf
theorem codeC_forLoop_any {R : Result → Shared → Prop} {target : PySem.Expr} {it : Value} (I : Nat → Shared → Prop)
    (turn : ∀ n s, I n s → wpAny (model prog w) A (pyNext it) (fun r s₁ => match r with
      | none => wpAny (model prog w) A (execs orelse env) (fun f s₃ => R (.ok f) s₃) (notedBy (model prog w) A env fun e s' => R (.error e) s') s₁
      | some v => wpAny (model prog w) A (letOwnedTupleGo target it v) (fun _ s₁' =>
          wpAny (model prog w) A (assign target env v) (fun _ s₂ => wpC (model prog w) A (execs body env) (fun f s₃ => match f with
            | .next | .cont => ∃ m, m < n ∧ I m s₃
            | .brk => R (.ok .next) s₃
            | .ret v => R (.ok (.ret v)) s₃) (notedBy (model prog w) A env fun e s' => R (.error e) s') s₂) (notedBy (model prog w) A env fun e s' => R (.error e) s') s₁') (notedBy (model prog w) A env fun e s' => R (.error e) s') s₁) (notedBy (model prog w) A env fun e s' => R (.error e) s') s)
    (n : Nat) (h : I n s) : codeC (model prog w) A (.forLoop target it body orelse env) R s := by
  refine codeC_loop' rfl I (fun n s hI => ?_) n h
  show wpC _ A ((forTurn target it body orelse env).onRaise (fun x => do noteFrame x env; theTreesLotGoes x)) _ _ s
  refine wpC_noted ?_
  simp only [forTurn]
  refine wpC_bind (wpC_standAt (wpC_bind (wpC_onRaise (wpC_mono (wpC_any (turn n s hI)) (fun r s₁ h₁ => ?_) fun _ _ h' => wpC_standAt h'))))
  cases r with
  | none => exact wpC_pure (.inr ⟨rfl, codeC_any (codeAny_block h₁)⟩)
  | some v =>
    refine wpC_then (wpAny_mono h₁ (fun _ s₁' h₁' => ?_) fun _ _ h' => h')
    refine wpC_then (wpAny_mono h₁' (fun _ s₂ h₂ => wpC_bind (wpC_mono h₂ (fun f s₃ h₃ => ?_) fun _ _ h' => h')) fun _ _ h' => h')
    cases f with
    | next => exact wpC_pure (.inl ⟨rfl, h₃⟩)
    | cont => exact wpC_pure (.inl ⟨rfl, h₃⟩)
    | brk => exact wpC_pure h₃
    | ret v => exact wpC_pure h₃
end
section
variable {prog : Program} {w : World} {A : Around} {E : Value → Shared → Prop} {s : Shared} {env : Env} {h₀ : Heap} {target : PySem.Expr} {body : List Stmt} {Q : Flow → Shared → Prop}
theorem ktu_loop_C {R : Result → Shared → Prop} {I : Addr} {fp wr : List Addr} {n : Nat} {P Md : Nat → Value → Heap → Prop} {St : Nat → Heap → Prop} {m : Str → Option Value} {news : List (Addr × Obj)} (W : KTurns prog w A target I fp wr n P Md St)
    (hLf : env.locals ∉ fp) (hwr : ∀ b ∈ wr, h₀.get? b = none) (hnw : ∀ p ∈ news, p.1 ∉ wr) (hst : St 0 s.heap) (F : Fr h₀ env.locals s.heap m) (N : News h₀ env.locals s.heap news)
    (J : Nat → (Str → Option Value) → List (Addr × Obj) → Prop) (h0 : J 0 m news)
    (step : ∀ i v m₁ news₁ h₁ tk₁ own, i < n → P i v h₁ → J i m₁ news₁ → (∀ p ∈ news₁, p.1 ∉ wr) → (∀ p ∈ own, p.1 ∈ fp) → (∀ p ∈ own, h₁.get? p.1 = some p.2) → (∀ b ∈ fp, h₀.get? b = none → ∀ o, h₁.get? b = some o → (b, o) ∈ own) → St (i + 1) h₁ →
      Fr h₀ env.locals h₁ m₁ → News h₀ env.locals h₁ (own ++ news₁) →
      wpAny (model prog w) A (assign target env v) (fun _ s₂ => wpC (model prog w) A (execs body env)
        (LoopStepV h₀ env.locals wr own (J (i + 1)) { s with heap := h₁, toks := tk₁ } (fun v s' => R (.ok (.ret v)) s') fun s' => R (.ok .next) s') (notedBy (model prog w) A env fun e s' => R (.error e) s') s₂) (notedBy (model prog w) A env fun e s' => R (.error e) s') { s with heap := h₁, toks := tk₁ })
    (hR : ∀ h' tk m' news', Fr h₀ env.locals h' m' → News h₀ env.locals h' news' → (∀ p ∈ news', p.1 ∉ wr) → J n m' news' → R (.ok .next) { s with heap := h', toks := tk }) :
    codeC (model prog w) A (.forLoop target (.ref I) body [] env) R s := by
  have hLw : env.locals ∉ wr := fun h => hLf (W.sub _ h)
  have old : ∀ b o, h₀.get? b = some o → b ∉ wr := fun b o e hb => by rw [hwr b hb] at e; cases e
  refine codeC_forLoop_any
    (fun k s' => ∃ h' tk m' news' i, s' = { s with heap := h', toks := tk } ∧ St i h' ∧ Fr h₀ env.locals h' m' ∧ News h₀ env.locals h' news' ∧ (∀ p ∈ news', p.1 ∉ wr) ∧ J i m' news' ∧ i ≤ n ∧ k = n + 1 - i) ?_ (n + 1)
    ⟨s.heap, s.toks, m, news, 0, rfl, hst, F, N, hnw, h0, Nat.zero_le _, rfl⟩
  rintro k s' ⟨h', tk, m', news', i, rfl, hst', F', N', hnw', hJ, hi, rfl⟩
  have next : ∀ h₁ : Heap, (∀ b o, b ∉ wr → h'.get? b = some o → h₁.get? b = some o) → Fr h₀ env.locals h₁ m' ∧ News h₀ env.locals h₁ news' := fun h₁ hk₁ =>
    ⟨⟨F'.ns.at' fun o e => hk₁ _ o hLw e, fun b o e => hk₁ b o (old b o e) (F'.keep b o e), F'.above⟩, fun p hp => ⟨hk₁ _ _ (hnw' p hp) (N' p hp).1, (N' p hp).2⟩⟩
  by_cases hlt : i < n
  · refine W.item i _ _ _ hlt hst' fun v h₁ tk₁ hMd hk₁ => ?_
    refine W.go i v _ _ _ hMd fun h₂ hP hst₂ hk₂ => ?_
    obtain ⟨F₂, N₂⟩ := next h₂ fun b o hb x => hk₂ b o hb (hk₁ b o hb x)
    have Nown : News h₀ env.locals h₂ (PyProof.Rows.ownOf h₀ fp h₂) := news_ownOf hLf
    refine wpAny_mono (step i v m' news' h₂ tk₁ (PyProof.Rows.ownOf h₀ fp h₂) hlt hP hJ hnw' ownOf_sub (fun p hp => (Nown p hp).1) (fun b hb hn o e => mem_ownOf hb hn e) hst₂ F₂ (Nown.append N₂)) (fun _ s₂ h₂' => wpC_mono h₂' (fun f s₃ h₃ => ?_) fun _ _ e => e) fun _ _ e => e
    cases f with
    | ret v => exact h₃
    | brk => exact h₃
    | cont =>
      obtain ⟨_, h₃', tk₃, m₂, news₂, rfl, F₃, N₃, ha₃, hJ₃⟩ := h₃
      refine ⟨n + 1 - (i + 1), by omega, h₃', tk₃, m₂, news₂, i + 1, rfl, ?_, F₃, N₃.right, ha₃, hJ₃, hlt, rfl⟩
      refine W.frame _ _ _ hst₂ fun b hb o e => ?_
      cases hn : h₀.get? b with
      | some o₀ =>
        have : o₀ = o := by have q := F₂.keep b o₀ hn; rw [e] at q; exact (Option.some.inj q).symm
        exact this ▸ F₃.keep b o₀ hn
      | none => exact (N₃ _ (List.mem_append_left _ (mem_ownOf hb hn e))).1
    | next =>
      obtain ⟨_, h₃', tk₃, m₂, news₂, rfl, F₃, N₃, ha₃, hJ₃⟩ := h₃
      refine ⟨n + 1 - (i + 1), by omega, h₃', tk₃, m₂, news₂, i + 1, rfl, ?_, F₃, N₃.right, ha₃, hJ₃, hlt, rfl⟩
      refine W.frame _ _ _ hst₂ fun b hb o e => ?_
      cases hn : h₀.get? b with
      | some o₀ =>
        have : o₀ = o := by have q := F₂.keep b o₀ hn; rw [e] at q; exact (Option.some.inj q).symm
        exact this ▸ F₃.keep b o₀ hn
      | none => exact (N₃ _ (List.mem_append_left _ (mem_ownOf hb hn e))).1
  · have hin : i = n := by omega
    subst hin
    refine W.done _ _ _ hst' fun h₁ tk₁ hk₁ => wpAny_execs_nil ?_
    obtain ⟨F₁, N₁⟩ := next h₁ hk₁
    exact hR h₁ tk₁ m' news' F₁ N₁ hnw' hJ
/-- as TurnsAt, the body walked in a called context -/
def TurnsAtC (prog : Program) (w : World) (A : Around) (h₀ : Heap) (env : Env) (target : PySem.Expr) (body : List Stmt) (Q : Flow → Shared → Prop) (E : Value → Shared → Prop) (it : Value) (s₂ : Shared) : Prop :=
  ∃ (I : Addr) (fp wr : List Addr) (n : Nat) (P Md : Nat → Value → Heap → Prop) (St : Nat → Heap → Prop) (m : Str → Option Value) (news : List (Addr × Obj)) (J : Nat → (Str → Option Value) → List (Addr × Obj) → Prop),
    it = .ref I ∧ KTurns prog w A target I fp wr n P Md St ∧ env.locals ∉ fp ∧ (∀ b ∈ wr, h₀.get? b = none) ∧ (∀ p ∈ news, p.1 ∉ wr) ∧ St 0 s₂.heap ∧ Fr h₀ env.locals s₂.heap m ∧ News h₀ env.locals s₂.heap news ∧ J 0 m news ∧
    (∀ i v m₁ news₁ h₁ tk₁ own, i < n → P i v h₁ → J i m₁ news₁ → (∀ p ∈ news₁, p.1 ∉ wr) → (∀ p ∈ own, p.1 ∈ fp) → (∀ p ∈ own, h₁.get? p.1 = some p.2) → (∀ b ∈ fp, h₀.get? b = none → ∀ o, h₁.get? b = some o → (b, o) ∈ own) → St (i + 1) h₁ →
      Fr h₀ env.locals h₁ m₁ → News h₀ env.locals h₁ (own ++ news₁) →
      wpAny (model prog w) A (assign target env v) (fun _ s₃ => wpC (model prog w) A (execs body env)
        (LoopStepV h₀ env.locals wr own (J (i + 1)) { s₂ with heap := h₁, toks := tk₁ } (fun v s' => Q (.ret v) s') fun s' => Q .next s') E s₃) E { s₂ with heap := h₁, toks := tk₁ }) ∧
    ∀ h' tk m' news', Fr h₀ env.locals h' m' → News h₀ env.locals h' news' → (∀ p ∈ news', p.1 ∉ wr) → J n m' news' → Q .next { s₂ with heap := h', toks := tk }
theorem For_turns_C {iter : PySem.Expr} {pos : Pos} {m : Str → Option Value} (_F : Fr h₀ env.locals s.heap m)
    (h : wpAny (model prog w) A (eval iter env) (fun xv s₁ => wpAny (model prog w) A (pyIter xv) (fun it s₂ => TurnsAtC prog w A h₀ env target body Q E it s₂) E s₁) E s)
    (hs : ∀ x, foldedSetIterable iter env x = pure x := by intro _; rfl)
    (hE : PassesOwn (model prog w) A env E := by passes_own) :
    wpC (model prog w) A (exec (.For target iter body [] pos) env) Q E s := by
  rw [exec_For]
  refine wpC_bind (wpC_standAt (wpC_then (wpAny_mono h (fun x s₁ h₁ => wpC_then (wpAny_of_eq (hs x) (wpC_bind (wpC_standAt (wpC_then (wpAny_holding
    (wpAny_mono h₁ (fun it s₂ h₂ => wpC_runOwn ?_) fun _ _ h' => h'))))))) fun _ _ h' => h')))
  obtain ⟨I, fp, wr, n, P, Md, St, m, news, J, rfl, W, hLf, hwr, hnw, hst, F, N, h0, step, hQ⟩ := h₂
  exact ktu_loop_C (R := fun r s' => match r with | .ok f => Q f s' | .error e => cameBackBy (model prog w) A env E e s') W hLf hwr hnw hst F N J h0
    (fun i v m₁ news₁ h₁ tk₁ own a b c d e f g st F₁ N₁ => wpAny_mono (step i v m₁ news₁ h₁ tk₁ own a b c d e f g st F₁ N₁) (fun _ _ x => wpC_mono x (fun _ _ y => y) hE) hE) hQ
end
end Mine
end
section
open PySem PySem.W PyProof.Rows PySem.Spec PySem.Calls
set_option Elab.async false
set_option maxRecDepth 100000
set_option maxHeartbeats 4000000
set_option linter.all false
namespace Mine
section
variable {prog : Program} {w : World} {A₀ A : Around} {s : Shared} {base h₀ g₀ : Heap} {outer : List Env} {env : Env} {L : Addr} {m : Str → Option Value} {news : List (Addr × Obj)} {K : Frag} {p : Program} {loose : List Str} {mean : ExcName → Option Value} {mg mb : Str → Option Value}
    {R : Result → Shared → Prop} {name qual : Str} {params : Arguments} {body : List Stmt} {scope : Scope} {dV kV doc pm cdv ct oc : Value} {an od : Option Addr} {osl : Array (Option Value)} {f : Addr} {args : Args} {binds : List (Str × Value)}
theorem kts_enterX (B : Below A₀ base outer h₀) (F : Fr h₀ L s.heap m) (N : News h₀ L s.heap news) (hA : A.frames = some (env :: outer)) (hfr : env.frame = some L) (hke : env.scope.kind = .function) :
    ∃ oL es ep, (hideAll s.heap (news.map (·.1))).get? L = some oL ∧ oL.data = .dict es ep ∧ (∀ h', h'.get? L = some oL → Heap.Ns h' L m) ∧ (∀ (sl : Array (Option Value)) h', h'.get? L = some { oL with slots := sl } → Heap.Ns h' L m) ∧
      h₀.StaysIn (hideAll s.heap (news.map (·.1))) ∧ Below A base (env :: outer) (hideAll s.heap (news.map (·.1))) := by
  have nm : ∀ b o, h₀.get? b = some o → b ∉ news.map (·.1) := fun b o e q => by
    obtain ⟨p, hp, rfl⟩ := List.mem_map.mp q
    rw [(N p hp).2.2] at e; cases e
  have st : h₀.StaysIn (hideAll s.heap (news.map (·.1))) := fun b o e => hideAll_get _ (F.keep b o e) (nm b o e)
  obtain ⟨oL, es, ep, hL, hLd, hLk, hLf⟩ := F.ns
  have nL : L ∉ news.map (·.1) := fun q => by
    obtain ⟨p, hp, e⟩ := List.mem_map.mp q
    exact (N p hp).2.1 e
  have hLg := hideAll_get (news.map (·.1)) hL nL
  have B₁ := pushX B F hfr hke
  exact ⟨oL, es, ep, hLg, hLd, fun h' e => ⟨oL, es, ep, e, hLd, hLk, hLf⟩, fun sl h' e => ⟨_, es, ep, e, hLd, hLk, hLf⟩, st, ⟨hA, fun b o e => st b o (B.stays b o e), funFrames_hideAll B₁.frames fun env' he b hb hf => by
    cases he with
    | head => exact nL ((Option.some.inj (hfr.symm.trans hf) : L = b) ▸ hb)
    | tail _ he =>
      obtain ⟨L₁, o₁, hf₁, ho₁⟩ := funFrames_in B.frames env' he
      rw [hf₁] at hf
      exact nm L₁ o₁ ho₁ ((Option.some.inj hf : L₁ = b) ▸ hb)⟩⟩
theorem memX {b : Addr} (hfr : env.frame = some L) (hm : b ∈ ([env] : List Env).filterMap (·.frame)) : b = L := by
  rw [List.filterMap_cons, hfr] at hm
  simpa using hm
theorem leaveS0X (hfr : env.frame = some L) (B : Below A₀ base [] h₀) (F : Fr h₀ L s.heap m) (N : News h₀ L s.heap news) {oL : Obj} {es : Array DictEntry} {ep : Nat}
    (hLg : (hideAll s.heap (news.map (·.1))).get? L = some oL) (hNs : ∀ (sl : Array (Option Value)) h', h'.get? L = some { oL with slots := sl } → Heap.Ns h' L m) (st : h₀.StaysIn (hideAll s.heap (news.map (·.1))))
    {v : Value} {s' : Shared} (hl : LeaveS0 (([env] : List Env).filterMap (·.frame)) h₀ L m (hideAll s.heap (news.map (·.1))) R v s') : R (.ok (.ret v)) s' := by
  obtain ⟨g', L', m', news', T', F', N', k⟩ := hl
  have nL₀ : h₀.get? L = none := kts_self F
  obtain ⟨sl, hs⟩ := T'.up hLg
  refine k ⟨hNs sl _ (F'.keep _ _ hs), fun b o e => F'.keep b o (T'.other b o (st b o e) (fun q => by
    rw [memX hfr q, nL₀] at e
    cases e)), F.above⟩ fun p hp => ⟨(N' p hp).1, fun q => ?_, ?_⟩
  · have := (N' p hp).2.2; rw [q, hs] at this; cases this
  · cases q : h₀.get? p.1 with
    | none => rfl
    | some o =>
      obtain ⟨sl', hs'⟩ := T'.up (st _ _ q)
      have := (N' p hp).2.2
      rw [hs'] at this
      cases this
/-- a def that catches, called by a frame with cells, nothing below -/
theorem code_defS0X (B : Below A₀ base [] h₀) (F : Fr h₀ L s.heap m) (X₀ : K.In h₀) (N : News h₀ L s.heap news) (T : Top p loose mean mg mb h₀) (hA : A.frames = some [env]) (hfr : env.frame = some L) (hke : env.scope.kind = .function)
    (ho : K.lookup f = some ⟨oc, od, .func (fnOf name qual params body scope dV kV doc pm an cdv ct), osl⟩) (hcd : codeIn K cdv qual = true) (hroom : A.depth < recursionLimit)
    (hbind : BindsTo s (fnOf name qual params body scope dV kV doc pm an cdv ct) args binds) (hloc : ∀ y ∈ binds, scope.names.lookup y.1 = some .local)
    (h : ∀ g L' h₁, Fr h₀ L g m → Fr g L' h₁ (fun y => binds.reverse.lookup y) → News g L' h₁ news → Below A base [env] g → K.In g → Top p loose mean mg mb g → KtsDicts (([env] : List Env).filterMap (·.frame)) g →
      wpAny (model prog w) (A.deeper (envOf qual scope L' f cdv)) (execs body (envOf qual scope L' f cdv))
        (fun fl s' => LeaveS0 (([env] : List Env).filterMap (·.frame)) h₀ L m g R (match fl with | .ret v => v | _ => .none) s')
        (fun e s' => wpAny (model prog w) (A.deeper (envOf qual scope L' f cdv)) (leaving (envOf qual scope L' f cdv) e) (fun _ s'' => R (.error e) s'') (fun e' s'' => R (.error e') s'') s')
        { s with heap := h₁, toks := s.toks + binds.length })
    (hco : scope.isCoroutine = false) (hgen : scope.isGenerator = false) (hk : scope.kind = .function)
    (hcell : ∀ x ∈ scope.names, x.2 ≠ .cell) : codeAny (model prog w) A (.call (.ref f) args) R s := by
  have X := X₀.keeps F.keep
  refine codeAny_call_def (fd := fnOf name qual params body scope dV kV doc pm an cdv ct) (body := body) (binds := binds) hroom (X _ _ ho) rfl (T.nolimit.keeps F.keep) (codeRec_of X hcd) rfl hbind hcell hloc (fun h₁ hns hk₁ => ?_) hco hgen hk
  obtain ⟨oL, es, ep, hLg, hLd, hN, hNs, st, B₂⟩ := kts_enterX B F N hA hfr hke
  exact wpAny_mono (h _ s.heap.objs.size h₁ ⟨hN _ hLg, st, F.above⟩ ⟨hns, fun b o e => hk₁ b o (of_hideAll _ e), Nat.le_of_eq (hideAll_size _ _)⟩
    (fun p hp => ⟨hk₁ _ _ (N p hp).1, Nat.ne_of_lt (Heap.lt_size (N p hp).1), hideAll_none _ (List.mem_map_of_mem hp)⟩) B₂ (X₀.keeps st) (T.keeps st) (fun b hb => by
      rw [memX hfr hb]; exact ⟨oL, es, ep, hLg, hLd⟩)) (fun fl s' hl => leaveS0X (es := es) (ep := ep) hfr B F N hLg hNs st hl) fun _ _ y => y
theorem code_defS0_C (B : Below A₀ base [] h₀) (F : Fr h₀ L s.heap m) (X₀ : K.In h₀) (N : News h₀ L s.heap news) (T : Top p loose mean mg mb h₀) (hA : A.frames = some [env]) (hfr : env.frame = some L) (hke : env.scope.kind = .function)
    (ho : K.lookup f = some ⟨oc, od, .func (fnOf name qual params body scope dV kV doc pm an cdv ct), osl⟩) (hcd : codeIn K cdv qual = true) (hroom : A.depth < recursionLimit)
    (hbind : BindsTo s (fnOf name qual params body scope dV kV doc pm an cdv ct) args binds) (hloc : ∀ y ∈ binds, scope.names.lookup y.1 = some .local)
    (h : ∀ g L' h₁, Fr h₀ L g m → Fr g L' h₁ (fun y => binds.reverse.lookup y) → News g L' h₁ news → Below A base [env] g → K.In g → Top p loose mean mg mb g → KtsDicts (([env] : List Env).filterMap (·.frame)) g →
      wpC (model prog w) (A.deeper (envOf qual scope L' f cdv)) (execs body (envOf qual scope L' f cdv))
        (fun fl s' => LeaveS0 (([env] : List Env).filterMap (·.frame)) h₀ L m g R (match fl with | .ret v => v | _ => .none) s')
        (fun e s' => wpAny (model prog w) (A.deeper (envOf qual scope L' f cdv)) (leaving (envOf qual scope L' f cdv) e) (fun _ s'' => R (.error e) s'') (fun e' s'' => R (.error e') s'') s')
        { s with heap := h₁, toks := s.toks + binds.length })
    (hco : scope.isCoroutine = false) (hgen : scope.isGenerator = false) (hk : scope.kind = .function)
    (hcell : ∀ x ∈ scope.names, x.2 ≠ .cell) : codeC (model prog w) A (.call (.ref f) args) R s := by
  have X := X₀.keeps F.keep
  refine codeC_call_def (fd := fnOf name qual params body scope dV kV doc pm an cdv ct) (body := body) (binds := binds) hroom (X _ _ ho) rfl (T.nolimit.keeps F.keep) (codeRec_of X hcd) rfl hbind hcell hloc (fun h₁ hns hk₁ => ?_) hco hgen hk
  obtain ⟨oL, es, ep, hLg, hLd, hN, hNs, st, B₂⟩ := kts_enterX B F N hA hfr hke
  exact wpC_mono (h _ s.heap.objs.size h₁ ⟨hN _ hLg, st, F.above⟩ ⟨hns, fun b o e => hk₁ b o (of_hideAll _ e), Nat.le_of_eq (hideAll_size _ _)⟩
    (fun p hp => ⟨hk₁ _ _ (N p hp).1, Nat.ne_of_lt (Heap.lt_size (N p hp).1), hideAll_none _ (List.mem_map_of_mem hp)⟩) B₂ (X₀.keeps st) (T.keeps st) (fun b hb => by
      rw [memX hfr hb]; exact ⟨oL, es, ep, hLg, hLd⟩)) (fun fl s' hl => leaveS0X (es := es) (ep := ep) hfr B F N hLg hNs st hl) fun _ _ y => y
end
end Mine
end
section
open PySem PySem.W PyProof.Rows PySem.Spec PySem.Calls
open Builtin Builtin.Str Builtin.BaseException Builtin.Exceptions
set_option Elab.async false
set_option maxRecDepth 100000
set_option maxHeartbeats 4000000
set_option linter.all false
namespace Mine
theorem bs_kind : builtinKind "BaseException.__str__" = some .slot := by decide +kernel
theorem bs_split : splitId "BaseException.__str__" = some ("BaseException", "__str__") := by decide +kernel
theorem bs_plain : plainId "BaseException.__str__" = true := by decide +kernel
section
variable {prog : Program} {w : World} {A : Around} {E : Value → Shared → Prop} {s : Shared} {e t C L : Addr} {h₀ : Heap} {news : List (Addr × Obj)} {K : Frag} {m : PySem.Str} {u : Tok}
theorem bexcArgs_got {M : Model} {items : List Value} {Q : Value × List Value → Shared → Prop} (N : News h₀ L s.heap news) (G : Got news e t (.ref C) items) (hq : Q (.ref t, items) s) :
    wpAny M A (bexcArgs (.ref e)) Q E s := by
  obtain ⟨oe, ot, ws, nt, h1, h2, _, hd, h0, _, htd⟩ := G
  unfold bexcArgs
  refine wpAny_bind (wpAny_field (N _ h1).1 hd h0 (wpAny_bind (wpAny_seqItems (N _ h2).1 htd ?_)))
  have : items.toArray.toList = items := by simp
  show wpAny M A (pure (Value.ref t, items.toArray.toList)) Q E s
  rw [this]; exact wpAny_pure hq
theorem bexcStr_got {Q : Fin → Shared → Prop} (N : News h₀ L s.heap news) (G : Got news e t (.ref C) [.str m u]) (hq : Q (.done (.ret (.str m u))) s) :
    wpAny (model prog w) A (Builtin.«BaseException.__str__» ⟨[.ref e], []⟩) Q E s := by
  unfold Builtin.«BaseException.__str__»
  repeat (first | with_reducible refine bexcArgs_got N G ?_ | wp_step)
  exact hq
theorem own_strOf {Q : Value → Shared → Prop} (hu : A.units < cLine) (X : K.In s.heap) (N : News h₀ L s.heap news) (G : Got news e t (.ref C) [.str m u])
    (hs : findIn K (.ref C) "__str__" = some (some (.builtin "BaseException.__str__"))) (hm : mroIn K C (.type "BaseException") = some true) (hq : Q (.str m u) s) :
    wpAny (model prog w) A (PySem.Builtin.Str.strOf (.ref e)) Q E s := by
  have G' := G
  obtain ⟨oe, ot, ws, nt, h1, h2, hc, _⟩ := G'
  have t1 : Looks (model prog w) s.heap (typeOf (.ref e)) (.ref C) := by
    rw [← hc]; exact (Looks.ld (N _ h1).1).andThen .now
  have t2 : Looks (model prog w) s.heap (isInstance (.ref e) (.type "BaseException")) true := t1.andThen (looks_mroIn X hm)
  unfold PySem.Builtin.Str.strOf
  rw [show isExactStr (.ref e) = false from rfl]
  refine wpAny_bind (m := cRoomFor _ _) (wpAny_cRoomFor hu ?_)
  refine wpAny_bind (m := callSpecial? (.ref e) (Str.ofString "__str__")) ?_
  refine wpAny_bind (wpAny_bind (t1.here ((looks_findIn X hs).here (wpAny_holding (wpAny_bind ?_)))))
  rw [PySem.F.excStr_ValueError.str.bind]
  refine wpAny_pure (wpAny_bind ?_)
  refine wpAny_call (codeAny_call_builtin bs_plain F.entry_bexc_str (@check_slot (model prog w) _ _ _ "BaseException.__str__" "BaseException" "__str__" (.ref e) [] [] _ bs_kind bs_split t2 (F.args_bexc_str (.ref e)) ?_))
  refine bexcStr_got N G ?_
  exact wpAny_pure (wpAny_pure hq)
theorem str_own {Q : Value → Shared → Prop} (hu : A.in1.in1.units < cLine) (X : K.In s.heap) (N : News h₀ L s.heap news) (G : Got news e t (.ref C) [.str m u])
    (hs : findIn K (.ref C) "__str__" = some (some (.builtin "BaseException.__str__"))) (hm : mroIn K C (.type "BaseException") = some true) (hq : Q (.str m u) s) :
    wpAny (model prog w) A (call (.type "str") [.ref e]) Q E s := by
  refine callType_codes (T := "str") (Bi := Builtin.«object.__init__») (Q₁ := fun r s₁ => ∃ y u, r = .str y u ∧ Q r s₁) PySem.F.called_str (PySem.F.typeCall_str_1 _) PySem.F.entry_object_init ?_ ?_
  · refine codeAny_of_tree ?_
    show wpAny _ A.in1.in1 (do checkBuiltinCall "str.__new__" ⟨[.type "str", .ref e], []⟩; again (.builtin "str.__new__" ⟨[.type "str", .ref e], []⟩)) _ _ s
    refine wpAny_bind (wpAny_of_eq (PySem.F.newCall_str_1 _) (wpAny_pure ⟨plainId_quiet (by decide +kernel) _, codeAny_builtin PySem.F.entry_str_new ?_⟩))
    rw [Around.under_plainId (by decide +kernel) _]
    rw [str_new_tree]
    refine wpAny_bind (wpAny_pure ?_)
    refine wpAny_bind (wpAny_of_eq isSubtype_str_str ?_)
    exact wpAny_bind (own_strOf hu X N G hs hm (wpAny_pure ⟨_, _, rfl, hq⟩))
  · rintro obj s₁ ⟨y, u, rfl, hq⟩
    exact ⟨typeIs_str _ _ _, PySem.F.args_object_init_2 _ _, object_init_meets PySem.F.called_str.init.lookup PySem.F.called_str.made (by decide) prog w A.in1 _ s₁ ⟨typeIs_str _ _ _, rfl, hq⟩⟩
end
end Mine
end
section
open PySem PySem.W PyProof.Rows PySem.Spec PySem.Calls
set_option Elab.async false
set_option maxRecDepth 100000
set_option maxHeartbeats 4000000
set_option linter.unusedVariables false
namespace Mine
abbrev PStr := PySem.Str
abbrev Ldg := List (Addr × Obj)
abbrev tupOf (vs : List Value) : Obj := { cls := .type "tuple", data := .seq vs.toArray }
theorem mem_in {x : Addr × Obj} {l : Ldg} (h : x ∈ l) : List.Mem x l := h
inductive EK where
  | reply | proto | value
  deriving DecidableEq
/-- parse229: the port, or what it raises and its text -/
def p229 (r : PStr) : Except (EK × PStr) Int :=
  if (Txt.slice r none (some 3) != PySem.Str.ofString "229") = true then .error (.reply, r) else
  if Txt.find r (PySem.Str.ofString "(") < 0 then .error (.proto, r) else
  if Txt.find3 r (PySem.Str.ofString ")") (Txt.find r (PySem.Str.ofString "(") + 1) < 0 then .error (.proto, r) else
  if (Txt.item r (Txt.find r (PySem.Str.ofString "(") + 1) != Txt.item r (Txt.find3 r (PySem.Str.ofString ")") (Txt.find r (PySem.Str.ofString "(") + 1) - 1)) = true then .error (.proto, r) else
  let ps := Txt.split (Txt.slice r (some (Txt.find r (PySem.Str.ofString "(") + 1)) (some (Txt.find3 r (PySem.Str.ofString ")") (Txt.find r (PySem.Str.ofString "(") + 1)))) (Txt.item r (Txt.find r (PySem.Str.ofString "(") + 1))
  if ps.length ≠ 5 then .error (.proto, r) else
  match PySem.intText? (ps.getD 3 PySem.Str.empty) with
  | some n => .ok n
  | none => .error (.value, intRefusal (ps.getD 3 PySem.Str.empty))
section
variable {prog : Program} {w : World} {A : Around} {E : Value → Shared → Prop} {s : Shared} {x : PStr} {t : Tok} {Q : Value → Shared → Prop}
/-- int() of a text that reads -/
theorem call_int_reads (hl : x.length ≤ 640) (hn : PySem.intText? x ≠ none) (h : ∀ n, PySem.intText? x = some n → Q (.int n s.toks) { s with toks := s.toks + 1 }) : wpAny (model prog w) A (call (.type "int") [.str x t]) Q E s := by
  cases e : PySem.intText? x with
  | none => exact absurd e hn
  | some n => exact KIN.call_text e hl (h n e)
end
theorem p229_parts {r : PStr} (h1 : (Txt.slice r none (some 3) != PySem.Str.ofString "229") = false) (h2 : ¬ Txt.find r (PySem.Str.ofString "(") < 0)
    (h3 : ¬ Txt.find3 r (PySem.Str.ofString ")") (Txt.find r (PySem.Str.ofString "(") + 1) < 0)
    (h4 : (Txt.item r (Txt.find r (PySem.Str.ofString "(") + 1) != Txt.item r (Txt.find3 r (PySem.Str.ofString ")") (Txt.find r (PySem.Str.ofString "(") + 1) - 1)) = false) {ps : List PStr}
    (hp : ps = Txt.split (Txt.slice r (some (Txt.find r (PySem.Str.ofString "(") + 1)) (some (Txt.find3 r (PySem.Str.ofString ")") (Txt.find r (PySem.Str.ofString "(") + 1)))) (Txt.item r (Txt.find r (PySem.Str.ofString "(") + 1))) :
    p229 r = if ps.length ≠ 5 then .error (.proto, r) else match PySem.intText? (ps.getD 3 PySem.Str.empty) with
      | some n => .ok n
      | none => .error (.value, intRefusal (ps.getD 3 PySem.Str.empty)) := by
  subst hp
  unfold p229
  rw [if_neg (Bool.eq_false_iff.mp h1), if_neg h2, if_neg h3, if_neg (Bool.eq_false_iff.mp h4)]
theorem getD_len {ys : List PStr} {n k : Nat} (h : ∀ a ∈ ys, a.length ≤ n) : (ys.getD k PySem.Str.empty).length ≤ n := by
  rw [List.getD_eq_getElem?_getD]
  cases e : ys[k]? with
  | none => exact Nat.zero_le _
  | some y => exact h y (List.mem_of_getElem? e)
/-- what stands between the brackets -/
abbrev p229in (r : PStr) : PStr := Txt.slice r (some (Txt.find r (PySem.Str.ofString "(") + 1)) (some (Txt.find3 r (PySem.Str.ofString ")") (Txt.find r (PySem.Str.ofString "(") + 1)))
theorem p229_last {r : PStr} (h1 : (Txt.slice r none (some 3) != PySem.Str.ofString "229") = false) (h2 : ¬ Txt.find r (PySem.Str.ofString "(") < 0)
    (h3 : ¬ Txt.find3 r (PySem.Str.ofString ")") (Txt.find r (PySem.Str.ofString "(") + 1) < 0)
    (h4 : (Txt.item r (Txt.find r (PySem.Str.ofString "(") + 1) != Txt.item r (Txt.find3 r (PySem.Str.ofString ")") (Txt.find r (PySem.Str.ofString "(") + 1) - 1)) = false) {l : List (PStr × Tok)}
    (hp : l.map (·.1) = Txt.split (p229in r) (Txt.item r (Txt.find r (PySem.Str.ofString "(") + 1))) (h5 : (l.length : Int) = 5) :
    p229 r = match PySem.intText? ((l.map (·.1)).getD (Int.toNat 3) PySem.Str.empty) with
      | some n => .ok n
      | none => .error (.value, intRefusal ((l.map (·.1)).getD (Int.toNat 3) PySem.Str.empty)) := by
  rw [p229_parts h1 h2 h3 h4 hp, if_neg (by rw [List.length_map]; omega)]
  rfl
theorem p229_five {r : PStr} (h1 : (Txt.slice r none (some 3) != PySem.Str.ofString "229") = false) (h2 : ¬ Txt.find r (PySem.Str.ofString "(") < 0)
    (h3 : ¬ Txt.find3 r (PySem.Str.ofString ")") (Txt.find r (PySem.Str.ofString "(") + 1) < 0)
    (h4 : (Txt.item r (Txt.find r (PySem.Str.ofString "(") + 1) != Txt.item r (Txt.find3 r (PySem.Str.ofString ")") (Txt.find r (PySem.Str.ofString "(") + 1) - 1)) = false) {l : List (PStr × Tok)}
    (hp : l.map (·.1) = Txt.split (p229in r) (Txt.item r (Txt.find r (PySem.Str.ofString "(") + 1))) (h5 : ¬ (l.length : Int) = 5) : p229 r = .error (.proto, r) := by
  rw [p229_parts h1 h2 h3 h4 hp, if_pos (by rw [List.length_map]; omega)]
theorem p229_sep {r : PStr} (h1 : (Txt.slice r none (some 3) != PySem.Str.ofString "229") = false) (h2 : ¬ Txt.find r (PySem.Str.ofString "(") < 0)
    (h3 : ¬ Txt.find3 r (PySem.Str.ofString ")") (Txt.find r (PySem.Str.ofString "(") + 1) < 0)
    (h4 : (Txt.item r (Txt.find r (PySem.Str.ofString "(") + 1) != Txt.item r (Txt.find3 r (PySem.Str.ofString ")") (Txt.find r (PySem.Str.ofString "(") + 1) - 1)) = true) : p229 r = .error (.proto, r) := by
  unfold p229
  rw [if_neg (Bool.eq_false_iff.mp h1), if_neg h2, if_neg h3, if_pos h4]
theorem p229_close {r : PStr} (h1 : (Txt.slice r none (some 3) != PySem.Str.ofString "229") = false) (h2 : ¬ Txt.find r (PySem.Str.ofString "(") < 0)
    (h3 : Txt.find3 r (PySem.Str.ofString ")") (Txt.find r (PySem.Str.ofString "(") + 1) < 0) : p229 r = .error (.proto, r) := by
  unfold p229
  rw [if_neg (Bool.eq_false_iff.mp h1), if_neg h2, if_pos h3]
theorem p229_open {r : PStr} (h1 : (Txt.slice r none (some 3) != PySem.Str.ofString "229") = false) (h2 : Txt.find r (PySem.Str.ofString "(") < 0) : p229 r = .error (.proto, r) := by
  unfold p229
  rw [if_neg (Bool.eq_false_iff.mp h1), if_pos h2]
theorem p229_code {r : PStr} (h1 : (Txt.slice r none (some 3) != PySem.Str.ofString "229") = true) : p229 r = .error (.reply, r) := by
  unfold p229
  rw [if_pos h1]
theorem raisedS_sub {base G : Heap} {l : List Env} {e t : Addr} {cls : Value} {vs : List Value} {news news' : Ldg} {h : Heap} (R : RaisedS base G l e cls t vs news' h) (hs : ∀ p ∈ news, p ∈ news') : RaisedS base G l e cls t vs news h := by
  obtain ⟨⟨B, hB, hBG, hl, hfl, hnew⟩, htup⟩ := R
  exact ⟨⟨B, hB, hBG, fun q hq => hl q (hs q hq), hfl, hnew⟩, htup⟩
theorem raisedK_sub {base : Heap} {l : List Env} {e t : Addr} {cls : Value} {vs : List Value} {news news' : Ldg} {h : Heap} (R : RaisedK base l e cls t vs news' h) (hs : ∀ p ∈ news, p ∈ news') : RaisedK base l e cls t vs news h := by
  obtain ⟨⟨B, hB, hl, hfl, hnew⟩, htup⟩ := R
  exact ⟨⟨B, hB, fun q hq => hl q (hs q hq), hfl, hnew⟩, htup⟩
theorem news_d2 {h₀ h : Heap} {L : Addr} {x y : Addr × Obj} {news : Ldg} (N : News h₀ L h (x :: y :: news)) : News h₀ L h (x :: news) := fun p hp => N p ((List.mem_cons.mp hp).elim (fun e => e ▸ .head _) fun h => .tail _ (.tail _ h))
theorem sub_refl {news : Ldg} : ∀ p ∈ news, p ∈ news := fun _ h => h
theorem sub_tail {news : Ldg} {x : Addr × Obj} : ∀ p ∈ news, p ∈ x :: news := fun _ h => .tail _ h
theorem sub_tail2 {news : Ldg} {x y : Addr × Obj} : ∀ p ∈ news, p ∈ x :: y :: news := fun _ h => .tail _ (.tail _ h)
theorem fact_find1 (x : PStr) (c : Nat) : Txt.find x ⟨#[c]⟩ = -1 ∨ (0 ≤ Txt.find x ⟨#[c]⟩ ∧ Txt.find x ⟨#[c]⟩ < x.length) := by
  rw [PyProof.Rows.find_is_find3]
  rcases StrLaws.find3_spec x c 0 with ⟨h, _⟩ | ⟨k, h, _, h2, _⟩
  · exact .inl h
  · exact .inr (by rw [h]; omega)
theorem fact_find31 (x : PStr) (c : Nat) (i : Int) (hi : 0 ≤ i) : Txt.find3 x ⟨#[c]⟩ i = -1 ∨ (i ≤ Txt.find3 x ⟨#[c]⟩ i ∧ Txt.find3 x ⟨#[c]⟩ i < x.length) := by
  rcases StrLaws.find3_spec x c i with ⟨h, _⟩ | ⟨k, h, h1, h2, _⟩
  · exact .inl h
  · refine .inr ?_
    rw [h]
    unfold fromIndex at h1
    split at h1 <;> omega
theorem open_is : PySem.Str.ofString "(" = ⟨#[40]⟩ := by decide
theorem close_is : PySem.Str.ofString ")" = ⟨#[41]⟩ := by decide
theorem fact_open (r : PStr) : Txt.find r (PySem.Str.ofString "(") = -1 ∨ (0 ≤ Txt.find r (PySem.Str.ofString "(") ∧ Txt.find r (PySem.Str.ofString "(") < r.length) := by
  rw [open_is]; exact fact_find1 r 40
theorem fact_close (r : PStr) (i : Int) (hi : 0 ≤ i) : Txt.find3 r (PySem.Str.ofString ")") i = -1 ∨ (i ≤ Txt.find3 r (PySem.Str.ofString ")") i ∧ Txt.find3 r (PySem.Str.ofString ")") i < r.length) := by
  rw [close_is]; exact fact_find31 r 41 i hi
theorem kts_dict {A : Around} {base : Heap} {outer : List Env} {h₀ g : Heap} {L : Addr} {m : PStr → Option Value} {env : Env} (B : Below A base (env :: outer) g) (D : KtsDicts (outer.filterMap (·.frame)) h₀) (F : Fr h₀ L g m) (hf : env.frame = some L) : KtsDicts ((env :: outer).filterMap (·.frame)) g := by
  intro b hb
  rw [List.filterMap_cons, hf] at hb
  rcases List.mem_cons.mp hb with rfl | hb
  · obtain ⟨o, es, n, ho, hd, _⟩ := F.ns
    exact ⟨o, es, n, ho, hd⟩
  · obtain ⟨o, es, n, ho, hd⟩ := D b hb
    exact ⟨o, es, n, F.keep b o ho, hd⟩
end Mine
end
section
open PySem PySem.W PyProof.Rows PySem.Spec PySem.Calls
set_option Elab.async false
set_option maxRecDepth 100000
set_option maxHeartbeats 4000000
set_option linter.all false
namespace Mine
theorem news_drop1 {h₀ h : Heap} {L : Addr} {x : Addr × Obj} {news : Ldg} (N : News h₀ L h (x :: news)) : News h₀ L h news := fun p hp => N p (.tail _ hp)
theorem news_drop2 {h₀ h : Heap} {L : Addr} {x y : Addr × Obj} {news : Ldg} (N : News h₀ L h (x :: y :: news)) : News h₀ L h news := fun p hp => N p (.tail _ (.tail _ hp))
theorem news_drop3 {h₀ h : Heap} {L : Addr} {x y z : Addr × Obj} {news : Ldg} (N : News h₀ L h (x :: y :: z :: news)) : News h₀ L h news := fun p hp => N p (.tail _ (.tail _ (.tail _ hp)))
abbrev lstOf (vs : List Value) (n : Nat) : Obj := { cls := .type "list", data := .seq vs.toArray n }
theorem myIn {K : Frag} {h₀ h : Heap} {L : Addr} {m : Str → Option Value} (F : Fr h₀ L h m) (X : K.In h₀) : K.In h := X.keeps F.keep
theorem call_ValueError_made {prog : Program} {w : World} {A : Around} {E : Value → Shared → Prop} {s : Shared} {rest : List Value}
    (h : ∀ h' e, Heap.MadeExc s.heap h' e "ValueError" rest → E (.ref e) { s with heap := h' }) (hrest : rest.length ≤ sizeLine := by size_fits) :
    wpAny (model prog w) A (call (.type "ValueError") rest) (Raisable E) E s := by
  obtain ⟨hp, g, d, tk, os⟩ := s
  refine wpAny_call_exc PySem.F.excCall_ValueError (fun h' e hx => ?_) hrest
  obtain ⟨ob, t, he, hcls, hd⟩ := hx.newExc.there
  exact ⟨e, ob, _, "ValueError", _, _, excClass_ValueError, rfl, he, hcls, hd, rfl, h h' e hx⟩
theorem floordiv_pos {prog : Program} {w : World} {A : Around} {E : Value → Shared → Prop} {s : Shared} {a b : Int} {t u : Tok} {Q : Value → Shared → Prop} (hb : 0 < b) (hl : b.natAbs.log2 < 9000) (h : Q (.int (a / b) s.toks) { s with toks := s.toks + 1 }) :
    wpAny (model prog w) A (binaryOp .FloorDiv (.int a t) (.int b u)) Q E s := by
  rw [← fdiv_eq a hb] at h
  exact floordiv_int (by omega) h (Or.inl (PyProof.noPylong_of_log2 hl))
theorem whlIf_dec {p : Prop} [Decidable p] {T F : Prop} (t : p → T) (f : ¬ p → F) : WhlIf (decide p) T F := by
  by_cases h : p
  · exact WhlIf.yes (decide_eq_true h) (t h)
  · exact WhlIf.no (decide_eq_false h) (f h)
theorem lookup_if {y k : Str} {v : Value} {l : List (Str × Value)} : List.lookup y ((k, v) :: l) = if y = k then some v else List.lookup y l := by
  rw [List.lookup_cons]
  by_cases h : y = k
  · rw [if_pos h, h]; simp
  · have : (y == k) = false := by simpa using h
    rw [this, if_neg h]
theorem lookup_out {l : List (Str × Value)} {names : List Str} {y : Str} (ha : (l.map (·.1)).all (fun k => names.contains k) = true) (hy : y ∉ names) : List.lookup y l = none := by
  induction l with
  | nil => rfl
  | cons p l ih =>
    obtain ⟨k, v⟩ := p
    rw [List.map_cons, List.all_cons, Bool.and_eq_true] at ha
    rw [lookup_if, if_neg (fun e => hy (by rw [e]; exact List.contains_iff_mem.mp ha.1))]
    exact ih ha.2
theorem ne_of_out {y k : Str} {names : List Str} (hy : y ∉ names) (h : names.contains k = true) : ¬ y = k := fun e => hy (e ▸ by simpa using h)
theorem fr_map (names : List Str) {g h : Heap} {L : Addr} {M M' : Str → Option Value} (F : Fr g L h M) (h1 : ∀ n ∈ names, M n = M' n) (h2 : ∀ y, y ∉ names → M y = M' y) : Fr g L h M' :=
  fr_to F fun y => if hy : y ∈ names then h1 y hy else h2 y hy
/-- the walker stops here -/
def Hold (P : Prop) : Prop := P
theorem Hold.mk {P : Prop} (h : Hold P) : P := h
theorem Hold.out {P : Prop} (h : P) : Hold P := h
abbrev KRes := Except (EK × PStr) Int
/-- the bisection's turns: right or left, the keys, what is sought, the fuel, the bounds -/
def bis (right : Bool) (k : Nat → KRes) (x : Int) : Nat → Nat → Nat → Except (EK × PStr) Nat
  | 0, lo, _ => .ok lo
  | f + 1, lo, hi => if lo < hi then
      match k ((lo + hi) / 2) with
      | .error e => .error e
      | .ok y => if (if right then x < y else ¬ y < x) then bis right k x f lo ((lo + hi) / 2) else bis right k x f ((lo + hi) / 2 + 1) hi
    else .ok lo
/-- a while under a measure, the frame and the ledger of a turn given by its state -/
def WhlFr {ι : Type} (μ : ι → Nat) (C : ι → Prop) (M : ι → Str → Option Value) (Nw : ι → Ldg) (g : Heap) (L : Addr) (i : ι) (s : Shared) (Q : Flow → Shared → Prop) (f : Flow) (s' : Shared) : Prop :=
  match f with
  | .next | .cont => ∃ i' h' tk', s' = { s with heap := h', toks := tk' } ∧ μ i' < μ i ∧ C i' ∧ Fr g L h' (M i') ∧ News g L h' (Nw i')
  | .brk => Q .next s'
  | .ret v => Q (.ret v) s'
section
variable {prog : Program} {w : World} {A : Around} {E : Value → Shared → Prop} {s : Shared} {env : Env} {test : PySem.Expr} {body orelse : List Stmt} {Q : Flow → Shared → Prop} {g : Heap} {L : Addr} {M0 : Str → Option Value} {news0 : Ldg}
theorem while_fr {ι : Type} (μ : ι → Nat) (C : ι → Prop) (M : ι → Str → Option Value) (Nw : ι → Ldg) (i₀ : ι) (names : List Str) {pos : Pos} (F : Fr g L s.heap M0) (N : News g L s.heap news0)
    (c0 : C i₀) (m1 : ∀ n ∈ names, M0 n = M i₀ n) (m2 : ∀ y, y ∉ names → M0 y = M i₀ y) (n0 : ∀ q ∈ Nw i₀, q ∈ news0)
    (step : ∀ i h tk, C i → Fr g L h (M i) → News g L h (Nw i) → wpAny (model prog w) A (isTrue test env (eval test env)) (fun b s₂ => WhlIf b (wpAny (model prog w) A (execs body env) (WhlFr μ C M Nw g L i s Q) E s₂) (wpAny (model prog w) A (execs orelse env) Q E s₂)) E { s with heap := h, toks := tk })
    (hE : PassesOwn (model prog w) A env E) : wpAny (model prog w) A (exec (.While test body orelse pos) env) Q E s :=
  while_my μ (fun i h _ => C i ∧ Fr g L h (M i) ∧ News g L h (Nw i)) i₀ ⟨c0, fr_map names F m1 m2, fun q hq => N q (n0 q hq)⟩
    (fun i h tk hP => wpAny_mono (step i h tk hP.1 hP.2.1 hP.2.2) (fun b s₂ hb => by
      cases b with
      | false => exact WhlIf.no rfl hb
      | true => exact WhlIf.yes rfl (wpAny_mono (show wpAny _ _ _ (WhlFr μ C M Nw g L i s Q) E s₂ from hb) (fun f s₃ h₃ => by cases f <;> exact h₃) fun _ _ x => x)) fun _ _ x => x) hE
theorem while_frC {ι : Type} (μ : ι → Nat) (C : ι → Prop) (M : ι → Str → Option Value) (Nw : ι → Ldg) (i₀ : ι) (names : List Str) {pos : Pos} (F : Fr g L s.heap M0) (N : News g L s.heap news0)
    (c0 : C i₀) (m1 : ∀ n ∈ names, M0 n = M i₀ n) (m2 : ∀ y, y ∉ names → M0 y = M i₀ y) (n0 : ∀ q ∈ Nw i₀, q ∈ news0)
    (step : ∀ i h tk, C i → Fr g L h (M i) → News g L h (Nw i) → wpAny (model prog w) A (isTrue test env (eval test env)) (fun b s₂ => WhlIf b (wpC (model prog w) A (execs body env) (WhlFr μ C M Nw g L i s Q) E s₂) (wpAny (model prog w) A (execs orelse env) Q E s₂)) E { s with heap := h, toks := tk })
    (hE : PassesOwn (model prog w) A env E) : wpC (model prog w) A (exec (.While test body orelse pos) env) Q E s :=
  while_C μ (fun i h _ => C i ∧ Fr g L h (M i) ∧ News g L h (Nw i)) i₀ ⟨c0, fr_map names F m1 m2, fun q hq => N q (n0 q hq)⟩
    (fun i h tk hP => wpAny_mono (step i h tk hP.1 hP.2.1 hP.2.2) (fun b s₂ hb => by
      cases b with
      | false => exact WhlIf.no rfl hb
      | true => exact WhlIf.yes rfl (wpC_mono (show wpC _ _ _ (WhlFr μ C M Nw g L i s Q) E s₂ from hb) (fun f s₃ h₃ => by cases f <;> exact h₃) fun _ _ x => x)) fun _ _ x => x) hE
theorem whlFr_next {ι : Type} {μ : ι → Nat} {C : ι → Prop} {M : ι → Str → Option Value} {Nw : ι → Ldg} {i : ι} {h' : Heap} {tk : Nat} (i' : ι) (names : List Str) (F : Fr g L h' M0) (N : News g L h' news0) (hμ : μ i' < μ i) (hc : C i')
    (m1 : ∀ n ∈ names, M0 n = M i' n) (m2 : ∀ y, y ∉ names → M0 y = M i' y) (n0 : ∀ q ∈ Nw i', q ∈ news0) : WhlFr μ C M Nw g L i s Q .next { s with heap := h', toks := tk } :=
  ⟨i', h', tk, rfl, hμ, hc, fr_map names F m1 m2, fun q hq => N q (n0 q hq)⟩
end
theorem bis_fuel {r : Bool} {k : Nat → KRes} {x : Int} : ∀ (f f' lo hi : Nat), hi - lo ≤ f → hi - lo ≤ f' → bis r k x f lo hi = bis r k x f' lo hi
  | 0, 0, _, _, _, _ => rfl
  | 0, f' + 1, lo, hi, h, _ => by simp only [bis]; rw [if_neg (by omega)]
  | f + 1, 0, lo, hi, _, h => by simp only [bis]; rw [if_neg (by omega)]
  | f + 1, f' + 1, lo, hi, h, h' => by
    simp only [bis]
    by_cases hlt : lo < hi
    · rw [if_pos hlt, if_pos hlt]
      cases k ((lo + hi) / 2) with
      | error e => rfl
      | ok y =>
        dsimp only
        rw [bis_fuel f f' lo ((lo + hi) / 2) (by omega) (by omega), bis_fuel f f' ((lo + hi) / 2 + 1) hi (by omega) (by omega)]
    · rw [if_neg hlt, if_neg hlt]
theorem bis_at {r : Bool} {k : Nat → KRes} {x : Int} {l h : Nat} (hl : l < h) : bis r k x (h - l) l h = match k ((l + h) / 2) with
      | .error e => .error e
      | .ok y => if (if r then x < y else ¬ y < x) then bis r k x ((l + h) / 2 - l) l ((l + h) / 2) else bis r k x (h - ((l + h) / 2 + 1)) ((l + h) / 2 + 1) h := by
  obtain ⟨f, hf⟩ : ∃ f, h - l = f + 1 := ⟨h - l - 1, by omega⟩
  rw [hf]
  simp only [bis]
  rw [if_pos hl]
  cases k ((l + h) / 2) with
  | error e => rfl
  | ok y =>
    dsimp only
    rw [bis_fuel f ((l + h) / 2 - l) l ((l + h) / 2) (by omega) (by omega), bis_fuel f (h - ((l + h) / 2 + 1)) ((l + h) / 2 + 1) h (by omega) (by omega)]
theorem half_toNat (l h : Nat) : (((l : Int) + (h : Int)) / 2).toNat = (l + h) / 2 := by omega
section
variable {ys : List PStr} {x n : Int} {l h : Nat} {k : Nat → KRes}
theorem bisR_hi (hl : (l : Int) < h) (hk : k ((((l : Int) + (h : Int)) / 2).toNat) = .ok n) (hx : x < n) : bis true k x (h - l) l h = bis true k x ((l + h) / 2 - l) l ((l + h) / 2) := by
  rw [half_toNat] at hk
  rw [bis_at (by omega), hk]; dsimp only; rw [if_pos (by simpa using hx)]
theorem bisR_lo (hl : (l : Int) < h) (hk : k ((((l : Int) + (h : Int)) / 2).toNat) = .ok n) (hx : ¬ x < n) : bis true k x (h - l) l h = bis true k x (h - ((l + h) / 2 + 1)) ((l + h) / 2 + 1) h := by
  rw [half_toNat] at hk
  rw [bis_at (by omega), hk]; dsimp only; rw [if_neg (by simpa using hx)]
theorem bisL_lo (hl : (l : Int) < h) (hk : k ((((l : Int) + (h : Int)) / 2).toNat) = .ok n) (hx : n < x) : bis false k x (h - l) l h = bis false k x (h - ((l + h) / 2 + 1)) ((l + h) / 2 + 1) h := by
  rw [half_toNat] at hk
  rw [bis_at (by omega), hk]; dsimp only; rw [if_neg (by simpa using hx)]
theorem bisL_hi (hl : (l : Int) < h) (hk : k ((((l : Int) + (h : Int)) / 2).toNat) = .ok n) (hx : ¬ n < x) : bis false k x (h - l) l h = bis false k x ((l + h) / 2 - l) l ((l + h) / 2) := by
  rw [half_toNat] at hk
  rw [bis_at (by omega), hk]; dsimp only; rw [if_pos (by simpa using hx)]
theorem bis_err {r : Bool} {e : EK × PStr} (hl : (l : Int) < h) (hk : k ((((l : Int) + (h : Int)) / 2).toNat) = .error e) : bis r k x (h - l) l h = .error e := by
  rw [half_toNat] at hk
  rw [bis_at (by omega), hk]
theorem bis_end {r : Bool} (hl : ¬ (l : Int) < h) : bis r k x (h - l) l h = .ok l := by
  rw [show h - l = 0 by omega]; rfl
end
/-- a row and its key: texts under the law's key, or ints under none -/
def RowIs (P : Addr) (kv : Value) (vs : List Value) (k : Nat → KRes) (n : Nat) : Prop :=
  (∃ ys, StrsAre vs ys ∧ kv = .ref P ∧ k = (fun i => p229 (ys.getD i PySem.Str.empty)) ∧ n = ys.length ∧ (∀ y ∈ ys, y.length ≤ 640)) ∨
  (∃ ns, IntsAre vs ns ∧ kv = .none ∧ k = (fun i => .ok (ns.getD i 0)) ∧ n = ns.length)
def HiIs (hv : Value) (hi n : Nat) : Prop := (hv = .none ∧ hi = n) ∨ (∃ t, hv = .int hi t ∧ hi ≤ n)
theorem ints_length : ∀ {vs : List Value} {ns : List Int}, IntsAre vs ns → vs.length = ns.length
  | _, _, .nil => rfl
  | _, _, .cons _ _ h => congrArg (· + 1) (ints_length h)
theorem RowIs.length {P : Addr} {kv : Value} {vs : List Value} {k : Nat → KRes} {n : Nat} (h : RowIs P kv vs k n) : vs.length = n := by
  rcases h with ⟨ys, h, _, _, e, _⟩ | ⟨ns, h, _, _, e⟩
  · rw [h.len_eq, e]
  · rw [ints_length h, e]
section
variable {prog : Program} {w : World} {A : Around} {E : Value → Shared → Prop} {s : Shared}
theorem len_intsA {a : Addr} {l : List Value} {ns : List Int} {Q : Value → Shared → Prop} (hl : s.heap.IsList a l.toArray) (hi : IntsAre l ns) (hfit : (ns.length : Int) < 9223372036854775808)
    (h : Q (.int ns.length (s.toks + 1)) { s with toks := s.toks + 1 + 1 }) : wpAny (model prog w) A (call (.builtin "len") [.ref a]) Q E s := by
  have e : l.toArray.size = ns.length := by rw [List.size_toArray]; exact ints_length hi
  refine len_list hl (by rw [e]; omega) ?_
  rw [e]
  exact h
theorem item_intsA {value slice : PySem.Expr} {a : Addr} {l : List Value} {ns : List Int} {k : Int} {u : Tok} {Q : Value → Shared → Prop} (hl : s.heap.IsList a l.toArray) (hi : IntsAre l ns)
    (h0 : 0 ≤ k) (hk : k < ns.length) (hfit : k < 2 ^ 63) (h : ∀ t', Q (.int (ns.getD k.toNat 0) t') s)
    (hs : subscripted slice false (.ref a) (.int k u) = operate [.ref a, .int k u] (getItem (.ref a) (.int k u)) := by with_unfolding_all rfl) (hg : ∀ r, letTemporaryGo value (.ref a) r = pure () := by intro _; with_unfolding_all rfl) :
    wpAny (model prog w) A (subscriptTail value slice (.ref a) (.int k u)) Q E s := by
  have hlt : k.toNat < l.length := by rw [ints_length hi]; omega
  have e : l[k.toNat]? = some l[k.toNat] := List.getElem?_eq_getElem hlt
  obtain ⟨t, ht⟩ := hi.int_at _ _ e
  exact item_listL hl h0 hfit (e.trans (congrArg some ht)) (h t) hs hg
end
theorem bis_nv {r : Bool} {k : Nat → KRes} {x : Int} {l h : Nat} {R : Except (EK × PStr) Nat} (hv : ∀ msg, R ≠ .error (.value, msg)) (e : R = bis r k x (h - l) l h) (hl : (l : Int) < h) : ∀ msg, k ((((l : Int) + (h : Int)) / 2).toNat) ≠ .error (.value, msg) :=
  fun msg q => hv msg (e.trans (bis_err hl q))
def negMsg : PStr := PySem.Str.ofString "lo must be non-negative"
def bisZ (r : Bool) (k : Nat → KRes) (x lo : Int) (hi : Nat) : Except (EK × PStr) Nat := if lo < 0 then .error (.value, negMsg) else bis r k x (hi - lo.toNat) lo.toNat hi
theorem bisZ_neg {r : Bool} {k : Nat → KRes} {x lo : Int} {hi : Nat} (h : lo < 0) : bisZ r k x lo hi = .error (.value, negMsg) := if_pos h
theorem bisZ_nat {r : Bool} {k : Nat → KRes} {x : Int} {lo hi : Nat} : bisZ r k x (lo : Int) hi = bis r k x (hi - lo) lo hi := if_neg (by omega)
theorem nat_of {z : Int} (h : ¬ z < 0) : ∃ l : Nat, z = (l : Int) := ⟨z.toNat, by omega⟩
/-- what the thing's key answers -/
def ThingIs (P : Addr) (kv xv : Value) (kx : KRes) : Prop := (∃ r t, xv = .str r t ∧ kv = .ref P ∧ kx = p229 r ∧ r.length ≤ 640) ∨ (∃ n t, xv = .int n t ∧ kv = .none ∧ kx = .ok n)
def insZ (r : Bool) (k : Nat → KRes) (kx : KRes) (lo : Int) (hi : Nat) : Except (EK × PStr) Nat := match kx with
  | .error e => .error e
  | .ok x => bisZ r k x lo hi
theorem upd_of {d : Addr} {o o' : Obj} : ∀ {l : Ldg} {g : Obj → Ldg}, UpdF d o l g → Upd d o o' l (g o')
  | _, _, .head h => .head h
  | _, _, .tail h r => .tail h (upd_of r)
theorem updF_mem {d : Addr} {o : Obj} : ∀ {l : Ldg} {g : Obj → Ldg}, UpdF d o l g → (d, o) ∈ l
  | _, _, .head _ => .head _
  | _, _, .tail _ r => .tail _ (updF_mem r)
theorem hv_app {kx : KRes} {P : Int → Prop} (h : ∀ x, kx = .ok x → P x) {n : Int} (e : kx = .ok n) : P n := h n e
theorem insZ_ok {r : Bool} {k : Nat → KRes} {kx : KRes} {x lo : Int} {hi : Nat} (h : kx = .ok x) : insZ r k kx lo hi = bisZ r k x lo hi := by rw [h]; rfl
theorem insZ_err {r : Bool} {k : Nat → KRes} {kx : KRes} {e : EK × PStr} {lo : Int} {hi : Nat} (h : kx = .error e) : insZ r k kx lo hi = .error e := by rw [h]; rfl
theorem bis_le {r : Bool} {k : Nat → KRes} {x : Int} : ∀ (f lo hi n : Nat), bis r k x f lo hi = .ok n → lo ≤ n ∧ (n ≤ hi ∨ n = lo)
  | 0, lo, hi, n, h => by simp only [bis] at h; cases h; exact ⟨Nat.le_refl _, .inr rfl⟩
  | f + 1, lo, hi, n, h => by
    simp only [bis] at h
    by_cases hl : lo < hi
    · rw [if_pos hl] at h
      cases hk : k ((lo + hi) / 2) with
      | error e => rw [hk] at h; cases h
      | ok y =>
        rw [hk] at h
        dsimp only at h
        by_cases hc : (if r = true then x < y else ¬ y < x)
        · rw [if_pos hc] at h
          have := bis_le f _ _ n h
          omega
        · rw [if_neg hc] at h
          have := bis_le f _ _ n h
          omega
    · rw [if_neg hl] at h; cases h; exact ⟨Nat.le_refl _, .inr rfl⟩
theorem bisZ_le {r : Bool} {k : Nat → KRes} {x lo : Int} {hi n : Nat} (h : bisZ r k x lo hi = .ok n) (hh : hi ≤ 1000) (hl : lo ≤ 1000) : n ≤ 1000 := by
  unfold bisZ at h
  split at h
  · cases h
  · have := bis_le _ _ _ n h
    omega
theorem HiIs.le {hv : Value} {hi n : Nat} (h : HiIs hv hi n) : hi ≤ n := by
  rcases h with ⟨_, rfl⟩ | ⟨_, _, h⟩
  · exact Nat.le_refl _
  · exact h
theorem fits_bis {r : Bool} {k : Nat → KRes} {x lo : Int} {hi n nn : Nat} {hv : Value} (h : bisZ r k x lo hi = .ok n) (hh : HiIs hv hi nn) (hn : nn ≤ 1000) (hl : lo ≤ 1000) : Builtin.List.listFitsIndex (n : Int) = true := by
  have h1 := bisZ_le h (Nat.le_trans hh.le hn) hl
  unfold Builtin.List.listFitsIndex
  simp only [Bool.and_eq_true, decide_eq_true_eq]
  omega
theorem room_vs {vs : List Value} {n : Nat} (h : vs.length = n) (hn : n ≤ 1000) : vs.toArray.toList.length ≤ sizeLine := by
  have e : (1000 : Nat) ≤ sizeLine := by decide
  show vs.length ≤ sizeLine
  omega
def toldTxt : EK → PStr → PStr
  | .reply, r => PySem.Str.append (PySem.Str.ofString "reply ") r
  | .proto, r => PySem.Str.append (PySem.Str.ofString "proto ") r
  | .value, r => PySem.Str.append (PySem.Str.ofString "value ") r
theorem intRefusal_len (x : PStr) : (intRefusal x).length ≤ 240 := by
  have e1 : (PySem.Str.ofString "invalid literal for int() with base 10: ").length = 40 := by decide +kernel
  have e2 : (⟨(PySem.reprText x).cps.extract 0 200⟩ : PySem.Str).length ≤ 200 := by
    show ((PySem.reprText x).cps.extract 0 200).size ≤ 200
    rw [Array.size_extract]; omega
  unfold intRefusal
  have e3 := PySem.Str.length_append (PySem.Str.ofString "invalid literal for int() with base 10: ") (⟨(PySem.reprText x).cps.extract 0 200⟩ : PySem.Str)
  exact Nat.le_trans (Nat.le_of_eq e3) (by omega)
theorem p229_err_len {r t : PStr} {k : EK} (h : p229 r = .error (k, t)) (hr : r.length ≤ 640) : t.length ≤ 700 := by
  unfold p229 at h
  repeat' split at h
  all_goals first | (cases h; omega) | skip
  dsimp only at h
  repeat' split at h
  all_goals first | (cases h; omega) | (cases h; exact Nat.le_trans (intRefusal_len _) (by decide)) | cases h
theorem bis_err_at {r : Bool} {k : Nat → KRes} {x : Int} {e : EK × PStr} : ∀ (f lo hi : Nat), bis r k x f lo hi = .error e → ∃ i, lo ≤ i ∧ i < hi ∧ k i = .error e
  | 0, lo, hi, h => by simp only [bis] at h; cases h
  | f + 1, lo, hi, h => by
    simp only [bis] at h
    by_cases hl : lo < hi
    · rw [if_pos hl] at h
      cases hk : k ((lo + hi) / 2) with
      | error e' => rw [hk] at h; cases h; exact ⟨_, by omega, by omega, hk⟩
      | ok y =>
        rw [hk] at h
        dsimp only at h
        by_cases hc : (if r = true then x < y else ¬ y < x)
        · rw [if_pos hc] at h
          obtain ⟨i, h1, h2, h3⟩ := bis_err_at f _ _ h
          exact ⟨i, h1, by omega, h3⟩
        · rw [if_neg hc] at h
          obtain ⟨i, h1, h2, h3⟩ := bis_err_at f _ _ h
          exact ⟨i, by omega, h2, h3⟩
    · rw [if_neg hl] at h; cases h
theorem negMsg_len : negMsg.length = 23 := by decide +kernel
theorem row_err_len {P : Addr} {kv : Value} {vs : List Value} {k : Nat → KRes} {n i : Nat} {ek : EK} {t : PStr} (hrow : RowIs P kv vs k n) (h : k i = .error (ek, t)) : t.length ≤ 700 := by
  rcases hrow with ⟨ys, _, _, rfl, _, h640⟩ | ⟨ns, _, _, rfl, _⟩
  · exact p229_err_len h (getD_len h640)
  · cases h
theorem bisZ_err_len {r : Bool} {P : Addr} {kv : Value} {vs : List Value} {k : Nat → KRes} {n hi : Nat} {x lo : Int} {ek : EK} {t : PStr} (hrow : RowIs P kv vs k n) (h : bisZ r k x lo hi = .error (ek, t)) : t.length ≤ 700 := by
  unfold bisZ at h
  split at h
  · cases h; rw [negMsg_len]; decide
  · obtain ⟨i, _, _, h3⟩ := bis_err_at _ _ _ h
    exact row_err_len hrow h3
theorem insZ_err_len {r : Bool} {P : Addr} {kv xv : Value} {vs : List Value} {k : Nat → KRes} {kx : KRes} {n hi : Nat} {lo : Int} {ek : EK} {t : PStr} (hrow : RowIs P kv vs k n) (hx : ThingIs P kv xv kx) (h : insZ r k kx lo hi = .error (ek, t)) : t.length ≤ 700 := by
  unfold insZ at h
  split at h
  · rename_i e
    cases h
    rcases hx with ⟨r', t', _, _, e', h640⟩ | ⟨n', t', _, _, e'⟩
    · exact p229_err_len e'.symm h640
    · cases e'
  · exact bisZ_err_len hrow h
theorem p229in_len (r : PStr) : (p229in r).length ≤ r.length := Txt.slice_le ..
theorem getD_640 {ys : List PStr} (h : ∀ y ∈ ys, y.length ≤ 640) (k : Nat) : (ys.getD k PySem.Str.empty).length ≤ 640 := getD_len h
theorem p229_empty : p229 PySem.Str.empty = .error (.reply, PySem.Str.empty) := p229_code (by decide +kernel)
theorem getD_hv {ys : List PStr} (h : ∀ y ∈ ys, ∀ msg, p229 y ≠ .error (.value, msg)) (k : Nat) : ∀ msg, p229 (ys.getD k PySem.Str.empty) ≠ .error (.value, msg) := by
  rw [List.getD_eq_getElem?_getD]
  cases e : ys[k]? with
  | none => intro msg; show p229 PySem.Str.empty ≠ _; rw [p229_empty]; intro c; cases c
  | some y => exact h y (List.mem_of_getElem? e)
end Mine
end
section
open PySem PySem.W PyProof.Rows PySem.Spec PySem.Calls
set_option Elab.async false
set_option maxRecDepth 100000
set_option maxHeartbeats 4000000
set_option linter.all false
namespace Mine
section
variable {prog : Program} {w : World} {A : Around} {E : Value → Shared → Prop} {s : Shared}
/-- what is known of the tokens when a value comes back -/
def TokGe {α : Type} (n : Nat) (Q : α → Shared → Prop) (a : α) (s' : Shared) : Prop := n ≤ s'.toks → Q a s'
theorem tok_wrap {α : Type} {t : Sem α} {Q : α → Shared → Prop} {n : Nat} (hn : n ≤ s.toks) (h : wpAny (model prog w) A t (TokGe n Q) E s) : wpAny (model prog w) A t Q E s :=
  wpAny_with_toks hn (wpAny_mono h (fun _ _ x => x) fun _ _ x _ => x)
/-- a sum of two texts that are not empty: a fresh token -/
theorem add_fresh {x y : PStr} {t u : Tok} {Q : Value → Shared → Prop} {K L : Nat} (hx : 1 ≤ x.length ∧ x.length ≤ K) (hy : 1 ≤ y.length ∧ y.length ≤ L) (hs : K + L ≤ 16777216)
    (h : x.length + y.length ≤ (x ++ y).length ∧ (x ++ y).length ≤ x.length + y.length → Q (.str (x ++ y) s.toks) { s with toks := s.toks + 1 }) : wpAny (model prog w) A (binaryOp .Add (.str x t) (.str y u)) Q E s := by
  have hl : x.length + y.length ≤ (x ++ y).length ∧ (x ++ y).length ≤ x.length + y.length := by
    rw [PySem.Str.length_append]
    omega
  refine PySem.P.add_str ?_
  rw [if_neg (by simp only [beq_iff_eq]; omega), if_neg (by simp only [beq_iff_eq]; omega)]
  exact ⟨by rw [PySem.Str.length_append, sizeLine_eq]; omega, h hl⟩
end
theorem add_lb {prog : Program} {w : World} {A : Around} {E : Value → Shared → Prop} {s : Shared} {x y : PStr} {t u : Tok} {Q : Value → Shared → Prop} {K L : Nat} (hx : x.length ≤ K) (hy : y.length ≤ L) (hs : K + L ≤ 16777216)
    (h : ∀ t' k, s.toks ≤ k → x.length + y.length ≤ (x ++ y).length ∧ (x ++ y).length ≤ x.length + y.length → Q (.str (x ++ y) t') { s with toks := k }) : wpAny (model prog w) A (binaryOp .Add (.str x t) (.str y u)) Q E s :=
  wpAny_with_toks (Nat.le_refl _) (wpAny_mono (KXadd.add (t := t) (u := u) (Q := fun v s' => s.toks ≤ s'.toks → Q v s') (E := E) hx hy hs fun t' k hl hk => h t' k hk hl) (fun _ _ x => x) fun _ _ x _ => x)
theorem replace_len (x y z : PStr) : (Txt.replace x y z).length ≤ x.length + (x.length + 1) * z.length := by
  have h1 := StrLaws.occ_length_le x y 0 x.length (x.length + 1)
  have hy : (Builtin.Str.glued y (Builtin.Str.partsBetween x (Builtin.Str.occurrences x y 0 x.length (x.length + 1)) y.length)).length = x.length := by rw [StrLaws.glued_between_self]
  rw [size_glued, length_partsBetween, Nat.add_sub_cancel] at hy
  have h2 : (Builtin.Str.occurrences x y 0 x.length (x.length + 1)).length * z.length ≤ (x.length + 1) * z.length := Nat.mul_le_mul_right _ h1
  unfold Txt.replace
  split
  · omega
  · rw [size_glued, length_partsBetween, Nat.add_sub_cancel]
    omega
theorem replace_small {prog : Program} {w : World} {A : Around} {E : Value → Shared → Prop} {s : Shared} {x y z : PStr} {t u v : Tok} {Q : Value → Shared → Prop} (hu : u ≠ 0) (hv : v ≠ 0) (huv : u ≠ v) (hyz : (y == z) = false) (hx : x.length ≤ 40) (hz : z.length ≤ 10)
    (hq : ∀ t' k, (Txt.replace x y z).length ≤ 450 → Q (.str (Txt.replace x y z) t') { s with toks := k }) : wpAny (model prog w) A (call (.builtin "str.replace") [.str x t, .str y u, .str z v]) Q E s :=
  SC.replaceW hu hv huv hyz (by omega) (by omega) fun t' k => hq t' k (by
    have h1 := replace_len x y z
    have h2 : (x.length + 1) * z.length ≤ 41 * 10 := Nat.mul_le_mul (by omega) hz
    omega)
theorem news_d3 {h₀ h : Heap} {L : Addr} {x y z : Addr × Obj} {news : Ldg} (N : News h₀ L h (x :: y :: z :: news)) : News h₀ L h (x :: news) := fun p hp => N p ((List.mem_cons.mp hp).elim (fun e => e ▸ .head _) fun h => .tail _ (.tail _ (.tail _ h)))
theorem ne_by_len {x y : PStr} (h : x.length ≠ y.length) : (x == y) = false := by
  rw [beq_eq_false_iff_ne]
  exact fun e => h (by rw [e])
/-- a text with a name -/
def IsTxt (g e : PStr) : Prop := g = e
theorem IsTxt.eq {g e : PStr} (h : IsTxt g e) : g = e := h
section
variable {prog : Program} {w : World} {A : Around} {E : Value → Shared → Prop} {s : Shared} {x y z : PStr} {t u v : Tok}
theorem add_named {Q : Value → Shared → Prop} {K L : Nat} (hx : x.length ≤ K) (hy : y.length ≤ L) (hs : K + L ≤ 16777216)
    (h : ∀ g t' k, IsTxt g (x ++ y) → s.toks ≤ k → g.length = x.length + y.length → Q (.str g t') { s with toks := k }) : wpAny (model prog w) A (binaryOp .Add (.str x t) (.str y u)) Q E s :=
  add_lb hx hy hs fun t' k hk hl => h _ t' k rfl hk (by omega)
theorem add_named_fresh {Q : Value → Shared → Prop} {K L : Nat} (hx : 1 ≤ x.length ∧ x.length ≤ K) (hy : 1 ≤ y.length ∧ y.length ≤ L) (hs : K + L ≤ 16777216)
    (h : ∀ g, IsTxt g (x ++ y) → g.length = x.length + y.length → Q (.str g s.toks) { s with toks := s.toks + 1 }) : wpAny (model prog w) A (binaryOp .Add (.str x t) (.str y u)) Q E s :=
  add_fresh hx hy hs fun hl => h _ rfl (by omega)
theorem rep_named {Q : Value → Shared → Prop} (hu : u ≠ 0) (hv : v ≠ 0) (huv : u ≠ v) (hyz : (y == z) = false) (hx : x.length ≤ 40) (hz : z.length ≤ 10)
    (h : ∀ g t' k, IsTxt g (Txt.replace x y z) → s.toks ≤ k → g.length ≤ 450 → Q (.str g t') { s with toks := k }) : wpAny (model prog w) A (call (.builtin "str.replace") [.str x t, .str y u, .str z v]) Q E s :=
  wpAny_with_toks (Nat.le_refl _) (wpAny_mono (replace_small (t := t) (Q := fun v s' => s.toks ≤ s'.toks → Q v s') (E := E) hu hv huv hyz hx hz fun t' k hl hk => h _ t' k rfl hk hl) (fun _ _ x => x) fun _ _ x _ => x)
end
section
variable {prog : Program} {w : World} {A : Around} {E : Value → Shared → Prop} {s : Shared} {x : PStr} {t : Tok} {Q : Value → Shared → Prop} {value slice : PySem.Expr} {h₀ : Heap} {L : Addr} {m : Str → Option Value} {news : Ldg}
theorem slice_named_ns {j : Int} {uj : Tok} (hF : Fr h₀ L s.heap m) (hN : News h₀ L s.heap news) (hsz : x.length ≤ 1000000) (h : ∀ g h' t' k, IsTxt g (Txt.slice x none (some j)) → g.length ≤ x.length → Fr h₀ L h' m → News h₀ L h' news → Q (.str g t') { s with heap := h', toks := k })
    (hs : subscripted slice false (.str x t) (.ref s.heap.objs.size) = operate [.ref s.heap.objs.size, .str x t] (getItem (.str x t) (.ref s.heap.objs.size)) := by with_unfolding_all rfl)
    (ht : ∀ r, letTemporaryGo value (.str x t) r = pure () := by intro _; with_unfolding_all rfl) :
    wpAny (model prog w) A (subscriptTail value slice (.str x t) (.ref s.heap.objs.size)) Q E { s with heap := s.heap.push { cls := .type "slice", data := .fields #[.none, .int j uj, .none] } } :=
  slice_strN_ns hF hN (fun h' t' k a b => h _ h' t' k rfl (Txt.slice_le ..) a b) hs ht (Nat.le_trans hsz (by decide))
theorem slice_named_sn {i : Int} {ui : Tok} (hF : Fr h₀ L s.heap m) (hN : News h₀ L s.heap news) (hsz : x.length ≤ 1000000) (h : ∀ g h' t' k, IsTxt g (Txt.slice x (some i) none) → g.length ≤ x.length → Fr h₀ L h' m → News h₀ L h' news → Q (.str g t') { s with heap := h', toks := k })
    (hs : subscripted slice false (.str x t) (.ref s.heap.objs.size) = operate [.ref s.heap.objs.size, .str x t] (getItem (.str x t) (.ref s.heap.objs.size)) := by with_unfolding_all rfl)
    (ht : ∀ r, letTemporaryGo value (.str x t) r = pure () := by intro _; with_unfolding_all rfl) :
    wpAny (model prog w) A (subscriptTail value slice (.str x t) (.ref s.heap.objs.size)) Q E { s with heap := s.heap.push { cls := .type "slice", data := .fields #[.int i ui, .none, .none] } } :=
  slice_strN_sn hF hN (fun h' t' k a b => h _ h' t' k rfl (Txt.slice_le ..) a b) hs ht (Nat.le_trans hsz (by decide))
theorem slice_named_ss {i j : Int} {ui uj : Tok} (hF : Fr h₀ L s.heap m) (hN : News h₀ L s.heap news) (hsz : x.length ≤ 1000000) (h : ∀ g h' t' k, IsTxt g (Txt.slice x (some i) (some j)) → g.length ≤ x.length → Fr h₀ L h' m → News h₀ L h' news → Q (.str g t') { s with heap := h', toks := k })
    (hs : subscripted slice false (.str x t) (.ref s.heap.objs.size) = operate [.ref s.heap.objs.size, .str x t] (getItem (.str x t) (.ref s.heap.objs.size)) := by with_unfolding_all rfl)
    (ht : ∀ r, letTemporaryGo value (.str x t) r = pure () := by intro _; with_unfolding_all rfl) :
    wpAny (model prog w) A (subscriptTail value slice (.str x t) (.ref s.heap.objs.size)) Q E { s with heap := s.heap.push { cls := .type "slice", data := .fields #[.int i ui, .int j uj, .none] } } :=
  slice_strN_ss hF hN (fun h' t' k a b => h _ h' t' k rfl (Txt.slice_le ..) a b) hs ht (Nat.le_trans hsz (by decide))
end
/-- parse257's loop: fuel, place, what was read -/
def go257 (r : PStr) : Nat → Nat → PStr → PStr
  | 0, _, d => d
  | f + 1, i, d => if i < r.length then
      if (Txt.item r i == PySem.Str.ofString "\"") = true then
        if i + 1 < r.length then
          if (Txt.item r ((i : Int) + 1) != PySem.Str.ofString "\"") = true then d else go257 r f (i + 2) (d ++ Txt.item r i)
        else d
      else go257 r f (i + 1) (d ++ Txt.item r i)
    else d
theorem go_fuel {r : PStr} : ∀ (f f' i : Nat) (d : PStr), r.length - i ≤ f → r.length - i ≤ f' → go257 r f i d = go257 r f' i d
  | 0, 0, _, _, _, _ => rfl
  | 0, f' + 1, i, d, h, _ => by simp only [go257]; rw [if_neg (by omega)]
  | f + 1, 0, i, d, _, h => by simp only [go257]; rw [if_neg (by omega)]
  | f + 1, f' + 1, i, d, h, h' => by
    simp only [go257]
    rw [go_fuel f f' (i + 2) _ (by omega) (by omega), go_fuel f f' (i + 1) _ (by omega) (by omega)]
section
variable {r d : PStr} {i : Nat}
theorem go_at (h : i < r.length) : go257 r (r.length - i) i d = if (Txt.item r i == PySem.Str.ofString "\"") = true then
        if i + 1 < r.length then
          if (Txt.item r ((i : Int) + 1) != PySem.Str.ofString "\"") = true then d else go257 r (r.length - (i + 2)) (i + 2) (d ++ Txt.item r i)
        else d
      else go257 r (r.length - (i + 1)) (i + 1) (d ++ Txt.item r i) := by
  obtain ⟨f, hf⟩ : ∃ f, r.length - i = f + 1 := ⟨r.length - i - 1, by omega⟩
  rw [hf]
  simp only [go257]
  rw [if_pos h, go_fuel f (r.length - (i + 2)) (i + 2) _ (by omega) (by omega), go_fuel f (r.length - (i + 1)) (i + 1) _ (by omega) (by omega)]
theorem go_stop1 (h : (i : Int) < r.length) (q : (Txt.item r i == PySem.Str.ofString "\"") = true) (h2 : (r.length : Int) ≤ (i : Int) + 1) : go257 r (r.length - i) i d = d := by
  rw [go_at (by omega), if_pos q, if_neg (by omega)]
theorem go_stop2 (h : (i : Int) < r.length) (q : (Txt.item r i == PySem.Str.ofString "\"") = true) (h2 : ¬ (r.length : Int) ≤ (i : Int) + 1) (q2 : (Txt.item r ((i : Int) + 1) != PySem.Str.ofString "\"") = true) : go257 r (r.length - i) i d = d := by
  rw [go_at (by omega), if_pos q, if_pos (by omega), if_pos q2]
theorem go_pair (h : (i : Int) < r.length) (q : (Txt.item r i == PySem.Str.ofString "\"") = true) (h2 : ¬ (r.length : Int) ≤ (i : Int) + 1) (q2 : (Txt.item r ((i : Int) + 1) != PySem.Str.ofString "\"") = false) :
    go257 r (r.length - i) i d = go257 r (r.length - (i + 2)) (i + 2) (d ++ Txt.item r i) := by
  rw [go_at (by omega), if_pos q, if_pos (by omega), if_neg (Bool.eq_false_iff.mp q2)]
theorem go_plain (h : (i : Int) < r.length) (q : (Txt.item r i == PySem.Str.ofString "\"") = false) : go257 r (r.length - i) i d = go257 r (r.length - (i + 1)) (i + 1) (d ++ Txt.item r i) := by
  rw [go_at (by omega), if_neg (Bool.eq_false_iff.mp q)]
theorem go_end (h : ¬ (i : Int) < r.length) : go257 r (r.length - i) i d = d := by rw [show r.length - i = 0 by omega]; rfl
end
theorem whlFr_brk {ι : Type} {μ : ι → Nat} {C : ι → Prop} {M : ι → Str → Option Value} {Nw : ι → Ldg} {g : Heap} {L : Addr} {i : ι} {s s' : Shared} {Q : Flow → Shared → Prop} (h : Q .next s') : WhlFr μ C M Nw g L i s Q .brk s' := h
def p257 (r : PStr) : Except (EK × PStr) PStr :=
  if (Txt.slice r none (some 3) != PySem.Str.ofString "257") = true then .error (.reply, r) else
  if (Txt.slice r (some 3) (some 5) != PySem.Str.ofString " \"") = true then .ok PySem.Str.empty else
  .ok (go257 r (r.length - 5) 5 PySem.Str.empty)
end Mine
end
section
open PySem PySem.W PyProof.Rows PySem.Spec PySem.Calls
set_option Elab.async false
set_option maxRecDepth 100000
set_option linter.all false
namespace Mine
/-! the walk's rules with what is wanted behind them named: a name costs one node where it is met again -/
section
variable {M : Model} {A : Around} {E : Value → Shared → Prop} {s : Shared} {env : Env}
theorem let_AE {α : Type} {f : Env → Sem α} {Q : α → Shared → Prop} (h : let vk := env; let ak := A; wpAny M ak (f vk) Q E s) : wpAny M A (f env) Q E s := h
theorem f_QE {α : Type} {t : Sem α} {Q : α → Shared → Prop} (h : let q := Q; let e := E; wpAny M A t q e s) : wpAny M A t Q E s := h
theorem f_execs {st : Stmt} {rest : List Stmt} {Q : Flow → Shared → Prop}
    (h : let q := Q; wpAny M A (exec st env) (fun f s' => match f with | .next => wpAny M A (execs rest env) q E s' | f => q f s') E s) : wpAny M A (execs (st :: rest) env) Q E s := wpAny_execs_cons h
theorem f_BinOp {l r : PySem.Expr} {op : Operator} {pos : Pos} {Q : Value → Shared → Prop}
    (h : let q := Q; wpAny M A (eval l env) (fun a s₁ => wpAny M A (eval r env) (fun b s₂ => wpAny M A (binaryOp op a b) q E s₂) E s₁) E s) : wpAny M A (eval (.BinOp l op r pos) env) Q E s := wpAny_BinOp h
theorem f_Assign {x : Str} {pos' pos : Pos} {value : PySem.Expr} {Q : Flow → Shared → Prop}
    (h : let q := Q; wpAny M A (eval value env) (fun v s₁ => wpAny M A (storeName env x v) (fun _ => q .next) E s₁) E s)
    (hs : swapsWith value (some (.Name x pos')) pos.line env = pure false := by rfl) : wpAny M A (exec (.Assign [.Name x pos'] value pos) env) Q E s := wpAny_Assign_Name h hs
theorem f_Subscript {value slice : PySem.Expr} {pos : Pos} {Q : Value → Shared → Prop}
    (h : let q := Q; wpAny M A (eval value env) (fun o s₁ => wpAny M A (eval slice env) (fun i s₂ => wpAny M A (subscriptTail value slice o i) q E s₂) E s₁) E s) : wpAny M A (eval (.Subscript value slice pos) env) Q E s := Subscript_ h
theorem f_Compare {l r : PySem.Expr} {op : CmpOp} {pos : Pos} {whole : Sem Value} {Q : Bool → Shared → Prop}
    (h : let q := Q; wpAny M A (eval l env) (fun a s₁ => wpAny M A (eval r env) (fun b s₂ => wpAny M A (compareOp op a b) (fun c s₃ => wpAny M A (truthy c) q E s₃) E s₂) E s₁) E s)
    (hm : behindInMarks op r = false := by with_unfolding_all rfl) : wpAny M A (isTrue (.Compare l [op] [r] pos) env whole) Q E s := wpAny_isTrue_Compare1 h hm
theorem f_If {test : PySem.Expr} {body orelse : List Stmt} {pos : Pos} {Q : Flow → Shared → Prop}
    (h : let q := Q; wpAny M A (isTrue test env (eval test env)) (fun b s₂ => if b then wpAny M A (execs body env) q E s₂ else wpAny M A (execs orelse env) q E s₂) E s) : wpAny M A (exec (.If test body orelse pos) env) Q E s := wpAny_If h
theorem f_Call {func : PySem.Expr} {args : List PySem.Expr} {pos : Pos} {Q : Value → Shared → Prop}
    (h : let q := Q; wpAny M A (eval func env) (fun f s₁ => wpAny M A (callWith pos f [] (backTo pos (starEach args env)) []) q E s₁) E s)
    (he : eval (.Call func args [] pos) env = (do callWith pos (← eval func env) [] (backTo pos (starEach args env)) (backToKw pos (keywordEach [] env))) := by rfl) : wpAny M A (eval (.Call func args [] pos) env) Q E s := Call_ h he
theorem f_args {e : PySem.Expr} {rest : List PySem.Expr} {pos : Pos} {Q : List Value → Shared → Prop}
    (h : let q := Q; wpAny M A (eval e env) (fun v s₁ => wpAny M A (spliced (backTo pos (starEach rest env))) (fun vs s₂ => q (v :: vs) s₂) E s₁) E s)
    (he : starEach (e :: rest) env = (false, eval e env) :: starEach rest env := by rfl) : wpAny M A (spliced (backTo pos (starEach (e :: rest) env))) Q E s := args_cons h he
theorem f_method1 {pos : Pos} {id : String} {o : Value} {e : PySem.Expr} {rest : List PySem.Expr} {Q : Value → Shared → Prop}
    (h : let q := Q; wpAny M A (spliced (backTo pos (starEach (e :: rest) env))) (fun vs s₁ => wpAny M A (call (.builtin id) (o :: vs)) q E s₁) E s)
    (he : starEach (e :: rest) env = (false, eval e env) :: starEach rest env := by rfl) (hplain : (backTo pos (starEach rest env)).any (·.1) = false := by rfl) :
    wpAny M A (callWith pos (.builtin id) [o] (backTo pos (starEach (e :: rest) env)) []) Q E s := callWith_method1 (first := [o]) h he hplain
theorem f_Return {e : PySem.Expr} {pos : Pos} {Q : Flow → Shared → Prop} (h : let q := Q; wpAny M A (eval e env) (fun v => q (.ret v)) E s) : wpAny M A (exec (.Return (some e) pos) env) Q E s := wpAny_Return_some h
theorem f_Slice {lower upper step : Option PySem.Expr} {p : Pos} {Q : Value → Shared → Prop}
    (h : let q := Q; wpAny M A (evalPart lower env) (fun l s₁ => wpAny M A (evalPart upper env) (fun u s₂ => wpAny M A (evalPart step env) (fun st s₃ =>
      q (.ref s₃.heap.objs.size) { s₃ with heap := s₃.heap.push { cls := .type "slice", data := .fields #[l, u, st] } }) E s₂) E s₁) E s) : wpAny M A (eval (.Slice lower upper step p) env) Q E s := wpAny_Slice h
theorem f_Tuple {elts : List PySem.Expr} {k : Nat} {pos : Pos} {Q : Value → Shared → Prop}
    (h : let q := Q; wpAny M A (spliced (backTo pos (starEach elts env))) (fun vs s₁ => wpAny M A (newTuple vs) q E s₁) E s) : wpAny M A (eval (.Tuple elts k pos) env) Q E s := Tuple_ h
theorem f_List {elts : List PySem.Expr} {pos : Pos} {Q : Value → Shared → Prop}
    (h : let q := Q; wpAny M A (spliced (backTo pos (starEach elts env))) (fun vs s₁ => wpAny M A (newList vs) q E s₁) E s) : wpAny M A (eval (.List elts pos) env) Q E s := List_ h
theorem f_IfExp {test body orelse : PySem.Expr} {pos : Pos} {Q : Value → Shared → Prop}
    (h : let q := Q; wpAny M A (isTrue test env (eval test env)) (fun c s₂ => if c then wpAny M A (eval body env) q E s₂ else wpAny M A (eval orelse env) q E s₂) E s) : wpAny M A (eval (.IfExp test body orelse pos) env) Q E s := IfExp_ h
theorem f_UnaryOp {op : UnaryOp} {x : PySem.Expr} {pos : Pos} {Q : Value → Shared → Prop} (h : let q := Q; wpAny M A (eval x env) (fun v s₁ => wpAny M A (unaryOp op v) q E s₁) E s) : wpAny M A (eval (.UnaryOp op x pos) env) Q E s := UnaryOp_ h
end
section
variable {M : Model} {A : Around} {E : Value → Shared → Prop} {s : Shared} {h₀ : Heap} {L a : Addr} {m : Str → Option Value} {cn : Str} {cs : Scope} {ccd : Value} {cl : List (Str × Addr)} {x : Str} {v : Value} {news : Ldg} {Q : Unit → Shared → Prop}
theorem f_store (F : Fr h₀ L s.heap m) (N : News h₀ L s.heap news)
    (h : let m' := fun y => if y = x then some v else m y; ∀ h', Fr h₀ L h' m' → News h₀ L h' news → Q () { s with heap := h', toks := s.toks + 1 })
    (hk : cs.kind = .function := by rfl) (hx : (envX cn cs L a ccd cl).kindOf x = some .local := by rfl) : wpAny M A (storeName (envX cn cs L a ccd cl) x v) Q E s :=
  storeX_L F N h hk hx
end
/-! room and bounds by short proofs: an omega costs some thousand nodes -/
theorem room00 {a c l : Nat} (h : a + c < l) : a < l := Nat.lt_of_le_of_lt (Nat.le_add_right a c) h
theorem room0 {a b c l : Nat} (h : a + c < l) (hb : Nat.ble b c = true) : a + b < l := Nat.lt_of_le_of_lt (Nat.add_le_add_left (Nat.le_of_ble_eq_true hb) a) h
theorem room1 {a b c k l : Nat} (h : a + c < l) (hb : Nat.ble (k + b) c = true) : a + k + b < l := Nat.add_assoc a k b ▸ room0 h hb
theorem room2 {a b c k e l : Nat} (h : a + c < l) (hb : Nat.ble (k + b + e) c = true) : a + k + b + e < l := by
  have := room1 (k := k + b) (b := e) h hb
  rwa [← Nat.add_assoc] at this
theorem le_num {x c k : Nat} (h : x ≤ c) (hb : Nat.ble c k = true) : x ≤ k := Nat.le_trans h (Nat.le_of_ble_eq_true hb)
theorem eq_num {x c k : Nat} (h : x = c) (hb : Nat.ble c k = true) : x ≤ k := h ▸ Nat.le_of_ble_eq_true hb
theorem ge_num {x c k : Nat} (h : x = c) (hb : Nat.ble k c = true) : k ≤ x := h ▸ Nat.le_of_ble_eq_true hb
theorem num_le {c k : Nat} (hb : Nat.ble c k = true) : c ≤ k := Nat.le_of_ble_eq_true hb
theorem num_lt {c k : Nat} (hb : Nat.ble (c + 1) k = true) : c < k := Nat.le_of_ble_eq_true hb
/-! two maps of a frame, name by name -/
theorem map_same {m m' : Str → Option Value} : ∀ {names : List Str}, names.map m = names.map m' → ∀ n ∈ names, m n = m' n
  | [], _, _, h => nomatch h
  | n :: names, e, k, h => by
    simp only [List.map_cons, List.cons.injEq] at e
    rcases List.mem_cons.mp h with rfl | h
    · exact e.1
    · exact map_same e.2 k h
def SameOut (names : List Str) (m b : Str → Option Value) : Prop := ∀ y, y ∉ names → m y = b y
theorem SameOut.both {names : List Str} {m m' b : Str → Option Value} (h : SameOut names m b) (h' : SameOut names m' b) : ∀ y, y ∉ names → m y = m' y := fun y hy => (h y hy).trans (h' y hy).symm
theorem SameOut.upd {names : List Str} {m b : Str → Option Value} {k : Str} {v : Option Value} (h : SameOut names m b) (hk : names.contains k = true) : SameOut names (fun y => if y = k then v else m y) b :=
  fun y hy => (if_neg (ne_of_out hy hk)).trans (h y hy)
theorem SameOut.lookup {names : List Str} {l : List (Str × Value)} (ha : (l.map (·.1)).all (fun k => names.contains k) = true) : SameOut names (fun y => List.lookup y l) (fun _ => none) :=
  fun _ hy => lookup_out ha hy
theorem SameOut.skip {names : List Str} {m b : Str → Option Value} {k : Str} {v : Option Value} (h : SameOut names m b) : SameOut names (fun y => if y = k then v else m y) (fun y => if y = k then v else b y) :=
  fun y hy => by by_cases e : y = k <;> simp [e] <;> first | exact h y hy | skip
theorem SameOut.refl {names : List Str} {m : Str → Option Value} : SameOut names m m := fun _ _ => rfl
end Mine
end
section
open PySem PySem.W PyProof.Rows PySem.Spec PySem.Calls
set_option Elab.async false
set_option maxRecDepth 100000
set_option maxHeartbeats 4000000
set_option linter.all false
namespace Mine
section
variable {M : Model} {prog : Program} {w : World} {A : Around} {E : Value → Shared → Prop} {s : Shared} {K : Frag} {env : Env} {pos p : Pos} {f : Value} {first : List Value} {Q : Value → Shared → Prop} {h₀ : Heap} {e : PySem.Expr} {rest : List PySem.Expr}
theorem callWith_K_C (_X : K.In h₀) (hk : keepIn K f = true) (h : wpAny M A (spliced (backTo pos (starEach (e :: rest) env))) (fun vs s₁ => K.In s₁.heap ∧ wpC M A (call f (first ++ vs)) Q E s₁) E s)
    (he : starEach (e :: rest) env = (false, eval e env) :: starEach rest env := by rfl) (hplain : (backTo pos (starEach rest env)).any (·.1) = false := by rfl) :
    wpC M A (callWith pos f first (backTo pos (starEach (e :: rest) env)) []) Q E s := by
  rw [he] at h ⊢
  exact callWith_C (by show ((false || (backTo pos (starEach rest env)).any (·.1)) || false) = false; rw [hplain]; rfl) (keeps_K hk) (wpC_any (evalArgs_plain h))
theorem callWith_KW_C {kws : List Keyword} (_X : K.In h₀) (hk : keepIn K f = true) (hall : (backToKw pos (keywordEach kws env)).all (·.1.isSome) = true)
    (h : wpAny M A (spliced (backTo pos (starEach (e :: rest) env))) (fun vs s₁ => wpAny M A (evalAll ((backToKw pos (keywordEach kws env)).map (·.2)))
      (fun ks s₂ => K.In s₂.heap ∧ wpC M A (call f (first ++ vs) (((backToKw pos (keywordEach kws env)).filterMap (·.1)).zip ks)) Q E s₂) E s₁) E s)
    (hplain : ((backTo pos (starEach (e :: rest) env)).any (·.1) || (backToKw pos (keywordEach kws env)).any (·.1.isNone)) = false := by rfl) (he : starEach (e :: rest) env = (false, eval e env) :: starEach rest env := by rfl) :
    wpC M A (callWith pos f first (backTo pos (starEach (e :: rest) env)) (backToKw pos (keywordEach kws env))) Q E s :=
  callWith_C hplain (keeps_K hk) (wpC_any (evalArgs_kw2 hall h he))
theorem looks_type {h : Heap} {T : String} : ∃ k, (k = Keeper.frame ∨ k = Keeper.machine ∨ k = Keeper.boundFrame) ∧ Looks M h (keeperOf (.type T)) k := ⟨.machine, .inr (.inl rfl), .now⟩
theorem callWith_type1_C {T : String}
    (h : wpAny M A (spliced (backTo pos (starEach (e :: rest) env))) (fun vs s₁ => wpC M A (call (.type T) (first ++ vs)) Q E s₁) E s)
    (he : starEach (e :: rest) env = (false, eval e env) :: starEach rest env := by rfl) (hplain : (backTo pos (starEach rest env)).any (·.1) = false := by rfl) :
    wpC M A (callWith pos (.type T) first (backTo pos (starEach (e :: rest) env)) []) Q E s := by
  rw [he] at h ⊢
  exact callWith_C (P := fun _ => True) (by show ((false || (backTo pos (starEach rest env)).any (·.1)) || false) = false; rw [hplain]; rfl) (fun _ _ => looks_type)
    (wpC_any (evalArgs_plain (wpAny_mono h (fun vs s₁ h₁ => ⟨True.intro, h₁⟩) fun _ _ x => x)))
/-- a call of a name -/
theorem call_name_C {x : PStr} {args : List PySem.Expr} (h : wpAny M A (eval (.Name x p) env) (fun f s₁ => wpC M A (callWith pos f [] (backTo pos (starEach args env)) []) Q E s₁) E s) :
    wpC M A (eval (.Call (.Name x p) args [] pos) env) Q E s := evalCall_C h
theorem call_name_KW_C {x : PStr} {args : List PySem.Expr} {kws : List Keyword} (h : wpAny M A (eval (.Name x p) env) (fun f s₁ => wpC M A (callWith pos f [] (backTo pos (starEach args env)) (backToKw pos (keywordEach kws env))) Q E s₁) E s) :
    wpC M A (eval (.Call (.Name x p) args kws pos) env) Q E s := evalCall_C h
end
theorem p229_val {r msg x : PStr} (hval : p229 r = .error (.value, msg)) (e : p229 r = match PySem.intText? x with | some n => .ok n | none => .error (.value, intRefusal x)) : PySem.intText? x = none ∧ msg = intRefusal x := by
  rw [e] at hval
  cases q : PySem.intText? x with
  | some n => rw [q] at hval; cases hval
  | none => rw [q] at hval; cases hval; exact ⟨rfl, rfl⟩
theorem val_not {r msg : PStr} {k : EK} {t : PStr} (hval : p229 r = .error (.value, msg)) (e : p229 r = .error (k, t)) (hk : k ≠ .value) : False := by
  rw [e] at hval; cases hval; exact hk rfl
/-- the part that parse229 reads -/
def p229part (r : PStr) : PStr := (Txt.split (p229in r) (Txt.item r (Txt.find r (PySem.Str.ofString "(") + 1))).getD 3 PySem.Str.empty
structure RepOk (r : PStr) : Prop where
  len : (PySem.reprText (p229part r)).length ≤ 10000
theorem RepOk.part {r : PStr} (h : RepOk r) {l : List (PStr × Tok)} (hp : l.map (·.1) = Txt.split (p229in r) (Txt.item r (Txt.find r (PySem.Str.ofString "(") + 1))) : (PySem.reprText ((l.map (·.1)).getD (Int.toNat 3) PySem.Str.empty)).length ≤ 10000 := by
  rw [hp]; exact h.len
theorem kres_cases (R : KRes) : (∃ n, R = .ok n) ∨ ∃ e, R = .error e := by cases R with | ok n => exact .inl ⟨n, rfl⟩ | error e => exact .inr ⟨e, rfl⟩
theorem err_inj {α : Type} {a b : EK × PStr} (h : (Except.error a : Except (EK × PStr) α) = .error b) : a = b := by cases h; rfl
theorem ok_err {R : KRes} {n : Int} {e : EK × PStr} {P : Prop} (h1 : R = .ok n) (h2 : R = .error e) : P := by rw [h1] at h2; cases h2
theorem txt_add {g a b a' b' : PStr} (h : IsTxt g (a ++ b)) (ha : a = a') (hb : b = b') : g = a' ++ b' := by rw [h.eq, ha, hb]
theorem txt_slice {g a a' : PStr} {i j : Option Int} (h : IsTxt g (Txt.slice a i j)) (ha : a = a') : g = Txt.slice a' i j := by rw [h.eq, ha]
theorem txt_rep {g a b c a' b' c' : PStr} (h : IsTxt g (Txt.replace a b c)) (ha : a = a') (hb : b = b') (hc : c = c') : g = Txt.replace a' b' c' := by rw [h.eq, ha, hb, hc]
theorem bis_val_at {r : Bool} {k : Nat → KRes} {x : Int} {l h : Nat} {e e' : EK × PStr} (hb : bis r k x (h - l) l h = .error e') (hl : (l : Int) < h) (hk : k ((((l : Int) + (h : Int)) / 2).toNat) = .error e) : k ((((l : Int) + (h : Int)) / 2).toNat) = .error e' := by
  rw [hk, err_inj ((bis_err hl hk).symm.trans hb)]
theorem txt_sl {a a' : PStr} {i j : Option Int} (ha : a = a') : Txt.slice a i j = Txt.slice a' i j := by rw [ha]
theorem repOk_empty : RepOk PySem.Str.empty := ⟨by decide +kernel⟩
theorem getD_rep {ys : List PStr} (h : ∀ y ∈ ys, RepOk y) (k : Nat) : RepOk (ys.getD k PySem.Str.empty) := by
  rw [List.getD_eq_getElem?_getD]
  cases e : ys[k]? with
  | none => exact repOk_empty
  | some y => exact h y (List.mem_of_getElem? e)
end Mine
end
section
open PySem PySem.W PyProof.Rows PySem.Spec PySem.Calls
set_option Elab.async false
set_option maxRecDepth 100000
set_option maxHeartbeats 4000000
set_option linter.all false
namespace Mine
theorem ok_inj {α : Type} {a b : α} (h : (Except.ok a : Except (EK × PStr) α) = .ok b) : a = b := by cases h; rfl
section
variable {M : Model} {A : Around} {E : Value → Shared → Prop} {s : Shared} {env : Env} {pos p : Pos} {f : Value} {first : List Value} {Q : Value → Shared → Prop} {e e2 : PySem.Expr} {rest : List PySem.Expr}
/-- the first argument stands, the second one raises -/
theorem callWith_args_C {kws : List (Option Str × Sem Value)} (h : wpAny M A (eval e env) (fun _ s₁ => wpC M A (eval e2 env) (fun _ _ => False) E s₁) E s)
    (he : starEach (e :: e2 :: rest) env = (false, eval e env) :: (false, eval e2 env) :: starEach rest env := by rfl) :
    wpC M A (callWith pos f first (backTo pos (starEach (e :: e2 :: rest) env)) kws) Q E s := by
  rw [he]
  show wpC M A (callWith pos f first ((false, eval e env) :: (false, eval e2 env) :: backTo pos (starEach rest env)) kws) Q E s
  refine callWith_raises_C (evalArgs_raises_C ?_ rfl)
  refine spliced_C ?_
  exact wpC_any (wpAny_mono h (fun v s₁ h₁ => spliced_C (wpC_mono h₁ (fun _ _ x => x.elim) fun _ _ x => x)) fun _ _ x => x)
theorem list_raises_C {Q : Value → Shared → Prop} (h : wpC M A (eval e env) (fun _ _ => False) E s) (he : starEach (e :: rest) env = (false, eval e env) :: starEach rest env := by rfl) : wpC M A (eval (.List (e :: rest) pos) env) Q E s := by
  rw [arm_eval_List, he]
  show wpC M A (do standAt pos; newList (← spliced ((false, eval e env) :: backTo pos (starEach rest env)))) Q E s
  exact wpC_bind (wpC_standAt (wpC_bind (spliced_C (wpC_mono h (fun _ _ x => x.elim) fun _ _ x => x))))
end
theorem bis_err_len {r : Bool} {ys : List PStr} {x : Int} {f lo hi : Nat} {ek : EK} {msg : PStr} (h : bis r (fun i => p229 (ys.getD i PySem.Str.empty)) x f lo hi = .error (ek, msg)) (h640 : ∀ y ∈ ys, y.length ≤ 640) : msg.length ≤ 700 := by
  obtain ⟨i, _, _, h3⟩ := bis_err_at _ _ _ h
  exact p229_err_len h3 (getD_len h640)
end Mine
end
section
open PySem PySem.W PyProof.Rows PySem.Spec PySem.Calls
set_option Elab.async false
set_option maxRecDepth 100000
set_option maxHeartbeats 4000000
set_option linter.all false
namespace Mine
/-- refs of lists of two ints -/
inductive PairsAre (l : Ldg) : List Value → List (Int × Int) → Prop where
  | nil : PairsAre l [] []
  | cons {r : Addr} {a b : Int} {t u : Tok} {e : Nat} {vs : List Value} {fs : List (Int × Int)} (h : (r, lstOf [.int a t, .int b u] e) ∈ l) (hs : PairsAre l vs fs) : PairsAre l (.ref r :: vs) ((a, b) :: fs)
theorem PairsAre.mono {l l' : Ldg} (h : ∀ p ∈ l, p ∈ l') : ∀ {vs : List Value} {fs : List (Int × Int)}, PairsAre l vs fs → PairsAre l' vs fs
  | _, _, .nil => .nil
  | _, _, .cons a b => .cons (h _ a) (b.mono h)
theorem PairsAre.append {l : Ldg} : ∀ {vs vs' : List Value} {fs fs' : List (Int × Int)}, PairsAre l vs fs → PairsAre l vs' fs' → PairsAre l (vs ++ vs') (fs ++ fs')
  | _, _, _, _, .nil, h => h
  | _, _, _, _, .cons a b, h => .cons a (b.append h)
theorem PairsAre.length {l : Ldg} : ∀ {vs : List Value} {fs : List (Int × Int)}, PairsAre l vs fs → vs.length = fs.length
  | _, _, .nil => rfl
  | _, _, .cons _ b => congrArg (· + 1) b.length
theorem PairsAre.at {l : Ldg} : ∀ {vs : List Value} {fs : List (Int × Int)}, PairsAre l vs fs → ∀ (i : Nat) (h : i < fs.length), ∃ r t u e, vs[i]? = some (.ref r) ∧ (r, lstOf [.int (fs[i]).1 t, .int (fs[i]).2 u] e) ∈ l
  | _, _, .cons (r := r) (t := t) (u := u) (e := e) a b, 0, _ => ⟨r, t, u, e, rfl, a⟩
  | _, _, .cons a b, i + 1, h => b.at i (Nat.lt_of_succ_lt_succ h)
/-- the fractions -/
noncomputable def fracs : Nat → Int × Int → Int × Int → List (Int × Int)
  | 0, _, _ => []
  | n + 1, a, b => fracs n a (a.1 + b.1, a.2 + b.2) ++ [(a.1 + b.1, a.2 + b.2)] ++ fracs n (a.1 + b.1, a.2 + b.2) b
theorem fracs_len : ∀ (n : Nat) (a b : Int × Int), (fracs n a b).length = 2 ^ n - 1
  | 0, _, _ => rfl
  | n + 1, a, b => by
    have h : 1 ≤ 2 ^ n := Nat.one_le_two_pow
    simp only [fracs, List.length_append, List.length_cons, List.length_nil, fracs_len n]
    rw [Nat.pow_succ]; omega
section
variable {prog : Program} {w : World} {A : Around} {E : Value → Shared → Prop} {s : Shared} {h₀ : Heap} {L a b : Addr} {m : Str → Option Value} {news : Ldg} {vs ws : List Value} {e1 e2 : Nat} {Q : Value → Shared → Prop}
theorem add_listsN (F : Fr h₀ L s.heap m) (N : News h₀ L s.heap news) (ha : (a, lstOf vs e1) ∈ news) (hb : (b, lstOf ws e2) ∈ news) (hz : vs.length + ws.length ≤ 1000)
    (h : ∀ D h', Fr h₀ L h' m → News h₀ L h' ((D, lstOf (vs ++ ws) 0) :: news) → (∀ p ∈ news, p.1 < D) → Q (.ref D) { s with heap := h' }) : wpAny (model prog w) A (binaryOp .Add (.ref a) (.ref b)) Q E s :=
  add_lists F N (News.isList N ha) (News.isList N hb) (fun h' F' N' => h _ h' F' N' fun p hp => Heap.lt_size (N p hp).1) (Nat.le_trans (by simpa using hz) (by decide))
theorem add_listsA (F : Fr h₀ L s.heap m) (N : News h₀ L s.heap news) (ha : (a, lstOf vs e1) ∈ news) (hb : (b, lstOf ws e2) ∈ news) (hz : vs.length + ws.length ≤ 1000)
    (h : ∀ D h', Fr h₀ L h' m → News h₀ L h' ((D, lstOf (vs ++ ws) 0) :: news) → AllLt D news → Q (.ref D) { s with heap := h' }) : wpAny (model prog w) A (binaryOp .Add (.ref a) (.ref b)) Q E s :=
  add_listsN F N ha hb hz (fun D h' F' N' l1 => h D h' F' N' (allLt_of l1))
end
end Mine
end
section
open PySem PySem.W PyProof.Rows PySem.Spec PySem.Calls
set_option Elab.async false
set_option maxRecDepth 100000
set_option maxHeartbeats 4000000
set_option linter.all false
namespace Mine
/-- a turn's end of a for over numbers -/
noncomputable def TurnFr {ι : Type} (C : ι → Prop) (M : ι → Str → Option Value) (Nw : ι → Ldg) (own : Addr × Obj) (g : Heap) (L : Addr) (s : Shared) (Q : Flow → Shared → Prop) (f : Flow) (s' : Shared) : Prop :=
  match f with
  | .next | .cont => ∃ σ h' tk', s' = { s with heap := h', toks := tk' } ∧ C σ ∧ Fr g L h' (M σ) ∧ News g L h' (own :: Nw σ) ∧ ∀ p ∈ Nw σ, p.1 ≠ own.1
  | .brk => Q .next s'
  | .ret v => Q (.ret v) s'
theorem turnFr_next {ι : Type} {C : ι → Prop} {M : ι → Str → Option Value} {Nw : ι → Ldg} {own : Addr × Obj} {g h' : Heap} {L : Addr} {s : Shared} {Q : Flow → Shared → Prop} {tk : Nat} {M0 : Str → Option Value} {news0 : Ldg} (σ : ι) (names : List Str) (F : Fr g L h' M0) (N : News g L h' news0) (hc : C σ)
    (m1 : ∀ n ∈ names, M0 n = M σ n) (m2 : ∀ y, y ∉ names → M0 y = M σ y) (n0 : ∀ q ∈ own :: Nw σ, q ∈ news0) (hd : ∀ p ∈ Nw σ, p.1 ≠ own.1) : TurnFr C M Nw own g L s Q .next { s with heap := h', toks := tk } :=
  ⟨σ, h', tk, rfl, hc, fr_map names F m1 m2, fun q hq => N q (n0 q hq), hd⟩
theorem rangeSize_one (n : Nat) : Builtin.Range.rangeSize 0 (n : Int) 1 = (n : Int) := by
  unfold Builtin.Range.rangeSize
  split
  · split <;> omega
  · omega
section
variable {prog : Program} {w : World} {A : Around} {E : Value → Shared → Prop} {s : Shared} {env : Env} {h₀ : Heap} {body : List Stmt} {Q : Flow → Shared → Prop} {x : Str} {px : Pos} {m₀ : Str → Option Value} {news : Ldg}
theorem pyIter_rangeC {ι : Type} (C : Nat → ι → Prop) (M : Nat → ι → Str → Option Value) (Nw : Nat → ι → Ldg) (n : Nat) (σ₀ : ι) (names : List Str) {r : Addr} {t₀ u₀ v₀ : Tok} (F : Fr h₀ env.locals s.heap m₀) (N : News h₀ env.locals s.heap news)
    (hr : IsRange s.heap r 0 (n : Int) 1 t₀ u₀ v₀) (hh : A.handled = none) (hn : n ≤ 1000) (c0 : C 0 σ₀) (m1 : ∀ n ∈ names, m₀ n = M 0 σ₀ n) (m2 : ∀ y, y ∉ names → m₀ y = M 0 σ₀ y) (n0 : ∀ q ∈ Nw 0 σ₀, q ∈ news)
    (turn : ∀ i σ h tk t own, i < n → C i σ → (∀ p ∈ Nw i σ, p.1 ≠ own.1) → Fr h₀ env.locals h (M i σ) → News h₀ env.locals h (own :: Nw i σ) →
      wpAny (model prog w) A (assign (.Name x px) env (.int i t)) (fun _ s₃ => wpC (model prog w) A (execs body env) (TurnFr (C (i + 1)) (M (i + 1)) (Nw (i + 1)) own h₀ env.locals s Q) E s₃) E { s with heap := h, toks := tk })
    (done : ∀ σ h tk, C n σ → Fr h₀ env.locals h (M n σ) → News h₀ env.locals h (Nw n σ) → Q .next { s with heap := h, toks := tk }) :
    wpAny (model prog w) A (pyIter (.ref r)) (fun it s₂ => TurnsAtC prog w A h₀ env (.Name x px) body Q E it s₂) E s := by
  refine wpAny_pyIter_range hr (small_one (by omega) (by omega) (by omega) (by omega)) ?_
  rw [rangeSize_one]
  have hI := next_is_new F
  have hne : ∀ p ∈ Nw 0 σ₀, p.1 ≠ s.heap.objs.size := fun p hp => Nat.ne_of_lt (Heap.lt_size (N p (n0 p hp)).1)
  refine ⟨s.heap.objs.size, [s.heap.objs.size], [s.heap.objs.size], n, _, _, _, M 0 σ₀, Nw 0 σ₀, fun i m nx => ∃ σ, C i σ ∧ m = M i σ ∧ nx = Nw i σ, rfl, KTurns.ofWalks (LCg.range_walks hh 0 n) (fun i v s Q E _ h => wpAny_pure h), ?_, ?_, ?_, ?_, fr_map names (F.push _) m1 m2, ?_, ⟨σ₀, c0, rfl, rfl⟩, ?_, ?_⟩
  · intro hm
    exact absurd F.ns.lt ((List.mem_singleton.mp hm) ▸ Nat.lt_irrefl _)
  · intro b hb
    rw [List.mem_singleton.mp hb]; exact hI
  · intro p hp hq
    exact hne p hp (List.mem_singleton.mp hq)
  · show IsRangeIter _ _ _ _ _
    simpa using Heap.get?_push_size _ rfl
  · exact fun p hp => ⟨Heap.get?_push_of_some _ (N p (n0 p hp)).1, (N p (n0 p hp)).2⟩
  · rintro i v m₁ news₁ h₁ tk₁ own hi ⟨t, rfl⟩ ⟨σ, hc, rfl, rfl⟩ hw hfp hget hown hst F₁ N₁
    obtain ⟨oI, hIo⟩ : ∃ o, h₁.get? s.heap.objs.size = some o := ⟨_, hst⟩
    have hmem := hown s.heap.objs.size (List.mem_singleton.mpr rfl) hI _ hIo
    rw [Int.zero_add]
    refine wpAny_mono (turn i σ h₁ tk₁ t (s.heap.objs.size, oI) hi hc (fun p hp e => hw p hp (List.mem_singleton.mpr e)) F₁ (fun p hp => N₁ p (List.mem_append.mpr ?_))) (fun _ s₃ h₃ => wpC_mono h₃ (fun f s₄ h₄ => ?_) fun _ _ e => e) fun _ _ e => e
    · rcases List.mem_cons.mp hp with rfl | hp
      · exact .inl hmem
      · exact .inr hp
    · have fin : (∃ σ h' tk', s₄ = { s with heap := h', toks := tk' } ∧ C (i + 1) σ ∧ Fr h₀ env.locals h' (M (i + 1) σ) ∧ News h₀ env.locals h' ((s.heap.objs.size, oI) :: Nw (i + 1) σ) ∧ ∀ p ∈ Nw (i + 1) σ, p.1 ≠ s.heap.objs.size) → _ := fun ⟨σ', h', tk', e, c', F', N', hd⟩ =>
        (⟨rfl, h', tk', M (i + 1) σ', Nw (i + 1) σ', e, F', fun p hp => by
          rcases List.mem_append.mp hp with hp | hp
          · have e1 := List.mem_singleton.mp (hfp p hp)
            have e2 := hget p hp
            rw [e1, hIo] at e2
            have e3 : p = (s.heap.objs.size, p.2) := by rw [← e1]
            rw [e3, ← Option.some.inj e2]
            exact N' _ (.head _)
          · exact N' _ (.tail _ hp), fun p hp hq => hd p hp (List.mem_singleton.mp hq), σ', c', rfl, rfl⟩ : LoopStepU h₀ env.locals [s.heap.objs.size] own (fun m nx => ∃ σ, C (i + 1) σ ∧ m = M (i + 1) σ ∧ nx = Nw (i + 1) σ) { s with heap := h₁, toks := tk₁ } .next s₄)
      cases f with
      | ret v => exact h₄
      | brk => exact h₄
      | next => exact .next (fin h₄)
      | cont => exact .cont (fin h₄)
  · rintro h' tk m' news' F' N' _ ⟨σ, hc, rfl, rfl⟩
    exact done σ h' tk hc F' N'
theorem pyIter_rangeA {ι : Type} (C : Nat → ι → Prop) (M : Nat → ι → Str → Option Value) (Nw : Nat → ι → Ldg) (n : Nat) (σ₀ : ι) (names : List Str) {r : Addr} {t₀ u₀ v₀ : Tok} (F : Fr h₀ env.locals s.heap m₀) (N : News h₀ env.locals s.heap news)
    (hr : IsRange s.heap r 0 (n : Int) 1 t₀ u₀ v₀) (hh : A.handled = none) (hn : n ≤ 1000) (c0 : C 0 σ₀) (m1 : ∀ n ∈ names, m₀ n = M 0 σ₀ n) (m2 : ∀ y, y ∉ names → m₀ y = M 0 σ₀ y) (n0 : ∀ q ∈ Nw 0 σ₀, q ∈ news)
    (turn : ∀ i σ h tk t own, i < n → C i σ → (∀ p ∈ Nw i σ, p.1 ≠ own.1) → Fr h₀ env.locals h (M i σ) → News h₀ env.locals h (own :: Nw i σ) →
      wpAny (model prog w) A (assign (.Name x px) env (.int i t)) (fun _ s₃ => wpAny (model prog w) A (execs body env) (TurnFr (C (i + 1)) (M (i + 1)) (Nw (i + 1)) own h₀ env.locals s Q) E s₃) E { s with heap := h, toks := tk })
    (done : ∀ σ h tk, C n σ → Fr h₀ env.locals h (M n σ) → News h₀ env.locals h (Nw n σ) → Q .next { s with heap := h, toks := tk }) :
    wpAny (model prog w) A (pyIter (.ref r)) (fun it s₂ => TurnsAt prog w A h₀ env (.Name x px) body Q E it s₂) E s := by
  refine wpAny_pyIter_range hr (small_one (by omega) (by omega) (by omega) (by omega)) ?_
  rw [rangeSize_one]
  have hI := next_is_new F
  have hne : ∀ p ∈ Nw 0 σ₀, p.1 ≠ s.heap.objs.size := fun p hp => Nat.ne_of_lt (Heap.lt_size (N p (n0 p hp)).1)
  refine ⟨s.heap.objs.size, [s.heap.objs.size], [s.heap.objs.size], n, _, _, _, M 0 σ₀, Nw 0 σ₀, fun i m nx => ∃ σ, C i σ ∧ m = M i σ ∧ nx = Nw i σ, rfl, KTurns.ofWalks (LCg.range_walks hh 0 n) (fun i v s Q E _ h => wpAny_pure h), ?_, ?_, ?_, ?_, fr_map names (F.push _) m1 m2, ?_, ⟨σ₀, c0, rfl, rfl⟩, ?_, ?_⟩
  · intro hm
    exact absurd F.ns.lt ((List.mem_singleton.mp hm) ▸ Nat.lt_irrefl _)
  · intro b hb
    rw [List.mem_singleton.mp hb]; exact hI
  · intro p hp hq
    exact hne p hp (List.mem_singleton.mp hq)
  · show IsRangeIter _ _ _ _ _
    simpa using Heap.get?_push_size _ rfl
  · exact fun p hp => ⟨Heap.get?_push_of_some _ (N p (n0 p hp)).1, (N p (n0 p hp)).2⟩
  · rintro i v m₁ news₁ h₁ tk₁ own hi ⟨t, rfl⟩ ⟨σ, hc, rfl, rfl⟩ hw hfp hget hown hst F₁ N₁
    obtain ⟨oI, hIo⟩ : ∃ o, h₁.get? s.heap.objs.size = some o := ⟨_, hst⟩
    have hmem := hown s.heap.objs.size (List.mem_singleton.mpr rfl) hI _ hIo
    rw [Int.zero_add]
    refine wpAny_mono (turn i σ h₁ tk₁ t (s.heap.objs.size, oI) hi hc (fun p hp e => hw p hp (List.mem_singleton.mpr e)) F₁ (fun p hp => N₁ p (List.mem_append.mpr ?_))) (fun _ s₃ h₃ => wpAny_mono h₃ (fun f s₄ h₄ => ?_) fun _ _ e => e) fun _ _ e => e
    · rcases List.mem_cons.mp hp with rfl | hp
      · exact .inl hmem
      · exact .inr hp
    · have fin : (∃ σ h' tk', s₄ = { s with heap := h', toks := tk' } ∧ C (i + 1) σ ∧ Fr h₀ env.locals h' (M (i + 1) σ) ∧ News h₀ env.locals h' ((s.heap.objs.size, oI) :: Nw (i + 1) σ) ∧ ∀ p ∈ Nw (i + 1) σ, p.1 ≠ s.heap.objs.size) → _ := fun ⟨σ', h', tk', e, c', F', N', hd⟩ =>
        (⟨rfl, h', tk', M (i + 1) σ', Nw (i + 1) σ', e, F', fun p hp => by
          rcases List.mem_append.mp hp with hp | hp
          · have e1 := List.mem_singleton.mp (hfp p hp)
            have e2 := hget p hp
            rw [e1, hIo] at e2
            have e3 : p = (s.heap.objs.size, p.2) := by rw [← e1]
            rw [e3, ← Option.some.inj e2]
            exact N' _ (.head _)
          · exact N' _ (.tail _ hp), fun p hp hq => hd p hp (List.mem_singleton.mp hq), σ', c', rfl, rfl⟩ : LoopStepU h₀ env.locals [s.heap.objs.size] own (fun m nx => ∃ σ, C (i + 1) σ ∧ m = M (i + 1) σ ∧ nx = Nw (i + 1) σ) { s with heap := h₁, toks := tk₁ } .next s₄)
      cases f with
      | ret v => exact h₄
      | brk => exact h₄
      | next => exact .next (fin h₄)
      | cont => exact .cont (fin h₄)
  · rintro h' tk m' news' F' N' _ ⟨σ, hc, rfl, rfl⟩
    exact done σ h' tk hc F' N'
end
end Mine
end
section
open PySem PySem.W PyProof.Rows PySem.Spec PySem.Calls
set_option Elab.async false
set_option maxRecDepth 100000
set_option maxHeartbeats 4000000
set_option linter.all false
namespace Mine
theorem item_len (x : PStr) (i : Int) : (Txt.item x i).length = 1 := rfl
theorem go257_len {r : PStr} : ∀ (f i : Nat) (d : PStr), (go257 r f i d).length ≤ d.length + (r.length - i)
  | 0, i, d => by simp only [go257]; omega
  | f + 1, i, d => by
    simp only [go257]
    have h1 := go257_len (r := r) f (i + 2) (d ++ Txt.item r i)
    have h2 := go257_len (r := r) f (i + 1) (d ++ Txt.item r i)
    have h3 := PySem.Str.length_append d (Txt.item r i)
    have h4 := item_len r i
    split
    · split
      · split
        · split <;> omega
        · omega
      · omega
    · omega
theorem str_toList (a b : PStr) : (a ++ b).cps.toList = a.cps.toList ++ b.cps.toList := by
  show (a.cps ++ b.cps).toList = _
  rw [Array.toList_append]
abbrev q257 : PStr := PySem.Str.ofString "257 \""
theorem q257_list : q257.cps.toList = [50, 53, 55, 32, 34] := by decide +kernel
theorem q257_take {t : PStr} : Txt.slice (q257 ++ t) none (some 3) = PySem.Str.ofString "257" := by
  have h := StrLaws.sliceText_to (x := q257 ++ t) (j := 3) ⟨by decide, by rw [str_toList, q257_list]; simp only [List.length_append, List.length_cons, List.length_nil]; omega⟩
  refine (show Txt.slice (q257 ++ t) none (some 3) = _ from h).trans ?_
  rw [str_toList, q257_list]
  show (⟨([50, 53, 55] : List Nat).toArray⟩ : PStr) = _
  decide +kernel
theorem q257_mid {t : PStr} : Txt.slice (q257 ++ t) (some 3) (some 5) = PySem.Str.ofString " \"" := by
  have h := StrLaws.sliceText_plain (x := q257 ++ t) (i := 3) (j := 5) ⟨by decide, by decide, by rw [str_toList, q257_list]; simp only [List.length_append, List.length_cons, List.length_nil]; omega⟩
  refine (show Txt.slice (q257 ++ t) (some 3) (some 5) = _ from h).trans ?_
  rw [str_toList, q257_list]
  show (⟨([32, 34] : List Nat).toArray⟩ : PStr) = _
  decide +kernel
/-- what parse257 tells of a text between quotes -/
noncomputable def quo (t : PStr) : PStr := go257 (q257 ++ t) t.length 5 PySem.Str.empty
theorem q257_len (t : PStr) : (q257 ++ t).length = 5 + t.length := (PySem.Str.length_append _ _).trans (by rw [show q257.length = 5 by decide +kernel])
theorem p257_quo (t : PStr) : p257 (q257 ++ t) = .ok (quo t) := by
  unfold p257
  rw [q257_take, q257_mid, if_neg (by simp), if_neg (by simp), q257_len, Nat.add_sub_cancel_left]
  rfl
theorem quo_len (t : PStr) : (quo t).length ≤ t.length := by
  have h := go257_len (r := q257 ++ t) t.length 5 PySem.Str.empty
  have h2 := q257_len t
  have h3 : PySem.Str.empty.length = 0 := rfl
  unfold quo
  omega
theorem p257_ok {t x : PStr} (h : p257 (q257 ++ t) = .ok x) : x = quo t := by
  rw [p257_quo] at h; cases h; rfl
theorem p257_leq {t x : PStr} (h : p257 (q257 ++ t) = .ok x) : x.length ≤ t.length := by rw [p257_ok h]; exact quo_len t
theorem p257_no {t : PStr} {e : EK × PStr} (h : p257 (q257 ++ t) = .error e) : False := by
  rw [p257_quo] at h; cases h
/-- _law_read: a reading -/
noncomputable def rdOdd (t : PStr) : Bool := Txt.slice (quo t) (some (-1)) none != PySem.Str.ofString "x"
noncomputable def rdStep (q : PStr × Int × Int) : PStr × Int × Int :=
  (if rdOdd q.1 = true then quo q.1 ++ PySem.Str.ofString "x" else quo q.1,
   if q.2.1 = 0 then (if rdOdd q.1 = true then 1 else 0) else if rdOdd q.1 = true then q.2.1 + q.2.2 else q.2.1,
   if q.2.1 = 0 then (if rdOdd q.1 = true then 1 else 0) else if rdOdd q.1 = true then q.2.2 else q.2.1 + q.2.2)
noncomputable def rdIter : Nat → PStr × Int × Int → PStr × Int × Int
  | 0, q => q
  | n + 1, q => rdStep (rdIter n q)
section
variable {t : PStr} {f g : Int} {n : Nat} {q : PStr × Int × Int}
theorem rd_a (hc : (t, f, g) = rdIter n q) (ho : (Txt.slice (quo t) (some (-1)) none != PySem.Str.ofString "x") = true) (h0 : f = 0) : (quo t ++ PySem.Str.ofString "x", (1 : Int), (1 : Int)) = rdIter (n + 1) q := by
  show _ = rdStep (rdIter n q)
  rw [← hc]; unfold rdStep rdOdd; simp only [ho, h0, if_true]
theorem rd_b (hc : (t, f, g) = rdIter n q) (ho : (Txt.slice (quo t) (some (-1)) none != PySem.Str.ofString "x") = true) (h0 : f ≠ 0) : (quo t ++ PySem.Str.ofString "x", f + g, g) = rdIter (n + 1) q := by
  show _ = rdStep (rdIter n q)
  rw [← hc]; unfold rdStep rdOdd; simp only [ho, h0, if_true, if_false]
theorem rd_c (hc : (t, f, g) = rdIter n q) (ho : (Txt.slice (quo t) (some (-1)) none != PySem.Str.ofString "x") = false) (h0 : f = 0) : (quo t, (0 : Int), (0 : Int)) = rdIter (n + 1) q := by
  show _ = rdStep (rdIter n q)
  rw [← hc]; unfold rdStep rdOdd; simp only [ho, h0, if_true, Bool.false_eq_true, if_false]
theorem rd_d (hc : (t, f, g) = rdIter n q) (ho : (Txt.slice (quo t) (some (-1)) none != PySem.Str.ofString "x") = false) (h0 : f ≠ 0) : (quo t, f, f + g) = rdIter (n + 1) q := by
  show _ = rdStep (rdIter n q)
  rw [← hc]; unfold rdStep rdOdd; simp only [ho, h0, Bool.false_eq_true, if_false]
end
end Mine
end
section
open PySem PySem.W PyProof.Rows PySem.Spec PySem.Calls
set_option Elab.async false
set_option maxRecDepth 100000
set_option maxHeartbeats 4000000
set_option linter.all false
namespace Mine
theorem intsAre_append : ∀ {vs ws : List Value} {ns ms : List Int}, IntsAre vs ns → IntsAre ws ms → IntsAre (vs ++ ws) (ns ++ ms)
  | _, _, _, _, .nil, h => h
  | _, _, _, _, .cons a t r, h => .cons a t (intsAre_append r h)
theorem intsAre_drop : ∀ {vs : List Value} {ns : List Int} (k : Nat), IntsAre vs ns → IntsAre (vs.drop k) (ns.drop k)
  | _, _, 0, h => h
  | _, _, _ + 1, .nil => .nil
  | _, _, k + 1, .cons _ _ r => intsAre_drop k r
theorem kms_from {vs : List Value} {x : Int} (h : 0 ≤ x) : kms_pick vs (some x) none = vs.drop x.toNat := by
  unfold kms_pick kms_lo kms_hi
  simp only [if_neg (show ¬ x < 0 by omega)]
  by_cases hl : x.toNat ≤ vs.length
  · rw [Nat.min_eq_left hl, List.take_of_length_le (by rw [List.length_drop]; exact Nat.le_refl _)]
  · rw [Nat.min_eq_right (by omega), List.drop_eq_nil_of_le (Nat.le_refl _), List.drop_eq_nil_of_le (by omega), List.take_nil]
theorem len_room {vs ws : List Value} {ns : List Int} (h : IntsAre vs ns) (h2 : ns.length + ws.length ≤ 1000) : vs.length + ws.length ≤ 1000 := by rw [ints_length h]; exact h2
section
variable {prog : Program} {w : World} {A : Around} {E : Value → Shared → Prop} {s : Shared} {h₀ : Heap} {L l : Addr} {m : Str → Option Value} {news : Ldg} {vs zs : List Value} {ep : Nat} {Q : Value → Shared → Prop} {value slice : PySem.Expr} {vl vu : Value} {lo hi : Option Int}
theorem slice_L (F : Fr h₀ L s.heap m) (N : News h₀ L s.heap news) (hl : (l, lstOf vs ep) ∈ news) (pl : IsPart vl lo) (pu : IsPart vu hi) (hz : vs.length ≤ 1000) (e : kms_pick vs lo hi = zs)
    (h : ∀ D h', Fr h₀ L h' m → News h₀ L h' ((D, lstOf zs 0) :: news) → (∀ p ∈ news, p.1 < D) → Q (.ref D) { s with heap := h' })
    (hs : subscripted slice false (.ref l) (.ref s.heap.objs.size) = operate [.ref s.heap.objs.size, .ref l] (getItem (.ref l) (.ref s.heap.objs.size)) := by with_unfolding_all rfl) :
    wpAny (model prog w) A (subscriptTail value slice (.ref l) (.ref s.heap.objs.size)) Q E { s with heap := s.heap.push { cls := .type "slice", data := .fields #[vl, vu, .none] } } :=
  kba_turn (value' := PySem.Expr.Name (PySem.Str.ofString "_") ⟨0, 0, 0, 0⟩) (fun _ => rfl) (kms_slice_lit F N (News.isList N hl) pl pu (by simpa using e) h hs (fun _ => rfl) (Nat.le_trans (by simpa using hz) (by decide)))
theorem slice_LA (F : Fr h₀ L s.heap m) (N : News h₀ L s.heap news) (hl : (l, lstOf vs ep) ∈ news) (pl : IsPart vl lo) (pu : IsPart vu hi) (hz : vs.length ≤ 1000) (e : kms_pick vs lo hi = zs)
    (h : ∀ D h', Fr h₀ L h' m → News h₀ L h' ((D, lstOf zs 0) :: news) → AllLt D news → Q (.ref D) { s with heap := h' })
    (hs : subscripted slice false (.ref l) (.ref s.heap.objs.size) = operate [.ref s.heap.objs.size, .ref l] (getItem (.ref l) (.ref s.heap.objs.size)) := by with_unfolding_all rfl) :
    wpAny (model prog w) A (subscriptTail value slice (.ref l) (.ref s.heap.objs.size)) Q E { s with heap := s.heap.push { cls := .type "slice", data := .fields #[vl, vu, .none] } } :=
  slice_L F N hl pl pu hz e (fun D h' F' N' l1 => h D h' F' N' (allLt_of l1)) hs
end
end Mine
end
section
open PySem PySem.W PyProof.Rows PySem.Spec PySem.Calls
set_option Elab.async false
set_option maxRecDepth 100000
set_option maxHeartbeats 4000000
set_option linter.all false
namespace Mine
theorem reads_pair {h₀ h : Heap} {L r : Addr} {news : Ldg} {a b : Int} {t u : Tok} {e : Nat} (N : News h₀ L h news) (hm : (r, lstOf [.int a t, .int b u] e) ∈ news) : Reads h (.ref r) (.list [.int a, .int b]) [r] :=
  reads_list_at (N _ hm).1 rfl rfl (readsAll_cons_val (Reads.int _ _) (readsAll_cons_val (Reads.int _ _) ReadsAll.nil))
/-- a ref of a list of the two ints a b -/
noncomputable def isPair (h : Heap) (a b : Int) : Value → Bool
  | .ref r => match h.get? r with
    | some o => match o.data with
      | .seq its _ => match its.toList with
        | [.int x _, .int y _] => decide (x = a) && decide (y = b)
        | _ => false
      | _ => false
    | none => false
  | _ => false
theorem isPair_is {h₀ h : Heap} {L r : Addr} {news : Ldg} {a b x y : Int} {t u : Tok} {e : Nat} (N : News h₀ L h news) (hm : (r, lstOf [.int x t, .int y u] e) ∈ news) : isPair h a b (.ref r) = (decide (x = a) && decide (y = b)) := by
  have hg := (N _ hm).1
  simp only [isPair, hg]
theorem PairsAre.mem {l : Ldg} {y : Value} : ∀ {vs : List Value} {fs : List (Int × Int)}, PairsAre l vs fs → y ∈ vs → ∃ r a b t u e, y = .ref r ∧ (r, lstOf [.int a t, .int b u] e) ∈ l
  | _, _, .cons a b, h => by
    rcases List.mem_cons.mp h with rfl | h
    · exact ⟨_, _, _, _, _, _, rfl, a⟩
    · exact b.mem h
theorem eqv_pair (a b x y : Int) : PyData.eqv (.list [.int x, .int y]) (.list [.int a, .int b]) = (decide (x = a) && decide (y = b)) := by
  have h := ked_eqvAll [x, y] [a, b]
  show PyData.eqvAll [.int x, .int y] [.int a, .int b] = _
  refine h.trans ?_
  by_cases h1 : x = a <;> by_cases h2 : y = b <;> simp [h1, h2]
theorem mem_mv1 {m a b o : Addr × Obj} {n : Ldg} : ∀ p ∈ a :: b :: o :: m :: n, p ∈ m :: a :: b :: o :: n := by
  intro p hp; simp only [List.mem_cons] at *; rcases hp with h | h | h | h | h <;> simp [h]
theorem mem_mv2 {m a b o : Addr × Obj} {n : Ldg} : ∀ p ∈ a :: b :: o :: m :: n, p ∈ b :: m :: a :: o :: n := by
  intro p hp; simp only [List.mem_cons] at *; rcases hp with h | h | h | h | h <;> simp [h]
theorem mem_mv3 {x m a b o : Addr × Obj} {n : Ldg} : ∀ p ∈ b :: m :: a :: o :: n, p ∈ x :: m :: a :: b :: o :: n := by
  intro p hp; simp only [List.mem_cons] at *; rcases hp with h | h | h | h | h <;> simp [h]
theorem mem_mv4 {a b o : Addr × Obj} {n : Ldg} : ∀ p ∈ a :: b :: o :: n, p ∈ o :: a :: b :: n := by
  intro p hp; simp only [List.mem_cons] at *; rcases hp with h | h | h | h <;> simp [h]
theorem mem_mv5 {a b o m : Addr × Obj} {n : Ldg} : ∀ p ∈ o :: a :: b :: m :: n, p ∈ a :: b :: o :: m :: n := by
  intro p hp; simp only [List.mem_cons] at *; rcases hp with h | h | h | h | h <;> simp [h]
theorem news_sub {h₀ h : Heap} {L : Addr} {l l' : Ldg} (N : News h₀ L h l) (s : ∀ p ∈ l', p ∈ l) : News h₀ L h l' := fun p hp => N p (s p hp)
theorem addr_lt {I : Addr} {l l' : Ldg} (h : ∀ p ∈ l, p.1 < I) (e : l'.map (·.1) = l.map (·.1)) {p : Addr × Obj} (hp : p ∈ l') : p.1 < I := by
  have h1 : p.1 ∈ l'.map (·.1) := List.mem_map_of_mem hp
  rw [e] at h1
  obtain ⟨q, hq, e2⟩ := List.mem_map.mp h1
  rw [← e2]; exact h q hq
theorem updF_addr {d : Addr} {o : Obj} : ∀ {l : Ldg} {g : Obj → Ldg}, UpdF d o l g → ∀ o' p, p ∈ g o' → ∃ q ∈ l, q.1 = p.1
  | _, _, .head _, o', p, hp => by
    rcases List.mem_cons.mp hp with rfl | hp
    · exact ⟨_, .head _, rfl⟩
    · exact ⟨p, .tail _ hp, rfl⟩
  | _, _, .tail _ r, o', p, hp => by
    rcases List.mem_cons.mp hp with rfl | hp
    · exact ⟨_, .head _, rfl⟩
    · obtain ⟨q, hq, e⟩ := updF_addr r o' p hp
      exact ⟨q, .tail _ hq, e⟩
theorem updF_keep {d : Addr} {o : Obj} : ∀ {l : Ldg} {g : Obj → Ldg}, UpdF d o l g → ∀ o' p, p ∈ l → p.1 ≠ d → p ∈ g o'
  | _, _, .head _, o', p, hp, hne => by
    rcases List.mem_cons.mp hp with rfl | hp
    · exact absurd rfl hne
    · exact .tail _ hp
  | _, _, .tail _ r, o', p, hp, hne => by
    rcases List.mem_cons.mp hp with rfl | hp
    · exact .head _
    · exact .tail _ (updF_keep r o' p hp hne)
theorem updF_new {d : Addr} {o : Obj} : ∀ {l : Ldg} {g : Obj → Ldg}, UpdF d o l g → ∀ o', (d, o') ∈ g o'
  | _, _, .head _, o' => .head _
  | _, _, .tail _ r, o' => .tail _ (updF_new r o')
theorem strs_ins {vs : List Value} {xs : List PStr} (n : Int) (x : PStr) (t : Tok) (h : StrsAre vs xs) : ∃ zs, StrsAre (kl_ins vs n (.str x t)) zs := by
  have ap : ∀ {a b : List Value} {p q : List PStr}, StrsAre a p → StrsAre b q → StrsAre (a ++ b) (p ++ q) := by
    intro a b p q ha hb
    induction ha with
    | nil => exact hb
    | cons x t r ih => exact .cons x t ih
  have tk : ∀ (k : Nat) {a : List Value} {p : List PStr}, StrsAre a p → StrsAre (a.take k) (p.take k) ∧ StrsAre (a.drop k) (p.drop k) := by
    intro k a p ha
    induction ha generalizing k with
    | nil => simp only [List.take_nil, List.drop_nil]; exact ⟨.nil, .nil⟩
    | cons x t r ih =>
      cases k with
      | zero => exact ⟨.nil, .cons x t r⟩
      | succ k => exact ⟨.cons x t (ih k).1, (ih k).2⟩
  unfold kl_ins
  exact ⟨_, ap (tk _ h).1 (.cons x t (tk _ h).2)⟩
theorem ints_ins {vs : List Value} {xs : List Int} (n : Int) (x : Int) (t : Tok) (h : IntsAre vs xs) : ∃ zs, IntsAre (kl_ins vs n (.int x t)) zs := by
  have tk : ∀ (k : Nat) {a : List Value} {p : List Int}, IntsAre a p → IntsAre (a.take k) (p.take k) ∧ IntsAre (a.drop k) (p.drop k) := by
    intro k a p ha
    induction ha generalizing k with
    | nil => simp only [List.take_nil, List.drop_nil]; exact ⟨.nil, .nil⟩
    | cons x t r ih =>
      cases k with
      | zero => exact ⟨.nil, .cons x t r⟩
      | succ k => exact ⟨.cons x t (ih k).1, (ih k).2⟩
  unfold kl_ins
  exact ⟨_, intsAre_append (tk _ h).1 (.cons x t (tk _ h).2)⟩
section
variable {prog : Program} {w : World} {A : Around} {E : Value → Shared → Prop} {s : Shared} {h₀ : Heap} {L : Addr} {m : Str → Option Value} {news : Ldg} {vs : List Value} {fs : List (Int × Int)} {ep : Nat} {Q : Value → Shared → Prop}
theorem idx_pairs {D q : Addr} {a b : Int} {t u : Tok} {eq j : Nat} (N : News h₀ L s.heap news) (hD : (D, lstOf vs ep) ∈ news) (hq : (q, lstOf [.int a t, .int b u] eq) ∈ news) (hP : PairsAre news vs fs)
    (hj : j < fs.length) (hit : fs[j] = (a, b)) (hno : ∀ i (h : i < fs.length), i < j → fs[i] ≠ (a, b)) (hz : fs.length ≤ 1000) (hu : A.units + 64 < cLine)
    (h : Q (.int j s.toks) { s with toks := s.toks + 1 }) : wpAny (model prog w) A (call (.builtin "list.index") [.ref D, .ref q]) Q E s := by
  have hl := hP.length
  have at' : ∀ i (hi : i < fs.length), isPair s.heap a b (vs.toArray[i]'(by simp; omega)) = (decide ((fs[i]).1 = a) && decide ((fs[i]).2 = b)) := by
    intro i hi
    obtain ⟨r, t', u', e', h1, h2⟩ := hP.at i hi
    have hv : vs.toArray[i]'(by simp; omega) = .ref r := by
      have := List.getElem_of_getElem? h1
      obtain ⟨_, h3⟩ := this
      simpa using h3
    rw [hv]
    exact isPair_is N h2
  refine call_meets PySem.F.slot_list_index ⟨_, (N _ hD).1, rfl⟩ PySem.F.entry_list_index (PySem.F.args_list_index_2 _ _)
    (PySem.SeqAt.list_indexAt D vs.toArray ep none #[] (.ref q) (isPair s.heap a b) j (by simp; omega) (by omega) ?_ ?_) ⟨(N _ hD).1, ?_, h⟩
  · rw [at' j hj, hit]; simp
  · intro i hi hlt
    have hi' : i < fs.length := by simp at hi; omega
    rw [at' i hi']
    have := hno i hi' hlt
    cases hd : (decide ((fs[i]).1 = a) && decide ((fs[i]).2 = b)) with
    | false => rfl
    | true =>
      simp only [Bool.and_eq_true, decide_eq_true_eq] at hd
      exact absurd (Prod.ext hd.1 hd.2) this
  · intro y hy
    obtain ⟨r, x, y', t', u', e', rfl, hm⟩ := hP.mem (by simpa using hy)
    have := PySem.SeqAt.eqAt_reads _ _ A.in1 s _ _ _ _ (reads_pair N hm) (reads_pair N hq) rfl rfl (by
      show A.in1.units + min (PyData.depth _) (PyData.depth _) < cLine
      have h1 : A.in1.units ≤ A.units + 1 := by first | exact Nat.le_refl _ | simp [Around.in1]
      have h2 : (PyData.list [.int x, .int y']).depth ≤ 2 := by simp [PyData.depth, PyData.depthAll]
      omega)
    rw [eqv_pair] at this
    rw [isPair_is N hm]
    exact this
theorem set_L {D : Addr} {k : Int} {t : Tok} {v : Value} {gN : Obj → Ldg} {Q : Unit → Shared → Prop} (F : Fr h₀ L s.heap m) (N : News h₀ L s.heap news) (U : UpdF D (lstOf vs ep) news gN) (h0 : 0 ≤ k) (hk : k < vs.length) (hz : vs.length ≤ 1000)
    (h : ∀ h', Fr h₀ L h' m → News h₀ L h' (gN (lstOf (vs.set k.toNat v) ep)) → Q () { s with heap := h' }) : wpAny (model prog w) A (setItem (.ref D) (.int k t) v) Q E s := by
  have e : ki_setL vs k.toNat v = some (vs.set k.toNat v) := by
    have : ∀ (l : List Value) (k : Nat), k < l.length → ki_setL l k v = some (l.set k v) := by
      intro l
      induction l with
      | nil => intro k h; exact absurd h (Nat.not_lt_zero _)
      | cons x r ih =>
        intro k h
        cases k with
        | zero => rfl
        | succ k => unfold ki_setL; rw [ih k (Nat.lt_of_succ_lt_succ h)]; rfl
    exact this vs k.toNat (by omega)
  exact ki_set F N h0 (by omega) (by simpa using e) (upd_of U) h
theorem append_L {D : Addr} {v : Value} {gN : Obj → Ldg} (F : Fr h₀ L s.heap m) (N : News h₀ L s.heap news) (U : UpdF D (lstOf vs ep) news gN) (hz : vs.length ≤ 1000)
    (h : ∀ h', Fr h₀ L h' m → News h₀ L h' (gN (lstOf (vs ++ [v]) (ep + 1))) → Q .none { s with heap := h' }) : wpAny (model prog w) A (call (.builtin "list.append") [.ref D, v]) Q E s := by
  refine append_K (its := vs.toArray) (n := ep) F N (news' := gN (lstOf (vs ++ [v]) (ep + 1))) ?_ h (Nat.le_trans (by simpa using hz) (by decide))
  have := upd_of (o' := lstOf (vs ++ [v]) (ep + 1)) U
  rw [List.push_toArray]
  exact this
theorem list_of_L {b : Addr} (F : Fr h₀ L s.heap m) (N : News h₀ L s.heap news) (hb : (b, lstOf vs ep) ∈ news) (hz : vs.length ≤ 1000)
    (h : ∀ D c h', Fr h₀ L h' m → News h₀ L h' ((D, lstOf vs c) :: news) → (∀ p ∈ news, p.1 < D) → Q (.ref D) { s with heap := h' }) : wpAny (model prog w) A (call (.type "list") [.ref b]) Q E s :=
  kup_listOf (its2 := vs.toArray) (n2 := ep) F N hb (show vs.toArray.toList = vs from rfl) h (Nat.le_trans (by simpa using hz) (by decide))
theorem ne_str_same {x : PStr} {t u : Tok} (h : Q (.bool false) s) : wpAny (model prog w) A (compareOp .NotEq (.str x t) (.str x u)) Q E s := PyProof.Rows.ne_str (by rw [bne_self_eq_false]; exact h)
/-- texts -/
theorem strs_at : ∀ {vs : List Value} {xs : List PStr}, StrsAre vs xs → ∀ (j : Nat) (h : j < vs.length), ∃ t, vs[j] = .str (xs.getD j PySem.Str.empty) t
  | _, _, .cons _ t r, 0, _ => ⟨t, rfl⟩
  | _, _, .cons _ t r, j + 1, h => strs_at r j (Nat.lt_of_succ_lt_succ h)
theorem all_getD : ∀ (xs ys : List PStr), xs.length = ys.length → (List.range xs.length).all (fun j => xs.getD j PySem.Str.empty == ys.getD j PySem.Str.empty) = decide (xs = ys) := by
  intro xs ys hl
  rw [Bool.eq_iff_iff, List.all_eq_true, decide_eq_true_iff]
  constructor
  · intro h
    apply List.ext_getElem hl
    intro j h1 h2
    have := h j (List.mem_range.mpr h1)
    rw [List.getD_eq_getElem?_getD, List.getD_eq_getElem?_getD, List.getElem?_eq_getElem h1, List.getElem?_eq_getElem h2] at this
    exact eq_of_beq this
  · rintro rfl j _
    exact beq_self_eq_true _
theorem ne_strs_L {x y : Addr} {ws : List Value} {xs ys : List PStr} {e2 : Nat} (N : News h₀ L s.heap news) (hx : (x, lstOf vs ep) ∈ news) (hy : (y, lstOf ws e2) ∈ news) (h1 : StrsAre vs xs) (h2 : StrsAre ws ys) (hu : A.units + 64 < cLine)
    (h : Q (.bool (!decide (xs = ys))) s) : wpAny (model prog w) A (compareOp .NotEq (.ref x) (.ref y)) Q E s := by
  have l1 := h1.len_eq
  have l2 := h2.len_eq
  by_cases hl : xs.length = ys.length
  · refine PySem.SeqAt.RcNeAt.lists (e := fun j => xs.getD j PySem.Str.empty == ys.getD j PySem.Str.empty) (News.isList N hx) (News.isList N hy) (by simp; omega) (by omega) (fun j j1 j2 => ?_) prog w E Q ?_
    · obtain ⟨t, e1⟩ := strs_at h1 j (by simpa using j1)
      obtain ⟨u, e2⟩ := strs_at h2 j (by simpa using j2)
      simp only [List.getElem_toArray, e1, e2]
      exact PySem.SeqAt.EqAt.str_str _ _ _ _
    · have : vs.toArray.size = xs.length := by simp; omega
      rw [this, all_getD xs ys hl]
      exact h
  · refine PySem.SeqAt.RcNeAt.lists_lengths (News.isList N hx) (News.isList N hy) (by simp; omega) (by omega) prog w E Q ?_
    have : (!decide (xs = ys)) = true := by
      simp only [Bool.not_eq_true', decide_eq_false_iff_not]
      exact fun e => hl (by rw [e])
    rw [this] at h
    exact h
theorem ne_strs_same {x y : Addr} {e2 : Nat} {xs : List PStr} (N : News h₀ L s.heap news) (hx : (x, lstOf vs ep) ∈ news) (hy : (y, lstOf vs e2) ∈ news) (h1 : StrsAre vs xs) (hu : A.units + 64 < cLine)
    (h : Q (.bool false) s) : wpAny (model prog w) A (compareOp .NotEq (.ref x) (.ref y)) Q E s := by
  exact ne_strs_L N hx hy h1 h1 hu (by rw [decide_eq_true rfl]; exact h)
theorem last_L {l : Addr} {k : Int} {u : Tok} {v : Value} {value slice : PySem.Expr} (N : News h₀ L s.heap news) (hm : (l, lstOf (vs ++ [v]) ep) ∈ news) (hk : k = -1) (hz : vs.length ≤ 1000) (h : Q v s)
    (hs : subscripted slice false (.ref l) (.int k u) = operate [.ref l, .int k u] (getItem (.ref l) (.int k u)) := by with_unfolding_all rfl) :
    wpAny (model prog w) A (subscriptTail value slice (.ref l) (.int k u)) Q E s := by
  subst hk
  exact kde_neg (j := vs.length) (News.isList N hm) (by decide) (by decide) (by rw [StrLaws.seqIndex_neg (by decide) (by rw [List.length_append]; simp only [List.length_cons, List.length_nil]; omega), List.length_append]; simp only [List.length_cons, List.length_nil]; exact congrArg some (by omega)) (by simp) h hs
theorem two_pow4 : ∀ k : Nat, k ≤ 4 → ((2 : Int) ^ ((k : Int)).toNat - 1).toNat = 2 ^ k - 1 ∧ 0 ≤ (2 : Int) ^ ((k : Int)).toNat - 1 ∧ (2 : Int) ^ ((k : Int)).toNat - 1 < 2 ^ 63 := by
  intro k hk
  rcases k with _ | _ | _ | _ | _ | k
  all_goals first | decide | omega
theorem idx_ext {D d : Addr} {t u tk : Tok} {x y : Addr × Obj} {sz : Nat} {value slice : PySem.Expr} {fvs : List Value} (N : News h₀ L s.heap ((D, lstOf (fvs ++ [.ref d]) 0) :: x :: (d, lstOf [.int 1 t, .int 0 u] 0) :: y :: news)) (hP : PairsAre news fvs fs) (hsz : sz ≤ 4) (hix : 2 ^ sz - 1 ≤ fs.length)
    (h : ∀ r t' u' e, (r, lstOf [.int ((fs ++ [(1, 0)]).getD (2 ^ sz - 1) (0, 0)).1 t', .int ((fs ++ [(1, 0)]).getD (2 ^ sz - 1) (0, 0)).2 u'] e) ∈ (D, lstOf (fvs ++ [.ref d]) 0) :: x :: (d, lstOf [.int 1 t, .int 0 u] 0) :: y :: news → Q (.ref r) s)
    (hs : subscripted slice false (.ref D) (.int (2 ^ ((sz : Int)).toNat - 1) tk) = operate [.ref D, .int (2 ^ ((sz : Int)).toNat - 1) tk] (getItem (.ref D) (.int (2 ^ ((sz : Int)).toNat - 1) tk)) := by with_unfolding_all rfl) (hg : ∀ r, letTemporaryGo value (.ref D) r = pure () := by intro _; with_unfolding_all rfl) :
    wpAny (model prog w) A (subscriptTail value slice (.ref D) (.int (2 ^ ((sz : Int)).toNat - 1) tk)) Q E s := by
  have hP2 : PairsAre ((D, lstOf (fvs ++ [.ref d]) 0) :: x :: (d, lstOf [.int 1 t, .int 0 u] 0) :: y :: news) (fvs ++ [.ref d]) (fs ++ [(1, 0)]) :=
    (hP.mono (fun p hp => .tail _ (.tail _ (.tail _ (.tail _ hp))))).append (.cons (.tail _ (.tail _ (.head _))) .nil)
  have hlt : 2 ^ sz - 1 < (fs ++ [(1, 0)]).length := by rw [List.length_append]; exact Nat.lt_succ_of_le hix
  obtain ⟨r, t', u', e, h1, h2⟩ := hP2.at (2 ^ sz - 1) hlt
  obtain ⟨e1, e2, e3⟩ := two_pow4 sz hsz
  have hq := h r t' u' e (by rw [List.getD_eq_getElem?_getD, List.getElem?_eq_getElem hlt]; exact h2)
  exact item_listL (News.isList N (.head _)) e2 e3 (by rw [e1]; exact h1) hq hs hg
theorem ne_ints_same {x y : Addr} {e2 : Nat} {ns : List Int} (N : News h₀ L s.heap news) (hx : (x, lstOf vs ep) ∈ news) (hy : (y, lstOf vs e2) ∈ news) (h1 : IntsAre vs ns) (hu : A.units + 64 < cLine)
    (h : Q (.bool false) s) : wpAny (model prog w) A (compareOp .NotEq (.ref x) (.ref y)) Q E s :=
  ke_ne_ints (News.isList N hx) (News.isList N hy) h1 h1 hu (by rw [decide_eq_true rfl]; exact h)
theorem insert_L {D : Addr} {x : Int} {u : Tok} {y : Value} {gN : Obj → Ldg} (F : Fr h₀ L s.heap m) (N : News h₀ L s.heap news) (U : UpdF D (lstOf vs ep) news gN) (h0 : 0 ≤ x) (hx : x ≤ 1000) (hz : vs.length ≤ 1000)
    (h : ∀ h', Fr h₀ L h' m → News h₀ L h' (gN (lstOf (kl_ins vs x y) (ep + 1))) → Q .none { s with heap := h' }) : wpAny (model prog w) A (call (.builtin "list.insert") [.ref D, .int x u, y]) Q E s :=
  kl_insert (its := vs.toArray) (n := ep) F N (by unfold Builtin.List.listFitsIndex; simp only [Bool.and_eq_true, decide_eq_true_eq]; omega) rfl (upd_of U) (Nat.le_trans (by simpa using hz) (by decide)) h
theorem or_one_C {M : Model} {env : Env} {x : PySem.Expr} {Q : Bool → Shared → Prop} (h : wpAny M A (isTrue x env (eval x env)) Q E s) : wpC M A (allTrue .Or [x] env) Q E s :=
  or_C (wpC_any (wpAny_mono h (fun b s' hb => by
    cases b with
    | true => exact hb
    | false =>
      show wpC M A (allTrue .Or [] env) Q E s'
      exact wpC_pure hb) fun _ _ y => y))
end
end Mine
end
section
open PySem PySem.W PyProof.Rows PySem.Spec PySem.Calls
set_option Elab.async false
set_option maxRecDepth 100000
set_option maxHeartbeats 8000000
set_option linter.all false
namespace Mine
local macro_rules | `(tactic| walk_at $s:str) => `(tactic| k_extra $s)
local macro_rules | `(tactic| omega) => `(tactic| first
  | with_reducible assumption
  | (refine' room1 ?rmh ?rme; (case rmh => with_reducible assumption); (case rme => with_unfolding_all rfl))
  | (refine' room0 ?rmh ?rme; (case rmh => with_reducible assumption); (case rme => with_unfolding_all rfl))
  | (refine' room2 ?rmh ?rme; (case rmh => with_reducible assumption); (case rme => with_unfolding_all rfl))
  | (refine' room00 ?rmh; (case rmh => with_reducible assumption))
  | (refine num_le ?rme; (case rme => with_unfolding_all rfl))
  | (refine num_lt ?rme; (case rme => with_unfolding_all rfl))
  | (refine' le_num ?rmh ?rme; (case rmh => with_reducible assumption); (case rme => with_unfolding_all rfl))
  | (refine' eq_num ?rmh ?rme; (case rmh => with_reducible assumption); (case rme => with_unfolding_all rfl))
  | omega (config := {}))
theorem lines_A3_0 : True := by
  k_with_none
  k_with "execs cons" => ((refine f_execs ?_; intro qk))
  k_with "eval BinOp" => ((refine f_BinOp ?_; intro qk))
  k_with "exec Assign" => ((refine f_Assign ?_; intro qk))
  k_with "eval Subscript" => ((refine f_Subscript ?_; intro qk))
  k_with "isTrue Compare" => ((refine f_Compare ?_; intro qk))
  k_with "exec If" => ((refine f_If ?_; intro qk))
  k_with "eval Call" => (((fail_if_success (with_reducible show wpAny _ _ (eval (Expr.Call (Expr.Attribute _ _ _) _ _ _) _) _ _ _)); refine f_Call ?_; intro qk))
  k_with "spliced" => ((refine f_args ?_; intro qk))
  k_with "callWith" => ((refine f_method1 ?_; intro qk))
  k_with "exec Return some" => ((refine f_Return ?_; intro qk))
  k_with "eval Tuple" => ((refine f_Tuple ?_; intro qk))
  k_with "eval List" => ((refine f_List ?_; intro qk))
  k_with "eval IfExp" => ((refine f_IfExp ?_; intro qk))
  k_with "storeName" => ((k_here; k_dflt (refine' f_store ?F ?N ?_ ?a ?b; (case F => k_asm); (case N => k_asm); (case a => rfl); (case b => rfl); k_whole; intro m' h' F' N'; (try k_sweep))))
  k_with "M map1" => (first
    | (refine map_same ?_; with_unfolding_all rfl)
    | ((repeat' (refine List.forall_mem_cons.mpr (And.intro ?_ ?_))); (all_goals first | rfl | exact List.forall_mem_nil _)))
  k_with "M map2" => (first
    | (refine SameOut.both (b := fun _ => none) ?_ ?_ <;> (repeat (refine SameOut.upd ?_ (by with_unfolding_all rfl))) <;> exact SameOut.lookup rfl)
    | (refine' SameOut.both (b := ?kb) ?k1 ?k2; (case k1 => ((repeat (refine SameOut.upd ?_ (by with_unfolding_all rfl))); exact SameOut.refl)); (case k2 => ((repeat (refine SameOut.upd ?_ (by with_unfolding_all rfl))); exact SameOut.refl)))
    | (refine' SameOut.both (b := ?kb) ?k1 ?k2; (case k2 => ((repeat (refine SameOut.upd ?_ (by with_unfolding_all rfl))); exact SameOut.refl)); (case k1 => ((repeat (refine SameOut.skip ?_)); (repeat (refine SameOut.upd ?_ (by with_unfolding_all rfl))); exact SameOut.refl)))
    | (intro y hy; (repeat (refine (if_neg (ne_of_out hy (by with_unfolding_all rfl))).trans ?_)); (refine Eq.symm ?_); (repeat (refine (if_neg (ne_of_out hy (by with_unfolding_all rfl))).trans ?_)); first | rfl | exact lookup_out rfl hy | exact (lookup_out rfl hy).symm | exact (lookup_out rfl hy).trans (lookup_out rfl hy).symm))
  k_with "M fill" => ((
    have kk : PySem.Challenge.rw_pm0034_03 = PySem.Challenge.rw_pm0034_03 ∧ KK.heap_1 = KK.heap_1 := ⟨rfl, rfl⟩
    revert kk
    k_fill
    intro kk
    clear kk))
  k_with "M enter" => ((
    refine wpAny_call ?_
    k_dflt (refine' code_def ?k1 ?k2 ?k3 ?k4 ?k5 ?kA ?kF ?kK ?k6 ?k7 ?k8 ?k9 ?kB ?_ ?c2 ?c3 ?c4 ?c5; (case kA => exact rfl); (case kF => exact rfl); (case kK => assumption); (case k1 => k_asm); (case k2 => k_asm); (case k3 => k_asm); (case k4 => k_asm); (case k5 => k_asm); (case k6 => k_is); (case k7 => k_is); (case k8 => ((try dsimp only); omega)); (case k9 => first | exact BindsTo.of_eq rfl | (refine' kp_binds ?kx ?ke; (case kx => first | (refine' myIn ?kf ?ki; (case kf => with_reducible assumption); (case ki => with_reducible assumption)) | k_in); (case ke => exact fun _ => rfl)) | exact binds_K (by first | (refine' myIn ?kf ?ki; (case kf => with_reducible assumption); (case ki => with_reducible assumption)) | k_in) rfl (by k_is) rfl rfl rfl); (case c5 => decide); (case kB => exact locs rfl); (case c2 => exact rfl); (case c3 => exact rfl); (case c4 => exact rfl); k_whole; intro g' L' h' FG' F' N' B' X' T'; (have D' := kts_dict B' (by assumption) FG' rfl); (try dsimp only); (try k_lift B'); (refine let_AE (f := execs _) ?_; intro vk ak); (refine f_QE ?_; intro qk ek))))
  k_with "M enter0" => ((
    refine wpAny_call ?_
    k_dflt (refine' code_defS0X ?k1 ?k2 ?k3 ?k4 ?k5 ?kA ?kF ?kK ?k6 ?k7 ?k8 ?k9 ?kB ?_ ?c2 ?c3 ?c4 ?c5; (case kA => exact rfl); (case kF => exact rfl); (case kK => assumption); (case k1 => k_asm); (case k2 => k_asm); (case k3 => k_asm); (case k4 => k_asm); (case k5 => k_asm); (case k6 => k_is); (case k7 => k_is); (case k8 => ((try dsimp only); omega)); (case k9 => first | exact BindsTo.of_eq rfl | (refine' kp_binds ?kx ?ke; (case kx => first | (refine' myIn ?kf ?ki; (case kf => with_reducible assumption); (case ki => with_reducible assumption)) | k_in); (case ke => exact fun _ => rfl)) | exact binds_K (by first | (refine' myIn ?kf ?ki; (case kf => with_reducible assumption); (case ki => with_reducible assumption)) | k_in) rfl (by k_is) rfl rfl rfl); (case c5 => decide); (case kB => exact locs rfl); (case c2 => exact rfl); (case c3 => exact rfl); (case c4 => exact rfl); k_whole; intro g' L' h' FG' F' N' B' X' T' D'; (try dsimp only); (try k_lift B'); (refine let_AE (f := execs _) ?_; intro vk ak); (refine f_QE ?_; intro qk ek))))
  trivial
local macro_rules | `(tactic| k_mem) => `(tactic| first | with_reducible assumption | (refine mem_in ?_; with_reducible assumption))
theorem lines_A3_1 : True := by
  k_with "subscriptTail Name Constant ref int" => ((k_here; refine item_tupleT (News.isTup (by assumption) (by k_mem)) (by decide) (by decide) (by rfl) (by rfl) ?_))
  k_with "subscriptTail Name Constant ref int" => ((k_here; (with_reducible rename StrsAre _ _ => hSA); refine item_strsA (News.isList (by assumption) (by k_mem)) hSA (by decide) (by first | omega | (simp only [List.length_map]; omega)) (by decide) ?_; intro t'))
  k_with "call type:ValueError" => ((refine call_ValueError_made ?_; intro _ _ _))
  k_with "exec While Compare Name cons nil" => (refine Hold.mk ?_)
  k_with "exec While Compare" => (refine Hold.mk ?_)
  k_with "exec While Compare cons nil" => (refine Hold.mk ?_)
  k_with "exec While" => (refine Hold.mk ?_)
  k_with "binaryOp FloorDiv int int" => ((k_here; (with_reducible refine floordiv_pos ?kb1 ?kb2 ?_); (case kb1 => decide); (case kb2 => decide +kernel)))
  k_with "WhlIf" => ((refine whlIf_dec ?_ ?_ <;> intro _))
  k_with "subscriptTail Name Name ref int" => ((k_here; first
    | ((with_reducible rename StrsAre _ _ => hSA); refine item_strsA (News.isList (by assumption) (by k_mem)) hSA (by omega) (by omega) (by omega) ?_; intro t')
    | ((with_reducible rename IntsAre _ _ => hSA); refine item_intsA (News.isList (by assumption) (by k_mem)) hSA (by omega) (by omega) (by omega) ?_; intro t')))
  k_with "call builtin:len" => ((k_here; (with_reducible show wpAny _ _ (call (Value.builtin "len") [Value.ref _]) _ _ _); first
    | ((with_reducible rename StrsAre _ _ => hSA); refine len_strsA (News.isList (by assumption) (by k_mem)) hSA (by omega) ?_)
    | ((with_reducible rename IntsAre _ _ => hSA); refine len_intsA (News.isList (by assumption) (by k_mem)) hSA (by omega) ?_)))
  trivial
def clsOf : EK → Value
  | .reply => .ref 73
  | .proto => .ref 85
  | .value => .type "ValueError"
section
variable {w : World} {p : Program} {loose : List PStr} {mean : ExcName → Option Value} {mg mb : PStr → Option Value}
    {dp un : Nat} {gd : Option (List Code)} {cn : PStr} {cs : Scope} {a : Addr} {ccd : Value} {cl : List (PStr × Addr)} {outer : List Env} {A₀ : Around} {base h₀ : Heap} {L : Addr} {m : PStr → Option Value}
    {s : Shared} {Q E : Value → Shared → Prop} {news : Ldg}
    (B : Below A₀ base outer h₀) (X : (KK.heap_1 w.params).In h₀) (T : Top p loose mean mg mb h₀) (XB : (KK.heap_1 w.params).In base) (TB : Top p loose mean mg mb base) (D : KtsDicts (outer.filterMap (·.frame)) h₀) (hck : cs.kind = .function)
include B X T XB TB D hck
omit B X T XB TB D hck in
theorem ex_news {g h : Heap} {L ra : Addr} {x : Value} {n : Int} {t : Tok} {news : Ldg} (N : News g L h ((ra, { cls := Value.type "tuple", data := Data.seq #[x, .int n t] }) :: news)) : ∃ t, News g L h ((ra, tupOf [x, .int n t]) :: news) := ⟨t, N⟩
theorem parse229_spec {r hs : PStr} {t1 t2 t3 : Tok} {i : Int} {pa : Addr} (hd5 : dp + 5 < recursionLimit) (hu5 : un + 50 < cLine) (F : Fr h₀ L s.heap m) (N : News h₀ L s.heap news)
   (h640' : r.length ≤ 640) (hpa : (pa, tupOf [.str hs t2, .int i t3]) ∈ news) (hv : ∀ msg, p229 r ≠ .error (.value, msg))
   (hret : ∀ n ra t h' tk, p229 r = .ok n → Fr h₀ L h' m → News h₀ L h' ((ra, tupOf [.str hs t2, .int n t]) :: news) → (∀ p ∈ news, p.1 < ra) → Q (.ref ra) { s with heap := h', toks := tk })
   (hexc : ∀ k g₂ e t h' tk, p229 r = .error (k, r) → Fr h₀ L g₂ m → RaisedS base g₂ (envX cn cs L a ccd cl :: outer) e (clsOf k) t [.str r t1] news h' → RaisedK base (envX cn cs L a ccd cl :: outer) e (clsOf k) t [.str r t1] news h' → g₂.UpToSlots h' → E (.ref e) { s with heap := h', toks := tk }) :
   wpAny (model PySem.Challenge.rw_pm0034_03.row.prog w) (ktrTop dp un gd cn cs L a ccd cl outer) (call (.ref 94) [.str r t1, .ref pa]) Q E s := by
  have kk : PySem.Challenge.rw_pm0034_03 = PySem.Challenge.rw_pm0034_03 ∧ KK.heap_1 = KK.heap_1 := ⟨rfl, rfl⟩
  revert kk
  k_fill
  intro kk
  clear kk
  have hr : r.length ≤ 200000 := Nat.le_trans h640' (by decide)
  have h640 := Nat.le_trans (p229in_len r) h640'
  have f1 := fact_open r
  have f2 := fact_close r (Txt.find r (PySem.Str.ofString "(") + 1) (by omega)
  walk_at "M enter"
  k_steps
  all_goals (try (
    (show E _ _)
    first
      | exact hexc .reply _ _ _ _ _ (p229_code (by assumption)) (by assumption) (by assumption) (by assumption) (by assumption)
      | exact hexc .proto _ _ _ _ _ (p229_open (by assumption) (by assumption)) (by assumption) (by assumption) (by assumption) (by assumption)
      | exact hexc .proto _ _ _ _ _ (p229_close (by assumption) (by assumption) (by assumption)) (by assumption) (by assumption) (by assumption) (by assumption)
      | exact hexc .proto _ _ _ _ _ (p229_sep (by assumption) (by assumption) (by assumption) (by assumption)) (by assumption) (by assumption) (by assumption) (by assumption)
      | exact hexc .proto _ _ _ _ _ (p229_five (by assumption) (by assumption) (by assumption) (by assumption) (by assumption) (by assumption)) (by assumption) (raisedS_sub (by assumption) sub_tail) (raisedK_sub (by assumption) sub_tail) (by assumption)))
  have hlast := p229_last (by assumption : (Txt.slice r none (some 3) != PySem.Str.ofString "229") = false) (by assumption) (by assumption) (by assumption) (by assumption) (by assumption)
  refine call_int_reads (Nat.le_trans (getD_len (by assumption)) h640) (fun e => hv _ (hlast.trans (by rw [e]))) fun n hn => ?_
  simp only [hn] at hlast
  k_steps
  (with_reducible rename (_ ∧ AllLt _ _) => hlt)
  (with_reducible rename News _ _ _ (_ :: _ :: _) => kN)
  (with_reducible rename Fr _ _ _ _ => kF)
  have kN2 := news_d2 kN
  have hz := ktn_ltOf hlt.2
  clear kN
  dsimp only at kF kN2
  have h3 := ex_news kN2
  clear kN2
  obtain ⟨t, h3⟩ := h3
  refine hret n _ t _ _ hlast kF h3 hz
end
end Mine
end
section
open PySem PySem.W PyProof.Rows PySem.Spec PySem.Calls
set_option Elab.async false
set_option maxRecDepth 100000
set_option maxHeartbeats 8000000
set_option linter.all false
namespace Mine
local macro_rules | `(tactic| walk_at "M nothing") => `(tactic| skip)
local macro_rules | `(tactic| walk_at $s:str) => `(tactic| k_extra $s)
local macro_rules | `(tactic| omega) => `(tactic| first
  | with_reducible assumption
  | (refine' room1 ?rmh ?rme; (case rmh => with_reducible assumption); (case rme => with_unfolding_all rfl))
  | (refine' room0 ?rmh ?rme; (case rmh => with_reducible assumption); (case rme => with_unfolding_all rfl))
  | (refine' room2 ?rmh ?rme; (case rmh => with_reducible assumption); (case rme => with_unfolding_all rfl))
  | (refine' room00 ?rmh; (case rmh => with_reducible assumption))
  | (refine num_le ?rme; (case rme => with_unfolding_all rfl))
  | (refine num_lt ?rme; (case rme => with_unfolding_all rfl))
  | (refine' le_num ?rmh ?rme; (case rmh => with_reducible assumption); (case rme => with_unfolding_all rfl))
  | (refine' eq_num ?rmh ?rme; (case rmh => with_reducible assumption); (case rme => with_unfolding_all rfl))
  | omega (config := {}))
theorem lines_B3_0 : True := by
  k_with_none
  k_with "execs cons" => ((refine f_execs ?_; intro qk))
  k_with "eval BinOp" => ((refine f_BinOp ?_; intro qk))
  k_with "exec Assign" => ((refine f_Assign ?_; intro qk))
  k_with "eval Subscript" => ((refine f_Subscript ?_; intro qk))
  k_with "isTrue Compare" => ((refine f_Compare ?_; intro qk))
  k_with "exec If" => ((refine f_If ?_; intro qk))
  k_with "eval Call" => (((fail_if_success (with_reducible show wpAny _ _ (eval (Expr.Call (Expr.Attribute _ _ _) _ _ _) _) _ _ _)); refine f_Call ?_; intro qk))
  k_with "spliced" => ((refine f_args ?_; intro qk))
  k_with "callWith" => ((refine f_method1 ?_; intro qk))
  k_with "exec Return some" => ((refine f_Return ?_; intro qk))
  k_with "eval Tuple" => ((refine f_Tuple ?_; intro qk))
  k_with "eval List" => ((refine f_List ?_; intro qk))
  k_with "eval IfExp" => ((refine f_IfExp ?_; intro qk))
  k_with "storeName" => ((k_here; k_dflt (refine' f_store ?F ?N ?_ ?a ?b; (case F => k_asm); (case N => k_asm); (case a => rfl); (case b => rfl); k_whole; intro m' h' F' N'; (try k_sweep))))
  k_with "M map1" => (first
    | (refine map_same ?_; with_unfolding_all rfl)
    | ((repeat' (refine List.forall_mem_cons.mpr (And.intro ?_ ?_))); (all_goals first | rfl | exact List.forall_mem_nil _)))
  k_with "M map2" => (first
    | (refine SameOut.both (b := fun _ => none) ?_ ?_ <;> (repeat (refine SameOut.upd ?_ (by with_unfolding_all rfl))) <;> exact SameOut.lookup rfl)
    | (refine' SameOut.both (b := ?kb) ?k1 ?k2; (case k1 => ((repeat (refine SameOut.upd ?_ (by with_unfolding_all rfl))); exact SameOut.refl)); (case k2 => ((repeat (refine SameOut.upd ?_ (by with_unfolding_all rfl))); exact SameOut.refl)))
    | (refine' SameOut.both (b := ?kb) ?k1 ?k2; (case k2 => ((repeat (refine SameOut.upd ?_ (by with_unfolding_all rfl))); exact SameOut.refl)); (case k1 => ((repeat (refine SameOut.skip ?_)); (repeat (refine SameOut.upd ?_ (by with_unfolding_all rfl))); exact SameOut.refl)))
    | (intro y hy; (repeat (refine (if_neg (ne_of_out hy (by with_unfolding_all rfl))).trans ?_)); (refine Eq.symm ?_); (repeat (refine (if_neg (ne_of_out hy (by with_unfolding_all rfl))).trans ?_)); first | rfl | exact lookup_out rfl hy | exact (lookup_out rfl hy).symm | exact (lookup_out rfl hy).trans (lookup_out rfl hy).symm))
  k_with "M fill" => ((
    have kk : PySem.Challenge.rw_pm0034_03 = PySem.Challenge.rw_pm0034_03 ∧ KK.heap_1 = KK.heap_1 := ⟨rfl, rfl⟩
    revert kk
    k_fill
    intro kk
    clear kk))
  k_with "M enter" => ((
    refine wpAny_call ?_
    k_dflt (refine' code_def ?k1 ?k2 ?k3 ?k4 ?k5 ?kA ?kF ?kK ?k6 ?k7 ?k8 ?k9 ?kB ?_ ?c2 ?c3 ?c4 ?c5; (case kA => exact rfl); (case kF => exact rfl); (case kK => assumption); (case k1 => k_asm); (case k2 => k_asm); (case k3 => k_asm); (case k4 => k_asm); (case k5 => k_asm); (case k6 => k_is); (case k7 => k_is); (case k8 => ((try dsimp only); omega)); (case k9 => first | exact BindsTo.of_eq rfl | (refine' kp_binds ?kx ?ke; (case kx => first | (refine' myIn ?kf ?ki; (case kf => with_reducible assumption); (case ki => with_reducible assumption)) | k_in); (case ke => exact fun _ => rfl)) | exact binds_K (by first | (refine' myIn ?kf ?ki; (case kf => with_reducible assumption); (case ki => with_reducible assumption)) | k_in) rfl (by k_is) rfl rfl rfl); (case c5 => decide); (case kB => exact locs rfl); (case c2 => exact rfl); (case c3 => exact rfl); (case c4 => exact rfl); k_whole; intro g' L' h' FG' F' N' B' X' T'; (have D' := kts_dict B' (by assumption) FG' rfl); (try dsimp only); (try k_lift B'); (refine let_AE (f := execs _) ?_; intro vk ak); (refine f_QE ?_; intro qk ek))))
  k_with "M enter0" => ((
    refine wpAny_call ?_
    k_dflt (refine' code_defS0X ?k1 ?k2 ?k3 ?k4 ?k5 ?kA ?kF ?kK ?k6 ?k7 ?k8 ?k9 ?kB ?_ ?c2 ?c3 ?c4 ?c5; (case kA => exact rfl); (case kF => exact rfl); (case kK => assumption); (case k1 => k_asm); (case k2 => k_asm); (case k3 => k_asm); (case k4 => k_asm); (case k5 => k_asm); (case k6 => k_is); (case k7 => k_is); (case k8 => ((try dsimp only); omega)); (case k9 => first | exact BindsTo.of_eq rfl | (refine' kp_binds ?kx ?ke; (case kx => first | (refine' myIn ?kf ?ki; (case kf => with_reducible assumption); (case ki => with_reducible assumption)) | k_in); (case ke => exact fun _ => rfl)) | exact binds_K (by first | (refine' myIn ?kf ?ki; (case kf => with_reducible assumption); (case ki => with_reducible assumption)) | k_in) rfl (by k_is) rfl rfl rfl); (case c5 => decide); (case kB => exact locs rfl); (case c2 => exact rfl); (case c3 => exact rfl); (case c4 => exact rfl); k_whole; intro g' L' h' FG' F' N' B' X' T' D'; (try dsimp only); (try k_lift B'); (refine let_AE (f := execs _) ?_; intro vk ak); (refine f_QE ?_; intro qk ek))))
  trivial
local macro_rules | `(tactic| k_mem) => `(tactic| first | with_reducible assumption | (refine mem_in ?_; with_reducible assumption))
theorem lines_B3_1 : True := by
  k_with "subscriptTail Name Constant ref int" => ((k_here; refine item_tupleT (News.isTup (by assumption) (by k_mem)) (by decide) (by decide) (by rfl) (by rfl) ?_))
  k_with "subscriptTail Name Constant ref int" => ((k_here; (with_reducible rename StrsAre _ _ => hSA); refine item_strsA (News.isList (by assumption) (by k_mem)) hSA (by decide) (by first | omega | (simp only [List.length_map]; omega)) (by decide) ?_; intro t'))
  k_with "call type:ValueError" => ((refine call_ValueError_made ?_; intro _ _ _))
  k_with "exec While Compare Name cons nil" => (refine Hold.mk ?_)
  k_with "exec While Compare" => (refine Hold.mk ?_)
  k_with "exec While Compare cons nil" => (refine Hold.mk ?_)
  k_with "exec While" => (refine Hold.mk ?_)
  k_with "binaryOp FloorDiv int int" => ((k_here; (with_reducible refine floordiv_pos ?kb1 ?kb2 ?_); (case kb1 => decide); (case kb2 => decide +kernel)))
  k_with "WhlIf" => ((refine whlIf_dec ?_ ?_ <;> intro _))
  k_with "subscriptTail Name Name ref int" => ((k_here; first
    | ((with_reducible rename StrsAre _ _ => hSA); refine item_strsA (News.isList (by assumption) (by k_mem)) hSA (by omega) (by omega) (by omega) ?_; intro t')
    | ((with_reducible rename IntsAre _ _ => hSA); refine item_intsA (News.isList (by assumption) (by k_mem)) hSA (by omega) (by omega) (by omega) ?_; intro t')))
  k_with "call builtin:len" => ((k_here; (with_reducible show wpAny _ _ (call (Value.builtin "len") [Value.ref _]) _ _ _); first
    | ((with_reducible rename StrsAre _ _ => hSA); refine len_strsA (News.isList (by assumption) (by k_mem)) hSA (by omega) ?_)
    | ((with_reducible rename IntsAre _ _ => hSA); refine len_intsA (News.isList (by assumption) (by k_mem)) hSA (by omega) ?_)))
  k_with "call ref" => (((with_reducible show wpAny _ _ (call (Value.ref 94) _) _ _ _); refine' parse229_spec ?kB ?kX ?kT ?kXB ?kTB ?kD ?kh ?kd ?ku ?kF ?kN ?k6 ?kp ?kv ?_ ?_; (case kB => assumption); (case kX => assumption); (case kT => assumption); (case kXB => assumption); (case kTB => assumption); (case kD => assumption); (case kh => rfl); (case kd => ((try dsimp only); omega)); (case ku => ((try dsimp only); omega)); (case kF => with_reducible assumption); (case kN => with_reducible assumption); (case k6 => assumption); (case kp => first | exact .head _ | with_reducible assumption); (case kv => assumption)))
  trivial
section
variable {w : World} {p : Program} {loose : List PStr} {mean : ExcName → Option Value} {mg mb : PStr → Option Value}
    {dp un : Nat} {gd : Option (List Code)} {cn : PStr} {cs : Scope} {a : Addr} {ccd : Value} {cl : List (PStr × Addr)} {outer : List Env} {A₀ : Around} {base h₀ : Heap} {L : Addr} {m : PStr → Option Value}
    {s : Shared} {Q E : Value → Shared → Prop} {news : Ldg}
    (B : Below A₀ base outer h₀) (X : (KK.heap_1 w.params).In h₀) (T : Top p loose mean mg mb h₀) (XB : (KK.heap_1 w.params).In base) (TB : Top p loose mean mg mb base) (D : KtsDicts (outer.filterMap (·.frame)) h₀) (hck : cs.kind = .function)
include B X T XB TB D hck

theorem port_spec {r : PStr} {t1 : Tok} (hd5 : dp + 10 < recursionLimit) (hu5 : un + 60 < cLine) (F : Fr h₀ L s.heap m) (N : News h₀ L s.heap news)
   (h640 : r.length ≤ 640) (hv : ∀ msg, p229 r ≠ .error (.value, msg))
   (hret : ∀ n t h' tk, p229 r = .ok n → Fr h₀ L h' m → News h₀ L h' news → Q (.int n t) { s with heap := h', toks := tk })
   (hexc : ∀ k g₂ e t h' tk, p229 r = .error (k, r) → Fr h₀ L g₂ m → RaisedS base g₂ (envX cn cs L a ccd cl :: outer) e (clsOf k) t [.str r t1] news h' → RaisedK base (envX cn cs L a ccd cl :: outer) e (clsOf k) t [.str r t1] news h' → g₂.UpToSlots h' → E (.ref e) { s with heap := h', toks := tk }) :
   wpAny (model PySem.Challenge.rw_pm0034_03.row.prog w) (ktrTop dp un gd cn cs L a ccd cl outer) (call (.ref 108) [.str r t1]) Q E s := by
  walk_at "M fill"
  walk_at "M enter"
  k_steps
  · (show Q _ _)
    exact hret _ _ _ _ (by assumption) (by assumption) (news_drop2 (by assumption))
  · (show E _ _)
    exact hexc _ _ _ _ _ _ (by assumption) (by assumption) (raisedS_sub (by assumption) sub_tail) (raisedK_sub (by assumption) sub_tail) (by assumption)
end
end Mine
end
section
open PySem PySem.W PyProof.Rows PySem.Spec PySem.Calls
set_option Elab.async false
set_option maxRecDepth 100000
set_option maxHeartbeats 8000000
set_option linter.all false
namespace Mine
local macro_rules | `(tactic| walk_at $s:str) => `(tactic| k_extra $s)
local macro_rules | `(tactic| omega) => `(tactic| first
  | with_reducible assumption
  | (refine' room1 ?rmh ?rme; (case rmh => with_reducible assumption); (case rme => with_unfolding_all rfl))
  | (refine' room0 ?rmh ?rme; (case rmh => with_reducible assumption); (case rme => with_unfolding_all rfl))
  | (refine' room2 ?rmh ?rme; (case rmh => with_reducible assumption); (case rme => with_unfolding_all rfl))
  | (refine' room00 ?rmh; (case rmh => with_reducible assumption))
  | (refine num_le ?rme; (case rme => with_unfolding_all rfl))
  | (refine num_lt ?rme; (case rme => with_unfolding_all rfl))
  | (refine' le_num ?rmh ?rme; (case rmh => with_reducible assumption); (case rme => with_unfolding_all rfl))
  | (refine' eq_num ?rmh ?rme; (case rmh => with_reducible assumption); (case rme => with_unfolding_all rfl))
  | omega (config := {}))
theorem lines_G3_0 : True := by
  k_with_none
  k_with "execs cons" => ((refine f_execs ?_; intro qk))
  k_with "eval BinOp" => ((refine f_BinOp ?_; intro qk))
  k_with "exec Assign" => ((refine f_Assign ?_; intro qk))
  k_with "eval Subscript" => ((refine f_Subscript ?_; intro qk))
  k_with "isTrue Compare" => ((refine f_Compare ?_; intro qk))
  k_with "exec If" => ((refine f_If ?_; intro qk))
  k_with "eval Call" => (((fail_if_success (with_reducible show wpAny _ _ (eval (Expr.Call (Expr.Attribute _ _ _) _ _ _) _) _ _ _)); refine f_Call ?_; intro qk))
  k_with "spliced" => ((refine f_args ?_; intro qk))
  k_with "callWith" => ((refine f_method1 ?_; intro qk))
  k_with "exec Return some" => ((refine f_Return ?_; intro qk))
  k_with "eval Tuple" => ((refine f_Tuple ?_; intro qk))
  k_with "eval List" => ((refine f_List ?_; intro qk))
  k_with "eval IfExp" => ((refine f_IfExp ?_; intro qk))
  k_with "storeName" => ((k_here; k_dflt (refine' f_store ?F ?N ?_ ?a ?b; (case F => k_asm); (case N => k_asm); (case a => rfl); (case b => rfl); k_whole; intro m' h' F' N'; (try k_sweep))))
  k_with "M map1" => (first
    | (refine map_same ?_; with_unfolding_all rfl)
    | ((repeat' (refine List.forall_mem_cons.mpr (And.intro ?_ ?_))); (all_goals first | rfl | exact List.forall_mem_nil _)))
  k_with "M map2" => (first
    | (refine SameOut.both (b := fun _ => none) ?_ ?_ <;> (repeat (refine SameOut.upd ?_ (by with_unfolding_all rfl))) <;> exact SameOut.lookup rfl)
    | (refine' SameOut.both (b := ?kb) ?k1 ?k2; (case k1 => ((repeat (refine SameOut.upd ?_ (by with_unfolding_all rfl))); exact SameOut.refl)); (case k2 => ((repeat (refine SameOut.upd ?_ (by with_unfolding_all rfl))); exact SameOut.refl)))
    | (refine' SameOut.both (b := ?kb) ?k1 ?k2; (case k2 => ((repeat (refine SameOut.upd ?_ (by with_unfolding_all rfl))); exact SameOut.refl)); (case k1 => ((repeat (refine SameOut.skip ?_)); (repeat (refine SameOut.upd ?_ (by with_unfolding_all rfl))); exact SameOut.refl)))
    | (intro y hy; (repeat (refine (if_neg (ne_of_out hy (by with_unfolding_all rfl))).trans ?_)); (refine Eq.symm ?_); (repeat (refine (if_neg (ne_of_out hy (by with_unfolding_all rfl))).trans ?_)); first | rfl | exact lookup_out rfl hy | exact (lookup_out rfl hy).symm | exact (lookup_out rfl hy).trans (lookup_out rfl hy).symm))
  k_with "M fill" => ((
    have kk : PySem.Challenge.rw_pm0034_03 = PySem.Challenge.rw_pm0034_03 ∧ KK.heap_1 = KK.heap_1 := ⟨rfl, rfl⟩
    revert kk
    k_fill
    intro kk
    clear kk))
  k_with "M enter" => ((
    refine wpAny_call ?_
    k_dflt (refine' code_def ?k1 ?k2 ?k3 ?k4 ?k5 ?kA ?kF ?kK ?k6 ?k7 ?k8 ?k9 ?kB ?_ ?c2 ?c3 ?c4 ?c5; (case kA => exact rfl); (case kF => exact rfl); (case kK => assumption); (case k1 => k_asm); (case k2 => k_asm); (case k3 => k_asm); (case k4 => k_asm); (case k5 => k_asm); (case k6 => k_is); (case k7 => k_is); (case k8 => ((try dsimp only); omega)); (case k9 => first | exact BindsTo.of_eq rfl | (refine' kp_binds ?kx ?ke; (case kx => first | (refine' myIn ?kf ?ki; (case kf => with_reducible assumption); (case ki => with_reducible assumption)) | k_in); (case ke => exact fun _ => rfl)) | exact binds_K (by first | (refine' myIn ?kf ?ki; (case kf => with_reducible assumption); (case ki => with_reducible assumption)) | k_in) rfl (by k_is) rfl rfl rfl); (case c5 => decide); (case kB => exact locs rfl); (case c2 => exact rfl); (case c3 => exact rfl); (case c4 => exact rfl); k_whole; intro g' L' h' FG' F' N' B' X' T'; (have D' := kts_dict B' (by assumption) FG' rfl); (try dsimp only); (try k_lift B'); (refine let_AE (f := execs _) ?_; intro vk ak); (refine f_QE ?_; intro qk ek))))
  k_with "M enter0" => ((
    refine wpAny_call ?_
    k_dflt (refine' code_defS0X ?k1 ?k2 ?k3 ?k4 ?k5 ?kA ?kF ?kK ?k6 ?k7 ?k8 ?k9 ?kB ?_ ?c2 ?c3 ?c4 ?c5; (case kA => exact rfl); (case kF => exact rfl); (case kK => assumption); (case k1 => k_asm); (case k2 => k_asm); (case k3 => k_asm); (case k4 => k_asm); (case k5 => k_asm); (case k6 => k_is); (case k7 => k_is); (case k8 => ((try dsimp only); omega)); (case k9 => first | exact BindsTo.of_eq rfl | (refine' kp_binds ?kx ?ke; (case kx => first | (refine' myIn ?kf ?ki; (case kf => with_reducible assumption); (case ki => with_reducible assumption)) | k_in); (case ke => exact fun _ => rfl)) | exact binds_K (by first | (refine' myIn ?kf ?ki; (case kf => with_reducible assumption); (case ki => with_reducible assumption)) | k_in) rfl (by k_is) rfl rfl rfl); (case c5 => decide); (case kB => exact locs rfl); (case c2 => exact rfl); (case c3 => exact rfl); (case c4 => exact rfl); k_whole; intro g' L' h' FG' F' N' B' X' T' D'; (try dsimp only); (try k_lift B'); (refine let_AE (f := execs _) ?_; intro vk ak); (refine f_QE ?_; intro qk ek))))
  trivial
local macro_rules | `(tactic| k_mem) => `(tactic| first | with_reducible assumption | (refine mem_in ?_; with_reducible assumption))
theorem lines_G3_1 : True := by
  k_with "subscriptTail Name Constant ref int" => ((k_here; refine item_tupleT (News.isTup (by assumption) (by k_mem)) (by decide) (by decide) (by rfl) (by rfl) ?_))
  k_with "subscriptTail Name Constant ref int" => ((k_here; (with_reducible rename StrsAre _ _ => hSA); refine item_strsA (News.isList (by assumption) (by k_mem)) hSA (by decide) (by first | omega | (simp only [List.length_map]; omega)) (by decide) ?_; intro t'))
  k_with "call type:ValueError" => ((refine call_ValueError_made ?_; intro _ _ _))
  k_with "exec While Compare Name cons nil" => (refine Hold.mk ?_)
  k_with "exec While Compare" => (refine Hold.mk ?_)
  k_with "exec While Compare cons nil" => (refine Hold.mk ?_)
  k_with "exec While" => (refine Hold.mk ?_)
  k_with "binaryOp FloorDiv int int" => ((k_here; (with_reducible refine floordiv_pos ?kb1 ?kb2 ?_); (case kb1 => decide); (case kb2 => decide +kernel)))
  k_with "WhlIf" => ((refine whlIf_dec ?_ ?_ <;> intro _))
  k_with "subscriptTail Name Name ref int" => ((k_here; first
    | ((with_reducible rename StrsAre _ _ => hSA); refine item_strsA (News.isList (by assumption) (by k_mem)) hSA (by omega) (by omega) (by omega) ?_; intro t')
    | ((with_reducible rename IntsAre _ _ => hSA); refine item_intsA (News.isList (by assumption) (by k_mem)) hSA (by omega) (by omega) (by omega) ?_; intro t')))
  k_with "call builtin:len" => ((k_here; (with_reducible show wpAny _ _ (call (Value.builtin "len") [Value.ref _]) _ _ _); first
    | ((with_reducible rename StrsAre _ _ => hSA); refine len_strsA (News.isList (by assumption) (by k_mem)) hSA (by omega) ?_)
    | ((with_reducible rename IntsAre _ _ => hSA); refine len_intsA (News.isList (by assumption) (by k_mem)) hSA (by omega) ?_)))
  trivial
section
variable {w : World} {p : Program} {loose : List PStr} {mean : ExcName → Option Value} {mg mb : PStr → Option Value}
    {dp un : Nat} {gd : Option (List Code)} {cn : PStr} {cs : Scope} {a : Addr} {ccd : Value} {cl : List (PStr × Addr)} {outer : List Env} {A₀ : Around} {base h₀ : Heap} {L : Addr} {m : PStr → Option Value}
    {s : Shared} {Q E : Value → Shared → Prop} {news : Ldg}
    (B : Below A₀ base outer h₀) (X : (KK.heap_1 w.params).In h₀) (T : Top p loose mean mg mb h₀) (XB : (KK.heap_1 w.params).In base) (TB : Top p loose mean mg mb base) (D : KtsDicts (outer.filterMap (·.frame)) h₀) (hck : cs.kind = .function)
include B X T XB TB D hck

theorem parse257_spec {r : PStr} {t1 : Tok} (hd5 : dp + 5 < recursionLimit) (hu5 : un + 50 < cLine) (F : Fr h₀ L s.heap m) (N : News h₀ L s.heap news)
   (hr : r.length ≤ 1000000)
   (hret : ∀ x t h' tk, p257 r = .ok x → Fr h₀ L h' m → News h₀ L h' news → Q (.str x t) { s with heap := h', toks := tk })
   (hexc : ∀ k g₂ e t h' tk, p257 r = .error (k, r) → Fr h₀ L g₂ m → RaisedS base g₂ (envX cn cs L a ccd cl :: outer) e (clsOf k) t [.str r t1] news h' → RaisedK base (envX cn cs L a ccd cl :: outer) e (clsOf k) t [.str r t1] news h' → g₂.UpToSlots h' → E (.ref e) { s with heap := h', toks := tk }) :
   wpAny (model PySem.Challenge.rw_pm0034_03.row.prog w) (ktrTop dp un gd cn cs L a ccd cl outer) (call (.ref 101) [.str r t1]) Q E s := by
  walk_at "M fill"
  walk_at "M enter"
  k_steps
  · (show E _ _)
    exact hexc .reply _ _ _ _ _ (if_pos (by assumption)) (by assumption) (by assumption) (by assumption) (by assumption)
  · (show Q _ _)
    exact hret _ _ _ _ ((if_neg (Bool.eq_false_iff.mp (by assumption))).trans (if_pos (by assumption))) (by assumption) (by assumption)
  refine Hold.out ?_
  have hp : p257 r = .ok (go257 r (r.length - 5) 5 PySem.Str.empty) := (if_neg (Bool.eq_false_iff.mp (by assumption))).trans (if_neg (Bool.eq_false_iff.mp (by assumption)))
  (with_reducible rename Fr _ _ _ _ => kF)
  refine' while_fr (fun i : Nat × PStr × Tok × Tok × Tok × Option Value => r.length - i.1) (fun i => i.2.1.length ≤ i.1 ∧ i.1 ≤ r.length + 5 ∧ p257 r = .ok (go257 r (r.length - i.1) i.1 i.2.1))
    (fun i y => if y = PySem.Str.ofString "c" then i.2.2.2.2.2 else List.lookup y [(PySem.Str.ofString "i", .int i.1 i.2.2.1), (PySem.Str.ofString "dirname", .str i.2.1 i.2.2.2.1), (PySem.Str.ofString "n", .int r.length i.2.2.2.2.1), (PySem.Str.ofString "resp", .str r t1)])
    (fun _ => news) (5, PySem.Str.empty, _, _, _, none) [PySem.Str.ofString "i", PySem.Str.ofString "dirname", PySem.Str.ofString "n", PySem.Str.ofString "resp", PySem.Str.ofString "c"] kF (by with_reducible assumption) ⟨Nat.zero_le _, Nat.le_add_left _ _, hp⟩ ?m1 ?m2 (fun _ q => q) ?step ?hE
  case m1 => walk_at "M map1"
  case m2 => walk_at "M map2"
  case hE => with_unfolding_all passes_own
  clear kF
  rintro ⟨i1, d1, t2, t3, t4, mo⟩ h tk ⟨hd1, hi1, hb1⟩ kF1 kN1
  dsimp only at hd1 hi1 hb1 kF1 kN1
  k_steps
  · dsimp only
    k_steps
    refine whlFr_brk ?_
    dsimp only
    k_steps
    (show Q _ _)
    exact hret _ _ _ _ (hb1.trans (congrArg Except.ok (go_stop1 (by assumption) (by assumption) (by assumption)))) (by assumption) (by assumption)
  · dsimp only
    k_steps
    refine whlFr_brk ?_
    dsimp only
    k_steps
    (show Q _ _)
    exact hret _ _ _ _ (hb1.trans (congrArg Except.ok (go_stop2 (by assumption) (by assumption) (by assumption) (by assumption)))) (by assumption) (by assumption)
  · refine' whlFr_next (i1 + 2, d1 ++ Txt.item r i1, _, _, _, _) [PySem.Str.ofString "i", PySem.Str.ofString "dirname", PySem.Str.ofString "n", PySem.Str.ofString "resp", PySem.Str.ofString "c"] (by with_reducible assumption) (by with_reducible assumption) ?mu1 ?c1 ?m11 ?m12 (fun _ q => q)
    case mu1 => dsimp only; omega
    case c1 => exact ⟨by dsimp only; omega, by dsimp only; omega, hb1.trans (congrArg Except.ok (go_pair (by assumption) (by assumption) (by assumption) (by assumption)))⟩
    case m11 => walk_at "M map1"
    case m12 => walk_at "M map2"
  · refine' whlFr_next (i1 + 1, d1 ++ Txt.item r i1, _, _, _, _) [PySem.Str.ofString "i", PySem.Str.ofString "dirname", PySem.Str.ofString "n", PySem.Str.ofString "resp", PySem.Str.ofString "c"] (by with_reducible assumption) (by with_reducible assumption) ?mu2 ?c2 ?m21 ?m22 (fun _ q => q)
    case mu2 => dsimp only; omega
    case c2 => exact ⟨by dsimp only; omega, by dsimp only; omega, hb1.trans (congrArg Except.ok (go_plain (by assumption) (by assumption)))⟩
    case m21 => walk_at "M map1"
    case m22 => walk_at "M map2"
  · (show Q _ _)
    exact hret _ _ _ _ (hb1.trans (congrArg Except.ok (go_end (by assumption)))) (by assumption) (by assumption)
end
end Mine
end
section
open PySem PySem.W PyProof.Rows PySem.Spec PySem.Calls
set_option Elab.async false
set_option maxRecDepth 100000
set_option maxHeartbeats 8000000
set_option linter.all false
namespace Mine
local macro_rules | `(tactic| walk_at "M nothing") => `(tactic| skip)
local macro_rules | `(tactic| walk_at $s:str) => `(tactic| k_extra $s)
local macro_rules | `(tactic| omega) => `(tactic| first
  | with_reducible assumption
  | (refine' room1 ?rmh ?rme; (case rmh => with_reducible assumption); (case rme => with_unfolding_all rfl))
  | (refine' room0 ?rmh ?rme; (case rmh => with_reducible assumption); (case rme => with_unfolding_all rfl))
  | (refine' room2 ?rmh ?rme; (case rmh => with_reducible assumption); (case rme => with_unfolding_all rfl))
  | (refine' room00 ?rmh; (case rmh => with_reducible assumption))
  | (refine num_le ?rme; (case rme => with_unfolding_all rfl))
  | (refine num_lt ?rme; (case rme => with_unfolding_all rfl))
  | (refine' le_num ?rmh ?rme; (case rmh => with_reducible assumption); (case rme => with_unfolding_all rfl))
  | (refine' eq_num ?rmh ?rme; (case rmh => with_reducible assumption); (case rme => with_unfolding_all rfl))
  | omega (config := {}))
theorem lines_C3_0 : True := by
  k_with_none
  k_with "execs cons" => ((refine f_execs ?_; intro qk))
  k_with "eval BinOp" => ((refine f_BinOp ?_; intro qk))
  k_with "exec Assign" => ((refine f_Assign ?_; intro qk))
  k_with "eval Subscript" => ((refine f_Subscript ?_; intro qk))
  k_with "isTrue Compare" => ((refine f_Compare ?_; intro qk))
  k_with "exec If" => ((refine f_If ?_; intro qk))
  k_with "eval Call" => (((fail_if_success (with_reducible show wpAny _ _ (eval (Expr.Call (Expr.Attribute _ _ _) _ _ _) _) _ _ _)); refine f_Call ?_; intro qk))
  k_with "spliced" => ((refine f_args ?_; intro qk))
  k_with "callWith" => ((refine f_method1 ?_; intro qk))
  k_with "exec Return some" => ((refine f_Return ?_; intro qk))
  k_with "eval Tuple" => ((refine f_Tuple ?_; intro qk))
  k_with "eval List" => ((refine f_List ?_; intro qk))
  k_with "eval IfExp" => ((refine f_IfExp ?_; intro qk))
  k_with "storeName" => ((k_here; k_dflt (refine' f_store ?F ?N ?_ ?a ?b; (case F => k_asm); (case N => k_asm); (case a => rfl); (case b => rfl); k_whole; intro m' h' F' N'; (try k_sweep))))
  k_with "M map1" => (first
    | (refine map_same ?_; with_unfolding_all rfl)
    | ((repeat' (refine List.forall_mem_cons.mpr (And.intro ?_ ?_))); (all_goals first | rfl | exact List.forall_mem_nil _)))
  k_with "M map2" => (first
    | (refine SameOut.both (b := fun _ => none) ?_ ?_ <;> (repeat (refine SameOut.upd ?_ (by with_unfolding_all rfl))) <;> exact SameOut.lookup rfl)
    | (refine' SameOut.both (b := ?kb) ?k1 ?k2; (case k1 => ((repeat (refine SameOut.upd ?_ (by with_unfolding_all rfl))); exact SameOut.refl)); (case k2 => ((repeat (refine SameOut.upd ?_ (by with_unfolding_all rfl))); exact SameOut.refl)))
    | (refine' SameOut.both (b := ?kb) ?k1 ?k2; (case k2 => ((repeat (refine SameOut.upd ?_ (by with_unfolding_all rfl))); exact SameOut.refl)); (case k1 => ((repeat (refine SameOut.skip ?_)); (repeat (refine SameOut.upd ?_ (by with_unfolding_all rfl))); exact SameOut.refl)))
    | (intro y hy; (repeat (refine (if_neg (ne_of_out hy (by with_unfolding_all rfl))).trans ?_)); (refine Eq.symm ?_); (repeat (refine (if_neg (ne_of_out hy (by with_unfolding_all rfl))).trans ?_)); first | rfl | exact lookup_out rfl hy | exact (lookup_out rfl hy).symm | exact (lookup_out rfl hy).trans (lookup_out rfl hy).symm))
  k_with "M fill" => ((
    have kk : PySem.Challenge.rw_pm0034_03 = PySem.Challenge.rw_pm0034_03 ∧ KK.heap_1 = KK.heap_1 := ⟨rfl, rfl⟩
    revert kk
    k_fill
    intro kk
    clear kk))
  k_with "M enter" => ((
    refine wpAny_call ?_
    k_dflt (refine' code_def ?k1 ?k2 ?k3 ?k4 ?k5 ?kA ?kF ?kK ?k6 ?k7 ?k8 ?k9 ?kB ?_ ?c2 ?c3 ?c4 ?c5; (case kA => exact rfl); (case kF => exact rfl); (case kK => assumption); (case k1 => k_asm); (case k2 => k_asm); (case k3 => k_asm); (case k4 => k_asm); (case k5 => k_asm); (case k6 => k_is); (case k7 => k_is); (case k8 => ((try dsimp only); omega)); (case k9 => first | exact BindsTo.of_eq rfl | (refine' kp_binds ?kx ?ke; (case kx => first | (refine' myIn ?kf ?ki; (case kf => with_reducible assumption); (case ki => with_reducible assumption)) | k_in); (case ke => exact fun _ => rfl)) | exact binds_K (by first | (refine' myIn ?kf ?ki; (case kf => with_reducible assumption); (case ki => with_reducible assumption)) | k_in) rfl (by k_is) rfl rfl rfl); (case c5 => decide); (case kB => exact locs rfl); (case c2 => exact rfl); (case c3 => exact rfl); (case c4 => exact rfl); k_whole; intro g' L' h' FG' F' N' B' X' T'; (have D' := kts_dict B' (by assumption) FG' rfl); (try dsimp only); (try k_lift B'); (refine let_AE (f := execs _) ?_; intro vk ak); (refine f_QE ?_; intro qk ek))))
  k_with "M enter0" => ((
    refine wpAny_call ?_
    k_dflt (refine' code_defS0X ?k1 ?k2 ?k3 ?k4 ?k5 ?kA ?kF ?kK ?k6 ?k7 ?k8 ?k9 ?kB ?_ ?c2 ?c3 ?c4 ?c5; (case kA => exact rfl); (case kF => exact rfl); (case kK => assumption); (case k1 => k_asm); (case k2 => k_asm); (case k3 => k_asm); (case k4 => k_asm); (case k5 => k_asm); (case k6 => k_is); (case k7 => k_is); (case k8 => ((try dsimp only); omega)); (case k9 => first | exact BindsTo.of_eq rfl | (refine' kp_binds ?kx ?ke; (case kx => first | (refine' myIn ?kf ?ki; (case kf => with_reducible assumption); (case ki => with_reducible assumption)) | k_in); (case ke => exact fun _ => rfl)) | exact binds_K (by first | (refine' myIn ?kf ?ki; (case kf => with_reducible assumption); (case ki => with_reducible assumption)) | k_in) rfl (by k_is) rfl rfl rfl); (case c5 => decide); (case kB => exact locs rfl); (case c2 => exact rfl); (case c3 => exact rfl); (case c4 => exact rfl); k_whole; intro g' L' h' FG' F' N' B' X' T' D'; (try dsimp only); (try k_lift B'); (refine let_AE (f := execs _) ?_; intro vk ak); (refine f_QE ?_; intro qk ek))))
  trivial
local macro_rules | `(tactic| k_mem) => `(tactic| first | with_reducible assumption | (refine mem_in ?_; with_reducible assumption))
theorem lines_C3_1 : True := by
  k_with "subscriptTail Name Constant ref int" => ((k_here; refine item_tupleT (News.isTup (by assumption) (by k_mem)) (by decide) (by decide) (by rfl) (by rfl) ?_))
  k_with "subscriptTail Name Constant ref int" => ((k_here; (with_reducible rename StrsAre _ _ => hSA); refine item_strsA (News.isList (by assumption) (by k_mem)) hSA (by decide) (by first | omega | (simp only [List.length_map]; omega)) (by decide) ?_; intro t'))
  k_with "call type:ValueError" => ((refine call_ValueError_made ?_; intro _ _ _))
  k_with "exec While Compare Name cons nil" => (refine Hold.mk ?_)
  k_with "exec While Compare" => (refine Hold.mk ?_)
  k_with "exec While Compare cons nil" => (refine Hold.mk ?_)
  k_with "exec While" => (refine Hold.mk ?_)
  k_with "binaryOp FloorDiv int int" => ((k_here; (with_reducible refine floordiv_pos ?kb1 ?kb2 ?_); (case kb1 => decide); (case kb2 => decide +kernel)))
  k_with "WhlIf" => ((refine whlIf_dec ?_ ?_ <;> intro _))
  k_with "subscriptTail Name Name ref int" => ((k_here; first
    | ((with_reducible rename StrsAre _ _ => hSA); refine item_strsA (News.isList (by assumption) (by k_mem)) hSA (by omega) (by omega) (by omega) ?_; intro t')
    | ((with_reducible rename IntsAre _ _ => hSA); refine item_intsA (News.isList (by assumption) (by k_mem)) hSA (by omega) (by omega) (by omega) ?_; intro t')))
  k_with "call builtin:len" => ((k_here; (with_reducible show wpAny _ _ (call (Value.builtin "len") [Value.ref _]) _ _ _); first
    | ((with_reducible rename StrsAre _ _ => hSA); refine len_strsA (News.isList (by assumption) (by k_mem)) hSA (by omega) ?_)
    | ((with_reducible rename IntsAre _ _ => hSA); refine len_intsA (News.isList (by assumption) (by k_mem)) hSA (by omega) ?_)))
  k_with "call ref" => (((with_reducible show wpAny _ _ (call (Value.ref 108) _) _ _ _); refine' port_spec ?kB ?kX ?kT ?kXB ?kTB ?kD ?kh ?kd ?ku ?kF ?kN ?k6 ?kv ?_ ?_; (case kB => assumption); (case kX => assumption); (case kT => assumption); (case kXB => assumption); (case kTB => assumption); (case kD => assumption); (case kh => rfl); (case kd => ((try dsimp only); omega)); (case ku => ((try dsimp only); omega)); (case kF => with_reducible assumption); (case kN => with_reducible assumption); (case k6 => first | exact getD_640 (by assumption) _ | assumption); (case kv => first | assumption | (have q := bis_nv (by assumption) (by assumption) (by assumption); exact q) | (have q := bis_nv ((by assumption : 0 ≤ _ → ∀ msg, _ ≠ _) (by omega)) (by assumption) (by assumption); exact q))))
  trivial
section
variable {w : World} {p : Program} {loose : List PStr} {mean : ExcName → Option Value} {mg mb : PStr → Option Value}
    {dp un : Nat} {gd : Option (List Code)} {cn : PStr} {cs : Scope} {a : Addr} {ccd : Value} {cl : List (PStr × Addr)} {outer : List Env} {A₀ : Around} {base h₀ : Heap} {L : Addr} {m : PStr → Option Value}
    {s : Shared} {Q E : Value → Shared → Prop} {news : Ldg}
    (B : Below A₀ base outer h₀) (X : (KK.heap_1 w.params).In h₀) (T : Top p loose mean mg mb h₀) (XB : (KK.heap_1 w.params).In base) (TB : Top p loose mean mg mb base) (D : KtsDicts (outer.filterMap (·.frame)) h₀) (hck : cs.kind = .function)
include B X T XB TB D hck

theorem bisR_full {ra : Addr} {vs : List Value} {k : Nat → KRes} {nn ep : Nat} {x : Int} {lo : Int} {hi : Nat} {kv hv : Value} {tx tl : Tok} (hd5 : dp + 20 < recursionLimit) (hu5 : un + 100 < cLine) (F : Fr h₀ L s.heap m) (N : News h₀ L s.heap news)
   (hra : (ra, lstOf vs ep) ∈ news) (hrow : RowIs 108 kv vs k nn) (hl : nn ≤ 1000) (hhi : HiIs hv hi nn) (hv0 : 0 ≤ lo → ∀ msg, bisZ true k x lo hi ≠ .error (.value, msg))
   (hret : ∀ n t h' tk, bisZ true k x lo hi = .ok n → Fr h₀ L h' m → News h₀ L h' news → Q (.int n t) { s with heap := h', toks := tk })
   (hexc : ∀ ek r t1 g₂ e t h' tk, bisZ true k x lo hi = .error (ek, r) → Fr h₀ L g₂ m → RaisedS base g₂ (envX cn cs L a ccd cl :: outer) e (clsOf ek) t [.str r t1] news h' → RaisedK base (envX cn cs L a ccd cl :: outer) e (clsOf ek) t [.str r t1] news h' → g₂.UpToSlots h' → E (.ref e) { s with heap := h', toks := tk }) :
   wpAny (model PySem.Challenge.rw_pm0034_03.row.prog w) (ktrTop dp un gd cn cs L a ccd cl outer) (call (.ref 32) [.ref ra, .int x tx, .int lo tl, hv] [(PySem.Str.ofString "key", kv)]) Q E s := by
  walk_at "M fill"
  rcases hrow with ⟨ys, hS, rfl, rfl, rfl, h640⟩ | ⟨ns, hS, rfl, rfl, rfl⟩
  · rcases hhi with ⟨rfl, rfl⟩ | ⟨th, rfl, hhi⟩
    · skip
      walk_at "M enter"
      k_steps
      · (show E _ _)
        exact hexc _ _ _ _ _ _ _ _ (bisZ_neg (by assumption)) (by assumption) (by assumption) (by assumption) (by assumption)
      obtain ⟨l0, rfl⟩ := nat_of (by assumption)
      have hv1 := hv0 (Int.natCast_nonneg _)
      refine Hold.out ?_
      (with_reducible rename Fr _ _ _ _ => kF)
      refine' while_fr (fun i : Nat × Nat × Tok × Tok × Option Value => i.2.1 - i.1) (fun i => i.2.1 ≤ ys.length ∧ bisZ true (fun i => p229 (ys.getD i PySem.Str.empty)) x (l0 : Int) ys.length = bis true (fun i => p229 (ys.getD i PySem.Str.empty)) x (i.2.1 - i.1) i.1 i.2.1)
        (fun i y => if y = PySem.Str.ofString "mid" then i.2.2.2.2 else List.lookup y [(PySem.Str.ofString "lo", .int i.1 i.2.2.1), (PySem.Str.ofString "hi", .int i.2.1 i.2.2.2.1), (PySem.Str.ofString "a", .ref ra), (PySem.Str.ofString "x", .int x tx), (PySem.Str.ofString "key", .ref 108)])
        (fun _ => news) (l0, ys.length, _, _, none) [PySem.Str.ofString "lo", PySem.Str.ofString "hi", PySem.Str.ofString "mid", PySem.Str.ofString "a", PySem.Str.ofString "x", PySem.Str.ofString "key"] kF (by with_reducible assumption) ⟨by first | assumption | exact Nat.le_refl _, bisZ_nat⟩ ?m1_1 ?m2_1 (fun _ q => q) ?step_1 ?hE_1
      case m1_1 => walk_at "M map1"
      case m2_1 => walk_at "M map2"
      case hE_1 => with_unfolding_all passes_own
      clear kF
      rintro ⟨l1, h1, t1, t2, mo⟩ h tk ⟨hh1, hb1⟩ kF1 kN1
      dsimp only at hh1 hb1 kF1 kN1
      k_steps
      · refine' whlFr_next (l1, (l1 + h1) / 2, _, _, _) [PySem.Str.ofString "lo", PySem.Str.ofString "hi", PySem.Str.ofString "mid", PySem.Str.ofString "a", PySem.Str.ofString "x", PySem.Str.ofString "key"] (by with_reducible assumption) (by with_reducible assumption) ?mu_1 ?c_1 ?m1_1 ?m2_1 (fun _ q => q)
        case mu_1 => dsimp only; omega
        case c_1 => exact ⟨by dsimp only; omega, hb1.trans (bisR_hi (k := (fun i => p229 (ys.getD i PySem.Str.empty))) (by assumption) (by assumption) (by assumption))⟩
        case m1_1 => walk_at "M map1"
        case m2_1 => walk_at "M map2"
      · refine' whlFr_next ((l1 + h1) / 2 + 1, h1, _, _, _) [PySem.Str.ofString "lo", PySem.Str.ofString "hi", PySem.Str.ofString "mid", PySem.Str.ofString "a", PySem.Str.ofString "x", PySem.Str.ofString "key"] (by with_reducible assumption) (by with_reducible assumption) ?mu_1 ?c_1 ?m1_1 ?m2_1 (fun _ q => q)
        case mu_1 => dsimp only; omega
        case c_1 => exact ⟨hh1, hb1.trans (bisR_lo (k := (fun i => p229 (ys.getD i PySem.Str.empty))) (by assumption) (by assumption) (by assumption))⟩
        case m1_1 => walk_at "M map1"
        case m2_1 => walk_at "M map2"
      · (show E _ _)
        exact hexc _ _ _ _ _ _ _ _ (hb1.trans (bis_err (k := (fun i => p229 (ys.getD i PySem.Str.empty))) (by assumption) (by assumption))) (by assumption) (by assumption) (by assumption) (by assumption)
      · (show Q _ _)
        exact hret _ _ _ _ (hb1.trans (bis_end (by assumption))) (by assumption) (by assumption)

    · skip
      walk_at "M enter"
      k_steps
      · (show E _ _)
        exact hexc _ _ _ _ _ _ _ _ (bisZ_neg (by assumption)) (by assumption) (by assumption) (by assumption) (by assumption)
      obtain ⟨l0, rfl⟩ := nat_of (by assumption)
      have hv1 := hv0 (Int.natCast_nonneg _)
      refine Hold.out ?_
      (with_reducible rename Fr _ _ _ _ => kF)
      refine' while_fr (fun i : Nat × Nat × Tok × Tok × Option Value => i.2.1 - i.1) (fun i => i.2.1 ≤ ys.length ∧ bisZ true (fun i => p229 (ys.getD i PySem.Str.empty)) x (l0 : Int) hi = bis true (fun i => p229 (ys.getD i PySem.Str.empty)) x (i.2.1 - i.1) i.1 i.2.1)
        (fun i y => if y = PySem.Str.ofString "mid" then i.2.2.2.2 else List.lookup y [(PySem.Str.ofString "lo", .int i.1 i.2.2.1), (PySem.Str.ofString "hi", .int i.2.1 i.2.2.2.1), (PySem.Str.ofString "a", .ref ra), (PySem.Str.ofString "x", .int x tx), (PySem.Str.ofString "key", .ref 108)])
        (fun _ => news) (l0, hi, _, _, none) [PySem.Str.ofString "lo", PySem.Str.ofString "hi", PySem.Str.ofString "mid", PySem.Str.ofString "a", PySem.Str.ofString "x", PySem.Str.ofString "key"] kF (by with_reducible assumption) ⟨by first | assumption | exact Nat.le_refl _, bisZ_nat⟩ ?m1_2 ?m2_2 (fun _ q => q) ?step_2 ?hE_2
      case m1_2 => walk_at "M map1"
      case m2_2 => walk_at "M map2"
      case hE_2 => with_unfolding_all passes_own
      clear kF
      rintro ⟨l1, h1, t1, t2, mo⟩ h tk ⟨hh1, hb1⟩ kF1 kN1
      dsimp only at hh1 hb1 kF1 kN1
      k_steps
      · refine' whlFr_next (l1, (l1 + h1) / 2, _, _, _) [PySem.Str.ofString "lo", PySem.Str.ofString "hi", PySem.Str.ofString "mid", PySem.Str.ofString "a", PySem.Str.ofString "x", PySem.Str.ofString "key"] (by with_reducible assumption) (by with_reducible assumption) ?mu_2 ?c_2 ?m1_2 ?m2_2 (fun _ q => q)
        case mu_2 => dsimp only; omega
        case c_2 => exact ⟨by dsimp only; omega, hb1.trans (bisR_hi (k := (fun i => p229 (ys.getD i PySem.Str.empty))) (by assumption) (by assumption) (by assumption))⟩
        case m1_2 => walk_at "M map1"
        case m2_2 => walk_at "M map2"
      · refine' whlFr_next ((l1 + h1) / 2 + 1, h1, _, _, _) [PySem.Str.ofString "lo", PySem.Str.ofString "hi", PySem.Str.ofString "mid", PySem.Str.ofString "a", PySem.Str.ofString "x", PySem.Str.ofString "key"] (by with_reducible assumption) (by with_reducible assumption) ?mu_2 ?c_2 ?m1_2 ?m2_2 (fun _ q => q)
        case mu_2 => dsimp only; omega
        case c_2 => exact ⟨hh1, hb1.trans (bisR_lo (k := (fun i => p229 (ys.getD i PySem.Str.empty))) (by assumption) (by assumption) (by assumption))⟩
        case m1_2 => walk_at "M map1"
        case m2_2 => walk_at "M map2"
      · (show E _ _)
        exact hexc _ _ _ _ _ _ _ _ (hb1.trans (bis_err (k := (fun i => p229 (ys.getD i PySem.Str.empty))) (by assumption) (by assumption))) (by assumption) (by assumption) (by assumption) (by assumption)
      · (show Q _ _)
        exact hret _ _ _ _ (hb1.trans (bis_end (by assumption))) (by assumption) (by assumption)

  · rcases hhi with ⟨rfl, rfl⟩ | ⟨th, rfl, hhi⟩
    · skip
      walk_at "M enter"
      k_steps
      · (show E _ _)
        exact hexc _ _ _ _ _ _ _ _ (bisZ_neg (by assumption)) (by assumption) (by assumption) (by assumption) (by assumption)
      obtain ⟨l0, rfl⟩ := nat_of (by assumption)
      have hv1 := hv0 (Int.natCast_nonneg _)
      refine Hold.out ?_
      (with_reducible rename Fr _ _ _ _ => kF)
      refine' while_fr (fun i : Nat × Nat × Tok × Tok × Option Value => i.2.1 - i.1) (fun i => i.2.1 ≤ ns.length ∧ bisZ true (fun i => .ok (ns.getD i 0)) x (l0 : Int) ns.length = bis true (fun i => .ok (ns.getD i 0)) x (i.2.1 - i.1) i.1 i.2.1)
        (fun i y => if y = PySem.Str.ofString "mid" then i.2.2.2.2 else List.lookup y [(PySem.Str.ofString "lo", .int i.1 i.2.2.1), (PySem.Str.ofString "hi", .int i.2.1 i.2.2.2.1), (PySem.Str.ofString "a", .ref ra), (PySem.Str.ofString "x", .int x tx), (PySem.Str.ofString "key", .none)])
        (fun _ => news) (l0, ns.length, _, _, none) [PySem.Str.ofString "lo", PySem.Str.ofString "hi", PySem.Str.ofString "mid", PySem.Str.ofString "a", PySem.Str.ofString "x", PySem.Str.ofString "key"] kF (by with_reducible assumption) ⟨by first | assumption | exact Nat.le_refl _, bisZ_nat⟩ ?m1_3 ?m2_3 (fun _ q => q) ?step_3 ?hE_3
      case m1_3 => walk_at "M map1"
      case m2_3 => walk_at "M map2"
      case hE_3 => with_unfolding_all passes_own
      clear kF
      rintro ⟨l1, h1, t1, t2, mo⟩ h tk ⟨hh1, hb1⟩ kF1 kN1
      dsimp only at hh1 hb1 kF1 kN1
      k_steps
      · refine' whlFr_next (l1, (l1 + h1) / 2, _, _, _) [PySem.Str.ofString "lo", PySem.Str.ofString "hi", PySem.Str.ofString "mid", PySem.Str.ofString "a", PySem.Str.ofString "x", PySem.Str.ofString "key"] (by with_reducible assumption) (by with_reducible assumption) ?mu_3 ?c_3 ?m1_3 ?m2_3 (fun _ q => q)
        case mu_3 => dsimp only; omega
        case c_3 => exact ⟨by dsimp only; omega, hb1.trans (bisR_hi (k := (fun i => .ok (ns.getD i 0))) (by assumption) rfl (by assumption))⟩
        case m1_3 => walk_at "M map1"
        case m2_3 => walk_at "M map2"
      · refine' whlFr_next ((l1 + h1) / 2 + 1, h1, _, _, _) [PySem.Str.ofString "lo", PySem.Str.ofString "hi", PySem.Str.ofString "mid", PySem.Str.ofString "a", PySem.Str.ofString "x", PySem.Str.ofString "key"] (by with_reducible assumption) (by with_reducible assumption) ?mu_3 ?c_3 ?m1_3 ?m2_3 (fun _ q => q)
        case mu_3 => dsimp only; omega
        case c_3 => exact ⟨hh1, hb1.trans (bisR_lo (k := (fun i => .ok (ns.getD i 0))) (by assumption) rfl (by assumption))⟩
        case m1_3 => walk_at "M map1"
        case m2_3 => walk_at "M map2"
      · (show Q _ _)
        exact hret _ _ _ _ (hb1.trans (bis_end (by assumption))) (by assumption) (by assumption)

    · skip
      walk_at "M enter"
      k_steps
      · (show E _ _)
        exact hexc _ _ _ _ _ _ _ _ (bisZ_neg (by assumption)) (by assumption) (by assumption) (by assumption) (by assumption)
      obtain ⟨l0, rfl⟩ := nat_of (by assumption)
      have hv1 := hv0 (Int.natCast_nonneg _)
      refine Hold.out ?_
      (with_reducible rename Fr _ _ _ _ => kF)
      refine' while_fr (fun i : Nat × Nat × Tok × Tok × Option Value => i.2.1 - i.1) (fun i => i.2.1 ≤ ns.length ∧ bisZ true (fun i => .ok (ns.getD i 0)) x (l0 : Int) hi = bis true (fun i => .ok (ns.getD i 0)) x (i.2.1 - i.1) i.1 i.2.1)
        (fun i y => if y = PySem.Str.ofString "mid" then i.2.2.2.2 else List.lookup y [(PySem.Str.ofString "lo", .int i.1 i.2.2.1), (PySem.Str.ofString "hi", .int i.2.1 i.2.2.2.1), (PySem.Str.ofString "a", .ref ra), (PySem.Str.ofString "x", .int x tx), (PySem.Str.ofString "key", .none)])
        (fun _ => news) (l0, hi, _, _, none) [PySem.Str.ofString "lo", PySem.Str.ofString "hi", PySem.Str.ofString "mid", PySem.Str.ofString "a", PySem.Str.ofString "x", PySem.Str.ofString "key"] kF (by with_reducible assumption) ⟨by first | assumption | exact Nat.le_refl _, bisZ_nat⟩ ?m1_4 ?m2_4 (fun _ q => q) ?step_4 ?hE_4
      case m1_4 => walk_at "M map1"
      case m2_4 => walk_at "M map2"
      case hE_4 => with_unfolding_all passes_own
      clear kF
      rintro ⟨l1, h1, t1, t2, mo⟩ h tk ⟨hh1, hb1⟩ kF1 kN1
      dsimp only at hh1 hb1 kF1 kN1
      k_steps
      · refine' whlFr_next (l1, (l1 + h1) / 2, _, _, _) [PySem.Str.ofString "lo", PySem.Str.ofString "hi", PySem.Str.ofString "mid", PySem.Str.ofString "a", PySem.Str.ofString "x", PySem.Str.ofString "key"] (by with_reducible assumption) (by with_reducible assumption) ?mu_4 ?c_4 ?m1_4 ?m2_4 (fun _ q => q)
        case mu_4 => dsimp only; omega
        case c_4 => exact ⟨by dsimp only; omega, hb1.trans (bisR_hi (k := (fun i => .ok (ns.getD i 0))) (by assumption) rfl (by assumption))⟩
        case m1_4 => walk_at "M map1"
        case m2_4 => walk_at "M map2"
      · refine' whlFr_next ((l1 + h1) / 2 + 1, h1, _, _, _) [PySem.Str.ofString "lo", PySem.Str.ofString "hi", PySem.Str.ofString "mid", PySem.Str.ofString "a", PySem.Str.ofString "x", PySem.Str.ofString "key"] (by with_reducible assumption) (by with_reducible assumption) ?mu_4 ?c_4 ?m1_4 ?m2_4 (fun _ q => q)
        case mu_4 => dsimp only; omega
        case c_4 => exact ⟨hh1, hb1.trans (bisR_lo (k := (fun i => .ok (ns.getD i 0))) (by assumption) rfl (by assumption))⟩
        case m1_4 => walk_at "M map1"
        case m2_4 => walk_at "M map2"
      · (show Q _ _)
        exact hret _ _ _ _ (hb1.trans (bis_end (by assumption))) (by assumption) (by assumption)

end
section
variable {w : World} {p : Program} {loose : List PStr} {mean : ExcName → Option Value} {mg mb : PStr → Option Value}
    {dp un : Nat} {gd : Option (List Code)} {cn : PStr} {cs : Scope} {a : Addr} {ccd : Value} {cl : List (PStr × Addr)} {outer : List Env} {A₀ : Around} {base h₀ : Heap} {L : Addr} {m : PStr → Option Value}
    {s : Shared} {Q E : Value → Shared → Prop} {news : Ldg}
    (B : Below A₀ base outer h₀) (X : (KK.heap_1 w.params).In h₀) (T : Top p loose mean mg mb h₀) (XB : (KK.heap_1 w.params).In base) (TB : Top p loose mean mg mb base) (D : KtsDicts (outer.filterMap (·.frame)) h₀) (hck : cs.kind = .function)
include B X T XB TB D hck

theorem bisL_full {ra : Addr} {vs : List Value} {k : Nat → KRes} {nn ep : Nat} {x : Int} {lo : Int} {hi : Nat} {kv hv : Value} {tx tl : Tok} (hd5 : dp + 20 < recursionLimit) (hu5 : un + 100 < cLine) (F : Fr h₀ L s.heap m) (N : News h₀ L s.heap news)
   (hra : (ra, lstOf vs ep) ∈ news) (hrow : RowIs 108 kv vs k nn) (hl : nn ≤ 1000) (hhi : HiIs hv hi nn) (hv0 : 0 ≤ lo → ∀ msg, bisZ false k x lo hi ≠ .error (.value, msg))
   (hret : ∀ n t h' tk, bisZ false k x lo hi = .ok n → Fr h₀ L h' m → News h₀ L h' news → Q (.int n t) { s with heap := h', toks := tk })
   (hexc : ∀ ek r t1 g₂ e t h' tk, bisZ false k x lo hi = .error (ek, r) → Fr h₀ L g₂ m → RaisedS base g₂ (envX cn cs L a ccd cl :: outer) e (clsOf ek) t [.str r t1] news h' → RaisedK base (envX cn cs L a ccd cl :: outer) e (clsOf ek) t [.str r t1] news h' → g₂.UpToSlots h' → E (.ref e) { s with heap := h', toks := tk }) :
   wpAny (model PySem.Challenge.rw_pm0034_03.row.prog w) (ktrTop dp un gd cn cs L a ccd cl outer) (call (.ref 50) [.ref ra, .int x tx, .int lo tl, hv] [(PySem.Str.ofString "key", kv)]) Q E s := by
  walk_at "M fill"
  rcases hrow with ⟨ys, hS, rfl, rfl, rfl, h640⟩ | ⟨ns, hS, rfl, rfl, rfl⟩
  · rcases hhi with ⟨rfl, rfl⟩ | ⟨th, rfl, hhi⟩
    · skip
      walk_at "M enter"
      k_steps
      · (show E _ _)
        exact hexc _ _ _ _ _ _ _ _ (bisZ_neg (by assumption)) (by assumption) (by assumption) (by assumption) (by assumption)
      obtain ⟨l0, rfl⟩ := nat_of (by assumption)
      have hv1 := hv0 (Int.natCast_nonneg _)
      refine Hold.out ?_
      (with_reducible rename Fr _ _ _ _ => kF)
      refine' while_fr (fun i : Nat × Nat × Tok × Tok × Option Value => i.2.1 - i.1) (fun i => i.2.1 ≤ ys.length ∧ bisZ false (fun i => p229 (ys.getD i PySem.Str.empty)) x (l0 : Int) ys.length = bis false (fun i => p229 (ys.getD i PySem.Str.empty)) x (i.2.1 - i.1) i.1 i.2.1)
        (fun i y => if y = PySem.Str.ofString "mid" then i.2.2.2.2 else List.lookup y [(PySem.Str.ofString "lo", .int i.1 i.2.2.1), (PySem.Str.ofString "hi", .int i.2.1 i.2.2.2.1), (PySem.Str.ofString "a", .ref ra), (PySem.Str.ofString "x", .int x tx), (PySem.Str.ofString "key", .ref 108)])
        (fun _ => news) (l0, ys.length, _, _, none) [PySem.Str.ofString "lo", PySem.Str.ofString "hi", PySem.Str.ofString "mid", PySem.Str.ofString "a", PySem.Str.ofString "x", PySem.Str.ofString "key"] kF (by with_reducible assumption) ⟨by first | assumption | exact Nat.le_refl _, bisZ_nat⟩ ?m1_13 ?m2_13 (fun _ q => q) ?step_13 ?hE_13
      case m1_13 => walk_at "M map1"
      case m2_13 => walk_at "M map2"
      case hE_13 => with_unfolding_all passes_own
      clear kF
      rintro ⟨l1, h1, t1, t2, mo⟩ h tk ⟨hh1, hb1⟩ kF1 kN1
      dsimp only at hh1 hb1 kF1 kN1
      k_steps
      · refine' whlFr_next ((l1 + h1) / 2 + 1, h1, _, _, _) [PySem.Str.ofString "lo", PySem.Str.ofString "hi", PySem.Str.ofString "mid", PySem.Str.ofString "a", PySem.Str.ofString "x", PySem.Str.ofString "key"] (by with_reducible assumption) (by with_reducible assumption) ?mu_13 ?c_13 ?m1_13 ?m2_13 (fun _ q => q)
        case mu_13 => dsimp only; omega
        case c_13 => exact ⟨hh1, hb1.trans (bisL_lo (k := (fun i => p229 (ys.getD i PySem.Str.empty))) (by assumption) (by assumption) (by assumption))⟩
        case m1_13 => walk_at "M map1"
        case m2_13 => walk_at "M map2"
      · refine' whlFr_next (l1, (l1 + h1) / 2, _, _, _) [PySem.Str.ofString "lo", PySem.Str.ofString "hi", PySem.Str.ofString "mid", PySem.Str.ofString "a", PySem.Str.ofString "x", PySem.Str.ofString "key"] (by with_reducible assumption) (by with_reducible assumption) ?mu_13 ?c_13 ?m1_13 ?m2_13 (fun _ q => q)
        case mu_13 => dsimp only; omega
        case c_13 => exact ⟨by dsimp only; omega, hb1.trans (bisL_hi (k := (fun i => p229 (ys.getD i PySem.Str.empty))) (by assumption) (by assumption) (by assumption))⟩
        case m1_13 => walk_at "M map1"
        case m2_13 => walk_at "M map2"
      · (show E _ _)
        exact hexc _ _ _ _ _ _ _ _ (hb1.trans (bis_err (k := (fun i => p229 (ys.getD i PySem.Str.empty))) (by assumption) (by assumption))) (by assumption) (by assumption) (by assumption) (by assumption)
      · (show Q _ _)
        exact hret _ _ _ _ (hb1.trans (bis_end (by assumption))) (by assumption) (by assumption)

    · skip
      walk_at "M enter"
      k_steps
      · (show E _ _)
        exact hexc _ _ _ _ _ _ _ _ (bisZ_neg (by assumption)) (by assumption) (by assumption) (by assumption) (by assumption)
      obtain ⟨l0, rfl⟩ := nat_of (by assumption)
      have hv1 := hv0 (Int.natCast_nonneg _)
      refine Hold.out ?_
      (with_reducible rename Fr _ _ _ _ => kF)
      refine' while_fr (fun i : Nat × Nat × Tok × Tok × Option Value => i.2.1 - i.1) (fun i => i.2.1 ≤ ys.length ∧ bisZ false (fun i => p229 (ys.getD i PySem.Str.empty)) x (l0 : Int) hi = bis false (fun i => p229 (ys.getD i PySem.Str.empty)) x (i.2.1 - i.1) i.1 i.2.1)
        (fun i y => if y = PySem.Str.ofString "mid" then i.2.2.2.2 else List.lookup y [(PySem.Str.ofString "lo", .int i.1 i.2.2.1), (PySem.Str.ofString "hi", .int i.2.1 i.2.2.2.1), (PySem.Str.ofString "a", .ref ra), (PySem.Str.ofString "x", .int x tx), (PySem.Str.ofString "key", .ref 108)])
        (fun _ => news) (l0, hi, _, _, none) [PySem.Str.ofString "lo", PySem.Str.ofString "hi", PySem.Str.ofString "mid", PySem.Str.ofString "a", PySem.Str.ofString "x", PySem.Str.ofString "key"] kF (by with_reducible assumption) ⟨by first | assumption | exact Nat.le_refl _, bisZ_nat⟩ ?m1_14 ?m2_14 (fun _ q => q) ?step_14 ?hE_14
      case m1_14 => walk_at "M map1"
      case m2_14 => walk_at "M map2"
      case hE_14 => with_unfolding_all passes_own
      clear kF
      rintro ⟨l1, h1, t1, t2, mo⟩ h tk ⟨hh1, hb1⟩ kF1 kN1
      dsimp only at hh1 hb1 kF1 kN1
      k_steps
      · refine' whlFr_next ((l1 + h1) / 2 + 1, h1, _, _, _) [PySem.Str.ofString "lo", PySem.Str.ofString "hi", PySem.Str.ofString "mid", PySem.Str.ofString "a", PySem.Str.ofString "x", PySem.Str.ofString "key"] (by with_reducible assumption) (by with_reducible assumption) ?mu_14 ?c_14 ?m1_14 ?m2_14 (fun _ q => q)
        case mu_14 => dsimp only; omega
        case c_14 => exact ⟨hh1, hb1.trans (bisL_lo (k := (fun i => p229 (ys.getD i PySem.Str.empty))) (by assumption) (by assumption) (by assumption))⟩
        case m1_14 => walk_at "M map1"
        case m2_14 => walk_at "M map2"
      · refine' whlFr_next (l1, (l1 + h1) / 2, _, _, _) [PySem.Str.ofString "lo", PySem.Str.ofString "hi", PySem.Str.ofString "mid", PySem.Str.ofString "a", PySem.Str.ofString "x", PySem.Str.ofString "key"] (by with_reducible assumption) (by with_reducible assumption) ?mu_14 ?c_14 ?m1_14 ?m2_14 (fun _ q => q)
        case mu_14 => dsimp only; omega
        case c_14 => exact ⟨by dsimp only; omega, hb1.trans (bisL_hi (k := (fun i => p229 (ys.getD i PySem.Str.empty))) (by assumption) (by assumption) (by assumption))⟩
        case m1_14 => walk_at "M map1"
        case m2_14 => walk_at "M map2"
      · (show E _ _)
        exact hexc _ _ _ _ _ _ _ _ (hb1.trans (bis_err (k := (fun i => p229 (ys.getD i PySem.Str.empty))) (by assumption) (by assumption))) (by assumption) (by assumption) (by assumption) (by assumption)
      · (show Q _ _)
        exact hret _ _ _ _ (hb1.trans (bis_end (by assumption))) (by assumption) (by assumption)

  · rcases hhi with ⟨rfl, rfl⟩ | ⟨th, rfl, hhi⟩
    · skip
      walk_at "M enter"
      k_steps
      · (show E _ _)
        exact hexc _ _ _ _ _ _ _ _ (bisZ_neg (by assumption)) (by assumption) (by assumption) (by assumption) (by assumption)
      obtain ⟨l0, rfl⟩ := nat_of (by assumption)
      have hv1 := hv0 (Int.natCast_nonneg _)
      refine Hold.out ?_
      (with_reducible rename Fr _ _ _ _ => kF)
      refine' while_fr (fun i : Nat × Nat × Tok × Tok × Option Value => i.2.1 - i.1) (fun i => i.2.1 ≤ ns.length ∧ bisZ false (fun i => .ok (ns.getD i 0)) x (l0 : Int) ns.length = bis false (fun i => .ok (ns.getD i 0)) x (i.2.1 - i.1) i.1 i.2.1)
        (fun i y => if y = PySem.Str.ofString "mid" then i.2.2.2.2 else List.lookup y [(PySem.Str.ofString "lo", .int i.1 i.2.2.1), (PySem.Str.ofString "hi", .int i.2.1 i.2.2.2.1), (PySem.Str.ofString "a", .ref ra), (PySem.Str.ofString "x", .int x tx), (PySem.Str.ofString "key", .none)])
        (fun _ => news) (l0, ns.length, _, _, none) [PySem.Str.ofString "lo", PySem.Str.ofString "hi", PySem.Str.ofString "mid", PySem.Str.ofString "a", PySem.Str.ofString "x", PySem.Str.ofString "key"] kF (by with_reducible assumption) ⟨by first | assumption | exact Nat.le_refl _, bisZ_nat⟩ ?m1_15 ?m2_15 (fun _ q => q) ?step_15 ?hE_15
      case m1_15 => walk_at "M map1"
      case m2_15 => walk_at "M map2"
      case hE_15 => with_unfolding_all passes_own
      clear kF
      rintro ⟨l1, h1, t1, t2, mo⟩ h tk ⟨hh1, hb1⟩ kF1 kN1
      dsimp only at hh1 hb1 kF1 kN1
      k_steps
      · refine' whlFr_next ((l1 + h1) / 2 + 1, h1, _, _, _) [PySem.Str.ofString "lo", PySem.Str.ofString "hi", PySem.Str.ofString "mid", PySem.Str.ofString "a", PySem.Str.ofString "x", PySem.Str.ofString "key"] (by with_reducible assumption) (by with_reducible assumption) ?mu_15 ?c_15 ?m1_15 ?m2_15 (fun _ q => q)
        case mu_15 => dsimp only; omega
        case c_15 => exact ⟨hh1, hb1.trans (bisL_lo (k := (fun i => .ok (ns.getD i 0))) (by assumption) rfl (by assumption))⟩
        case m1_15 => walk_at "M map1"
        case m2_15 => walk_at "M map2"
      · refine' whlFr_next (l1, (l1 + h1) / 2, _, _, _) [PySem.Str.ofString "lo", PySem.Str.ofString "hi", PySem.Str.ofString "mid", PySem.Str.ofString "a", PySem.Str.ofString "x", PySem.Str.ofString "key"] (by with_reducible assumption) (by with_reducible assumption) ?mu_15 ?c_15 ?m1_15 ?m2_15 (fun _ q => q)
        case mu_15 => dsimp only; omega
        case c_15 => exact ⟨by dsimp only; omega, hb1.trans (bisL_hi (k := (fun i => .ok (ns.getD i 0))) (by assumption) rfl (by assumption))⟩
        case m1_15 => walk_at "M map1"
        case m2_15 => walk_at "M map2"
      · (show Q _ _)
        exact hret _ _ _ _ (hb1.trans (bis_end (by assumption))) (by assumption) (by assumption)

    · skip
      walk_at "M enter"
      k_steps
      · (show E _ _)
        exact hexc _ _ _ _ _ _ _ _ (bisZ_neg (by assumption)) (by assumption) (by assumption) (by assumption) (by assumption)
      obtain ⟨l0, rfl⟩ := nat_of (by assumption)
      have hv1 := hv0 (Int.natCast_nonneg _)
      refine Hold.out ?_
      (with_reducible rename Fr _ _ _ _ => kF)
      refine' while_fr (fun i : Nat × Nat × Tok × Tok × Option Value => i.2.1 - i.1) (fun i => i.2.1 ≤ ns.length ∧ bisZ false (fun i => .ok (ns.getD i 0)) x (l0 : Int) hi = bis false (fun i => .ok (ns.getD i 0)) x (i.2.1 - i.1) i.1 i.2.1)
        (fun i y => if y = PySem.Str.ofString "mid" then i.2.2.2.2 else List.lookup y [(PySem.Str.ofString "lo", .int i.1 i.2.2.1), (PySem.Str.ofString "hi", .int i.2.1 i.2.2.2.1), (PySem.Str.ofString "a", .ref ra), (PySem.Str.ofString "x", .int x tx), (PySem.Str.ofString "key", .none)])
        (fun _ => news) (l0, hi, _, _, none) [PySem.Str.ofString "lo", PySem.Str.ofString "hi", PySem.Str.ofString "mid", PySem.Str.ofString "a", PySem.Str.ofString "x", PySem.Str.ofString "key"] kF (by with_reducible assumption) ⟨by first | assumption | exact Nat.le_refl _, bisZ_nat⟩ ?m1_16 ?m2_16 (fun _ q => q) ?step_16 ?hE_16
      case m1_16 => walk_at "M map1"
      case m2_16 => walk_at "M map2"
      case hE_16 => with_unfolding_all passes_own
      clear kF
      rintro ⟨l1, h1, t1, t2, mo⟩ h tk ⟨hh1, hb1⟩ kF1 kN1
      dsimp only at hh1 hb1 kF1 kN1
      k_steps
      · refine' whlFr_next ((l1 + h1) / 2 + 1, h1, _, _, _) [PySem.Str.ofString "lo", PySem.Str.ofString "hi", PySem.Str.ofString "mid", PySem.Str.ofString "a", PySem.Str.ofString "x", PySem.Str.ofString "key"] (by with_reducible assumption) (by with_reducible assumption) ?mu_16 ?c_16 ?m1_16 ?m2_16 (fun _ q => q)
        case mu_16 => dsimp only; omega
        case c_16 => exact ⟨hh1, hb1.trans (bisL_lo (k := (fun i => .ok (ns.getD i 0))) (by assumption) rfl (by assumption))⟩
        case m1_16 => walk_at "M map1"
        case m2_16 => walk_at "M map2"
      · refine' whlFr_next (l1, (l1 + h1) / 2, _, _, _) [PySem.Str.ofString "lo", PySem.Str.ofString "hi", PySem.Str.ofString "mid", PySem.Str.ofString "a", PySem.Str.ofString "x", PySem.Str.ofString "key"] (by with_reducible assumption) (by with_reducible assumption) ?mu_16 ?c_16 ?m1_16 ?m2_16 (fun _ q => q)
        case mu_16 => dsimp only; omega
        case c_16 => exact ⟨by dsimp only; omega, hb1.trans (bisL_hi (k := (fun i => .ok (ns.getD i 0))) (by assumption) rfl (by assumption))⟩
        case m1_16 => walk_at "M map1"
        case m2_16 => walk_at "M map2"
      · (show Q _ _)
        exact hret _ _ _ _ (hb1.trans (bis_end (by assumption))) (by assumption) (by assumption)

end
section
variable {w : World} {p : Program} {loose : List PStr} {mean : ExcName → Option Value} {mg mb : PStr → Option Value}
    {dp un : Nat} {gd : Option (List Code)} {cn : PStr} {cs : Scope} {a : Addr} {ccd : Value} {cl : List (PStr × Addr)} {outer : List Env} {A₀ : Around} {base h₀ : Heap} {L : Addr} {m : PStr → Option Value}
    {s : Shared} {Q E : Value → Shared → Prop} {news : Ldg}
    (B : Below A₀ base outer h₀) (X : (KK.heap_1 w.params).In h₀) (T : Top p loose mean mg mb h₀) (XB : (KK.heap_1 w.params).In base) (TB : Top p loose mean mg mb base) (D : KtsDicts (outer.filterMap (·.frame)) h₀) (hck : cs.kind = .function)
include B X T XB TB D hck

theorem bisR_four {ra : Addr} {vs : List Value} {k : Nat → KRes} {nn ep : Nat} {x : Int} {lo : Int} {hi : Nat} {kv hv : Value} {tx tl : Tok} (hd5 : dp + 20 < recursionLimit) (hu5 : un + 100 < cLine) (F : Fr h₀ L s.heap m) (N : News h₀ L s.heap news)
   (hra : (ra, lstOf vs ep) ∈ news) (hrow : RowIs 108 kv vs k nn) (hkv : kv = .none) (hl : nn ≤ 1000) (hhi : HiIs hv hi nn) (hv0 : 0 ≤ lo → ∀ msg, bisZ true k x lo hi ≠ .error (.value, msg))
   (hret : ∀ n t h' tk, bisZ true k x lo hi = .ok n → Fr h₀ L h' m → News h₀ L h' news → Q (.int n t) { s with heap := h', toks := tk })
   (hexc : ∀ ek r t1 g₂ e t h' tk, bisZ true k x lo hi = .error (ek, r) → Fr h₀ L g₂ m → RaisedS base g₂ (envX cn cs L a ccd cl :: outer) e (clsOf ek) t [.str r t1] news h' → RaisedK base (envX cn cs L a ccd cl :: outer) e (clsOf ek) t [.str r t1] news h' → g₂.UpToSlots h' → E (.ref e) { s with heap := h', toks := tk }) :
   wpAny (model PySem.Challenge.rw_pm0034_03.row.prog w) (ktrTop dp un gd cn cs L a ccd cl outer) (call (.ref 32) [.ref ra, .int x tx, .int lo tl, hv] []) Q E s := by
  walk_at "M fill"
  rcases hrow with ⟨ys, hS, rfl, rfl, rfl, h640⟩ | ⟨ns, hS, rfl, rfl, rfl⟩
  · cases hkv
  · rcases hhi with ⟨rfl, rfl⟩ | ⟨th, rfl, hhi⟩
    · skip
      walk_at "M enter"
      k_steps
      · (show E _ _)
        exact hexc _ _ _ _ _ _ _ _ (bisZ_neg (by assumption)) (by assumption) (by assumption) (by assumption) (by assumption)
      obtain ⟨l0, rfl⟩ := nat_of (by assumption)
      have hv1 := hv0 (Int.natCast_nonneg _)
      refine Hold.out ?_
      (with_reducible rename Fr _ _ _ _ => kF)
      refine' while_fr (fun i : Nat × Nat × Tok × Tok × Option Value => i.2.1 - i.1) (fun i => i.2.1 ≤ ns.length ∧ bisZ true (fun i => .ok (ns.getD i 0)) x (l0 : Int) ns.length = bis true (fun i => .ok (ns.getD i 0)) x (i.2.1 - i.1) i.1 i.2.1)
        (fun i y => if y = PySem.Str.ofString "mid" then i.2.2.2.2 else List.lookup y [(PySem.Str.ofString "lo", .int i.1 i.2.2.1), (PySem.Str.ofString "hi", .int i.2.1 i.2.2.2.1), (PySem.Str.ofString "a", .ref ra), (PySem.Str.ofString "x", .int x tx), (PySem.Str.ofString "key", .none)])
        (fun _ => news) (l0, ns.length, _, _, none) [PySem.Str.ofString "lo", PySem.Str.ofString "hi", PySem.Str.ofString "mid", PySem.Str.ofString "a", PySem.Str.ofString "x", PySem.Str.ofString "key"] kF (by with_reducible assumption) ⟨by first | assumption | exact Nat.le_refl _, bisZ_nat⟩ ?m1_7 ?m2_7 (fun _ q => q) ?step_7 ?hE_7
      case m1_7 => walk_at "M map1"
      case m2_7 => walk_at "M map2"
      case hE_7 => with_unfolding_all passes_own
      clear kF
      rintro ⟨l1, h1, t1, t2, mo⟩ h tk ⟨hh1, hb1⟩ kF1 kN1
      dsimp only at hh1 hb1 kF1 kN1
      k_steps
      · refine' whlFr_next (l1, (l1 + h1) / 2, _, _, _) [PySem.Str.ofString "lo", PySem.Str.ofString "hi", PySem.Str.ofString "mid", PySem.Str.ofString "a", PySem.Str.ofString "x", PySem.Str.ofString "key"] (by with_reducible assumption) (by with_reducible assumption) ?mu_7 ?c_7 ?m1_7 ?m2_7 (fun _ q => q)
        case mu_7 => dsimp only; omega
        case c_7 => exact ⟨by dsimp only; omega, hb1.trans (bisR_hi (k := (fun i => .ok (ns.getD i 0))) (by assumption) rfl (by assumption))⟩
        case m1_7 => walk_at "M map1"
        case m2_7 => walk_at "M map2"
      · refine' whlFr_next ((l1 + h1) / 2 + 1, h1, _, _, _) [PySem.Str.ofString "lo", PySem.Str.ofString "hi", PySem.Str.ofString "mid", PySem.Str.ofString "a", PySem.Str.ofString "x", PySem.Str.ofString "key"] (by with_reducible assumption) (by with_reducible assumption) ?mu_7 ?c_7 ?m1_7 ?m2_7 (fun _ q => q)
        case mu_7 => dsimp only; omega
        case c_7 => exact ⟨hh1, hb1.trans (bisR_lo (k := (fun i => .ok (ns.getD i 0))) (by assumption) rfl (by assumption))⟩
        case m1_7 => walk_at "M map1"
        case m2_7 => walk_at "M map2"
      · (show Q _ _)
        exact hret _ _ _ _ (hb1.trans (bis_end (by assumption))) (by assumption) (by assumption)

    · skip
      walk_at "M enter"
      k_steps
      · (show E _ _)
        exact hexc _ _ _ _ _ _ _ _ (bisZ_neg (by assumption)) (by assumption) (by assumption) (by assumption) (by assumption)
      obtain ⟨l0, rfl⟩ := nat_of (by assumption)
      have hv1 := hv0 (Int.natCast_nonneg _)
      refine Hold.out ?_
      (with_reducible rename Fr _ _ _ _ => kF)
      refine' while_fr (fun i : Nat × Nat × Tok × Tok × Option Value => i.2.1 - i.1) (fun i => i.2.1 ≤ ns.length ∧ bisZ true (fun i => .ok (ns.getD i 0)) x (l0 : Int) hi = bis true (fun i => .ok (ns.getD i 0)) x (i.2.1 - i.1) i.1 i.2.1)
        (fun i y => if y = PySem.Str.ofString "mid" then i.2.2.2.2 else List.lookup y [(PySem.Str.ofString "lo", .int i.1 i.2.2.1), (PySem.Str.ofString "hi", .int i.2.1 i.2.2.2.1), (PySem.Str.ofString "a", .ref ra), (PySem.Str.ofString "x", .int x tx), (PySem.Str.ofString "key", .none)])
        (fun _ => news) (l0, hi, _, _, none) [PySem.Str.ofString "lo", PySem.Str.ofString "hi", PySem.Str.ofString "mid", PySem.Str.ofString "a", PySem.Str.ofString "x", PySem.Str.ofString "key"] kF (by with_reducible assumption) ⟨by first | assumption | exact Nat.le_refl _, bisZ_nat⟩ ?m1_8 ?m2_8 (fun _ q => q) ?step_8 ?hE_8
      case m1_8 => walk_at "M map1"
      case m2_8 => walk_at "M map2"
      case hE_8 => with_unfolding_all passes_own
      clear kF
      rintro ⟨l1, h1, t1, t2, mo⟩ h tk ⟨hh1, hb1⟩ kF1 kN1
      dsimp only at hh1 hb1 kF1 kN1
      k_steps
      · refine' whlFr_next (l1, (l1 + h1) / 2, _, _, _) [PySem.Str.ofString "lo", PySem.Str.ofString "hi", PySem.Str.ofString "mid", PySem.Str.ofString "a", PySem.Str.ofString "x", PySem.Str.ofString "key"] (by with_reducible assumption) (by with_reducible assumption) ?mu_8 ?c_8 ?m1_8 ?m2_8 (fun _ q => q)
        case mu_8 => dsimp only; omega
        case c_8 => exact ⟨by dsimp only; omega, hb1.trans (bisR_hi (k := (fun i => .ok (ns.getD i 0))) (by assumption) rfl (by assumption))⟩
        case m1_8 => walk_at "M map1"
        case m2_8 => walk_at "M map2"
      · refine' whlFr_next ((l1 + h1) / 2 + 1, h1, _, _, _) [PySem.Str.ofString "lo", PySem.Str.ofString "hi", PySem.Str.ofString "mid", PySem.Str.ofString "a", PySem.Str.ofString "x", PySem.Str.ofString "key"] (by with_reducible assumption) (by with_reducible assumption) ?mu_8 ?c_8 ?m1_8 ?m2_8 (fun _ q => q)
        case mu_8 => dsimp only; omega
        case c_8 => exact ⟨hh1, hb1.trans (bisR_lo (k := (fun i => .ok (ns.getD i 0))) (by assumption) rfl (by assumption))⟩
        case m1_8 => walk_at "M map1"
        case m2_8 => walk_at "M map2"
      · (show Q _ _)
        exact hret _ _ _ _ (hb1.trans (bis_end (by assumption))) (by assumption) (by assumption)

end
section
variable {w : World} {p : Program} {loose : List PStr} {mean : ExcName → Option Value} {mg mb : PStr → Option Value}
    {dp un : Nat} {gd : Option (List Code)} {cn : PStr} {cs : Scope} {a : Addr} {ccd : Value} {cl : List (PStr × Addr)} {outer : List Env} {A₀ : Around} {base h₀ : Heap} {L : Addr} {m : PStr → Option Value}
    {s : Shared} {Q E : Value → Shared → Prop} {news : Ldg}
    (B : Below A₀ base outer h₀) (X : (KK.heap_1 w.params).In h₀) (T : Top p loose mean mg mb h₀) (XB : (KK.heap_1 w.params).In base) (TB : Top p loose mean mg mb base) (D : KtsDicts (outer.filterMap (·.frame)) h₀) (hck : cs.kind = .function)
include B X T XB TB D hck

theorem bisL_four {ra : Addr} {vs : List Value} {k : Nat → KRes} {nn ep : Nat} {x : Int} {lo : Int} {hi : Nat} {kv hv : Value} {tx tl : Tok} (hd5 : dp + 20 < recursionLimit) (hu5 : un + 100 < cLine) (F : Fr h₀ L s.heap m) (N : News h₀ L s.heap news)
   (hra : (ra, lstOf vs ep) ∈ news) (hrow : RowIs 108 kv vs k nn) (hkv : kv = .none) (hl : nn ≤ 1000) (hhi : HiIs hv hi nn) (hv0 : 0 ≤ lo → ∀ msg, bisZ false k x lo hi ≠ .error (.value, msg))
   (hret : ∀ n t h' tk, bisZ false k x lo hi = .ok n → Fr h₀ L h' m → News h₀ L h' news → Q (.int n t) { s with heap := h', toks := tk })
   (hexc : ∀ ek r t1 g₂ e t h' tk, bisZ false k x lo hi = .error (ek, r) → Fr h₀ L g₂ m → RaisedS base g₂ (envX cn cs L a ccd cl :: outer) e (clsOf ek) t [.str r t1] news h' → RaisedK base (envX cn cs L a ccd cl :: outer) e (clsOf ek) t [.str r t1] news h' → g₂.UpToSlots h' → E (.ref e) { s with heap := h', toks := tk }) :
   wpAny (model PySem.Challenge.rw_pm0034_03.row.prog w) (ktrTop dp un gd cn cs L a ccd cl outer) (call (.ref 50) [.ref ra, .int x tx, .int lo tl, hv] []) Q E s := by
  walk_at "M fill"
  rcases hrow with ⟨ys, hS, rfl, rfl, rfl, h640⟩ | ⟨ns, hS, rfl, rfl, rfl⟩
  · cases hkv
  · rcases hhi with ⟨rfl, rfl⟩ | ⟨th, rfl, hhi⟩
    · skip
      walk_at "M enter"
      k_steps
      · (show E _ _)
        exact hexc _ _ _ _ _ _ _ _ (bisZ_neg (by assumption)) (by assumption) (by assumption) (by assumption) (by assumption)
      obtain ⟨l0, rfl⟩ := nat_of (by assumption)
      have hv1 := hv0 (Int.natCast_nonneg _)
      refine Hold.out ?_
      (with_reducible rename Fr _ _ _ _ => kF)
      refine' while_fr (fun i : Nat × Nat × Tok × Tok × Option Value => i.2.1 - i.1) (fun i => i.2.1 ≤ ns.length ∧ bisZ false (fun i => .ok (ns.getD i 0)) x (l0 : Int) ns.length = bis false (fun i => .ok (ns.getD i 0)) x (i.2.1 - i.1) i.1 i.2.1)
        (fun i y => if y = PySem.Str.ofString "mid" then i.2.2.2.2 else List.lookup y [(PySem.Str.ofString "lo", .int i.1 i.2.2.1), (PySem.Str.ofString "hi", .int i.2.1 i.2.2.2.1), (PySem.Str.ofString "a", .ref ra), (PySem.Str.ofString "x", .int x tx), (PySem.Str.ofString "key", .none)])
        (fun _ => news) (l0, ns.length, _, _, none) [PySem.Str.ofString "lo", PySem.Str.ofString "hi", PySem.Str.ofString "mid", PySem.Str.ofString "a", PySem.Str.ofString "x", PySem.Str.ofString "key"] kF (by with_reducible assumption) ⟨by first | assumption | exact Nat.le_refl _, bisZ_nat⟩ ?m1_19 ?m2_19 (fun _ q => q) ?step_19 ?hE_19
      case m1_19 => walk_at "M map1"
      case m2_19 => walk_at "M map2"
      case hE_19 => with_unfolding_all passes_own
      clear kF
      rintro ⟨l1, h1, t1, t2, mo⟩ h tk ⟨hh1, hb1⟩ kF1 kN1
      dsimp only at hh1 hb1 kF1 kN1
      k_steps
      · refine' whlFr_next ((l1 + h1) / 2 + 1, h1, _, _, _) [PySem.Str.ofString "lo", PySem.Str.ofString "hi", PySem.Str.ofString "mid", PySem.Str.ofString "a", PySem.Str.ofString "x", PySem.Str.ofString "key"] (by with_reducible assumption) (by with_reducible assumption) ?mu_19 ?c_19 ?m1_19 ?m2_19 (fun _ q => q)
        case mu_19 => dsimp only; omega
        case c_19 => exact ⟨hh1, hb1.trans (bisL_lo (k := (fun i => .ok (ns.getD i 0))) (by assumption) rfl (by assumption))⟩
        case m1_19 => walk_at "M map1"
        case m2_19 => walk_at "M map2"
      · refine' whlFr_next (l1, (l1 + h1) / 2, _, _, _) [PySem.Str.ofString "lo", PySem.Str.ofString "hi", PySem.Str.ofString "mid", PySem.Str.ofString "a", PySem.Str.ofString "x", PySem.Str.ofString "key"] (by with_reducible assumption) (by with_reducible assumption) ?mu_19 ?c_19 ?m1_19 ?m2_19 (fun _ q => q)
        case mu_19 => dsimp only; omega
        case c_19 => exact ⟨by dsimp only; omega, hb1.trans (bisL_hi (k := (fun i => .ok (ns.getD i 0))) (by assumption) rfl (by assumption))⟩
        case m1_19 => walk_at "M map1"
        case m2_19 => walk_at "M map2"
      · (show Q _ _)
        exact hret _ _ _ _ (hb1.trans (bis_end (by assumption))) (by assumption) (by assumption)

    · skip
      walk_at "M enter"
      k_steps
      · (show E _ _)
        exact hexc _ _ _ _ _ _ _ _ (bisZ_neg (by assumption)) (by assumption) (by assumption) (by assumption) (by assumption)
      obtain ⟨l0, rfl⟩ := nat_of (by assumption)
      have hv1 := hv0 (Int.natCast_nonneg _)
      refine Hold.out ?_
      (with_reducible rename Fr _ _ _ _ => kF)
      refine' while_fr (fun i : Nat × Nat × Tok × Tok × Option Value => i.2.1 - i.1) (fun i => i.2.1 ≤ ns.length ∧ bisZ false (fun i => .ok (ns.getD i 0)) x (l0 : Int) hi = bis false (fun i => .ok (ns.getD i 0)) x (i.2.1 - i.1) i.1 i.2.1)
        (fun i y => if y = PySem.Str.ofString "mid" then i.2.2.2.2 else List.lookup y [(PySem.Str.ofString "lo", .int i.1 i.2.2.1), (PySem.Str.ofString "hi", .int i.2.1 i.2.2.2.1), (PySem.Str.ofString "a", .ref ra), (PySem.Str.ofString "x", .int x tx), (PySem.Str.ofString "key", .none)])
        (fun _ => news) (l0, hi, _, _, none) [PySem.Str.ofString "lo", PySem.Str.ofString "hi", PySem.Str.ofString "mid", PySem.Str.ofString "a", PySem.Str.ofString "x", PySem.Str.ofString "key"] kF (by with_reducible assumption) ⟨by first | assumption | exact Nat.le_refl _, bisZ_nat⟩ ?m1_20 ?m2_20 (fun _ q => q) ?step_20 ?hE_20
      case m1_20 => walk_at "M map1"
      case m2_20 => walk_at "M map2"
      case hE_20 => with_unfolding_all passes_own
      clear kF
      rintro ⟨l1, h1, t1, t2, mo⟩ h tk ⟨hh1, hb1⟩ kF1 kN1
      dsimp only at hh1 hb1 kF1 kN1
      k_steps
      · refine' whlFr_next ((l1 + h1) / 2 + 1, h1, _, _, _) [PySem.Str.ofString "lo", PySem.Str.ofString "hi", PySem.Str.ofString "mid", PySem.Str.ofString "a", PySem.Str.ofString "x", PySem.Str.ofString "key"] (by with_reducible assumption) (by with_reducible assumption) ?mu_20 ?c_20 ?m1_20 ?m2_20 (fun _ q => q)
        case mu_20 => dsimp only; omega
        case c_20 => exact ⟨hh1, hb1.trans (bisL_lo (k := (fun i => .ok (ns.getD i 0))) (by assumption) rfl (by assumption))⟩
        case m1_20 => walk_at "M map1"
        case m2_20 => walk_at "M map2"
      · refine' whlFr_next (l1, (l1 + h1) / 2, _, _, _) [PySem.Str.ofString "lo", PySem.Str.ofString "hi", PySem.Str.ofString "mid", PySem.Str.ofString "a", PySem.Str.ofString "x", PySem.Str.ofString "key"] (by with_reducible assumption) (by with_reducible assumption) ?mu_20 ?c_20 ?m1_20 ?m2_20 (fun _ q => q)
        case mu_20 => dsimp only; omega
        case c_20 => exact ⟨by dsimp only; omega, hb1.trans (bisL_hi (k := (fun i => .ok (ns.getD i 0))) (by assumption) rfl (by assumption))⟩
        case m1_20 => walk_at "M map1"
        case m2_20 => walk_at "M map2"
      · (show Q _ _)
        exact hret _ _ _ _ (hb1.trans (bis_end (by assumption))) (by assumption) (by assumption)

end
end Mine
end
section
open PySem PySem.W PyProof.Rows PySem.Spec PySem.Calls
set_option Elab.async false
set_option maxRecDepth 100000
set_option maxHeartbeats 8000000
set_option linter.all false
namespace Mine
local macro_rules | `(tactic| walk_at $s:str) => `(tactic| k_extra $s)
local macro_rules | `(tactic| omega) => `(tactic| first
  | with_reducible assumption
  | (refine' room1 ?rmh ?rme; (case rmh => with_reducible assumption); (case rme => with_unfolding_all rfl))
  | (refine' room0 ?rmh ?rme; (case rmh => with_reducible assumption); (case rme => with_unfolding_all rfl))
  | (refine' room2 ?rmh ?rme; (case rmh => with_reducible assumption); (case rme => with_unfolding_all rfl))
  | (refine' room00 ?rmh; (case rmh => with_reducible assumption))
  | (refine num_le ?rme; (case rme => with_unfolding_all rfl))
  | (refine num_lt ?rme; (case rme => with_unfolding_all rfl))
  | (refine' le_num ?rmh ?rme; (case rmh => with_reducible assumption); (case rme => with_unfolding_all rfl))
  | (refine' eq_num ?rmh ?rme; (case rmh => with_reducible assumption); (case rme => with_unfolding_all rfl))
  | omega (config := {}))
theorem lines_D3_0 : True := by
  k_with_none
  k_with "execs cons" => ((refine f_execs ?_; intro qk))
  k_with "eval BinOp" => ((refine f_BinOp ?_; intro qk))
  k_with "exec Assign" => ((refine f_Assign ?_; intro qk))
  k_with "eval Subscript" => ((refine f_Subscript ?_; intro qk))
  k_with "isTrue Compare" => ((refine f_Compare ?_; intro qk))
  k_with "exec If" => ((refine f_If ?_; intro qk))
  k_with "eval Call" => (((fail_if_success (with_reducible show wpAny _ _ (eval (Expr.Call (Expr.Attribute _ _ _) _ _ _) _) _ _ _)); refine f_Call ?_; intro qk))
  k_with "spliced" => ((refine f_args ?_; intro qk))
  k_with "callWith" => ((refine f_method1 ?_; intro qk))
  k_with "exec Return some" => ((refine f_Return ?_; intro qk))
  k_with "eval Tuple" => ((refine f_Tuple ?_; intro qk))
  k_with "eval List" => ((refine f_List ?_; intro qk))
  k_with "eval IfExp" => ((refine f_IfExp ?_; intro qk))
  k_with "storeName" => ((k_here; k_dflt (refine' f_store ?F ?N ?_ ?a ?b; (case F => k_asm); (case N => k_asm); (case a => rfl); (case b => rfl); k_whole; intro m' h' F' N'; (try k_sweep))))
  k_with "M map1" => (first
    | (refine map_same ?_; with_unfolding_all rfl)
    | ((repeat' (refine List.forall_mem_cons.mpr (And.intro ?_ ?_))); (all_goals first | rfl | exact List.forall_mem_nil _)))
  k_with "M map2" => (first
    | (refine SameOut.both (b := fun _ => none) ?_ ?_ <;> (repeat (refine SameOut.upd ?_ (by with_unfolding_all rfl))) <;> exact SameOut.lookup rfl)
    | (refine' SameOut.both (b := ?kb) ?k1 ?k2; (case k1 => ((repeat (refine SameOut.upd ?_ (by with_unfolding_all rfl))); exact SameOut.refl)); (case k2 => ((repeat (refine SameOut.upd ?_ (by with_unfolding_all rfl))); exact SameOut.refl)))
    | (refine' SameOut.both (b := ?kb) ?k1 ?k2; (case k2 => ((repeat (refine SameOut.upd ?_ (by with_unfolding_all rfl))); exact SameOut.refl)); (case k1 => ((repeat (refine SameOut.skip ?_)); (repeat (refine SameOut.upd ?_ (by with_unfolding_all rfl))); exact SameOut.refl)))
    | (intro y hy; (repeat (refine (if_neg (ne_of_out hy (by with_unfolding_all rfl))).trans ?_)); (refine Eq.symm ?_); (repeat (refine (if_neg (ne_of_out hy (by with_unfolding_all rfl))).trans ?_)); first | rfl | exact lookup_out rfl hy | exact (lookup_out rfl hy).symm | exact (lookup_out rfl hy).trans (lookup_out rfl hy).symm))
  k_with "M fill" => ((
    have kk : PySem.Challenge.rw_pm0034_03 = PySem.Challenge.rw_pm0034_03 ∧ KK.heap_1 = KK.heap_1 := ⟨rfl, rfl⟩
    revert kk
    k_fill
    intro kk
    clear kk))
  k_with "M enter" => ((
    refine wpAny_call ?_
    k_dflt (refine' code_def ?k1 ?k2 ?k3 ?k4 ?k5 ?kA ?kF ?kK ?k6 ?k7 ?k8 ?k9 ?kB ?_ ?c2 ?c3 ?c4 ?c5; (case kA => exact rfl); (case kF => exact rfl); (case kK => assumption); (case k1 => k_asm); (case k2 => k_asm); (case k3 => k_asm); (case k4 => k_asm); (case k5 => k_asm); (case k6 => k_is); (case k7 => k_is); (case k8 => ((try dsimp only); omega)); (case k9 => first | exact BindsTo.of_eq rfl | (refine' kp_binds ?kx ?ke; (case kx => first | (refine' myIn ?kf ?ki; (case kf => with_reducible assumption); (case ki => with_reducible assumption)) | k_in); (case ke => exact fun _ => rfl)) | exact binds_K (by first | (refine' myIn ?kf ?ki; (case kf => with_reducible assumption); (case ki => with_reducible assumption)) | k_in) rfl (by k_is) rfl rfl rfl); (case c5 => decide); (case kB => exact locs rfl); (case c2 => exact rfl); (case c3 => exact rfl); (case c4 => exact rfl); k_whole; intro g' L' h' FG' F' N' B' X' T'; (have D' := kts_dict B' (by assumption) FG' rfl); (try dsimp only); (try k_lift B'); (refine let_AE (f := execs _) ?_; intro vk ak); (refine f_QE ?_; intro qk ek))))
  k_with "M enter0" => ((
    refine wpAny_call ?_
    k_dflt (refine' code_defS0X ?k1 ?k2 ?k3 ?k4 ?k5 ?kA ?kF ?kK ?k6 ?k7 ?k8 ?k9 ?kB ?_ ?c2 ?c3 ?c4 ?c5; (case kA => exact rfl); (case kF => exact rfl); (case kK => assumption); (case k1 => k_asm); (case k2 => k_asm); (case k3 => k_asm); (case k4 => k_asm); (case k5 => k_asm); (case k6 => k_is); (case k7 => k_is); (case k8 => ((try dsimp only); omega)); (case k9 => first | exact BindsTo.of_eq rfl | (refine' kp_binds ?kx ?ke; (case kx => first | (refine' myIn ?kf ?ki; (case kf => with_reducible assumption); (case ki => with_reducible assumption)) | k_in); (case ke => exact fun _ => rfl)) | exact binds_K (by first | (refine' myIn ?kf ?ki; (case kf => with_reducible assumption); (case ki => with_reducible assumption)) | k_in) rfl (by k_is) rfl rfl rfl); (case c5 => decide); (case kB => exact locs rfl); (case c2 => exact rfl); (case c3 => exact rfl); (case c4 => exact rfl); k_whole; intro g' L' h' FG' F' N' B' X' T' D'; (try dsimp only); (try k_lift B'); (refine let_AE (f := execs _) ?_; intro vk ak); (refine f_QE ?_; intro qk ek))))
  trivial
local macro_rules | `(tactic| k_mem) => `(tactic| first | with_reducible assumption | (refine mem_in ?_; with_reducible assumption))
theorem lines_D3_1 : True := by
  k_with "subscriptTail Name Constant ref int" => ((k_here; refine item_tupleT (News.isTup (by assumption) (by k_mem)) (by decide) (by decide) (by rfl) (by rfl) ?_))
  k_with "subscriptTail Name Constant ref int" => ((k_here; (with_reducible rename StrsAre _ _ => hSA); refine item_strsA (News.isList (by assumption) (by k_mem)) hSA (by decide) (by first | omega | (simp only [List.length_map]; omega)) (by decide) ?_; intro t'))
  k_with "call type:ValueError" => ((refine call_ValueError_made ?_; intro _ _ _))
  k_with "exec While Compare Name cons nil" => (refine Hold.mk ?_)
  k_with "exec While Compare" => (refine Hold.mk ?_)
  k_with "exec While Compare cons nil" => (refine Hold.mk ?_)
  k_with "exec While" => (refine Hold.mk ?_)
  k_with "binaryOp FloorDiv int int" => ((k_here; (with_reducible refine floordiv_pos ?kb1 ?kb2 ?_); (case kb1 => decide); (case kb2 => decide +kernel)))
  k_with "WhlIf" => ((refine whlIf_dec ?_ ?_ <;> intro _))
  k_with "subscriptTail Name Name ref int" => ((k_here; first
    | ((with_reducible rename StrsAre _ _ => hSA); refine item_strsA (News.isList (by assumption) (by k_mem)) hSA (by omega) (by omega) (by omega) ?_; intro t')
    | ((with_reducible rename IntsAre _ _ => hSA); refine item_intsA (News.isList (by assumption) (by k_mem)) hSA (by omega) (by omega) (by omega) ?_; intro t')))
  k_with "call builtin:len" => ((k_here; (with_reducible show wpAny _ _ (call (Value.builtin "len") [Value.ref _]) _ _ _); first
    | ((with_reducible rename StrsAre _ _ => hSA); refine len_strsA (News.isList (by assumption) (by k_mem)) hSA (by omega) ?_)
    | ((with_reducible rename IntsAre _ _ => hSA); refine len_intsA (News.isList (by assumption) (by k_mem)) hSA (by omega) ?_)))
  k_with "call ref" => (((with_reducible show wpAny _ _ (call (Value.ref 108) _) _ _ _); refine' port_spec ?kB ?kX ?kT ?kXB ?kTB ?kD ?kh ?kd ?ku ?kF ?kN ?k6 ?kv ?_ ?_; (case kB => assumption); (case kX => assumption); (case kT => assumption); (case kXB => assumption); (case kTB => assumption); (case kD => assumption); (case kh => rfl); (case kd => ((try dsimp only); omega)); (case ku => ((try dsimp only); omega)); (case kF => with_reducible assumption); (case kN => with_reducible assumption); (case k6 => first | exact getD_640 (by assumption) _ | assumption); (case kv => first | assumption | (have q := bis_nv (by assumption) (by assumption) (by assumption); exact q) | (have q := bis_nv ((by assumption : 0 ≤ _ → ∀ msg, _ ≠ _) (by omega)) (by assumption) (by assumption); exact q))))
  k_with "call ref" => (first
    | ((with_reducible show wpAny _ _ (call (Value.ref 32) _ _) _ _ _); refine' bisR_full ?kB ?kX ?kT ?kXB ?kTB ?kD ?kh ?kd ?ku ?kF ?kN ?kra ?kro ?kl ?khi ?khv ?_ ?_; (case kB => assumption); (case kX => assumption); (case kT => assumption); (case kXB => assumption); (case kTB => assumption); (case kD => assumption); (case kh => rfl); (case kd => ((try dsimp only); omega)); (case ku => ((try dsimp only); omega)); (case kF => with_reducible assumption); (case kN => with_reducible assumption); (case kra => k_mem); (case kro => assumption); (case kl => omega); (case khi => assumption); (case khv => first | assumption | (have q := hv_app (by assumption) (by assumption); exact q) | (have q := hv_app (by assumption) rfl; exact q)))
    | ((with_reducible show wpAny _ _ (call (Value.ref 50) _ _) _ _ _); refine' bisL_full ?kB ?kX ?kT ?kXB ?kTB ?kD ?kh ?kd ?ku ?kF ?kN ?kra ?kro ?kl ?khi ?khv ?_ ?_; (case kB => assumption); (case kX => assumption); (case kT => assumption); (case kXB => assumption); (case kTB => assumption); (case kD => assumption); (case kh => rfl); (case kd => ((try dsimp only); omega)); (case ku => ((try dsimp only); omega)); (case kF => with_reducible assumption); (case kN => with_reducible assumption); (case kra => k_mem); (case kro => assumption); (case kl => omega); (case khi => assumption); (case khv => first | assumption | (have q := hv_app (by assumption) (by assumption); exact q) | (have q := hv_app (by assumption) rfl; exact q)))
    | ((with_reducible show wpAny _ _ (call (Value.ref 32) _ _) _ _ _); refine' bisR_four ?kB ?kX ?kT ?kXB ?kTB ?kD ?kh ?kd ?ku ?kF ?kN ?kra ?kro ?kkv ?kl ?khi ?khv ?_ ?_; (case kB => assumption); (case kX => assumption); (case kT => assumption); (case kXB => assumption); (case kTB => assumption); (case kD => assumption); (case kh => rfl); (case kd => ((try dsimp only); omega)); (case ku => ((try dsimp only); omega)); (case kF => with_reducible assumption); (case kN => with_reducible assumption); (case kra => k_mem); (case kro => assumption); (case kkv => rfl); (case kl => omega); (case khi => assumption); (case khv => first | assumption | (have q := hv_app (by assumption) (by assumption); exact q) | (have q := hv_app (by assumption) rfl; exact q)))
    | ((with_reducible show wpAny _ _ (call (Value.ref 50) _ _) _ _ _); refine' bisL_four ?kB ?kX ?kT ?kXB ?kTB ?kD ?kh ?kd ?ku ?kF ?kN ?kra ?kro ?kkv ?kl ?khi ?khv ?_ ?_; (case kB => assumption); (case kX => assumption); (case kT => assumption); (case kXB => assumption); (case kTB => assumption); (case kD => assumption); (case kh => rfl); (case kd => ((try dsimp only); omega)); (case ku => ((try dsimp only); omega)); (case kF => with_reducible assumption); (case kN => with_reducible assumption); (case kra => k_mem); (case kro => assumption); (case kkv => rfl); (case kl => omega); (case khi => assumption); (case khv => first | assumption | (have q := hv_app (by assumption) (by assumption); exact q) | (have q := hv_app (by assumption) rfl; exact q))))
  k_with "call builtin:list.insert" => ((k_here; (with_reducible show wpAny _ _ (call (Value.builtin _) [Value.ref _, Value.int _ _, _]) _ _ _); refine' kl_insert ?F ?N ?f ?e (upd_of (by assumption)) ?z ?_; (case F => with_reducible assumption); (case N => with_reducible assumption); (case f => exact fits_bis (by assumption) (by assumption) (by omega) (by omega)); (case e => rfl); (case z => exact room_vs (by assumption) (by omega)); intro h' F' N'))
  trivial
section
variable {w : World} {p : Program} {loose : List PStr} {mean : ExcName → Option Value} {mg mb : PStr → Option Value}
    {dp un : Nat} {gd : Option (List Code)} {cn : PStr} {cs : Scope} {a : Addr} {ccd : Value} {cl : List (PStr × Addr)} {outer : List Env} {A₀ : Around} {base h₀ : Heap} {L : Addr} {m : PStr → Option Value}
    {s : Shared} {Q E : Value → Shared → Prop} {news : Ldg}
    (B : Below A₀ base outer h₀) (X : (KK.heap_1 w.params).In h₀) (T : Top p loose mean mg mb h₀) (XB : (KK.heap_1 w.params).In base) (TB : Top p loose mean mg mb base) (D : KtsDicts (outer.filterMap (·.frame)) h₀) (hck : cs.kind = .function)
include B X T XB TB D hck

theorem insR {ra : Addr} {vs : List Value} {k : Nat → KRes} {nn ep : Nat} {kx : KRes} {lo : Int} {hi : Nat} {kv hv xv : Value} {tl : Tok} {gN : Obj → Ldg} (hd5 : dp + 30 < recursionLimit) (hu5 : un + 200 < cLine) (F : Fr h₀ L s.heap m) (N : News h₀ L s.heap news)
   (U : UpdF ra (lstOf vs ep) news gN) (hrow : RowIs 108 kv vs k nn) (hx : ThingIs 108 kv xv kx) (hl : nn ≤ 1000) (hlo : lo ≤ 1000) (hhi : HiIs hv hi nn) (hxv : ∀ msg, kx ≠ .error (.value, msg)) (hv0 : ∀ x, kx = .ok x → 0 ≤ lo → ∀ msg, bisZ true k x lo hi ≠ .error (.value, msg))
   (hret : ∀ n h' tk, insZ true k kx lo hi = .ok n → Fr h₀ L h' m → News h₀ L h' (gN (lstOf (kl_ins vs n xv) (ep + 1))) → Q .none { s with heap := h', toks := tk })
   (hexc : ∀ ek r t1 g₂ e t h' tk, insZ true k kx lo hi = .error (ek, r) → Fr h₀ L g₂ m → RaisedS base g₂ (envX cn cs L a ccd cl :: outer) e (clsOf ek) t [.str r t1] news h' → RaisedK base (envX cn cs L a ccd cl :: outer) e (clsOf ek) t [.str r t1] news h' → g₂.UpToSlots h' → E (.ref e) { s with heap := h', toks := tk }) :
   wpAny (model PySem.Challenge.rw_pm0034_03.row.prog w) (ktrTop dp un gd cn cs L a ccd cl outer) (call (.ref 23) [.ref ra, xv, .int lo tl, hv] [(PySem.Str.ofString "key", kv)]) Q E s := by
  walk_at "M fill"
  have hrl := hrow.length
  have hra := updF_mem U
  rcases hx with ⟨xr, xt, rfl, rfl, rfl, h640⟩ | ⟨xn, xt, rfl, rfl, rfl⟩
  · walk_at "M enter"
    k_steps
    · (show Q _ _)
      exact hret _ _ _ ((insZ_ok (by assumption)).trans (by assumption)) (by assumption) (by assumption)
    · (show E _ _)
      exact hexc _ _ _ _ _ _ _ _ ((insZ_ok (by assumption)).trans (by assumption)) (by assumption) (by assumption) (by assumption) (by assumption)
    · (show E _ _)
      exact hexc _ _ _ _ _ _ _ _ (insZ_err (by assumption)) (by assumption) (by assumption) (by assumption) (by assumption)
  · walk_at "M enter"
    k_steps
    · (show Q _ _)
      exact hret _ _ _ ((insZ_ok rfl).trans (by assumption)) (by assumption) (by assumption)
    · (show E _ _)
      exact hexc _ _ _ _ _ _ _ _ ((insZ_ok rfl).trans (by assumption)) (by assumption) (by assumption) (by assumption) (by assumption)
end
section
variable {w : World} {p : Program} {loose : List PStr} {mean : ExcName → Option Value} {mg mb : PStr → Option Value}
    {dp un : Nat} {gd : Option (List Code)} {cn : PStr} {cs : Scope} {a : Addr} {ccd : Value} {cl : List (PStr × Addr)} {outer : List Env} {A₀ : Around} {base h₀ : Heap} {L : Addr} {m : PStr → Option Value}
    {s : Shared} {Q E : Value → Shared → Prop} {news : Ldg}
    (B : Below A₀ base outer h₀) (X : (KK.heap_1 w.params).In h₀) (T : Top p loose mean mg mb h₀) (XB : (KK.heap_1 w.params).In base) (TB : Top p loose mean mg mb base) (D : KtsDicts (outer.filterMap (·.frame)) h₀) (hck : cs.kind = .function)
include B X T XB TB D hck

theorem insL {ra : Addr} {vs : List Value} {k : Nat → KRes} {nn ep : Nat} {kx : KRes} {lo : Int} {hi : Nat} {kv hv xv : Value} {tl : Tok} {gN : Obj → Ldg} (hd5 : dp + 30 < recursionLimit) (hu5 : un + 200 < cLine) (F : Fr h₀ L s.heap m) (N : News h₀ L s.heap news)
   (U : UpdF ra (lstOf vs ep) news gN) (hrow : RowIs 108 kv vs k nn) (hx : ThingIs 108 kv xv kx) (hl : nn ≤ 1000) (hlo : lo ≤ 1000) (hhi : HiIs hv hi nn) (hxv : ∀ msg, kx ≠ .error (.value, msg)) (hv0 : ∀ x, kx = .ok x → 0 ≤ lo → ∀ msg, bisZ false k x lo hi ≠ .error (.value, msg))
   (hret : ∀ n h' tk, insZ false k kx lo hi = .ok n → Fr h₀ L h' m → News h₀ L h' (gN (lstOf (kl_ins vs n xv) (ep + 1))) → Q .none { s with heap := h', toks := tk })
   (hexc : ∀ ek r t1 g₂ e t h' tk, insZ false k kx lo hi = .error (ek, r) → Fr h₀ L g₂ m → RaisedS base g₂ (envX cn cs L a ccd cl :: outer) e (clsOf ek) t [.str r t1] news h' → RaisedK base (envX cn cs L a ccd cl :: outer) e (clsOf ek) t [.str r t1] news h' → g₂.UpToSlots h' → E (.ref e) { s with heap := h', toks := tk }) :
   wpAny (model PySem.Challenge.rw_pm0034_03.row.prog w) (ktrTop dp un gd cn cs L a ccd cl outer) (call (.ref 41) [.ref ra, xv, .int lo tl, hv] [(PySem.Str.ofString "key", kv)]) Q E s := by
  walk_at "M fill"
  have hrl := hrow.length
  have hra := updF_mem U
  rcases hx with ⟨xr, xt, rfl, rfl, rfl, h640⟩ | ⟨xn, xt, rfl, rfl, rfl⟩
  · walk_at "M enter"
    k_steps
    · (show Q _ _)
      exact hret _ _ _ ((insZ_ok (by assumption)).trans (by assumption)) (by assumption) (by assumption)
    · (show E _ _)
      exact hexc _ _ _ _ _ _ _ _ ((insZ_ok (by assumption)).trans (by assumption)) (by assumption) (by assumption) (by assumption) (by assumption)
    · (show E _ _)
      exact hexc _ _ _ _ _ _ _ _ (insZ_err (by assumption)) (by assumption) (by assumption) (by assumption) (by assumption)
  · walk_at "M enter"
    k_steps
    · (show Q _ _)
      exact hret _ _ _ ((insZ_ok rfl).trans (by assumption)) (by assumption) (by assumption)
    · (show E _ _)
      exact hexc _ _ _ _ _ _ _ _ ((insZ_ok rfl).trans (by assumption)) (by assumption) (by assumption) (by assumption) (by assumption)
end
end Mine
end
section
open PySem PySem.W PyProof.Rows PySem.Spec PySem.Calls
set_option Elab.async false
set_option maxRecDepth 100000
set_option maxHeartbeats 8000000
set_option linter.all false
namespace Mine
local macro_rules | `(tactic| walk_at "M nothing") => `(tactic| skip)
local macro_rules | `(tactic| walk_at $s:str) => `(tactic| k_extra $s)
local macro_rules | `(tactic| omega) => `(tactic| first
  | with_reducible assumption
  | (refine' room1 ?rmh ?rme; (case rmh => with_reducible assumption); (case rme => with_unfolding_all rfl))
  | (refine' room0 ?rmh ?rme; (case rmh => with_reducible assumption); (case rme => with_unfolding_all rfl))
  | (refine' room2 ?rmh ?rme; (case rmh => with_reducible assumption); (case rme => with_unfolding_all rfl))
  | (refine' room00 ?rmh; (case rmh => with_reducible assumption))
  | (refine num_le ?rme; (case rme => with_unfolding_all rfl))
  | (refine num_lt ?rme; (case rme => with_unfolding_all rfl))
  | (refine' le_num ?rmh ?rme; (case rmh => with_reducible assumption); (case rme => with_unfolding_all rfl))
  | (refine' eq_num ?rmh ?rme; (case rmh => with_reducible assumption); (case rme => with_unfolding_all rfl))
  | omega (config := {}))
theorem lines_F3_0 : True := by
  k_with_none
  k_with "execs cons" => ((refine f_execs ?_; intro qk))
  k_with "eval BinOp" => ((refine f_BinOp ?_; intro qk))
  k_with "exec Assign" => ((refine f_Assign ?_; intro qk))
  k_with "eval Subscript" => ((refine f_Subscript ?_; intro qk))
  k_with "isTrue Compare" => ((refine f_Compare ?_; intro qk))
  k_with "exec If" => ((refine f_If ?_; intro qk))
  k_with "eval Call" => (((fail_if_success (with_reducible show wpAny _ _ (eval (Expr.Call (Expr.Attribute _ _ _) _ _ _) _) _ _ _)); refine f_Call ?_; intro qk))
  k_with "spliced" => ((refine f_args ?_; intro qk))
  k_with "callWith" => ((refine f_method1 ?_; intro qk))
  k_with "exec Return some" => ((refine f_Return ?_; intro qk))
  k_with "eval Tuple" => ((refine f_Tuple ?_; intro qk))
  k_with "eval List" => ((refine f_List ?_; intro qk))
  k_with "eval IfExp" => ((refine f_IfExp ?_; intro qk))
  k_with "storeName" => ((k_here; k_dflt (refine' f_store ?F ?N ?_ ?a ?b; (case F => k_asm); (case N => k_asm); (case a => rfl); (case b => rfl); k_whole; intro m' h' F' N'; (try k_sweep))))
  k_with "M map1" => (first
    | (refine map_same ?_; with_unfolding_all rfl)
    | ((repeat' (refine List.forall_mem_cons.mpr (And.intro ?_ ?_))); (all_goals first | rfl | exact List.forall_mem_nil _)))
  k_with "M map2" => (first
    | (refine SameOut.both (b := fun _ => none) ?_ ?_ <;> (repeat (refine SameOut.upd ?_ (by with_unfolding_all rfl))) <;> exact SameOut.lookup rfl)
    | (refine' SameOut.both (b := ?kb) ?k1 ?k2; (case k1 => ((repeat (refine SameOut.upd ?_ (by with_unfolding_all rfl))); exact SameOut.refl)); (case k2 => ((repeat (refine SameOut.upd ?_ (by with_unfolding_all rfl))); exact SameOut.refl)))
    | (refine' SameOut.both (b := ?kb) ?k1 ?k2; (case k2 => ((repeat (refine SameOut.upd ?_ (by with_unfolding_all rfl))); exact SameOut.refl)); (case k1 => ((repeat (refine SameOut.skip ?_)); (repeat (refine SameOut.upd ?_ (by with_unfolding_all rfl))); exact SameOut.refl)))
    | (intro y hy; (repeat (refine (if_neg (ne_of_out hy (by with_unfolding_all rfl))).trans ?_)); (refine Eq.symm ?_); (repeat (refine (if_neg (ne_of_out hy (by with_unfolding_all rfl))).trans ?_)); first | rfl | exact lookup_out rfl hy | exact (lookup_out rfl hy).symm | exact (lookup_out rfl hy).trans (lookup_out rfl hy).symm))
  k_with "M fill" => ((
    have kk : PySem.Challenge.rw_pm0034_03 = PySem.Challenge.rw_pm0034_03 ∧ KK.heap_1 = KK.heap_1 := ⟨rfl, rfl⟩
    revert kk
    k_fill
    intro kk
    clear kk))
  k_with "M enter" => ((
    refine wpAny_call ?_
    k_dflt (refine' code_def ?k1 ?k2 ?k3 ?k4 ?k5 ?kA ?kF ?kK ?k6 ?k7 ?k8 ?k9 ?kB ?_ ?c2 ?c3 ?c4 ?c5; (case kA => exact rfl); (case kF => exact rfl); (case kK => assumption); (case k1 => k_asm); (case k2 => k_asm); (case k3 => k_asm); (case k4 => k_asm); (case k5 => k_asm); (case k6 => k_is); (case k7 => k_is); (case k8 => ((try dsimp only); omega)); (case k9 => first | exact BindsTo.of_eq rfl | (refine' kp_binds ?kx ?ke; (case kx => first | (refine' myIn ?kf ?ki; (case kf => with_reducible assumption); (case ki => with_reducible assumption)) | k_in); (case ke => exact fun _ => rfl)) | exact binds_K (by first | (refine' myIn ?kf ?ki; (case kf => with_reducible assumption); (case ki => with_reducible assumption)) | k_in) rfl (by k_is) rfl rfl rfl); (case c5 => decide); (case kB => exact locs rfl); (case c2 => exact rfl); (case c3 => exact rfl); (case c4 => exact rfl); k_whole; intro g' L' h' FG' F' N' B' X' T'; (have D' := kts_dict B' (by assumption) FG' rfl); (try dsimp only); (try k_lift B'); (refine let_AE (f := execs _) ?_; intro vk ak); (refine f_QE ?_; intro qk ek))))
  k_with "M enter0" => ((
    refine wpAny_call ?_
    k_dflt (refine' code_defS0X ?k1 ?k2 ?k3 ?k4 ?k5 ?kA ?kF ?kK ?k6 ?k7 ?k8 ?k9 ?kB ?_ ?c2 ?c3 ?c4 ?c5; (case kA => exact rfl); (case kF => exact rfl); (case kK => assumption); (case k1 => k_asm); (case k2 => k_asm); (case k3 => k_asm); (case k4 => k_asm); (case k5 => k_asm); (case k6 => k_is); (case k7 => k_is); (case k8 => ((try dsimp only); omega)); (case k9 => first | exact BindsTo.of_eq rfl | (refine' kp_binds ?kx ?ke; (case kx => first | (refine' myIn ?kf ?ki; (case kf => with_reducible assumption); (case ki => with_reducible assumption)) | k_in); (case ke => exact fun _ => rfl)) | exact binds_K (by first | (refine' myIn ?kf ?ki; (case kf => with_reducible assumption); (case ki => with_reducible assumption)) | k_in) rfl (by k_is) rfl rfl rfl); (case c5 => decide); (case kB => exact locs rfl); (case c2 => exact rfl); (case c3 => exact rfl); (case c4 => exact rfl); k_whole; intro g' L' h' FG' F' N' B' X' T' D'; (try dsimp only); (try k_lift B'); (refine let_AE (f := execs _) ?_; intro vk ak); (refine f_QE ?_; intro qk ek))))
  trivial
local macro_rules | `(tactic| k_mem) => `(tactic| first | with_reducible assumption | (refine mem_in ?_; with_reducible assumption))
theorem lines_F3_1 : True := by
  k_with "subscriptTail Name Constant ref int" => ((k_here; refine item_tupleT (News.isTup (by assumption) (by k_mem)) (by decide) (by decide) (by rfl) (by rfl) ?_))
  k_with "subscriptTail Name Constant ref int" => ((k_here; (with_reducible rename StrsAre _ _ => hSA); refine item_strsA (News.isList (by assumption) (by k_mem)) hSA (by decide) (by first | omega | (simp only [List.length_map]; omega)) (by decide) ?_; intro t'))
  k_with "call type:ValueError" => ((refine call_ValueError_made ?_; intro _ _ _))
  k_with "exec While Compare Name cons nil" => (refine Hold.mk ?_)
  k_with "exec While Compare" => (refine Hold.mk ?_)
  k_with "exec While Compare cons nil" => (refine Hold.mk ?_)
  k_with "exec While" => (refine Hold.mk ?_)
  k_with "binaryOp FloorDiv int int" => ((k_here; (with_reducible refine floordiv_pos ?kb1 ?kb2 ?_); (case kb1 => decide); (case kb2 => decide +kernel)))
  k_with "WhlIf" => ((refine whlIf_dec ?_ ?_ <;> intro _))
  k_with "subscriptTail Name Name ref int" => ((k_here; first
    | ((with_reducible rename StrsAre _ _ => hSA); refine item_strsA (News.isList (by assumption) (by k_mem)) hSA (by omega) (by omega) (by omega) ?_; intro t')
    | ((with_reducible rename IntsAre _ _ => hSA); refine item_intsA (News.isList (by assumption) (by k_mem)) hSA (by omega) (by omega) (by omega) ?_; intro t')))
  k_with "call builtin:len" => ((k_here; (with_reducible show wpAny _ _ (call (Value.builtin "len") [Value.ref _]) _ _ _); first
    | ((with_reducible rename StrsAre _ _ => hSA); refine len_strsA (News.isList (by assumption) (by k_mem)) hSA (by omega) ?_)
    | ((with_reducible rename IntsAre _ _ => hSA); refine len_intsA (News.isList (by assumption) (by k_mem)) hSA (by omega) ?_)))
  k_with "call ref" => (((with_reducible show wpAny _ _ (call (Value.ref 108) _) _ _ _); refine' port_spec ?kB ?kX ?kT ?kXB ?kTB ?kD ?kh ?kd ?ku ?kF ?kN ?k6 ?kv ?_ ?_; (case kB => assumption); (case kX => assumption); (case kT => assumption); (case kXB => assumption); (case kTB => assumption); (case kD => assumption); (case kh => rfl); (case kd => ((try dsimp only); omega)); (case ku => ((try dsimp only); omega)); (case kF => with_reducible assumption); (case kN => with_reducible assumption); (case k6 => first | exact getD_640 (by assumption) _ | assumption); (case kv => first | assumption | (have q := bis_nv (by assumption) (by assumption) (by assumption); exact q) | (have q := bis_nv ((by assumption : 0 ≤ _ → ∀ msg, _ ≠ _) (by omega)) (by assumption) (by assumption); exact q))))
  k_with "call ref" => (first
    | focus ((with_reducible show wpAny _ _ (call (Value.ref 32) _ _) _ _ _); refine' bisR_full ?kB ?kX ?kT ?kXB ?kTB ?kD ?kh ?kd ?ku ?kF ?kN ?kra ?kro ?kl ?khi ?khv ?_ ?_; (case kB => assumption); (case kX => assumption); (case kT => assumption); (case kXB => assumption); (case kTB => assumption); (case kD => assumption); (case kh => rfl); (case kd => ((try dsimp only); omega)); (case ku => ((try dsimp only); omega)); (case kF => with_reducible assumption); (case kN => with_reducible assumption); (case kra => k_mem); (case kro => assumption); (case kl => omega); (case khi => assumption); (case khv => first | assumption | (have q := hv_app (by assumption) (by assumption); exact q) | (have q := hv_app (by assumption) rfl; exact q)); rotate_left; (intro ek _ _ _ _ _ _ _ hb; have hz := bisZ_err_len (by assumption) hb; cases ek <;> dsimp only [clsOf]))
    | focus ((with_reducible show wpAny _ _ (call (Value.ref 50) _ _) _ _ _); refine' bisL_full ?kB ?kX ?kT ?kXB ?kTB ?kD ?kh ?kd ?ku ?kF ?kN ?kra ?kro ?kl ?khi ?khv ?_ ?_; (case kB => assumption); (case kX => assumption); (case kT => assumption); (case kXB => assumption); (case kTB => assumption); (case kD => assumption); (case kh => rfl); (case kd => ((try dsimp only); omega)); (case ku => ((try dsimp only); omega)); (case kF => with_reducible assumption); (case kN => with_reducible assumption); (case kra => k_mem); (case kro => assumption); (case kl => omega); (case khi => assumption); (case khv => first | assumption | (have q := hv_app (by assumption) (by assumption); exact q) | (have q := hv_app (by assumption) rfl; exact q)); rotate_left; (intro ek _ _ _ _ _ _ _ hb; have hz := bisZ_err_len (by assumption) hb; cases ek <;> dsimp only [clsOf]))
    | focus ((with_reducible show wpAny _ _ (call (Value.ref 32) _ _) _ _ _); refine' bisR_four ?kB ?kX ?kT ?kXB ?kTB ?kD ?kh ?kd ?ku ?kF ?kN ?kra ?kro ?kkv ?kl ?khi ?khv ?_ ?_; (case kB => assumption); (case kX => assumption); (case kT => assumption); (case kXB => assumption); (case kTB => assumption); (case kD => assumption); (case kh => rfl); (case kd => ((try dsimp only); omega)); (case ku => ((try dsimp only); omega)); (case kF => with_reducible assumption); (case kN => with_reducible assumption); (case kra => k_mem); (case kro => assumption); (case kkv => rfl); (case kl => omega); (case khi => assumption); (case khv => first | assumption | (have q := hv_app (by assumption) (by assumption); exact q) | (have q := hv_app (by assumption) rfl; exact q)); rotate_left; (intro ek _ _ _ _ _ _ _ hb; have hz := bisZ_err_len (by assumption) hb; cases ek <;> dsimp only [clsOf]))
    | focus ((with_reducible show wpAny _ _ (call (Value.ref 50) _ _) _ _ _); refine' bisL_four ?kB ?kX ?kT ?kXB ?kTB ?kD ?kh ?kd ?ku ?kF ?kN ?kra ?kro ?kkv ?kl ?khi ?khv ?_ ?_; (case kB => assumption); (case kX => assumption); (case kT => assumption); (case kXB => assumption); (case kTB => assumption); (case kD => assumption); (case kh => rfl); (case kd => ((try dsimp only); omega)); (case ku => ((try dsimp only); omega)); (case kF => with_reducible assumption); (case kN => with_reducible assumption); (case kra => k_mem); (case kro => assumption); (case kkv => rfl); (case kl => omega); (case khi => assumption); (case khv => first | assumption | (have q := hv_app (by assumption) (by assumption); exact q) | (have q := hv_app (by assumption) rfl; exact q)); rotate_left; (intro ek _ _ _ _ _ _ _ hb; have hz := bisZ_err_len (by assumption) hb; cases ek <;> dsimp only [clsOf])))
  k_with "call ref" => (first
    | focus ((with_reducible show wpAny _ _ (call (Value.ref 23) _ _) _ _ _); refine' insR ?kB ?kX ?kT ?kXB ?kTB ?kD ?kh ?kd ?ku ?kF ?kN ?kU ?kro ?kx ?kl ?klo ?khi ?kxv ?khv ?_ ?_; (case kB => assumption); (case kX => assumption); (case kT => assumption); (case kXB => assumption); (case kTB => assumption); (case kD => assumption); (case kh => rfl); (case kd => ((try dsimp only); omega)); (case ku => ((try dsimp only); omega)); (case kF => with_reducible assumption); (case kN => with_reducible assumption); (case kU => assumption); (case kro => assumption); (case kx => assumption); (case kl => omega); (case klo => omega); (case khi => assumption); (case kxv => assumption); (case khv => assumption); rotate_left; (intro ek _ _ _ _ _ _ _ hb; have hz := insZ_err_len (by assumption) (by assumption) hb; cases ek <;> dsimp only [clsOf]))
    | focus ((with_reducible show wpAny _ _ (call (Value.ref 41) _ _) _ _ _); refine' insL ?kB ?kX ?kT ?kXB ?kTB ?kD ?kh ?kd ?ku ?kF ?kN ?kU ?kro ?kx ?kl ?klo ?khi ?kxv ?khv ?_ ?_; (case kB => assumption); (case kX => assumption); (case kT => assumption); (case kXB => assumption); (case kTB => assumption); (case kD => assumption); (case kh => rfl); (case kd => ((try dsimp only); omega)); (case ku => ((try dsimp only); omega)); (case kF => with_reducible assumption); (case kN => with_reducible assumption); (case kU => assumption); (case kro => assumption); (case kx => assumption); (case kl => omega); (case klo => omega); (case khi => assumption); (case kxv => assumption); (case khv => assumption); rotate_left; (intro ek _ _ _ _ _ _ _ hb; have hz := insZ_err_len (by assumption) (by assumption) hb; cases ek <;> dsimp only [clsOf])))
  k_with "call type:str" => ((k_here; (with_reducible show wpAny _ _ (call (Value.type "str") [Value.ref _]) _ _ _); refine' str_own ?U ?X ?N ?G ?hs ?hm ?_; (case G => assumption); (case N => assumption); (case U => first | units_room | k_room | ((try dsimp only); omega)); (case X => first | (refine' myIn ?kf ?ki; (case kf => with_reducible assumption); (case ki => with_reducible assumption)) | k_in); (case hs => k_is); (case hm => k_is)))
  trivial
section
variable {w : World} {p : Program} {loose : List PStr} {mean : ExcName → Option Value} {mg mb : PStr → Option Value}
    {dp un : Nat} {gd : Option (List Code)} {cn : PStr} {cs : Scope} {a : Addr} {ccd : Value} {cl : List (PStr × Addr)} {A₀ : Around} {base h₀ : Heap} {L : Addr} {m : PStr → Option Value}
    {s : Shared} {Q E : Value → Shared → Prop} {news : Ldg}
    (B : Below A₀ base [] h₀) (X : (KK.heap_1 w.params).In h₀) (T : Top p loose mean mg mb h₀) (XB : (KK.heap_1 w.params).In base) (TB : Top p loose mean mg mb base) (hck : cs.kind = .function)
include B X T XB TB hck

theorem told_bis {ra : Addr} {vs : List Value} {k : Nat → KRes} {nn ep : Nat} {x lo wh : Int} {hi : Nat} {kv hv : Value} {tw tx tl : Tok} (hd5 : dp + 40 < recursionLimit) (hu5 : un + 300 < cLine) (F : Fr h₀ L s.heap m) (N : News h₀ L s.heap news)
   (hw : wh = 0 ∨ wh = 1) (hra : (ra, lstOf vs ep) ∈ news) (hrow : RowIs 108 kv vs k nn) (hl : nn ≤ 1000) (hhi : HiIs hv hi nn) (hv0 : 0 ≤ lo → ∀ msg, bisZ (wh == 1) k x lo hi ≠ .error (.value, msg))
   (hret : ∀ n d t h' tk, bisZ (wh == 1) k x lo hi = .ok n → Fr h₀ L h' m → News h₀ L h' ((d, lstOf [.int n t] 0) :: news) → (∀ p ∈ news, p.1 < d) → Q (.ref d) { s with heap := h', toks := tk })
   (hexc : ∀ ek r t h' tk, bisZ (wh == 1) k x lo hi = .error (ek, r) → Fr h₀ L h' m → News h₀ L h' news → Q (.str (toldTxt ek r) t) { s with heap := h', toks := tk }) :
   wpAny (model PySem.Challenge.rw_pm0034_03.row.prog w) (ktrTop dp un gd cn cs L a ccd cl []) (call (.ref 115) [.int wh tw, .ref ra, .int x tx, .int lo tl, hv, kv]) Q E s := by
  walk_at "M fill"
  rcases hw with rfl | rfl
  · replace hret : ∀ n d t h' tk, bisZ false k x lo hi = .ok n → Fr h₀ L h' m → News h₀ L h' ((d, lstOf [.int n t] 0) :: news) → (∀ p ∈ news, p.1 < d) → Q (.ref d) { s with heap := h', toks := tk } := hret
    replace hv0 : 0 ≤ lo → ∀ msg, bisZ false k x lo hi ≠ .error (.value, msg) := hv0
    replace hexc : ∀ ek r t h' tk, bisZ false k x lo hi = .error (ek, r) → Fr h₀ L h' m → News h₀ L h' news → Q (.str (toldTxt ek r) t) { s with heap := h', toks := tk } := hexc
    walk_at "M enter0"
    k_steps
    (try walk_at "call ref")
    all_goals (try k_steps)
    · (show Q (Value.str (toldTxt .reply _) _) _)
      exact hexc _ _ _ _ _ (by assumption) (by assumption) (by assumption)
    · (show Q (Value.str (toldTxt .proto _) _) _)
      exact hexc _ _ _ _ _ (by assumption) (by assumption) (by assumption)
    · (show Q (Value.str (toldTxt .value _) _) _)
      exact hexc _ _ _ _ _ (by assumption) (by assumption) (by assumption)
    · (show Q (Value.ref _) _)
      exact hret _ _ _ _ _ (by assumption) (by assumption) (by assumption) (by assumption)
  · replace hret : ∀ n d t h' tk, bisZ true k x lo hi = .ok n → Fr h₀ L h' m → News h₀ L h' ((d, lstOf [.int n t] 0) :: news) → (∀ p ∈ news, p.1 < d) → Q (.ref d) { s with heap := h', toks := tk } := hret
    replace hv0 : 0 ≤ lo → ∀ msg, bisZ true k x lo hi ≠ .error (.value, msg) := hv0
    replace hexc : ∀ ek r t h' tk, bisZ true k x lo hi = .error (ek, r) → Fr h₀ L h' m → News h₀ L h' news → Q (.str (toldTxt ek r) t) { s with heap := h', toks := tk } := hexc
    walk_at "M enter0"
    k_steps
    (try walk_at "call ref")
    all_goals (try k_steps)
    · (show Q (Value.str (toldTxt .reply _) _) _)
      exact hexc _ _ _ _ _ (by assumption) (by assumption) (by assumption)
    · (show Q (Value.str (toldTxt .proto _) _) _)
      exact hexc _ _ _ _ _ (by assumption) (by assumption) (by assumption)
    · (show Q (Value.str (toldTxt .value _) _) _)
      exact hexc _ _ _ _ _ (by assumption) (by assumption) (by assumption)
    · (show Q (Value.ref _) _)
      exact hret _ _ _ _ _ (by assumption) (by assumption) (by assumption) (by assumption)
end
section
variable {w : World} {p : Program} {loose : List PStr} {mean : ExcName → Option Value} {mg mb : PStr → Option Value}
    {dp un : Nat} {gd : Option (List Code)} {cn : PStr} {cs : Scope} {a : Addr} {ccd : Value} {cl : List (PStr × Addr)} {A₀ : Around} {base h₀ : Heap} {L : Addr} {m : PStr → Option Value}
    {s : Shared} {Q E : Value → Shared → Prop} {news : Ldg}
    (B : Below A₀ base [] h₀) (X : (KK.heap_1 w.params).In h₀) (T : Top p loose mean mg mb h₀) (XB : (KK.heap_1 w.params).In base) (TB : Top p loose mean mg mb base) (hck : cs.kind = .function)
include B X T XB TB hck

theorem told_ins {ra : Addr} {vs : List Value} {k : Nat → KRes} {nn ep : Nat} {kx : KRes} {lo wh : Int} {hi : Nat} {kv hv xv : Value} {tw tl : Tok} {gN : Obj → Ldg} (hd5 : dp + 40 < recursionLimit) (hu5 : un + 300 < cLine) (F : Fr h₀ L s.heap m) (N : News h₀ L s.heap news)
   (hw : wh = 2 ∨ wh = 3) (U : UpdF ra (lstOf vs ep) news gN) (hrow : RowIs 108 kv vs k nn) (hx : ThingIs 108 kv xv kx) (hl : nn ≤ 1000) (hlo : lo ≤ 1000) (hhi : HiIs hv hi nn) (hxv : ∀ msg, kx ≠ .error (.value, msg)) (hv0 : ∀ x, kx = .ok x → 0 ≤ lo → ∀ msg, bisZ (wh == 3) k x lo hi ≠ .error (.value, msg))
   (hret : ∀ n d h' tk, insZ (wh == 3) k kx lo hi = .ok n → Fr h₀ L h' m → News h₀ L h' ((d, lstOf [.none] 0) :: gN (lstOf (kl_ins vs n xv) (ep + 1))) → (∀ p ∈ gN (lstOf (kl_ins vs n xv) (ep + 1)), p.1 < d) → Q (.ref d) { s with heap := h', toks := tk })
   (hexc : ∀ ek r t h' tk, insZ (wh == 3) k kx lo hi = .error (ek, r) → Fr h₀ L h' m → News h₀ L h' news → Q (.str (toldTxt ek r) t) { s with heap := h', toks := tk }) :
   wpAny (model PySem.Challenge.rw_pm0034_03.row.prog w) (ktrTop dp un gd cn cs L a ccd cl []) (call (.ref 115) [.int wh tw, .ref ra, xv, .int lo tl, hv, kv]) Q E s := by
  walk_at "M fill"
  rcases hw with rfl | rfl
  · replace hret : ∀ n d h' tk, insZ false k kx lo hi = .ok n → Fr h₀ L h' m → News h₀ L h' ((d, lstOf [.none] 0) :: gN (lstOf (kl_ins vs n xv) (ep + 1))) → (∀ p ∈ gN (lstOf (kl_ins vs n xv) (ep + 1)), p.1 < d) → Q (.ref d) { s with heap := h', toks := tk } := hret
    replace hv0 : ∀ x, kx = .ok x → 0 ≤ lo → ∀ msg, bisZ false k x lo hi ≠ .error (.value, msg) := hv0
    replace hexc : ∀ ek r t h' tk, insZ false k kx lo hi = .error (ek, r) → Fr h₀ L h' m → News h₀ L h' news → Q (.str (toldTxt ek r) t) { s with heap := h', toks := tk } := hexc
    walk_at "M enter0"
    k_steps
    (try walk_at "call ref")
    all_goals (try k_steps)
    · (show Q (Value.str (toldTxt .reply _) _) _)
      exact hexc _ _ _ _ _ (by assumption) (by assumption) (by assumption)
    · (show Q (Value.str (toldTxt .proto _) _) _)
      exact hexc _ _ _ _ _ (by assumption) (by assumption) (by assumption)
    · (show Q (Value.str (toldTxt .value _) _) _)
      exact hexc _ _ _ _ _ (by assumption) (by assumption) (by assumption)
    · (show Q (Value.ref _) _)
      exact hret _ _ _ _ (by assumption) (by assumption) (by assumption) (by assumption)
  · replace hret : ∀ n d h' tk, insZ true k kx lo hi = .ok n → Fr h₀ L h' m → News h₀ L h' ((d, lstOf [.none] 0) :: gN (lstOf (kl_ins vs n xv) (ep + 1))) → (∀ p ∈ gN (lstOf (kl_ins vs n xv) (ep + 1)), p.1 < d) → Q (.ref d) { s with heap := h', toks := tk } := hret
    replace hv0 : ∀ x, kx = .ok x → 0 ≤ lo → ∀ msg, bisZ true k x lo hi ≠ .error (.value, msg) := hv0
    replace hexc : ∀ ek r t h' tk, insZ true k kx lo hi = .error (ek, r) → Fr h₀ L h' m → News h₀ L h' news → Q (.str (toldTxt ek r) t) { s with heap := h', toks := tk } := hexc
    walk_at "M enter0"
    k_steps
    (try walk_at "call ref")
    all_goals (try k_steps)
    · (show Q (Value.str (toldTxt .reply _) _) _)
      exact hexc _ _ _ _ _ (by assumption) (by assumption) (by assumption)
    · (show Q (Value.str (toldTxt .proto _) _) _)
      exact hexc _ _ _ _ _ (by assumption) (by assumption) (by assumption)
    · (show Q (Value.str (toldTxt .value _) _) _)
      exact hexc _ _ _ _ _ (by assumption) (by assumption) (by assumption)
    · (show Q (Value.ref _) _)
      exact hret _ _ _ _ (by assumption) (by assumption) (by assumption) (by assumption)
end
end Mine
end
section
open PySem PySem.W PyProof.Rows PySem.Spec PySem.Calls
set_option Elab.async false
set_option maxRecDepth 100000
set_option maxHeartbeats 8000000
set_option linter.all false
namespace Mine
local macro_rules | `(tactic| walk_at $s:str) => `(tactic| k_extra $s)
local macro_rules | `(tactic| omega) => `(tactic| first
  | with_reducible assumption
  | (refine' room1 ?rmh ?rme; (case rmh => with_reducible assumption); (case rme => with_unfolding_all rfl))
  | (refine' room0 ?rmh ?rme; (case rmh => with_reducible assumption); (case rme => with_unfolding_all rfl))
  | (refine' room2 ?rmh ?rme; (case rmh => with_reducible assumption); (case rme => with_unfolding_all rfl))
  | (refine' room00 ?rmh; (case rmh => with_reducible assumption))
  | (refine num_le ?rme; (case rme => with_unfolding_all rfl))
  | (refine num_lt ?rme; (case rme => with_unfolding_all rfl))
  | (refine' le_num ?rmh ?rme; (case rmh => with_reducible assumption); (case rme => with_unfolding_all rfl))
  | (refine' eq_num ?rmh ?rme; (case rmh => with_reducible assumption); (case rme => with_unfolding_all rfl))
  | omega (config := {}))
theorem lines_H3_0 : True := by
  k_with_none
  k_with "execs cons" => ((refine f_execs ?_; intro qk))
  k_with "eval BinOp" => ((refine f_BinOp ?_; intro qk))
  k_with "exec Assign" => ((refine f_Assign ?_; intro qk))
  k_with "eval Subscript" => ((refine f_Subscript ?_; intro qk))
  k_with "isTrue Compare" => ((refine f_Compare ?_; intro qk))
  k_with "exec If" => ((refine f_If ?_; intro qk))
  k_with "eval Call" => (((fail_if_success (with_reducible show wpAny _ _ (eval (Expr.Call (Expr.Attribute _ _ _) _ _ _) _) _ _ _)); refine f_Call ?_; intro qk))
  k_with "spliced" => ((refine f_args ?_; intro qk))
  k_with "callWith" => ((refine f_method1 ?_; intro qk))
  k_with "exec Return some" => ((refine f_Return ?_; intro qk))
  k_with "eval Tuple" => ((refine f_Tuple ?_; intro qk))
  k_with "eval List" => ((refine f_List ?_; intro qk))
  k_with "eval IfExp" => ((refine f_IfExp ?_; intro qk))
  k_with "storeName" => ((k_here; k_dflt (refine' f_store ?F ?N ?_ ?a ?b; (case F => k_asm); (case N => k_asm); (case a => rfl); (case b => rfl); k_whole; intro m' h' F' N'; (try k_sweep))))
  k_with "M map1" => (first
    | (refine map_same ?_; with_unfolding_all rfl)
    | ((repeat' (refine List.forall_mem_cons.mpr (And.intro ?_ ?_))); (all_goals first | rfl | exact List.forall_mem_nil _)))
  k_with "M map2" => (first
    | (refine SameOut.both (b := fun _ => none) ?_ ?_ <;> (repeat (refine SameOut.upd ?_ (by with_unfolding_all rfl))) <;> exact SameOut.lookup rfl)
    | (refine' SameOut.both (b := ?kb) ?k1 ?k2; (case k1 => ((repeat (refine SameOut.upd ?_ (by with_unfolding_all rfl))); exact SameOut.refl)); (case k2 => ((repeat (refine SameOut.upd ?_ (by with_unfolding_all rfl))); exact SameOut.refl)))
    | (refine' SameOut.both (b := ?kb) ?k1 ?k2; (case k2 => ((repeat (refine SameOut.upd ?_ (by with_unfolding_all rfl))); exact SameOut.refl)); (case k1 => ((repeat (refine SameOut.skip ?_)); (repeat (refine SameOut.upd ?_ (by with_unfolding_all rfl))); exact SameOut.refl)))
    | (intro y hy; (repeat (refine (if_neg (ne_of_out hy (by with_unfolding_all rfl))).trans ?_)); (refine Eq.symm ?_); (repeat (refine (if_neg (ne_of_out hy (by with_unfolding_all rfl))).trans ?_)); first | rfl | exact lookup_out rfl hy | exact (lookup_out rfl hy).symm | exact (lookup_out rfl hy).trans (lookup_out rfl hy).symm))
  k_with "M fill" => ((
    have kk : PySem.Challenge.rw_pm0034_03 = PySem.Challenge.rw_pm0034_03 ∧ KK.heap_1 = KK.heap_1 := ⟨rfl, rfl⟩
    revert kk
    k_fill
    intro kk
    clear kk))
  k_with "M enter" => ((
    refine wpAny_call ?_
    k_dflt (refine' code_def ?k1 ?k2 ?k3 ?k4 ?k5 ?kA ?kF ?kK ?k6 ?k7 ?k8 ?k9 ?kB ?_ ?c2 ?c3 ?c4 ?c5; (case kA => exact rfl); (case kF => exact rfl); (case kK => assumption); (case k1 => k_asm); (case k2 => k_asm); (case k3 => k_asm); (case k4 => k_asm); (case k5 => k_asm); (case k6 => k_is); (case k7 => k_is); (case k8 => ((try dsimp only); omega)); (case k9 => first | exact BindsTo.of_eq rfl | (refine' kp_binds ?kx ?ke; (case kx => first | (refine' myIn ?kf ?ki; (case kf => with_reducible assumption); (case ki => with_reducible assumption)) | k_in); (case ke => exact fun _ => rfl)) | exact binds_K (by first | (refine' myIn ?kf ?ki; (case kf => with_reducible assumption); (case ki => with_reducible assumption)) | k_in) rfl (by k_is) rfl rfl rfl); (case c5 => decide); (case kB => exact locs rfl); (case c2 => exact rfl); (case c3 => exact rfl); (case c4 => exact rfl); k_whole; intro g' L' h' FG' F' N' B' X' T'; (have D' := kts_dict B' (by assumption) FG' rfl); (try dsimp only); (try k_lift B'); (refine let_AE (f := execs _) ?_; intro vk ak); (refine f_QE ?_; intro qk ek))))
  k_with "M enter0" => ((
    refine wpAny_call ?_
    k_dflt (refine' code_defS0X ?k1 ?k2 ?k3 ?k4 ?k5 ?kA ?kF ?kK ?k6 ?k7 ?k8 ?k9 ?kB ?_ ?c2 ?c3 ?c4 ?c5; (case kA => exact rfl); (case kF => exact rfl); (case kK => assumption); (case k1 => k_asm); (case k2 => k_asm); (case k3 => k_asm); (case k4 => k_asm); (case k5 => k_asm); (case k6 => k_is); (case k7 => k_is); (case k8 => ((try dsimp only); omega)); (case k9 => first | exact BindsTo.of_eq rfl | (refine' kp_binds ?kx ?ke; (case kx => first | (refine' myIn ?kf ?ki; (case kf => with_reducible assumption); (case ki => with_reducible assumption)) | k_in); (case ke => exact fun _ => rfl)) | exact binds_K (by first | (refine' myIn ?kf ?ki; (case kf => with_reducible assumption); (case ki => with_reducible assumption)) | k_in) rfl (by k_is) rfl rfl rfl); (case c5 => decide); (case kB => exact locs rfl); (case c2 => exact rfl); (case c3 => exact rfl); (case c4 => exact rfl); k_whole; intro g' L' h' FG' F' N' B' X' T' D'; (try dsimp only); (try k_lift B'); (refine let_AE (f := execs _) ?_; intro vk ak); (refine f_QE ?_; intro qk ek))))
  trivial
local macro_rules | `(tactic| k_mem) => `(tactic| first | with_reducible assumption | (refine mem_in ?_; with_reducible assumption))
theorem lines_H3_1 : True := by
  k_with "subscriptTail Name Constant ref int" => ((k_here; refine item_tupleT (News.isTup (by assumption) (by k_mem)) (by decide) (by decide) (by rfl) (by rfl) ?_))
  k_with "subscriptTail Name Constant ref int" => ((k_here; (with_reducible rename StrsAre _ _ => hSA); refine item_strsA (News.isList (by assumption) (by k_mem)) hSA (by decide) (by first | omega | (simp only [List.length_map]; omega)) (by decide) ?_; intro t'))
  k_with "call type:ValueError" => ((refine call_ValueError_made ?_; intro _ _ _))
  k_with "exec While Compare Name cons nil" => (refine Hold.mk ?_)
  k_with "exec While Compare" => (refine Hold.mk ?_)
  k_with "exec While Compare cons nil" => (refine Hold.mk ?_)
  k_with "exec While" => (refine Hold.mk ?_)
  k_with "binaryOp FloorDiv int int" => ((k_here; (with_reducible refine floordiv_pos ?kb1 ?kb2 ?_); (case kb1 => decide); (case kb2 => decide +kernel)))
  k_with "WhlIf" => ((refine whlIf_dec ?_ ?_ <;> intro _))
  k_with "subscriptTail Name Name ref int" => ((k_here; first
    | ((with_reducible rename StrsAre _ _ => hSA); refine item_strsA (News.isList (by assumption) (by k_mem)) hSA (by omega) (by omega) (by omega) ?_; intro t')
    | ((with_reducible rename IntsAre _ _ => hSA); refine item_intsA (News.isList (by assumption) (by k_mem)) hSA (by omega) (by omega) (by omega) ?_; intro t')))
  k_with "call builtin:len" => ((k_here; (with_reducible show wpAny _ _ (call (Value.builtin "len") [Value.ref _]) _ _ _); first
    | ((with_reducible rename StrsAre _ _ => hSA); refine len_strsA (News.isList (by assumption) (by k_mem)) hSA (by omega) ?_)
    | ((with_reducible rename IntsAre _ _ => hSA); refine len_intsA (News.isList (by assumption) (by k_mem)) hSA (by omega) ?_)))
  k_with "binaryOp Add str str" => ((k_here; (with_reducible show wpAny _ _ (binaryOp Operator.Add (Value.str _ _) (Value.str _ _)) _ _ _); first | (refine add_named_fresh (K := 100000) (L := 100000) ⟨?ka, ?kb⟩ ⟨?kc, ?kd⟩ ?ke ?_; (case ka => omega); (case kb => omega); (case kc => omega); (case kd => omega); (case ke => decide); intro _ _ _) | (refine add_named (K := 100000) (L := 100000) ?kb ?kd ?ke ?_; (case kb => omega); (case kd => omega); (case ke => decide); intro _ _ _ _ hk _; (try dsimp only at hk))))
  k_with "eval Subscript" => (((fail_if_success (with_reducible show wpAny _ _ _ (TokGe _ _) _ _)); refine tok_wrap (Nat.le_refl _) ?_))
  k_with "TokGe" => ((intro hk; (try dsimp only at hk)))
  k_with "exec Assign" => (((fail_if_success (with_reducible show wpAny _ _ _ (TokGe _ _) _ _)); refine tok_wrap (Nat.le_refl _) ?_))
  k_with "call builtin:str.replace" => ((k_here; (with_reducible show wpAny _ _ (call (Value.builtin "str.replace") [Value.str _ _, Value.str _ _, Value.str _ _]) _ _ _); refine rep_named ?a1 ?a2 ?a3 ?a4 ?a5 ?a6 ?_; (case a1 => ((show @Ne Nat _ _); first | omega | ((try dsimp only); omega))); (case a2 => ((show @Ne Nat _ _); first | omega | ((try dsimp only); omega))); (case a3 => ((show @Ne Nat _ _); first | omega | ((try dsimp only); omega))); (case a4 => first | assumption | exact ne_by_len (by omega)); (case a5 => omega); (case a6 => omega); intro _ _ _ _ hk _; (try dsimp only at hk)))
  k_with "subscriptTail" => ((k_here; (with_reducible show wpAny _ _ (subscriptTail _ (Expr.Slice _ _ _ _) (Value.str _ _) (Value.ref _)) _ _ _); (with_reducible rename Fr _ _ _ _ => F'); (with_reducible rename News _ _ _ _ => N'); first
    | ((with_reducible show wpAny _ _ (subscriptTail _ (Expr.Slice none (some _) none _) _ _) _ _ _); (refine slice_named_ns (s := ⟨_, _, _, _, _⟩) F' N' ?hsz ?_); (case hsz => omega))
    | ((with_reducible show wpAny _ _ (subscriptTail _ (Expr.Slice (some _) none none _) _ _) _ _ _); (refine slice_named_sn (s := ⟨_, _, _, _, _⟩) F' N' ?hsz ?_); (case hsz => omega))
    | ((with_reducible show wpAny _ _ (subscriptTail _ (Expr.Slice (some _) (some _) none _) _ _) _ _ _); (refine slice_named_ss (s := ⟨_, _, _, _, _⟩) F' N' ?hsz ?_); (case hsz => omega)); intro _ _ _ _ _ _ _ _))
  trivial
/-- _law_reply of law 3 -/
def dress3 (sh : Nat) (le : PStr) : PStr := PySem.Str.ofString "229 " ++ le ++ PySem.Str.ofString " " ++ (match sh % 4 with | 0 => PySem.Str.ofString "(|||#|)" | 1 => PySem.Str.ofString "(!1!h!#!)" | 2 => PySem.Str.ofString "(:::0#:)" | _ => PySem.Str.ofString "(   # )")
def good3 (sh : Nat) (po le : PStr) : PStr := Txt.replace (dress3 sh le) (PySem.Str.ofString "#") po
def bad3 (sh : Nat) (po le : PStr) : PStr := match sh with
  | 4 => PySem.Str.ofString "227" ++ Txt.slice (good3 sh po le) (some 3) none
  | 5 => Txt.slice (good3 sh po le) none (some (-1)) ++ PySem.Str.ofString "x"
  | 6 => Txt.slice (good3 sh po le) none (some (-1)) ++ PySem.Str.ofString "x)"
  | 7 => Txt.replace (dress3 sh le) (PySem.Str.ofString "#") (po ++ le)
  | 8 => Txt.slice (dress3 sh le) none (some 6) ++ PySem.Str.ofString "2" ++ po ++ PySem.Str.ofString "2)"
  | 9 => Txt.slice (good3 sh po le) none (some 8) ++ Txt.slice (good3 sh po le) (some 7) none
  | _ => good3 sh po le
def due3 (sh : Nat) (po le : PStr) : Option PStr := if sh < 4 then none else if sh = 7 then some (PySem.Str.ofString "value invalid literal for int() with base 10: '" ++ po ++ le ++ PySem.Str.ofString "'") else if sh = 4 then some (PySem.Str.ofString "reply " ++ bad3 sh po le) else some (PySem.Str.ofString "proto " ++ bad3 sh po le)
section
variable {w : World} {p : Program} {loose : List PStr} {mean : ExcName → Option Value} {mg mb : PStr → Option Value}
    {dp un : Nat} {gd : Option (List Code)} {cn : PStr} {cs : Scope} {a : Addr} {ccd : Value} {cl : List (PStr × Addr)} {outer : List Env} {A₀ : Around} {base h₀ : Heap} {L : Addr} {m : PStr → Option Value}
    {s : Shared} {Q E : Value → Shared → Prop} {news : Ldg}
    (B : Below A₀ base outer h₀) (X : (KK.heap_1 w.params).In h₀) (T : Top p loose mean mg mb h₀) (XB : (KK.heap_1 w.params).In base) (TB : Top p loose mean mg mb base) (D : KtsDicts (outer.filterMap (·.frame)) h₀) (hck : cs.kind = .function)
include B X T XB TB D hck

theorem lreply3_0 {po le : PStr} {t0 tl : Tok} {t1 : Nat} (hd5 : dp + 5 < recursionLimit) (hu5 : un + 50 < cLine) (F : Fr h₀ L s.heap m) (N : News h₀ L s.heap news)
   (hpo : 1 ≤ po.length ∧ po.length ≤ 8) (hle : le.length = 1) (hne : (PySem.Str.ofString "#" == po) = false) (ht1 : 1 ≤ t1 ∧ t1 < s.toks)
   (hret : ∀ d (gg : PStr) (t t' : Tok) h' tk, gg = (Txt.replace (PySem.Str.ofString "229 " ++ le ++ PySem.Str.ofString " " ++ PySem.Str.ofString "(|||#|)") (PySem.Str.ofString "#") po) → Fr h₀ L h' m → News h₀ L h' ((d, lstOf [.str gg t, .none, .str gg t'] 0) :: news) → (∀ p ∈ news, p.1 < d) → Q (.ref d) { s with heap := h', toks := tk }) :
   wpAny (model PySem.Challenge.rw_pm0034_03.row.prog w) (ktrTop dp un gd cn cs L a ccd cl outer) (call (.ref 122) [.int 0 t0, .str po t1, .str le tl]) Q E s := by
  walk_at "M fill"
  have l0 : (PySem.Str.ofString "229 ").length = 4 := by decide +kernel
  have l1 : (PySem.Str.ofString " ").length = 1 := by decide +kernel
  have l2 : (PySem.Str.ofString "(|||#|)").length = 7 := by decide +kernel
  have l3 : (PySem.Str.ofString "(!1!h!#!)").length = 9 := by decide +kernel
  have l4 : (PySem.Str.ofString "(:::0#:)").length = 8 := by decide +kernel
  have l5 : (PySem.Str.ofString "(   # )").length = 7 := by decide +kernel
  have l6 : (PySem.Str.ofString "#").length = 1 := by decide +kernel
  have l7 : (PySem.Str.ofString "227").length = 3 := by decide +kernel
  have l8 : (PySem.Str.ofString "x").length = 1 := by decide +kernel
  have l9 : (PySem.Str.ofString "x)").length = 2 := by decide +kernel
  have l10 : (PySem.Str.ofString "2").length = 1 := by decide +kernel
  have l11 : (PySem.Str.ofString "2)").length = 2 := by decide +kernel
  have l12 : (PySem.Str.ofString "value invalid literal for int() with base 10: '").length = 47 := by decide +kernel
  have l13 : (PySem.Str.ofString "'").length = 1 := by decide +kernel
  have l14 : (PySem.Str.ofString "reply ").length = 6 := by decide +kernel
  have l15 : (PySem.Str.ofString "proto ").length = 6 := by decide +kernel
  walk_at "M enter"
  k_steps
  (with_reducible rename News _ _ _ (_ :: _ :: news) => kN)
  (with_reducible rename (_ ∧ AllLt _ news) => hlt)
  have kN2 := news_d2 kN
  have hz := ktn_ltOf hlt.2
  clear kN hlt
  (show Q (Value.ref _) _)
  refine' hret _ _ _ _ _ _ ?_ (by assumption) kN2 hz
  all_goals (repeat' (first | with_reducible rfl | with_reducible refine txt_add (by assumption) ?_ ?_ | with_reducible refine txt_slice (by assumption) ?_ | with_reducible refine txt_sl ?_ | with_reducible refine txt_rep (by assumption) ?_ ?_ ?_))
end
section
variable {w : World} {p : Program} {loose : List PStr} {mean : ExcName → Option Value} {mg mb : PStr → Option Value}
    {dp un : Nat} {gd : Option (List Code)} {cn : PStr} {cs : Scope} {a : Addr} {ccd : Value} {cl : List (PStr × Addr)} {outer : List Env} {A₀ : Around} {base h₀ : Heap} {L : Addr} {m : PStr → Option Value}
    {s : Shared} {Q E : Value → Shared → Prop} {news : Ldg}
    (B : Below A₀ base outer h₀) (X : (KK.heap_1 w.params).In h₀) (T : Top p loose mean mg mb h₀) (XB : (KK.heap_1 w.params).In base) (TB : Top p loose mean mg mb base) (D : KtsDicts (outer.filterMap (·.frame)) h₀) (hck : cs.kind = .function)
include B X T XB TB D hck

theorem lreply3_1 {po le : PStr} {t0 tl : Tok} {t1 : Nat} (hd5 : dp + 5 < recursionLimit) (hu5 : un + 50 < cLine) (F : Fr h₀ L s.heap m) (N : News h₀ L s.heap news)
   (hpo : 1 ≤ po.length ∧ po.length ≤ 8) (hle : le.length = 1) (hne : (PySem.Str.ofString "#" == po) = false) (ht1 : 1 ≤ t1 ∧ t1 < s.toks)
   (hret : ∀ d (gg : PStr) (t t' : Tok) h' tk, gg = (Txt.replace (PySem.Str.ofString "229 " ++ le ++ PySem.Str.ofString " " ++ PySem.Str.ofString "(!1!h!#!)") (PySem.Str.ofString "#") po) → Fr h₀ L h' m → News h₀ L h' ((d, lstOf [.str gg t, .none, .str gg t'] 0) :: news) → (∀ p ∈ news, p.1 < d) → Q (.ref d) { s with heap := h', toks := tk }) :
   wpAny (model PySem.Challenge.rw_pm0034_03.row.prog w) (ktrTop dp un gd cn cs L a ccd cl outer) (call (.ref 122) [.int 1 t0, .str po t1, .str le tl]) Q E s := by
  walk_at "M fill"
  have l0 : (PySem.Str.ofString "229 ").length = 4 := by decide +kernel
  have l1 : (PySem.Str.ofString " ").length = 1 := by decide +kernel
  have l2 : (PySem.Str.ofString "(|||#|)").length = 7 := by decide +kernel
  have l3 : (PySem.Str.ofString "(!1!h!#!)").length = 9 := by decide +kernel
  have l4 : (PySem.Str.ofString "(:::0#:)").length = 8 := by decide +kernel
  have l5 : (PySem.Str.ofString "(   # )").length = 7 := by decide +kernel
  have l6 : (PySem.Str.ofString "#").length = 1 := by decide +kernel
  have l7 : (PySem.Str.ofString "227").length = 3 := by decide +kernel
  have l8 : (PySem.Str.ofString "x").length = 1 := by decide +kernel
  have l9 : (PySem.Str.ofString "x)").length = 2 := by decide +kernel
  have l10 : (PySem.Str.ofString "2").length = 1 := by decide +kernel
  have l11 : (PySem.Str.ofString "2)").length = 2 := by decide +kernel
  have l12 : (PySem.Str.ofString "value invalid literal for int() with base 10: '").length = 47 := by decide +kernel
  have l13 : (PySem.Str.ofString "'").length = 1 := by decide +kernel
  have l14 : (PySem.Str.ofString "reply ").length = 6 := by decide +kernel
  have l15 : (PySem.Str.ofString "proto ").length = 6 := by decide +kernel
  walk_at "M enter"
  k_steps
  (with_reducible rename News _ _ _ (_ :: _ :: news) => kN)
  (with_reducible rename (_ ∧ AllLt _ news) => hlt)
  have kN2 := news_d2 kN
  have hz := ktn_ltOf hlt.2
  clear kN hlt
  (show Q (Value.ref _) _)
  refine' hret _ _ _ _ _ _ ?_ (by assumption) kN2 hz
  all_goals (repeat' (first | with_reducible rfl | with_reducible refine txt_add (by assumption) ?_ ?_ | with_reducible refine txt_slice (by assumption) ?_ | with_reducible refine txt_sl ?_ | with_reducible refine txt_rep (by assumption) ?_ ?_ ?_))
end
section
variable {w : World} {p : Program} {loose : List PStr} {mean : ExcName → Option Value} {mg mb : PStr → Option Value}
    {dp un : Nat} {gd : Option (List Code)} {cn : PStr} {cs : Scope} {a : Addr} {ccd : Value} {cl : List (PStr × Addr)} {outer : List Env} {A₀ : Around} {base h₀ : Heap} {L : Addr} {m : PStr → Option Value}
    {s : Shared} {Q E : Value → Shared → Prop} {news : Ldg}
    (B : Below A₀ base outer h₀) (X : (KK.heap_1 w.params).In h₀) (T : Top p loose mean mg mb h₀) (XB : (KK.heap_1 w.params).In base) (TB : Top p loose mean mg mb base) (D : KtsDicts (outer.filterMap (·.frame)) h₀) (hck : cs.kind = .function)
include B X T XB TB D hck

theorem lreply3_2 {po le : PStr} {t0 tl : Tok} {t1 : Nat} (hd5 : dp + 5 < recursionLimit) (hu5 : un + 50 < cLine) (F : Fr h₀ L s.heap m) (N : News h₀ L s.heap news)
   (hpo : 1 ≤ po.length ∧ po.length ≤ 8) (hle : le.length = 1) (hne : (PySem.Str.ofString "#" == po) = false) (ht1 : 1 ≤ t1 ∧ t1 < s.toks)
   (hret : ∀ d (gg : PStr) (t t' : Tok) h' tk, gg = (Txt.replace (PySem.Str.ofString "229 " ++ le ++ PySem.Str.ofString " " ++ PySem.Str.ofString "(:::0#:)") (PySem.Str.ofString "#") po) → Fr h₀ L h' m → News h₀ L h' ((d, lstOf [.str gg t, .none, .str gg t'] 0) :: news) → (∀ p ∈ news, p.1 < d) → Q (.ref d) { s with heap := h', toks := tk }) :
   wpAny (model PySem.Challenge.rw_pm0034_03.row.prog w) (ktrTop dp un gd cn cs L a ccd cl outer) (call (.ref 122) [.int 2 t0, .str po t1, .str le tl]) Q E s := by
  walk_at "M fill"
  have l0 : (PySem.Str.ofString "229 ").length = 4 := by decide +kernel
  have l1 : (PySem.Str.ofString " ").length = 1 := by decide +kernel
  have l2 : (PySem.Str.ofString "(|||#|)").length = 7 := by decide +kernel
  have l3 : (PySem.Str.ofString "(!1!h!#!)").length = 9 := by decide +kernel
  have l4 : (PySem.Str.ofString "(:::0#:)").length = 8 := by decide +kernel
  have l5 : (PySem.Str.ofString "(   # )").length = 7 := by decide +kernel
  have l6 : (PySem.Str.ofString "#").length = 1 := by decide +kernel
  have l7 : (PySem.Str.ofString "227").length = 3 := by decide +kernel
  have l8 : (PySem.Str.ofString "x").length = 1 := by decide +kernel
  have l9 : (PySem.Str.ofString "x)").length = 2 := by decide +kernel
  have l10 : (PySem.Str.ofString "2").length = 1 := by decide +kernel
  have l11 : (PySem.Str.ofString "2)").length = 2 := by decide +kernel
  have l12 : (PySem.Str.ofString "value invalid literal for int() with base 10: '").length = 47 := by decide +kernel
  have l13 : (PySem.Str.ofString "'").length = 1 := by decide +kernel
  have l14 : (PySem.Str.ofString "reply ").length = 6 := by decide +kernel
  have l15 : (PySem.Str.ofString "proto ").length = 6 := by decide +kernel
  walk_at "M enter"
  k_steps
  (with_reducible rename News _ _ _ (_ :: _ :: news) => kN)
  (with_reducible rename (_ ∧ AllLt _ news) => hlt)
  have kN2 := news_d2 kN
  have hz := ktn_ltOf hlt.2
  clear kN hlt
  (show Q (Value.ref _) _)
  refine' hret _ _ _ _ _ _ ?_ (by assumption) kN2 hz
  all_goals (repeat' (first | with_reducible rfl | with_reducible refine txt_add (by assumption) ?_ ?_ | with_reducible refine txt_slice (by assumption) ?_ | with_reducible refine txt_sl ?_ | with_reducible refine txt_rep (by assumption) ?_ ?_ ?_))
end
section
variable {w : World} {p : Program} {loose : List PStr} {mean : ExcName → Option Value} {mg mb : PStr → Option Value}
    {dp un : Nat} {gd : Option (List Code)} {cn : PStr} {cs : Scope} {a : Addr} {ccd : Value} {cl : List (PStr × Addr)} {outer : List Env} {A₀ : Around} {base h₀ : Heap} {L : Addr} {m : PStr → Option Value}
    {s : Shared} {Q E : Value → Shared → Prop} {news : Ldg}
    (B : Below A₀ base outer h₀) (X : (KK.heap_1 w.params).In h₀) (T : Top p loose mean mg mb h₀) (XB : (KK.heap_1 w.params).In base) (TB : Top p loose mean mg mb base) (D : KtsDicts (outer.filterMap (·.frame)) h₀) (hck : cs.kind = .function)
include B X T XB TB D hck

theorem lreply3_3 {po le : PStr} {t0 tl : Tok} {t1 : Nat} (hd5 : dp + 5 < recursionLimit) (hu5 : un + 50 < cLine) (F : Fr h₀ L s.heap m) (N : News h₀ L s.heap news)
   (hpo : 1 ≤ po.length ∧ po.length ≤ 8) (hle : le.length = 1) (hne : (PySem.Str.ofString "#" == po) = false) (ht1 : 1 ≤ t1 ∧ t1 < s.toks)
   (hret : ∀ d (gg : PStr) (t t' : Tok) h' tk, gg = (Txt.replace (PySem.Str.ofString "229 " ++ le ++ PySem.Str.ofString " " ++ PySem.Str.ofString "(   # )") (PySem.Str.ofString "#") po) → Fr h₀ L h' m → News h₀ L h' ((d, lstOf [.str gg t, .none, .str gg t'] 0) :: news) → (∀ p ∈ news, p.1 < d) → Q (.ref d) { s with heap := h', toks := tk }) :
   wpAny (model PySem.Challenge.rw_pm0034_03.row.prog w) (ktrTop dp un gd cn cs L a ccd cl outer) (call (.ref 122) [.int 3 t0, .str po t1, .str le tl]) Q E s := by
  walk_at "M fill"
  have l0 : (PySem.Str.ofString "229 ").length = 4 := by decide +kernel
  have l1 : (PySem.Str.ofString " ").length = 1 := by decide +kernel
  have l2 : (PySem.Str.ofString "(|||#|)").length = 7 := by decide +kernel
  have l3 : (PySem.Str.ofString "(!1!h!#!)").length = 9 := by decide +kernel
  have l4 : (PySem.Str.ofString "(:::0#:)").length = 8 := by decide +kernel
  have l5 : (PySem.Str.ofString "(   # )").length = 7 := by decide +kernel
  have l6 : (PySem.Str.ofString "#").length = 1 := by decide +kernel
  have l7 : (PySem.Str.ofString "227").length = 3 := by decide +kernel
  have l8 : (PySem.Str.ofString "x").length = 1 := by decide +kernel
  have l9 : (PySem.Str.ofString "x)").length = 2 := by decide +kernel
  have l10 : (PySem.Str.ofString "2").length = 1 := by decide +kernel
  have l11 : (PySem.Str.ofString "2)").length = 2 := by decide +kernel
  have l12 : (PySem.Str.ofString "value invalid literal for int() with base 10: '").length = 47 := by decide +kernel
  have l13 : (PySem.Str.ofString "'").length = 1 := by decide +kernel
  have l14 : (PySem.Str.ofString "reply ").length = 6 := by decide +kernel
  have l15 : (PySem.Str.ofString "proto ").length = 6 := by decide +kernel
  walk_at "M enter"
  k_steps
  (with_reducible rename News _ _ _ (_ :: _ :: news) => kN)
  (with_reducible rename (_ ∧ AllLt _ news) => hlt)
  have kN2 := news_d2 kN
  have hz := ktn_ltOf hlt.2
  clear kN hlt
  (show Q (Value.ref _) _)
  refine' hret _ _ _ _ _ _ ?_ (by assumption) kN2 hz
  all_goals (repeat' (first | with_reducible rfl | with_reducible refine txt_add (by assumption) ?_ ?_ | with_reducible refine txt_slice (by assumption) ?_ | with_reducible refine txt_sl ?_ | with_reducible refine txt_rep (by assumption) ?_ ?_ ?_))
end
section
variable {w : World} {p : Program} {loose : List PStr} {mean : ExcName → Option Value} {mg mb : PStr → Option Value}
    {dp un : Nat} {gd : Option (List Code)} {cn : PStr} {cs : Scope} {a : Addr} {ccd : Value} {cl : List (PStr × Addr)} {outer : List Env} {A₀ : Around} {base h₀ : Heap} {L : Addr} {m : PStr → Option Value}
    {s : Shared} {Q E : Value → Shared → Prop} {news : Ldg}
    (B : Below A₀ base outer h₀) (X : (KK.heap_1 w.params).In h₀) (T : Top p loose mean mg mb h₀) (XB : (KK.heap_1 w.params).In base) (TB : Top p loose mean mg mb base) (D : KtsDicts (outer.filterMap (·.frame)) h₀) (hck : cs.kind = .function)
include B X T XB TB D hck

theorem lreply3_4 {po le : PStr} {t0 tl : Tok} {t1 : Nat} (hd5 : dp + 5 < recursionLimit) (hu5 : un + 50 < cLine) (F : Fr h₀ L s.heap m) (N : News h₀ L s.heap news)
   (hpo : 1 ≤ po.length ∧ po.length ≤ 8) (hle : le.length = 1) (hne : (PySem.Str.ofString "#" == po) = false) (ht1 : 1 ≤ t1 ∧ t1 < s.toks)
   (hret : ∀ d (gg gb gd : PStr) (t t2 t' : Tok) h' tk, gg = (Txt.replace (PySem.Str.ofString "229 " ++ le ++ PySem.Str.ofString " " ++ PySem.Str.ofString "(|||#|)") (PySem.Str.ofString "#") po) → gb = (PySem.Str.ofString "227" ++ Txt.slice (Txt.replace (PySem.Str.ofString "229 " ++ le ++ PySem.Str.ofString " " ++ PySem.Str.ofString "(|||#|)") (PySem.Str.ofString "#") po) (some 3) none) → gd = PySem.Str.ofString "reply " ++ (PySem.Str.ofString "227" ++ Txt.slice (Txt.replace (PySem.Str.ofString "229 " ++ le ++ PySem.Str.ofString " " ++ PySem.Str.ofString "(|||#|)") (PySem.Str.ofString "#") po) (some 3) none) → Fr h₀ L h' m → News h₀ L h' ((d, lstOf [.str gb t, .str gd t2, .str gg t'] 0) :: news) → (∀ p ∈ news, p.1 < d) → Q (.ref d) { s with heap := h', toks := tk }) :
   wpAny (model PySem.Challenge.rw_pm0034_03.row.prog w) (ktrTop dp un gd cn cs L a ccd cl outer) (call (.ref 122) [.int 4 t0, .str po t1, .str le tl]) Q E s := by
  walk_at "M fill"
  have l0 : (PySem.Str.ofString "229 ").length = 4 := by decide +kernel
  have l1 : (PySem.Str.ofString " ").length = 1 := by decide +kernel
  have l2 : (PySem.Str.ofString "(|||#|)").length = 7 := by decide +kernel
  have l3 : (PySem.Str.ofString "(!1!h!#!)").length = 9 := by decide +kernel
  have l4 : (PySem.Str.ofString "(:::0#:)").length = 8 := by decide +kernel
  have l5 : (PySem.Str.ofString "(   # )").length = 7 := by decide +kernel
  have l6 : (PySem.Str.ofString "#").length = 1 := by decide +kernel
  have l7 : (PySem.Str.ofString "227").length = 3 := by decide +kernel
  have l8 : (PySem.Str.ofString "x").length = 1 := by decide +kernel
  have l9 : (PySem.Str.ofString "x)").length = 2 := by decide +kernel
  have l10 : (PySem.Str.ofString "2").length = 1 := by decide +kernel
  have l11 : (PySem.Str.ofString "2)").length = 2 := by decide +kernel
  have l12 : (PySem.Str.ofString "value invalid literal for int() with base 10: '").length = 47 := by decide +kernel
  have l13 : (PySem.Str.ofString "'").length = 1 := by decide +kernel
  have l14 : (PySem.Str.ofString "reply ").length = 6 := by decide +kernel
  have l15 : (PySem.Str.ofString "proto ").length = 6 := by decide +kernel
  walk_at "M enter"
  k_steps
  (with_reducible rename News _ _ _ (_ :: _ :: _ :: news) => kN)
  (with_reducible rename (_ ∧ _ ∧ AllLt _ news) => hlt)
  have kN2 := news_d3 kN
  have hz := ktn_ltOf hlt.2.2
  clear kN hlt
  (show Q (Value.ref _) _)
  refine' hret _ _ _ _ _ _ _ _ _ ?_ ?_ ?_ (by assumption) kN2 hz
  all_goals (repeat' (first | with_reducible rfl | with_reducible refine txt_add (by assumption) ?_ ?_ | with_reducible refine txt_slice (by assumption) ?_ | with_reducible refine txt_sl ?_ | with_reducible refine txt_rep (by assumption) ?_ ?_ ?_))
end
end Mine
end
section
open PySem PySem.W PyProof.Rows PySem.Spec PySem.Calls
set_option Elab.async false
set_option maxRecDepth 100000
set_option maxHeartbeats 8000000
set_option linter.all false
namespace Mine
local macro_rules | `(tactic| walk_at "M nothing") => `(tactic| skip)
local macro_rules | `(tactic| walk_at $s:str) => `(tactic| k_extra $s)
local macro_rules | `(tactic| omega) => `(tactic| first
  | with_reducible assumption
  | (refine' room1 ?rmh ?rme; (case rmh => with_reducible assumption); (case rme => with_unfolding_all rfl))
  | (refine' room0 ?rmh ?rme; (case rmh => with_reducible assumption); (case rme => with_unfolding_all rfl))
  | (refine' room2 ?rmh ?rme; (case rmh => with_reducible assumption); (case rme => with_unfolding_all rfl))
  | (refine' room00 ?rmh; (case rmh => with_reducible assumption))
  | (refine num_le ?rme; (case rme => with_unfolding_all rfl))
  | (refine num_lt ?rme; (case rme => with_unfolding_all rfl))
  | (refine' le_num ?rmh ?rme; (case rmh => with_reducible assumption); (case rme => with_unfolding_all rfl))
  | (refine' eq_num ?rmh ?rme; (case rmh => with_reducible assumption); (case rme => with_unfolding_all rfl))
  | omega (config := {}))
theorem lines_I3_0 : True := by
  k_with_none
  k_with "execs cons" => ((refine f_execs ?_; intro qk))
  k_with "eval BinOp" => ((refine f_BinOp ?_; intro qk))
  k_with "exec Assign" => ((refine f_Assign ?_; intro qk))
  k_with "eval Subscript" => ((refine f_Subscript ?_; intro qk))
  k_with "isTrue Compare" => ((refine f_Compare ?_; intro qk))
  k_with "exec If" => ((refine f_If ?_; intro qk))
  k_with "eval Call" => (((fail_if_success (with_reducible show wpAny _ _ (eval (Expr.Call (Expr.Attribute _ _ _) _ _ _) _) _ _ _)); refine f_Call ?_; intro qk))
  k_with "spliced" => ((refine f_args ?_; intro qk))
  k_with "callWith" => ((refine f_method1 ?_; intro qk))
  k_with "exec Return some" => ((refine f_Return ?_; intro qk))
  k_with "eval Tuple" => ((refine f_Tuple ?_; intro qk))
  k_with "eval List" => ((refine f_List ?_; intro qk))
  k_with "eval IfExp" => ((refine f_IfExp ?_; intro qk))
  k_with "storeName" => ((k_here; k_dflt (refine' f_store ?F ?N ?_ ?a ?b; (case F => k_asm); (case N => k_asm); (case a => rfl); (case b => rfl); k_whole; intro m' h' F' N'; (try k_sweep))))
  k_with "M map1" => (first
    | (refine map_same ?_; with_unfolding_all rfl)
    | ((repeat' (refine List.forall_mem_cons.mpr (And.intro ?_ ?_))); (all_goals first | rfl | exact List.forall_mem_nil _)))
  k_with "M map2" => (first
    | (refine SameOut.both (b := fun _ => none) ?_ ?_ <;> (repeat (refine SameOut.upd ?_ (by with_unfolding_all rfl))) <;> exact SameOut.lookup rfl)
    | (refine' SameOut.both (b := ?kb) ?k1 ?k2; (case k1 => ((repeat (refine SameOut.upd ?_ (by with_unfolding_all rfl))); exact SameOut.refl)); (case k2 => ((repeat (refine SameOut.upd ?_ (by with_unfolding_all rfl))); exact SameOut.refl)))
    | (refine' SameOut.both (b := ?kb) ?k1 ?k2; (case k2 => ((repeat (refine SameOut.upd ?_ (by with_unfolding_all rfl))); exact SameOut.refl)); (case k1 => ((repeat (refine SameOut.skip ?_)); (repeat (refine SameOut.upd ?_ (by with_unfolding_all rfl))); exact SameOut.refl)))
    | (intro y hy; (repeat (refine (if_neg (ne_of_out hy (by with_unfolding_all rfl))).trans ?_)); (refine Eq.symm ?_); (repeat (refine (if_neg (ne_of_out hy (by with_unfolding_all rfl))).trans ?_)); first | rfl | exact lookup_out rfl hy | exact (lookup_out rfl hy).symm | exact (lookup_out rfl hy).trans (lookup_out rfl hy).symm))
  k_with "M fill" => ((
    have kk : PySem.Challenge.rw_pm0034_03 = PySem.Challenge.rw_pm0034_03 ∧ KK.heap_1 = KK.heap_1 := ⟨rfl, rfl⟩
    revert kk
    k_fill
    intro kk
    clear kk))
  k_with "M enter" => ((
    refine wpAny_call ?_
    k_dflt (refine' code_def ?k1 ?k2 ?k3 ?k4 ?k5 ?kA ?kF ?kK ?k6 ?k7 ?k8 ?k9 ?kB ?_ ?c2 ?c3 ?c4 ?c5; (case kA => exact rfl); (case kF => exact rfl); (case kK => assumption); (case k1 => k_asm); (case k2 => k_asm); (case k3 => k_asm); (case k4 => k_asm); (case k5 => k_asm); (case k6 => k_is); (case k7 => k_is); (case k8 => ((try dsimp only); omega)); (case k9 => first | exact BindsTo.of_eq rfl | (refine' kp_binds ?kx ?ke; (case kx => first | (refine' myIn ?kf ?ki; (case kf => with_reducible assumption); (case ki => with_reducible assumption)) | k_in); (case ke => exact fun _ => rfl)) | exact binds_K (by first | (refine' myIn ?kf ?ki; (case kf => with_reducible assumption); (case ki => with_reducible assumption)) | k_in) rfl (by k_is) rfl rfl rfl); (case c5 => decide); (case kB => exact locs rfl); (case c2 => exact rfl); (case c3 => exact rfl); (case c4 => exact rfl); k_whole; intro g' L' h' FG' F' N' B' X' T'; (have D' := kts_dict B' (by assumption) FG' rfl); (try dsimp only); (try k_lift B'); (refine let_AE (f := execs _) ?_; intro vk ak); (refine f_QE ?_; intro qk ek))))
  k_with "M enter0" => ((
    refine wpAny_call ?_
    k_dflt (refine' code_defS0X ?k1 ?k2 ?k3 ?k4 ?k5 ?kA ?kF ?kK ?k6 ?k7 ?k8 ?k9 ?kB ?_ ?c2 ?c3 ?c4 ?c5; (case kA => exact rfl); (case kF => exact rfl); (case kK => assumption); (case k1 => k_asm); (case k2 => k_asm); (case k3 => k_asm); (case k4 => k_asm); (case k5 => k_asm); (case k6 => k_is); (case k7 => k_is); (case k8 => ((try dsimp only); omega)); (case k9 => first | exact BindsTo.of_eq rfl | (refine' kp_binds ?kx ?ke; (case kx => first | (refine' myIn ?kf ?ki; (case kf => with_reducible assumption); (case ki => with_reducible assumption)) | k_in); (case ke => exact fun _ => rfl)) | exact binds_K (by first | (refine' myIn ?kf ?ki; (case kf => with_reducible assumption); (case ki => with_reducible assumption)) | k_in) rfl (by k_is) rfl rfl rfl); (case c5 => decide); (case kB => exact locs rfl); (case c2 => exact rfl); (case c3 => exact rfl); (case c4 => exact rfl); k_whole; intro g' L' h' FG' F' N' B' X' T' D'; (try dsimp only); (try k_lift B'); (refine let_AE (f := execs _) ?_; intro vk ak); (refine f_QE ?_; intro qk ek))))
  trivial
local macro_rules | `(tactic| k_mem) => `(tactic| first | with_reducible assumption | (refine mem_in ?_; with_reducible assumption))
theorem lines_I3_1 : True := by
  k_with "subscriptTail Name Constant ref int" => ((k_here; refine item_tupleT (News.isTup (by assumption) (by k_mem)) (by decide) (by decide) (by rfl) (by rfl) ?_))
  k_with "subscriptTail Name Constant ref int" => ((k_here; (with_reducible rename StrsAre _ _ => hSA); refine item_strsA (News.isList (by assumption) (by k_mem)) hSA (by decide) (by first | omega | (simp only [List.length_map]; omega)) (by decide) ?_; intro t'))
  k_with "call type:ValueError" => ((refine call_ValueError_made ?_; intro _ _ _))
  k_with "exec While Compare Name cons nil" => (refine Hold.mk ?_)
  k_with "exec While Compare" => (refine Hold.mk ?_)
  k_with "exec While Compare cons nil" => (refine Hold.mk ?_)
  k_with "exec While" => (refine Hold.mk ?_)
  k_with "binaryOp FloorDiv int int" => ((k_here; (with_reducible refine floordiv_pos ?kb1 ?kb2 ?_); (case kb1 => decide); (case kb2 => decide +kernel)))
  k_with "WhlIf" => ((refine whlIf_dec ?_ ?_ <;> intro _))
  k_with "subscriptTail Name Name ref int" => ((k_here; first
    | ((with_reducible rename StrsAre _ _ => hSA); refine item_strsA (News.isList (by assumption) (by k_mem)) hSA (by omega) (by omega) (by omega) ?_; intro t')
    | ((with_reducible rename IntsAre _ _ => hSA); refine item_intsA (News.isList (by assumption) (by k_mem)) hSA (by omega) (by omega) (by omega) ?_; intro t')))
  k_with "call builtin:len" => ((k_here; (with_reducible show wpAny _ _ (call (Value.builtin "len") [Value.ref _]) _ _ _); first
    | ((with_reducible rename StrsAre _ _ => hSA); refine len_strsA (News.isList (by assumption) (by k_mem)) hSA (by omega) ?_)
    | ((with_reducible rename IntsAre _ _ => hSA); refine len_intsA (News.isList (by assumption) (by k_mem)) hSA (by omega) ?_)))
  k_with "binaryOp Add str str" => ((k_here; (with_reducible show wpAny _ _ (binaryOp Operator.Add (Value.str _ _) (Value.str _ _)) _ _ _); first | (refine add_named_fresh (K := 100000) (L := 100000) ⟨?ka, ?kb⟩ ⟨?kc, ?kd⟩ ?ke ?_; (case ka => omega); (case kb => omega); (case kc => omega); (case kd => omega); (case ke => decide); intro _ _ _) | (refine add_named (K := 100000) (L := 100000) ?kb ?kd ?ke ?_; (case kb => omega); (case kd => omega); (case ke => decide); intro _ _ _ _ hk _; (try dsimp only at hk))))
  k_with "eval Subscript" => (((fail_if_success (with_reducible show wpAny _ _ _ (TokGe _ _) _ _)); refine tok_wrap (Nat.le_refl _) ?_))
  k_with "TokGe" => ((intro hk; (try dsimp only at hk)))
  k_with "exec Assign" => (((fail_if_success (with_reducible show wpAny _ _ _ (TokGe _ _) _ _)); refine tok_wrap (Nat.le_refl _) ?_))
  k_with "call builtin:str.replace" => ((k_here; (with_reducible show wpAny _ _ (call (Value.builtin "str.replace") [Value.str _ _, Value.str _ _, Value.str _ _]) _ _ _); refine rep_named ?a1 ?a2 ?a3 ?a4 ?a5 ?a6 ?_; (case a1 => ((show @Ne Nat _ _); first | omega | ((try dsimp only); omega))); (case a2 => ((show @Ne Nat _ _); first | omega | ((try dsimp only); omega))); (case a3 => ((show @Ne Nat _ _); first | omega | ((try dsimp only); omega))); (case a4 => first | assumption | exact ne_by_len (by omega)); (case a5 => omega); (case a6 => omega); intro _ _ _ _ hk _; (try dsimp only at hk)))
  k_with "subscriptTail" => ((k_here; (with_reducible show wpAny _ _ (subscriptTail _ (Expr.Slice _ _ _ _) (Value.str _ _) (Value.ref _)) _ _ _); (with_reducible rename Fr _ _ _ _ => F'); (with_reducible rename News _ _ _ _ => N'); first
    | ((with_reducible show wpAny _ _ (subscriptTail _ (Expr.Slice none (some _) none _) _ _) _ _ _); (refine slice_named_ns (s := ⟨_, _, _, _, _⟩) F' N' ?hsz ?_); (case hsz => omega))
    | ((with_reducible show wpAny _ _ (subscriptTail _ (Expr.Slice (some _) none none _) _ _) _ _ _); (refine slice_named_sn (s := ⟨_, _, _, _, _⟩) F' N' ?hsz ?_); (case hsz => omega))
    | ((with_reducible show wpAny _ _ (subscriptTail _ (Expr.Slice (some _) (some _) none _) _ _) _ _ _); (refine slice_named_ss (s := ⟨_, _, _, _, _⟩) F' N' ?hsz ?_); (case hsz => omega)); intro _ _ _ _ _ _ _ _))
  trivial
section
variable {w : World} {p : Program} {loose : List PStr} {mean : ExcName → Option Value} {mg mb : PStr → Option Value}
    {dp un : Nat} {gd : Option (List Code)} {cn : PStr} {cs : Scope} {a : Addr} {ccd : Value} {cl : List (PStr × Addr)} {outer : List Env} {A₀ : Around} {base h₀ : Heap} {L : Addr} {m : PStr → Option Value}
    {s : Shared} {Q E : Value → Shared → Prop} {news : Ldg}
    (B : Below A₀ base outer h₀) (X : (KK.heap_1 w.params).In h₀) (T : Top p loose mean mg mb h₀) (XB : (KK.heap_1 w.params).In base) (TB : Top p loose mean mg mb base) (D : KtsDicts (outer.filterMap (·.frame)) h₀) (hck : cs.kind = .function)
include B X T XB TB D hck

theorem lreply3_5 {po le : PStr} {t0 tl : Tok} {t1 : Nat} (hd5 : dp + 5 < recursionLimit) (hu5 : un + 50 < cLine) (F : Fr h₀ L s.heap m) (N : News h₀ L s.heap news)
   (hpo : 1 ≤ po.length ∧ po.length ≤ 8) (hle : le.length = 1) (hne : (PySem.Str.ofString "#" == po) = false) (ht1 : 1 ≤ t1 ∧ t1 < s.toks)
   (hret : ∀ d (gg gb gd : PStr) (t t2 t' : Tok) h' tk, gg = (Txt.replace (PySem.Str.ofString "229 " ++ le ++ PySem.Str.ofString " " ++ PySem.Str.ofString "(!1!h!#!)") (PySem.Str.ofString "#") po) → gb = (Txt.slice (Txt.replace (PySem.Str.ofString "229 " ++ le ++ PySem.Str.ofString " " ++ PySem.Str.ofString "(!1!h!#!)") (PySem.Str.ofString "#") po) none (some (-1)) ++ PySem.Str.ofString "x") → gd = PySem.Str.ofString "proto " ++ (Txt.slice (Txt.replace (PySem.Str.ofString "229 " ++ le ++ PySem.Str.ofString " " ++ PySem.Str.ofString "(!1!h!#!)") (PySem.Str.ofString "#") po) none (some (-1)) ++ PySem.Str.ofString "x") → Fr h₀ L h' m → News h₀ L h' ((d, lstOf [.str gb t, .str gd t2, .str gg t'] 0) :: news) → (∀ p ∈ news, p.1 < d) → Q (.ref d) { s with heap := h', toks := tk }) :
   wpAny (model PySem.Challenge.rw_pm0034_03.row.prog w) (ktrTop dp un gd cn cs L a ccd cl outer) (call (.ref 122) [.int 5 t0, .str po t1, .str le tl]) Q E s := by
  walk_at "M fill"
  have l0 : (PySem.Str.ofString "229 ").length = 4 := by decide +kernel
  have l1 : (PySem.Str.ofString " ").length = 1 := by decide +kernel
  have l2 : (PySem.Str.ofString "(|||#|)").length = 7 := by decide +kernel
  have l3 : (PySem.Str.ofString "(!1!h!#!)").length = 9 := by decide +kernel
  have l4 : (PySem.Str.ofString "(:::0#:)").length = 8 := by decide +kernel
  have l5 : (PySem.Str.ofString "(   # )").length = 7 := by decide +kernel
  have l6 : (PySem.Str.ofString "#").length = 1 := by decide +kernel
  have l7 : (PySem.Str.ofString "227").length = 3 := by decide +kernel
  have l8 : (PySem.Str.ofString "x").length = 1 := by decide +kernel
  have l9 : (PySem.Str.ofString "x)").length = 2 := by decide +kernel
  have l10 : (PySem.Str.ofString "2").length = 1 := by decide +kernel
  have l11 : (PySem.Str.ofString "2)").length = 2 := by decide +kernel
  have l12 : (PySem.Str.ofString "value invalid literal for int() with base 10: '").length = 47 := by decide +kernel
  have l13 : (PySem.Str.ofString "'").length = 1 := by decide +kernel
  have l14 : (PySem.Str.ofString "reply ").length = 6 := by decide +kernel
  have l15 : (PySem.Str.ofString "proto ").length = 6 := by decide +kernel
  walk_at "M enter"
  k_steps
  (with_reducible rename News _ _ _ (_ :: _ :: _ :: news) => kN)
  (with_reducible rename (_ ∧ _ ∧ AllLt _ news) => hlt)
  have kN2 := news_d3 kN
  have hz := ktn_ltOf hlt.2.2
  clear kN hlt
  (show Q (Value.ref _) _)
  refine' hret _ _ _ _ _ _ _ _ _ ?_ ?_ ?_ (by assumption) kN2 hz
  all_goals (repeat' (first | with_reducible rfl | with_reducible refine txt_add (by assumption) ?_ ?_ | with_reducible refine txt_slice (by assumption) ?_ | with_reducible refine txt_sl ?_ | with_reducible refine txt_rep (by assumption) ?_ ?_ ?_))
end
section
variable {w : World} {p : Program} {loose : List PStr} {mean : ExcName → Option Value} {mg mb : PStr → Option Value}
    {dp un : Nat} {gd : Option (List Code)} {cn : PStr} {cs : Scope} {a : Addr} {ccd : Value} {cl : List (PStr × Addr)} {outer : List Env} {A₀ : Around} {base h₀ : Heap} {L : Addr} {m : PStr → Option Value}
    {s : Shared} {Q E : Value → Shared → Prop} {news : Ldg}
    (B : Below A₀ base outer h₀) (X : (KK.heap_1 w.params).In h₀) (T : Top p loose mean mg mb h₀) (XB : (KK.heap_1 w.params).In base) (TB : Top p loose mean mg mb base) (D : KtsDicts (outer.filterMap (·.frame)) h₀) (hck : cs.kind = .function)
include B X T XB TB D hck

theorem lreply3_6 {po le : PStr} {t0 tl : Tok} {t1 : Nat} (hd5 : dp + 5 < recursionLimit) (hu5 : un + 50 < cLine) (F : Fr h₀ L s.heap m) (N : News h₀ L s.heap news)
   (hpo : 1 ≤ po.length ∧ po.length ≤ 8) (hle : le.length = 1) (hne : (PySem.Str.ofString "#" == po) = false) (ht1 : 1 ≤ t1 ∧ t1 < s.toks)
   (hret : ∀ d (gg gb gd : PStr) (t t2 t' : Tok) h' tk, gg = (Txt.replace (PySem.Str.ofString "229 " ++ le ++ PySem.Str.ofString " " ++ PySem.Str.ofString "(:::0#:)") (PySem.Str.ofString "#") po) → gb = (Txt.slice (Txt.replace (PySem.Str.ofString "229 " ++ le ++ PySem.Str.ofString " " ++ PySem.Str.ofString "(:::0#:)") (PySem.Str.ofString "#") po) none (some (-1)) ++ PySem.Str.ofString "x)") → gd = PySem.Str.ofString "proto " ++ (Txt.slice (Txt.replace (PySem.Str.ofString "229 " ++ le ++ PySem.Str.ofString " " ++ PySem.Str.ofString "(:::0#:)") (PySem.Str.ofString "#") po) none (some (-1)) ++ PySem.Str.ofString "x)") → Fr h₀ L h' m → News h₀ L h' ((d, lstOf [.str gb t, .str gd t2, .str gg t'] 0) :: news) → (∀ p ∈ news, p.1 < d) → Q (.ref d) { s with heap := h', toks := tk }) :
   wpAny (model PySem.Challenge.rw_pm0034_03.row.prog w) (ktrTop dp un gd cn cs L a ccd cl outer) (call (.ref 122) [.int 6 t0, .str po t1, .str le tl]) Q E s := by
  walk_at "M fill"
  have l0 : (PySem.Str.ofString "229 ").length = 4 := by decide +kernel
  have l1 : (PySem.Str.ofString " ").length = 1 := by decide +kernel
  have l2 : (PySem.Str.ofString "(|||#|)").length = 7 := by decide +kernel
  have l3 : (PySem.Str.ofString "(!1!h!#!)").length = 9 := by decide +kernel
  have l4 : (PySem.Str.ofString "(:::0#:)").length = 8 := by decide +kernel
  have l5 : (PySem.Str.ofString "(   # )").length = 7 := by decide +kernel
  have l6 : (PySem.Str.ofString "#").length = 1 := by decide +kernel
  have l7 : (PySem.Str.ofString "227").length = 3 := by decide +kernel
  have l8 : (PySem.Str.ofString "x").length = 1 := by decide +kernel
  have l9 : (PySem.Str.ofString "x)").length = 2 := by decide +kernel
  have l10 : (PySem.Str.ofString "2").length = 1 := by decide +kernel
  have l11 : (PySem.Str.ofString "2)").length = 2 := by decide +kernel
  have l12 : (PySem.Str.ofString "value invalid literal for int() with base 10: '").length = 47 := by decide +kernel
  have l13 : (PySem.Str.ofString "'").length = 1 := by decide +kernel
  have l14 : (PySem.Str.ofString "reply ").length = 6 := by decide +kernel
  have l15 : (PySem.Str.ofString "proto ").length = 6 := by decide +kernel
  walk_at "M enter"
  k_steps
  (with_reducible rename News _ _ _ (_ :: _ :: _ :: news) => kN)
  (with_reducible rename (_ ∧ _ ∧ AllLt _ news) => hlt)
  have kN2 := news_d3 kN
  have hz := ktn_ltOf hlt.2.2
  clear kN hlt
  (show Q (Value.ref _) _)
  refine' hret _ _ _ _ _ _ _ _ _ ?_ ?_ ?_ (by assumption) kN2 hz
  all_goals (repeat' (first | with_reducible rfl | with_reducible refine txt_add (by assumption) ?_ ?_ | with_reducible refine txt_slice (by assumption) ?_ | with_reducible refine txt_sl ?_ | with_reducible refine txt_rep (by assumption) ?_ ?_ ?_))
end
section
variable {w : World} {p : Program} {loose : List PStr} {mean : ExcName → Option Value} {mg mb : PStr → Option Value}
    {dp un : Nat} {gd : Option (List Code)} {cn : PStr} {cs : Scope} {a : Addr} {ccd : Value} {cl : List (PStr × Addr)} {outer : List Env} {A₀ : Around} {base h₀ : Heap} {L : Addr} {m : PStr → Option Value}
    {s : Shared} {Q E : Value → Shared → Prop} {news : Ldg}
    (B : Below A₀ base outer h₀) (X : (KK.heap_1 w.params).In h₀) (T : Top p loose mean mg mb h₀) (XB : (KK.heap_1 w.params).In base) (TB : Top p loose mean mg mb base) (D : KtsDicts (outer.filterMap (·.frame)) h₀) (hck : cs.kind = .function)
include B X T XB TB D hck

theorem lreply3_7 {po le : PStr} {t0 tl : Tok} {t1 : Nat} (hd5 : dp + 5 < recursionLimit) (hu5 : un + 50 < cLine) (F : Fr h₀ L s.heap m) (N : News h₀ L s.heap news)
   (hpo : 1 ≤ po.length ∧ po.length ≤ 8) (hle : le.length = 1) (hne : (PySem.Str.ofString "#" == po) = false) (ht1 : 1 ≤ t1 ∧ t1 < s.toks)
   (hret : ∀ d (gg gb gd : PStr) (t t2 t' : Tok) h' tk, gg = (Txt.replace (PySem.Str.ofString "229 " ++ le ++ PySem.Str.ofString " " ++ PySem.Str.ofString "(   # )") (PySem.Str.ofString "#") po) → gb = (Txt.replace (PySem.Str.ofString "229 " ++ le ++ PySem.Str.ofString " " ++ PySem.Str.ofString "(   # )") (PySem.Str.ofString "#") (po ++ le)) → gd = PySem.Str.ofString "value invalid literal for int() with base 10: '" ++ po ++ le ++ PySem.Str.ofString "'" → Fr h₀ L h' m → News h₀ L h' ((d, lstOf [.str gb t, .str gd t2, .str gg t'] 0) :: news) → (∀ p ∈ news, p.1 < d) → Q (.ref d) { s with heap := h', toks := tk }) :
   wpAny (model PySem.Challenge.rw_pm0034_03.row.prog w) (ktrTop dp un gd cn cs L a ccd cl outer) (call (.ref 122) [.int 7 t0, .str po t1, .str le tl]) Q E s := by
  walk_at "M fill"
  have l0 : (PySem.Str.ofString "229 ").length = 4 := by decide +kernel
  have l1 : (PySem.Str.ofString " ").length = 1 := by decide +kernel
  have l2 : (PySem.Str.ofString "(|||#|)").length = 7 := by decide +kernel
  have l3 : (PySem.Str.ofString "(!1!h!#!)").length = 9 := by decide +kernel
  have l4 : (PySem.Str.ofString "(:::0#:)").length = 8 := by decide +kernel
  have l5 : (PySem.Str.ofString "(   # )").length = 7 := by decide +kernel
  have l6 : (PySem.Str.ofString "#").length = 1 := by decide +kernel
  have l7 : (PySem.Str.ofString "227").length = 3 := by decide +kernel
  have l8 : (PySem.Str.ofString "x").length = 1 := by decide +kernel
  have l9 : (PySem.Str.ofString "x)").length = 2 := by decide +kernel
  have l10 : (PySem.Str.ofString "2").length = 1 := by decide +kernel
  have l11 : (PySem.Str.ofString "2)").length = 2 := by decide +kernel
  have l12 : (PySem.Str.ofString "value invalid literal for int() with base 10: '").length = 47 := by decide +kernel
  have l13 : (PySem.Str.ofString "'").length = 1 := by decide +kernel
  have l14 : (PySem.Str.ofString "reply ").length = 6 := by decide +kernel
  have l15 : (PySem.Str.ofString "proto ").length = 6 := by decide +kernel
  walk_at "M enter"
  k_steps
  (with_reducible rename News _ _ _ (_ :: _ :: _ :: news) => kN)
  (with_reducible rename (_ ∧ _ ∧ AllLt _ news) => hlt)
  have kN2 := news_d3 kN
  have hz := ktn_ltOf hlt.2.2
  clear kN hlt
  (show Q (Value.ref _) _)
  refine' hret _ _ _ _ _ _ _ _ _ ?_ ?_ ?_ (by assumption) kN2 hz
  all_goals (repeat' (first | with_reducible rfl | with_reducible refine txt_add (by assumption) ?_ ?_ | with_reducible refine txt_slice (by assumption) ?_ | with_reducible refine txt_sl ?_ | with_reducible refine txt_rep (by assumption) ?_ ?_ ?_))
end
section
variable {w : World} {p : Program} {loose : List PStr} {mean : ExcName → Option Value} {mg mb : PStr → Option Value}
    {dp un : Nat} {gd : Option (List Code)} {cn : PStr} {cs : Scope} {a : Addr} {ccd : Value} {cl : List (PStr × Addr)} {outer : List Env} {A₀ : Around} {base h₀ : Heap} {L : Addr} {m : PStr → Option Value}
    {s : Shared} {Q E : Value → Shared → Prop} {news : Ldg}
    (B : Below A₀ base outer h₀) (X : (KK.heap_1 w.params).In h₀) (T : Top p loose mean mg mb h₀) (XB : (KK.heap_1 w.params).In base) (TB : Top p loose mean mg mb base) (D : KtsDicts (outer.filterMap (·.frame)) h₀) (hck : cs.kind = .function)
include B X T XB TB D hck

theorem lreply3_8 {po le : PStr} {t0 tl : Tok} {t1 : Nat} (hd5 : dp + 5 < recursionLimit) (hu5 : un + 50 < cLine) (F : Fr h₀ L s.heap m) (N : News h₀ L s.heap news)
   (hpo : 1 ≤ po.length ∧ po.length ≤ 8) (hle : le.length = 1) (hne : (PySem.Str.ofString "#" == po) = false) (ht1 : 1 ≤ t1 ∧ t1 < s.toks)
   (hret : ∀ d (gg gb gd : PStr) (t t2 t' : Tok) h' tk, gg = (Txt.replace (PySem.Str.ofString "229 " ++ le ++ PySem.Str.ofString " " ++ PySem.Str.ofString "(|||#|)") (PySem.Str.ofString "#") po) → gb = (Txt.slice (PySem.Str.ofString "229 " ++ le ++ PySem.Str.ofString " " ++ PySem.Str.ofString "(|||#|)") none (some 6) ++ PySem.Str.ofString "2" ++ po ++ PySem.Str.ofString "2)") → gd = PySem.Str.ofString "proto " ++ (Txt.slice (PySem.Str.ofString "229 " ++ le ++ PySem.Str.ofString " " ++ PySem.Str.ofString "(|||#|)") none (some 6) ++ PySem.Str.ofString "2" ++ po ++ PySem.Str.ofString "2)") → Fr h₀ L h' m → News h₀ L h' ((d, lstOf [.str gb t, .str gd t2, .str gg t'] 0) :: news) → (∀ p ∈ news, p.1 < d) → Q (.ref d) { s with heap := h', toks := tk }) :
   wpAny (model PySem.Challenge.rw_pm0034_03.row.prog w) (ktrTop dp un gd cn cs L a ccd cl outer) (call (.ref 122) [.int 8 t0, .str po t1, .str le tl]) Q E s := by
  walk_at "M fill"
  have l0 : (PySem.Str.ofString "229 ").length = 4 := by decide +kernel
  have l1 : (PySem.Str.ofString " ").length = 1 := by decide +kernel
  have l2 : (PySem.Str.ofString "(|||#|)").length = 7 := by decide +kernel
  have l3 : (PySem.Str.ofString "(!1!h!#!)").length = 9 := by decide +kernel
  have l4 : (PySem.Str.ofString "(:::0#:)").length = 8 := by decide +kernel
  have l5 : (PySem.Str.ofString "(   # )").length = 7 := by decide +kernel
  have l6 : (PySem.Str.ofString "#").length = 1 := by decide +kernel
  have l7 : (PySem.Str.ofString "227").length = 3 := by decide +kernel
  have l8 : (PySem.Str.ofString "x").length = 1 := by decide +kernel
  have l9 : (PySem.Str.ofString "x)").length = 2 := by decide +kernel
  have l10 : (PySem.Str.ofString "2").length = 1 := by decide +kernel
  have l11 : (PySem.Str.ofString "2)").length = 2 := by decide +kernel
  have l12 : (PySem.Str.ofString "value invalid literal for int() with base 10: '").length = 47 := by decide +kernel
  have l13 : (PySem.Str.ofString "'").length = 1 := by decide +kernel
  have l14 : (PySem.Str.ofString "reply ").length = 6 := by decide +kernel
  have l15 : (PySem.Str.ofString "proto ").length = 6 := by decide +kernel
  walk_at "M enter"
  k_steps
  (with_reducible rename News _ _ _ (_ :: _ :: _ :: news) => kN)
  (with_reducible rename (_ ∧ _ ∧ AllLt _ news) => hlt)
  have kN2 := news_d3 kN
  have hz := ktn_ltOf hlt.2.2
  clear kN hlt
  (show Q (Value.ref _) _)
  refine' hret _ _ _ _ _ _ _ _ _ ?_ ?_ ?_ (by assumption) kN2 hz
  all_goals (repeat' (first | with_reducible rfl | with_reducible refine txt_add (by assumption) ?_ ?_ | with_reducible refine txt_slice (by assumption) ?_ | with_reducible refine txt_sl ?_ | with_reducible refine txt_rep (by assumption) ?_ ?_ ?_))
end
section
variable {w : World} {p : Program} {loose : List PStr} {mean : ExcName → Option Value} {mg mb : PStr → Option Value}
    {dp un : Nat} {gd : Option (List Code)} {cn : PStr} {cs : Scope} {a : Addr} {ccd : Value} {cl : List (PStr × Addr)} {outer : List Env} {A₀ : Around} {base h₀ : Heap} {L : Addr} {m : PStr → Option Value}
    {s : Shared} {Q E : Value → Shared → Prop} {news : Ldg}
    (B : Below A₀ base outer h₀) (X : (KK.heap_1 w.params).In h₀) (T : Top p loose mean mg mb h₀) (XB : (KK.heap_1 w.params).In base) (TB : Top p loose mean mg mb base) (D : KtsDicts (outer.filterMap (·.frame)) h₀) (hck : cs.kind = .function)
include B X T XB TB D hck

theorem lreply3_9 {po le : PStr} {t0 tl : Tok} {t1 : Nat} (hd5 : dp + 5 < recursionLimit) (hu5 : un + 50 < cLine) (F : Fr h₀ L s.heap m) (N : News h₀ L s.heap news)
   (hpo : 1 ≤ po.length ∧ po.length ≤ 8) (hle : le.length = 1) (hne : (PySem.Str.ofString "#" == po) = false) (ht1 : 1 ≤ t1 ∧ t1 < s.toks)
   (hret : ∀ d (gg gb gd : PStr) (t t2 t' : Tok) h' tk, gg = (Txt.replace (PySem.Str.ofString "229 " ++ le ++ PySem.Str.ofString " " ++ PySem.Str.ofString "(!1!h!#!)") (PySem.Str.ofString "#") po) → gb = (Txt.slice (Txt.replace (PySem.Str.ofString "229 " ++ le ++ PySem.Str.ofString " " ++ PySem.Str.ofString "(!1!h!#!)") (PySem.Str.ofString "#") po) none (some 8) ++ Txt.slice (Txt.replace (PySem.Str.ofString "229 " ++ le ++ PySem.Str.ofString " " ++ PySem.Str.ofString "(!1!h!#!)") (PySem.Str.ofString "#") po) (some 7) none) → gd = PySem.Str.ofString "proto " ++ (Txt.slice (Txt.replace (PySem.Str.ofString "229 " ++ le ++ PySem.Str.ofString " " ++ PySem.Str.ofString "(!1!h!#!)") (PySem.Str.ofString "#") po) none (some 8) ++ Txt.slice (Txt.replace (PySem.Str.ofString "229 " ++ le ++ PySem.Str.ofString " " ++ PySem.Str.ofString "(!1!h!#!)") (PySem.Str.ofString "#") po) (some 7) none) → Fr h₀ L h' m → News h₀ L h' ((d, lstOf [.str gb t, .str gd t2, .str gg t'] 0) :: news) → (∀ p ∈ news, p.1 < d) → Q (.ref d) { s with heap := h', toks := tk }) :
   wpAny (model PySem.Challenge.rw_pm0034_03.row.prog w) (ktrTop dp un gd cn cs L a ccd cl outer) (call (.ref 122) [.int 9 t0, .str po t1, .str le tl]) Q E s := by
  walk_at "M fill"
  have l0 : (PySem.Str.ofString "229 ").length = 4 := by decide +kernel
  have l1 : (PySem.Str.ofString " ").length = 1 := by decide +kernel
  have l2 : (PySem.Str.ofString "(|||#|)").length = 7 := by decide +kernel
  have l3 : (PySem.Str.ofString "(!1!h!#!)").length = 9 := by decide +kernel
  have l4 : (PySem.Str.ofString "(:::0#:)").length = 8 := by decide +kernel
  have l5 : (PySem.Str.ofString "(   # )").length = 7 := by decide +kernel
  have l6 : (PySem.Str.ofString "#").length = 1 := by decide +kernel
  have l7 : (PySem.Str.ofString "227").length = 3 := by decide +kernel
  have l8 : (PySem.Str.ofString "x").length = 1 := by decide +kernel
  have l9 : (PySem.Str.ofString "x)").length = 2 := by decide +kernel
  have l10 : (PySem.Str.ofString "2").length = 1 := by decide +kernel
  have l11 : (PySem.Str.ofString "2)").length = 2 := by decide +kernel
  have l12 : (PySem.Str.ofString "value invalid literal for int() with base 10: '").length = 47 := by decide +kernel
  have l13 : (PySem.Str.ofString "'").length = 1 := by decide +kernel
  have l14 : (PySem.Str.ofString "reply ").length = 6 := by decide +kernel
  have l15 : (PySem.Str.ofString "proto ").length = 6 := by decide +kernel
  walk_at "M enter"
  k_steps
  (with_reducible rename News _ _ _ (_ :: _ :: _ :: news) => kN)
  (with_reducible rename (_ ∧ _ ∧ AllLt _ news) => hlt)
  have kN2 := news_d3 kN
  have hz := ktn_ltOf hlt.2.2
  clear kN hlt
  (show Q (Value.ref _) _)
  refine' hret _ _ _ _ _ _ _ _ _ ?_ ?_ ?_ (by assumption) kN2 hz
  all_goals (repeat' (first | with_reducible rfl | with_reducible refine txt_add (by assumption) ?_ ?_ | with_reducible refine txt_slice (by assumption) ?_ | with_reducible refine txt_sl ?_ | with_reducible refine txt_rep (by assumption) ?_ ?_ ?_))
end
end Mine
end
section
open PySem PySem.W PyProof.Rows PySem.Spec PySem.Calls
set_option Elab.async false
set_option maxRecDepth 100000
set_option maxHeartbeats 8000000
set_option linter.all false
namespace Mine
local macro_rules | `(tactic| walk_at $s:str) => `(tactic| k_extra $s)
local macro_rules | `(tactic| omega) => `(tactic| first
  | with_reducible assumption
  | (refine' room1 ?rmh ?rme; (case rmh => with_reducible assumption); (case rme => with_unfolding_all rfl))
  | (refine' room0 ?rmh ?rme; (case rmh => with_reducible assumption); (case rme => with_unfolding_all rfl))
  | (refine' room2 ?rmh ?rme; (case rmh => with_reducible assumption); (case rme => with_unfolding_all rfl))
  | (refine' room00 ?rmh; (case rmh => with_reducible assumption))
  | (refine num_le ?rme; (case rme => with_unfolding_all rfl))
  | (refine num_lt ?rme; (case rme => with_unfolding_all rfl))
  | (refine' le_num ?rmh ?rme; (case rmh => with_reducible assumption); (case rme => with_unfolding_all rfl))
  | (refine' eq_num ?rmh ?rme; (case rmh => with_reducible assumption); (case rme => with_unfolding_all rfl))
  | omega (config := {}))
theorem lines_J3_0 : True := by
  k_with_none
  k_with "execs cons" => ((refine f_execs ?_; intro qk))
  k_with "eval BinOp" => ((refine f_BinOp ?_; intro qk))
  k_with "exec Assign" => ((refine f_Assign ?_; intro qk))
  k_with "eval Subscript" => ((refine f_Subscript ?_; intro qk))
  k_with "isTrue Compare" => ((refine f_Compare ?_; intro qk))
  k_with "exec If" => ((refine f_If ?_; intro qk))
  k_with "eval Call" => (((fail_if_success (with_reducible show wpAny _ _ (eval (Expr.Call (Expr.Attribute _ _ _) _ _ _) _) _ _ _)); refine f_Call ?_; intro qk))
  k_with "spliced" => ((refine f_args ?_; intro qk))
  k_with "callWith" => ((refine f_method1 ?_; intro qk))
  k_with "exec Return some" => ((refine f_Return ?_; intro qk))
  k_with "eval Tuple" => ((refine f_Tuple ?_; intro qk))
  k_with "eval List" => ((refine f_List ?_; intro qk))
  k_with "eval IfExp" => ((refine f_IfExp ?_; intro qk))
  k_with "storeName" => ((k_here; k_dflt (refine' f_store ?F ?N ?_ ?a ?b; (case F => k_asm); (case N => k_asm); (case a => rfl); (case b => rfl); k_whole; intro m' h' F' N'; (try k_sweep))))
  k_with "M map1" => (first
    | (refine map_same ?_; with_unfolding_all rfl)
    | ((repeat' (refine List.forall_mem_cons.mpr (And.intro ?_ ?_))); (all_goals first | rfl | exact List.forall_mem_nil _)))
  k_with "M map2" => (first
    | (refine SameOut.both (b := fun _ => none) ?_ ?_ <;> (repeat (refine SameOut.upd ?_ (by with_unfolding_all rfl))) <;> exact SameOut.lookup rfl)
    | (refine' SameOut.both (b := ?kb) ?k1 ?k2; (case k1 => ((repeat (refine SameOut.upd ?_ (by with_unfolding_all rfl))); exact SameOut.refl)); (case k2 => ((repeat (refine SameOut.upd ?_ (by with_unfolding_all rfl))); exact SameOut.refl)))
    | (refine' SameOut.both (b := ?kb) ?k1 ?k2; (case k2 => ((repeat (refine SameOut.upd ?_ (by with_unfolding_all rfl))); exact SameOut.refl)); (case k1 => ((repeat (refine SameOut.skip ?_)); (repeat (refine SameOut.upd ?_ (by with_unfolding_all rfl))); exact SameOut.refl)))
    | (intro y hy; (repeat (refine (if_neg (ne_of_out hy (by with_unfolding_all rfl))).trans ?_)); (refine Eq.symm ?_); (repeat (refine (if_neg (ne_of_out hy (by with_unfolding_all rfl))).trans ?_)); first | rfl | exact lookup_out rfl hy | exact (lookup_out rfl hy).symm | exact (lookup_out rfl hy).trans (lookup_out rfl hy).symm))
  k_with "M fill" => ((
    have kk : PySem.Challenge.rw_pm0034_03 = PySem.Challenge.rw_pm0034_03 ∧ KK.heap_1 = KK.heap_1 := ⟨rfl, rfl⟩
    revert kk
    k_fill
    intro kk
    clear kk))
  k_with "M enter" => ((
    refine wpAny_call ?_
    k_dflt (refine' code_def ?k1 ?k2 ?k3 ?k4 ?k5 ?kA ?kF ?kK ?k6 ?k7 ?k8 ?k9 ?kB ?_ ?c2 ?c3 ?c4 ?c5; (case kA => exact rfl); (case kF => exact rfl); (case kK => assumption); (case k1 => k_asm); (case k2 => k_asm); (case k3 => k_asm); (case k4 => k_asm); (case k5 => k_asm); (case k6 => k_is); (case k7 => k_is); (case k8 => ((try dsimp only); omega)); (case k9 => first | exact BindsTo.of_eq rfl | (refine' kp_binds ?kx ?ke; (case kx => first | (refine' myIn ?kf ?ki; (case kf => with_reducible assumption); (case ki => with_reducible assumption)) | k_in); (case ke => exact fun _ => rfl)) | exact binds_K (by first | (refine' myIn ?kf ?ki; (case kf => with_reducible assumption); (case ki => with_reducible assumption)) | k_in) rfl (by k_is) rfl rfl rfl); (case c5 => decide); (case kB => exact locs rfl); (case c2 => exact rfl); (case c3 => exact rfl); (case c4 => exact rfl); k_whole; intro g' L' h' FG' F' N' B' X' T'; (have D' := kts_dict B' (by assumption) FG' rfl); (try dsimp only); (try k_lift B'); (refine let_AE (f := execs _) ?_; intro vk ak); (refine f_QE ?_; intro qk ek))))
  k_with "M enter0" => ((
    refine wpAny_call ?_
    k_dflt (refine' code_defS0X ?k1 ?k2 ?k3 ?k4 ?k5 ?kA ?kF ?kK ?k6 ?k7 ?k8 ?k9 ?kB ?_ ?c2 ?c3 ?c4 ?c5; (case kA => exact rfl); (case kF => exact rfl); (case kK => assumption); (case k1 => k_asm); (case k2 => k_asm); (case k3 => k_asm); (case k4 => k_asm); (case k5 => k_asm); (case k6 => k_is); (case k7 => k_is); (case k8 => ((try dsimp only); omega)); (case k9 => first | exact BindsTo.of_eq rfl | (refine' kp_binds ?kx ?ke; (case kx => first | (refine' myIn ?kf ?ki; (case kf => with_reducible assumption); (case ki => with_reducible assumption)) | k_in); (case ke => exact fun _ => rfl)) | exact binds_K (by first | (refine' myIn ?kf ?ki; (case kf => with_reducible assumption); (case ki => with_reducible assumption)) | k_in) rfl (by k_is) rfl rfl rfl); (case c5 => decide); (case kB => exact locs rfl); (case c2 => exact rfl); (case c3 => exact rfl); (case c4 => exact rfl); k_whole; intro g' L' h' FG' F' N' B' X' T' D'; (try dsimp only); (try k_lift B'); (refine let_AE (f := execs _) ?_; intro vk ak); (refine f_QE ?_; intro qk ek))))
  trivial
local macro_rules | `(tactic| k_mem) => `(tactic| first | with_reducible assumption | (refine mem_in ?_; with_reducible assumption))
theorem lines_J3_1 : True := by
  k_with "subscriptTail Name Constant ref int" => ((k_here; refine item_tupleT (News.isTup (by assumption) (by k_mem)) (by decide) (by decide) (by rfl) (by rfl) ?_))
  k_with "subscriptTail Name Constant ref int" => ((k_here; (with_reducible rename StrsAre _ _ => hSA); refine item_strsA (News.isList (by assumption) (by k_mem)) hSA (by decide) (by first | omega | (simp only [List.length_map]; omega)) (by decide) ?_; intro t'))
  k_with "call type:ValueError" => ((refine call_ValueError_made ?_; intro _ _ _))
  k_with "exec While Compare Name cons nil" => (refine Hold.mk ?_)
  k_with "exec While Compare" => (refine Hold.mk ?_)
  k_with "exec While Compare cons nil" => (refine Hold.mk ?_)
  k_with "exec While" => (refine Hold.mk ?_)
  k_with "binaryOp FloorDiv int int" => ((k_here; (with_reducible refine floordiv_pos ?kb1 ?kb2 ?_); (case kb1 => decide); (case kb2 => decide +kernel)))
  k_with "WhlIf" => ((refine whlIf_dec ?_ ?_ <;> intro _))
  k_with "subscriptTail Name Name ref int" => ((k_here; first
    | ((with_reducible rename StrsAre _ _ => hSA); refine item_strsA (News.isList (by assumption) (by k_mem)) hSA (by omega) (by omega) (by omega) ?_; intro t')
    | ((with_reducible rename IntsAre _ _ => hSA); refine item_intsA (News.isList (by assumption) (by k_mem)) hSA (by omega) (by omega) (by omega) ?_; intro t')))
  k_with "call builtin:len" => ((k_here; (with_reducible show wpAny _ _ (call (Value.builtin "len") [Value.ref _]) _ _ _); first
    | ((with_reducible rename StrsAre _ _ => hSA); refine len_strsA (News.isList (by assumption) (by k_mem)) hSA (by omega) ?_)
    | ((with_reducible rename IntsAre _ _ => hSA); refine len_intsA (News.isList (by assumption) (by k_mem)) hSA (by omega) ?_)))
  k_with "M enterC" => ((
    refine wpC_call ?_
    k_dflt (refine' code_def_C ?k1 ?k2 ?k3 ?k4 ?k5 ?kA ?kF ?kK ?k6 ?k7 ?k8 ?k9 ?kB ?_ ?c2 ?c3 ?c4 ?c5; (case kA => exact rfl); (case kF => exact rfl); (case kK => assumption); (case k1 => k_asm); (case k2 => k_asm); (case k3 => k_asm); (case k4 => k_asm); (case k5 => k_asm); (case k6 => k_is); (case k7 => k_is); (case k8 => ((try dsimp only); omega)); (case k9 => first | exact BindsTo.of_eq rfl | (refine' kp_binds ?kx ?ke; (case kx => first | (refine' myIn ?kf ?ki; (case kf => with_reducible assumption); (case ki => with_reducible assumption)) | k_in); (case ke => exact fun _ => rfl)) | exact binds_K (by first | (refine' myIn ?kf ?ki; (case kf => with_reducible assumption); (case ki => with_reducible assumption)) | k_in) rfl (by k_is) rfl rfl rfl); (case c5 => decide); (case kB => exact locs rfl); (case c2 => exact rfl); (case c3 => exact rfl); (case c4 => exact rfl); k_whole; intro g' L' h' FG' F' N' B' X' T'; (have D' := kts_dict B' (by assumption) FG' rfl); (try dsimp only); (try k_lift B'))))
  k_with "M enter0C" => ((
    refine wpC_call ?_
    k_dflt (refine' code_defS0_C ?k1 ?k2 ?k3 ?k4 ?k5 ?kA ?kF ?kK ?k6 ?k7 ?k8 ?k9 ?kB ?_ ?c2 ?c3 ?c4 ?c5; (case kA => exact rfl); (case kF => exact rfl); (case kK => assumption); (case k1 => k_asm); (case k2 => k_asm); (case k3 => k_asm); (case k4 => k_asm); (case k5 => k_asm); (case k6 => k_is); (case k7 => k_is); (case k8 => ((try dsimp only); omega)); (case k9 => first | exact BindsTo.of_eq rfl | (refine' kp_binds ?kx ?ke; (case kx => first | (refine' myIn ?kf ?ki; (case kf => with_reducible assumption); (case ki => with_reducible assumption)) | k_in); (case ke => exact fun _ => rfl)) | exact binds_K (by first | (refine' myIn ?kf ?ki; (case kf => with_reducible assumption); (case ki => with_reducible assumption)) | k_in) rfl (by k_is) rfl rfl rfl); (case c5 => decide); (case kB => exact locs rfl); (case c2 => exact rfl); (case c3 => exact rfl); (case c4 => exact rfl); k_whole; intro g' L' h' FG' F' N' B' X' T' D'; (try dsimp only); (try k_lift B'))))
  trivial
section
variable {w : World} {p : Program} {loose : List PStr} {mean : ExcName → Option Value} {mg mb : PStr → Option Value}
    {dp un : Nat} {gd : Option (List Code)} {cn : PStr} {cs : Scope} {a : Addr} {ccd : Value} {cl : List (PStr × Addr)} {outer : List Env} {A₀ : Around} {base h₀ : Heap} {L : Addr} {m : PStr → Option Value}
    {s : Shared} {Q E : Value → Shared → Prop} {news : Ldg}
    (B : Below A₀ base outer h₀) (X : (KK.heap_1 w.params).In h₀) (T : Top p loose mean mg mb h₀) (XB : (KK.heap_1 w.params).In base) (TB : Top p loose mean mg mb base) (D : KtsDicts (outer.filterMap (·.frame)) h₀) (hck : cs.kind = .function)
include B X T XB TB D hck

theorem parse229_val {r hs msg : PStr} {t1 t2 t3 : Tok} {i : Int} {pa : Addr} (hd5 : dp + 5 < recursionLimit) (hu5 : un + 50 < cLine) (F : Fr h₀ L s.heap m) (N : News h₀ L s.heap news)
   (h640' : r.length ≤ 640) (hpa : (pa, tupOf [.str hs t2, .int i t3]) ∈ news) (hval : p229 r = .error (.value, msg)) (hrep : RepOk r)
   (hexc : ∀ g₂ e t t1 h' tk, Fr h₀ L g₂ m → RaisedS base g₂ (envX cn cs L a ccd cl :: outer) e (clsOf .value) t [.str msg t1] news h' → RaisedK base (envX cn cs L a ccd cl :: outer) e (clsOf .value) t [.str msg t1] news h' → g₂.UpToSlots h' → E (.ref e) { s with heap := h', toks := tk }) :
   wpC (model PySem.Challenge.rw_pm0034_03.row.prog w) (ktrTop dp un gd cn cs L a ccd cl outer) (call (.ref 94) [.str r t1, .ref pa]) Q E s := by
  walk_at "M fill"
  have hr : r.length ≤ 200000 := Nat.le_trans h640' (by decide)
  have h640 := Nat.le_trans (p229in_len r) h640'
  have f1 := fact_open r
  have f2 := fact_close r (Txt.find r (PySem.Str.ofString "(") + 1) (by omega)
  walk_at "M enterC"
  refine execs_pre (pre := [_, _, _, _, _, _, _, _, _]) (rest := [_, _]) ?_
  k_fold
  k_steps
  · (show E _ _); exact (val_not hval (p229_code (by assumption)) (by decide)).elim
  · (show E _ _); exact (val_not hval (p229_open (by assumption) (by assumption)) (by decide)).elim
  · (show E _ _); exact (val_not hval (p229_close (by assumption) (by assumption) (by assumption)) (by decide)).elim
  · (show E _ _); exact (val_not hval (p229_sep (by assumption) (by assumption) (by assumption) (by assumption)) (by decide)).elim
  · (show E _ _); exact (val_not hval (p229_five (by assumption) (by assumption) (by assumption) (by assumption) (by assumption) (by assumption)) (by decide)).elim
  have hlast := p229_last (by assumption : (Txt.slice r none (some 3) != PySem.Str.ofString "229") = false) (by assumption) (by assumption) (by assumption) (by assumption) (by assumption)
  obtain ⟨hno, rfl⟩ := p229_val hval hlast
  have hrp := hrep.part (by assumption)
  refine execs_C ?_
  refine assign_raises_C ?_
  refine call_name_C ?_
  k_fold
  k_steps
  refine callWith_type1_C ?_
  k_fold
  k_steps
  refine call_int_refused (Nat.le_trans (getD_len (by assumption)) h640) hrp hno rfl fun hh tkh tkh' eh hm => ?_
  k_steps
  (show E _ _)
  exact hexc _ _ _ _ _ _ (by assumption) (raisedS_sub (by assumption) sub_tail) (raisedK_sub (by assumption) sub_tail) (by assumption)
end
section
variable {w : World} {p : Program} {loose : List PStr} {mean : ExcName → Option Value} {mg mb : PStr → Option Value}
    {dp un : Nat} {gd : Option (List Code)} {cn : PStr} {cs : Scope} {a : Addr} {ccd : Value} {cl : List (PStr × Addr)} {outer : List Env} {A₀ : Around} {base h₀ : Heap} {L : Addr} {m : PStr → Option Value}
    {s : Shared} {Q E : Value → Shared → Prop} {news : Ldg}
    (B : Below A₀ base outer h₀) (X : (KK.heap_1 w.params).In h₀) (T : Top p loose mean mg mb h₀) (XB : (KK.heap_1 w.params).In base) (TB : Top p loose mean mg mb base) (D : KtsDicts (outer.filterMap (·.frame)) h₀) (hck : cs.kind = .function)
include B X T XB TB D hck

theorem port_val {r msg : PStr} {t1 : Tok} (hd5 : dp + 10 < recursionLimit) (hu5 : un + 60 < cLine) (F : Fr h₀ L s.heap m) (N : News h₀ L s.heap news)
   (h640 : r.length ≤ 640) (hval : p229 r = .error (.value, msg)) (hrep : RepOk r)
   (hexc : ∀ g₂ e t t1 h' tk, Fr h₀ L g₂ m → RaisedS base g₂ (envX cn cs L a ccd cl :: outer) e (clsOf .value) t [.str msg t1] news h' → RaisedK base (envX cn cs L a ccd cl :: outer) e (clsOf .value) t [.str msg t1] news h' → g₂.UpToSlots h' → E (.ref e) { s with heap := h', toks := tk }) :
   wpC (model PySem.Challenge.rw_pm0034_03.row.prog w) (ktrTop dp un gd cn cs L a ccd cl outer) (call (.ref 108) [.str r t1]) Q E s := by
  walk_at "M fill"
  walk_at "M enterC"
  refine execs_C ?_
  refine return_C ?_
  refine subscript_raises_C ?_
  refine call_name_C ?_
  k_fold
  k_steps
  refine callWith_K_C (by k_asm) (by k_is) ?_
  k_fold
  k_steps
  refine' parse229_val ?kB ?kX ?kT ?kXB ?kTB ?kD ?kh ?kd ?ku ?kF ?kN ?k6 ?kp ?kv ?krp ?_
  case kB => assumption
  case kX => assumption
  case kT => assumption
  case kXB => assumption
  case kTB => assumption
  case kD => assumption
  case kh => rfl
  case kd => ((try dsimp only); omega)
  case ku => ((try dsimp only); omega)
  case kF => with_reducible assumption
  case kN => with_reducible assumption
  case k6 => assumption
  case kp => exact .head _
  case kv => exact hval
  case krp => exact hrep
  intro g₂ e t t1 h' tk FF SS RR UU
  k_steps
  (show E _ _)
  exact hexc _ _ _ _ _ _ (by assumption) (raisedS_sub (by assumption) sub_tail) (raisedK_sub (by assumption) sub_tail) (by assumption)
end
end Mine
end
section
open PySem PySem.W PyProof.Rows PySem.Spec PySem.Calls
set_option Elab.async false
set_option maxRecDepth 100000
set_option maxHeartbeats 8000000
set_option linter.all false
namespace Mine
local macro_rules | `(tactic| walk_at "M nothing") => `(tactic| skip)
local macro_rules | `(tactic| walk_at $s:str) => `(tactic| k_extra $s)
local macro_rules | `(tactic| omega) => `(tactic| first
  | with_reducible assumption
  | (refine' room1 ?rmh ?rme; (case rmh => with_reducible assumption); (case rme => with_unfolding_all rfl))
  | (refine' room0 ?rmh ?rme; (case rmh => with_reducible assumption); (case rme => with_unfolding_all rfl))
  | (refine' room2 ?rmh ?rme; (case rmh => with_reducible assumption); (case rme => with_unfolding_all rfl))
  | (refine' room00 ?rmh; (case rmh => with_reducible assumption))
  | (refine num_le ?rme; (case rme => with_unfolding_all rfl))
  | (refine num_lt ?rme; (case rme => with_unfolding_all rfl))
  | (refine' le_num ?rmh ?rme; (case rmh => with_reducible assumption); (case rme => with_unfolding_all rfl))
  | (refine' eq_num ?rmh ?rme; (case rmh => with_reducible assumption); (case rme => with_unfolding_all rfl))
  | omega (config := {}))
theorem lines_K3_0 : True := by
  k_with_none
  k_with "execs cons" => ((refine f_execs ?_; intro qk))
  k_with "eval BinOp" => ((refine f_BinOp ?_; intro qk))
  k_with "exec Assign" => ((refine f_Assign ?_; intro qk))
  k_with "eval Subscript" => ((refine f_Subscript ?_; intro qk))
  k_with "isTrue Compare" => ((refine f_Compare ?_; intro qk))
  k_with "exec If" => ((refine f_If ?_; intro qk))
  k_with "eval Call" => (((fail_if_success (with_reducible show wpAny _ _ (eval (Expr.Call (Expr.Attribute _ _ _) _ _ _) _) _ _ _)); refine f_Call ?_; intro qk))
  k_with "spliced" => ((refine f_args ?_; intro qk))
  k_with "callWith" => ((refine f_method1 ?_; intro qk))
  k_with "exec Return some" => ((refine f_Return ?_; intro qk))
  k_with "eval Tuple" => ((refine f_Tuple ?_; intro qk))
  k_with "eval List" => ((refine f_List ?_; intro qk))
  k_with "eval IfExp" => ((refine f_IfExp ?_; intro qk))
  k_with "storeName" => ((k_here; k_dflt (refine' f_store ?F ?N ?_ ?a ?b; (case F => k_asm); (case N => k_asm); (case a => rfl); (case b => rfl); k_whole; intro m' h' F' N'; (try k_sweep))))
  k_with "M map1" => (first
    | (refine map_same ?_; with_unfolding_all rfl)
    | ((repeat' (refine List.forall_mem_cons.mpr (And.intro ?_ ?_))); (all_goals first | rfl | exact List.forall_mem_nil _)))
  k_with "M map2" => (first
    | (refine SameOut.both (b := fun _ => none) ?_ ?_ <;> (repeat (refine SameOut.upd ?_ (by with_unfolding_all rfl))) <;> exact SameOut.lookup rfl)
    | (refine' SameOut.both (b := ?kb) ?k1 ?k2; (case k1 => ((repeat (refine SameOut.upd ?_ (by with_unfolding_all rfl))); exact SameOut.refl)); (case k2 => ((repeat (refine SameOut.upd ?_ (by with_unfolding_all rfl))); exact SameOut.refl)))
    | (refine' SameOut.both (b := ?kb) ?k1 ?k2; (case k2 => ((repeat (refine SameOut.upd ?_ (by with_unfolding_all rfl))); exact SameOut.refl)); (case k1 => ((repeat (refine SameOut.skip ?_)); (repeat (refine SameOut.upd ?_ (by with_unfolding_all rfl))); exact SameOut.refl)))
    | (intro y hy; (repeat (refine (if_neg (ne_of_out hy (by with_unfolding_all rfl))).trans ?_)); (refine Eq.symm ?_); (repeat (refine (if_neg (ne_of_out hy (by with_unfolding_all rfl))).trans ?_)); first | rfl | exact lookup_out rfl hy | exact (lookup_out rfl hy).symm | exact (lookup_out rfl hy).trans (lookup_out rfl hy).symm))
  k_with "M fill" => ((
    have kk : PySem.Challenge.rw_pm0034_03 = PySem.Challenge.rw_pm0034_03 ∧ KK.heap_1 = KK.heap_1 := ⟨rfl, rfl⟩
    revert kk
    k_fill
    intro kk
    clear kk))
  k_with "M enter" => ((
    refine wpAny_call ?_
    k_dflt (refine' code_def ?k1 ?k2 ?k3 ?k4 ?k5 ?kA ?kF ?kK ?k6 ?k7 ?k8 ?k9 ?kB ?_ ?c2 ?c3 ?c4 ?c5; (case kA => exact rfl); (case kF => exact rfl); (case kK => assumption); (case k1 => k_asm); (case k2 => k_asm); (case k3 => k_asm); (case k4 => k_asm); (case k5 => k_asm); (case k6 => k_is); (case k7 => k_is); (case k8 => ((try dsimp only); omega)); (case k9 => first | exact BindsTo.of_eq rfl | (refine' kp_binds ?kx ?ke; (case kx => first | (refine' myIn ?kf ?ki; (case kf => with_reducible assumption); (case ki => with_reducible assumption)) | k_in); (case ke => exact fun _ => rfl)) | exact binds_K (by first | (refine' myIn ?kf ?ki; (case kf => with_reducible assumption); (case ki => with_reducible assumption)) | k_in) rfl (by k_is) rfl rfl rfl); (case c5 => decide); (case kB => exact locs rfl); (case c2 => exact rfl); (case c3 => exact rfl); (case c4 => exact rfl); k_whole; intro g' L' h' FG' F' N' B' X' T'; (have D' := kts_dict B' (by assumption) FG' rfl); (try dsimp only); (try k_lift B'); (refine let_AE (f := execs _) ?_; intro vk ak); (refine f_QE ?_; intro qk ek))))
  k_with "M enter0" => ((
    refine wpAny_call ?_
    k_dflt (refine' code_defS0X ?k1 ?k2 ?k3 ?k4 ?k5 ?kA ?kF ?kK ?k6 ?k7 ?k8 ?k9 ?kB ?_ ?c2 ?c3 ?c4 ?c5; (case kA => exact rfl); (case kF => exact rfl); (case kK => assumption); (case k1 => k_asm); (case k2 => k_asm); (case k3 => k_asm); (case k4 => k_asm); (case k5 => k_asm); (case k6 => k_is); (case k7 => k_is); (case k8 => ((try dsimp only); omega)); (case k9 => first | exact BindsTo.of_eq rfl | (refine' kp_binds ?kx ?ke; (case kx => first | (refine' myIn ?kf ?ki; (case kf => with_reducible assumption); (case ki => with_reducible assumption)) | k_in); (case ke => exact fun _ => rfl)) | exact binds_K (by first | (refine' myIn ?kf ?ki; (case kf => with_reducible assumption); (case ki => with_reducible assumption)) | k_in) rfl (by k_is) rfl rfl rfl); (case c5 => decide); (case kB => exact locs rfl); (case c2 => exact rfl); (case c3 => exact rfl); (case c4 => exact rfl); k_whole; intro g' L' h' FG' F' N' B' X' T' D'; (try dsimp only); (try k_lift B'); (refine let_AE (f := execs _) ?_; intro vk ak); (refine f_QE ?_; intro qk ek))))
  trivial
local macro_rules | `(tactic| k_mem) => `(tactic| first | with_reducible assumption | (refine mem_in ?_; with_reducible assumption))
theorem lines_K3_1 : True := by
  k_with "subscriptTail Name Constant ref int" => ((k_here; refine item_tupleT (News.isTup (by assumption) (by k_mem)) (by decide) (by decide) (by rfl) (by rfl) ?_))
  k_with "subscriptTail Name Constant ref int" => ((k_here; (with_reducible rename StrsAre _ _ => hSA); refine item_strsA (News.isList (by assumption) (by k_mem)) hSA (by decide) (by first | omega | (simp only [List.length_map]; omega)) (by decide) ?_; intro t'))
  k_with "call type:ValueError" => ((refine call_ValueError_made ?_; intro _ _ _))
  k_with "exec While Compare Name cons nil" => (refine Hold.mk ?_)
  k_with "exec While Compare" => (refine Hold.mk ?_)
  k_with "exec While Compare cons nil" => (refine Hold.mk ?_)
  k_with "exec While" => (refine Hold.mk ?_)
  k_with "binaryOp FloorDiv int int" => ((k_here; (with_reducible refine floordiv_pos ?kb1 ?kb2 ?_); (case kb1 => decide); (case kb2 => decide +kernel)))
  k_with "WhlIf" => ((refine whlIf_dec ?_ ?_ <;> intro _))
  k_with "subscriptTail Name Name ref int" => ((k_here; first
    | ((with_reducible rename StrsAre _ _ => hSA); refine item_strsA (News.isList (by assumption) (by k_mem)) hSA (by omega) (by omega) (by omega) ?_; intro t')
    | ((with_reducible rename IntsAre _ _ => hSA); refine item_intsA (News.isList (by assumption) (by k_mem)) hSA (by omega) (by omega) (by omega) ?_; intro t')))
  k_with "call builtin:len" => ((k_here; (with_reducible show wpAny _ _ (call (Value.builtin "len") [Value.ref _]) _ _ _); first
    | ((with_reducible rename StrsAre _ _ => hSA); refine len_strsA (News.isList (by assumption) (by k_mem)) hSA (by omega) ?_)
    | ((with_reducible rename IntsAre _ _ => hSA); refine len_intsA (News.isList (by assumption) (by k_mem)) hSA (by omega) ?_)))
  k_with "M enterC" => ((
    refine wpC_call ?_
    k_dflt (refine' code_def_C ?k1 ?k2 ?k3 ?k4 ?k5 ?kA ?kF ?kK ?k6 ?k7 ?k8 ?k9 ?kB ?_ ?c2 ?c3 ?c4 ?c5; (case kA => exact rfl); (case kF => exact rfl); (case kK => assumption); (case k1 => k_asm); (case k2 => k_asm); (case k3 => k_asm); (case k4 => k_asm); (case k5 => k_asm); (case k6 => k_is); (case k7 => k_is); (case k8 => ((try dsimp only); omega)); (case k9 => first | exact BindsTo.of_eq rfl | (refine' kp_binds ?kx ?ke; (case kx => first | (refine' myIn ?kf ?ki; (case kf => with_reducible assumption); (case ki => with_reducible assumption)) | k_in); (case ke => exact fun _ => rfl)) | exact binds_K (by first | (refine' myIn ?kf ?ki; (case kf => with_reducible assumption); (case ki => with_reducible assumption)) | k_in) rfl (by k_is) rfl rfl rfl); (case c5 => decide); (case kB => exact locs rfl); (case c2 => exact rfl); (case c3 => exact rfl); (case c4 => exact rfl); k_whole; intro g' L' h' FG' F' N' B' X' T'; (have D' := kts_dict B' (by assumption) FG' rfl); (try dsimp only); (try k_lift B'))))
  k_with "M enter0C" => ((
    refine wpC_call ?_
    k_dflt (refine' code_defS0_C ?k1 ?k2 ?k3 ?k4 ?k5 ?kA ?kF ?kK ?k6 ?k7 ?k8 ?k9 ?kB ?_ ?c2 ?c3 ?c4 ?c5; (case kA => exact rfl); (case kF => exact rfl); (case kK => assumption); (case k1 => k_asm); (case k2 => k_asm); (case k3 => k_asm); (case k4 => k_asm); (case k5 => k_asm); (case k6 => k_is); (case k7 => k_is); (case k8 => ((try dsimp only); omega)); (case k9 => first | exact BindsTo.of_eq rfl | (refine' kp_binds ?kx ?ke; (case kx => first | (refine' myIn ?kf ?ki; (case kf => with_reducible assumption); (case ki => with_reducible assumption)) | k_in); (case ke => exact fun _ => rfl)) | exact binds_K (by first | (refine' myIn ?kf ?ki; (case kf => with_reducible assumption); (case ki => with_reducible assumption)) | k_in) rfl (by k_is) rfl rfl rfl); (case c5 => decide); (case kB => exact locs rfl); (case c2 => exact rfl); (case c3 => exact rfl); (case c4 => exact rfl); k_whole; intro g' L' h' FG' F' N' B' X' T' D'; (try dsimp only); (try k_lift B'))))
  k_with "call ref" => (((with_reducible show wpAny _ _ (call (Value.ref 108) _) _ _ _); refine' port_spec ?kB ?kX ?kT ?kXB ?kTB ?kD ?kh ?kd ?ku ?kF ?kN ?k6 ?kv ?_ ?_; (case kB => assumption); (case kX => assumption); (case kT => assumption); (case kXB => assumption); (case kTB => assumption); (case kD => assumption); (case kh => rfl); (case kd => ((try dsimp only); omega)); (case ku => ((try dsimp only); omega)); (case kF => with_reducible assumption); (case kN => with_reducible assumption); (case k6 => first | exact getD_640 (by assumption) _ | assumption); (case kv => first | assumption | (have q := bis_nv (by assumption) (by assumption) (by assumption); exact q) | (have q := bis_nv ((by assumption : 0 ≤ _ → ∀ msg, _ ≠ _) (by omega)) (by assumption) (by assumption); exact q))))
  k_with "M portC" => ((refine' port_val ?kB ?kX ?kT ?kXB ?kTB ?kD ?kh ?kd ?ku ?kF ?kN ?k6 ?kv ?krp ?_; (case kB => assumption); (case kX => assumption); (case kT => assumption); (case kXB => assumption); (case kTB => assumption); (case kD => assumption); (case kh => rfl); (case kd => ((try dsimp only); omega)); (case ku => ((try dsimp only); omega)); (case kF => with_reducible assumption); (case kN => with_reducible assumption); (case k6 => first | with_reducible assumption | exact getD_640 (by with_reducible assumption) _); (case kv => with_reducible assumption); (case krp => with_reducible assumption); intro g₂ e t t1 h' tk FF SS RR UU; k_steps))
  trivial
section
variable {w : World} {p : Program} {loose : List PStr} {mean : ExcName → Option Value} {mg mb : PStr → Option Value}
    {dp un : Nat} {gd : Option (List Code)} {cn : PStr} {cs : Scope} {a : Addr} {ccd : Value} {cl : List (PStr × Addr)} {outer : List Env} {A₀ : Around} {base h₀ : Heap} {L : Addr} {m : PStr → Option Value}
    {s : Shared} {Q E : Value → Shared → Prop} {news : Ldg}
    (B : Below A₀ base outer h₀) (X : (KK.heap_1 w.params).In h₀) (T : Top p loose mean mg mb h₀) (XB : (KK.heap_1 w.params).In base) (TB : Top p loose mean mg mb base) (D : KtsDicts (outer.filterMap (·.frame)) h₀) (hck : cs.kind = .function)
include B X T XB TB D hck

theorem bisR_val {ra : Addr} {vs : List Value} {ys : List PStr} {ep : Nat} {x : Int} {lo : Nat} {hi : Nat} {hv : Value} {tx tl : Tok} {msg : PStr} (hd5 : dp + 20 < recursionLimit) (hu5 : un + 100 < cLine) (F : Fr h₀ L s.heap m) (N : News h₀ L s.heap news)
   (hra : (ra, lstOf vs ep) ∈ news) (hS : StrsAre vs ys) (h640 : ∀ y ∈ ys, y.length ≤ 640) (hrp : ∀ y ∈ ys, RepOk y) (hl : ys.length ≤ 1000) (hhi : HiIs hv hi ys.length)
   (hval : bis true (fun i => p229 (ys.getD i PySem.Str.empty)) x (hi - lo) lo hi = .error (.value, msg))
   (hexc : ∀ g₂ e t t1 h' tk, Fr h₀ L g₂ m → RaisedS base g₂ (envX cn cs L a ccd cl :: outer) e (clsOf .value) t [.str msg t1] news h' → RaisedK base (envX cn cs L a ccd cl :: outer) e (clsOf .value) t [.str msg t1] news h' → g₂.UpToSlots h' → E (.ref e) { s with heap := h', toks := tk }) :
   wpC (model PySem.Challenge.rw_pm0034_03.row.prog w) (ktrTop dp un gd cn cs L a ccd cl outer) (call (.ref 32) [.ref ra, .int x tx, .int (lo : Int) tl, hv] [(PySem.Str.ofString "key", .ref 108)]) Q E s := by
  walk_at "M fill"
  rcases hhi with ⟨rfl, rfl⟩ | ⟨th, rfl, hhi⟩
  · walk_at "M enterC"
    refine execs_pre (pre := [_, _]) (rest := [_, _]) ?_
    k_fold
    k_steps
    refine execs_C ?_
    refine if_C ?_
    refine wpC_any ?_
    k_fold
    k_steps
    refine execs_C ?_
    (with_reducible rename Fr _ _ _ _ => kF)
    refine' while_frC (fun i : Nat × Nat × Tok × Tok × Option Value => i.2.1 - i.1) (fun i => i.2.1 ≤ ys.length ∧ bis true (fun i => p229 (ys.getD i PySem.Str.empty)) x (i.2.1 - i.1) i.1 i.2.1 = .error (.value, msg))
        (fun i y => if y = PySem.Str.ofString "mid" then i.2.2.2.2 else List.lookup y [(PySem.Str.ofString "lo", .int i.1 i.2.2.1), (PySem.Str.ofString "hi", .int i.2.1 i.2.2.2.1), (PySem.Str.ofString "a", .ref ra), (PySem.Str.ofString "x", .int x tx), (PySem.Str.ofString "key", .ref 108)])
        (fun _ => news) (lo, ys.length, _, _, none) [PySem.Str.ofString "lo", PySem.Str.ofString "hi", PySem.Str.ofString "mid", PySem.Str.ofString "a", PySem.Str.ofString "x", PySem.Str.ofString "key"] kF (by with_reducible assumption) ⟨by first | assumption | exact Nat.le_refl _, hval⟩ ?m1_1 ?m2_1 (fun _ q => q) ?step_1 ?hE_1
    case m1_1 => walk_at "M map1"
    case m2_1 => walk_at "M map2"
    case hE_1 => with_unfolding_all passes_own
    clear kF
    rintro ⟨l1, h1, t1, t2, mo⟩ h tk ⟨hh1, hb1⟩ kF1 kN1
    dsimp only at hh1 hb1 kF1 kN1
    k_fold
    k_steps
    rotate_left
    · exact absurd (hb1.symm.trans (bis_end (by assumption))) (by intro c; cases c)
    rcases kres_cases (p229 (ys.getD ((((l1 : Int) + (h1 : Int)) / 2).toNat) PySem.Str.empty)) with ⟨y, hk⟩ | ⟨ek, hk⟩
    · have hnv : ∀ msg, p229 (ys.getD ((((l1 : Int) + (h1 : Int)) / 2).toNat) PySem.Str.empty) ≠ .error (.value, msg) := fun msg c => by rw [hk] at c; cases c
      refine wpC_any ?_
      k_fold
      k_steps
      · refine' whlFr_next (l1, (l1 + h1) / 2, _, _, _) [PySem.Str.ofString "lo", PySem.Str.ofString "hi", PySem.Str.ofString "mid", PySem.Str.ofString "a", PySem.Str.ofString "x", PySem.Str.ofString "key"] (by with_reducible assumption) (by with_reducible assumption) ?mu_1 ?c_1 ?m1_1 ?m2_1 (fun _ q => q)
        case mu_1 => dsimp only; omega
        case c_1 => exact ⟨by dsimp only; omega, (bisR_hi (k := (fun i => p229 (ys.getD i PySem.Str.empty))) (by assumption) (by assumption) (by assumption)).symm.trans hb1⟩
        case m1_1 => walk_at "M map1"
        case m2_1 => walk_at "M map2"
      · refine' whlFr_next ((l1 + h1) / 2 + 1, h1, _, _, _) [PySem.Str.ofString "lo", PySem.Str.ofString "hi", PySem.Str.ofString "mid", PySem.Str.ofString "a", PySem.Str.ofString "x", PySem.Str.ofString "key"] (by with_reducible assumption) (by with_reducible assumption) ?mu_1 ?c_1 ?m1_1 ?m2_1 (fun _ q => q)
        case mu_1 => dsimp only; omega
        case c_1 => exact ⟨hh1, (bisR_lo (k := (fun i => p229 (ys.getD i PySem.Str.empty))) (by assumption) (by assumption) (by assumption)).symm.trans hb1⟩
        case m1_1 => walk_at "M map1"
        case m2_1 => walk_at "M map2"
      · (show E _ _); exact ok_err hk (by assumption)
    · have hk2 := bis_val_at (k := (fun i => p229 (ys.getD i PySem.Str.empty))) hb1 (by assumption) hk
      clear hk
      refine execs_pre (pre := [_]) (rest := [_]) ?_
      k_fold
      k_steps
      refine execs_C ?_
      refine if_C ?_
      refine isTrue_compare_raises_C ?_
      k_fold
      k_steps
      refine call_name_C ?_
      k_fold
      k_steps
      refine callWith_K_C (by k_asm) (by k_is) ?_
      k_fold
      k_steps
      have hrp1 := getD_rep hrp ((((l1 : Int) + (h1 : Int)) / 2).toNat)
      walk_at "M portC"
      (show E _ _)
      exact hexc _ _ _ _ _ _ (by assumption) (by assumption) (by assumption) (by assumption)
  · walk_at "M enterC"
    refine execs_pre (pre := [_, _]) (rest := [_, _]) ?_
    k_fold
    k_steps
    refine execs_C ?_
    refine if_C ?_
    refine wpC_any ?_
    k_fold
    k_steps
    refine execs_C ?_
    (with_reducible rename Fr _ _ _ _ => kF)
    refine' while_frC (fun i : Nat × Nat × Tok × Tok × Option Value => i.2.1 - i.1) (fun i => i.2.1 ≤ ys.length ∧ bis true (fun i => p229 (ys.getD i PySem.Str.empty)) x (i.2.1 - i.1) i.1 i.2.1 = .error (.value, msg))
        (fun i y => if y = PySem.Str.ofString "mid" then i.2.2.2.2 else List.lookup y [(PySem.Str.ofString "lo", .int i.1 i.2.2.1), (PySem.Str.ofString "hi", .int i.2.1 i.2.2.2.1), (PySem.Str.ofString "a", .ref ra), (PySem.Str.ofString "x", .int x tx), (PySem.Str.ofString "key", .ref 108)])
        (fun _ => news) (lo, hi, _, _, none) [PySem.Str.ofString "lo", PySem.Str.ofString "hi", PySem.Str.ofString "mid", PySem.Str.ofString "a", PySem.Str.ofString "x", PySem.Str.ofString "key"] kF (by with_reducible assumption) ⟨by first | assumption | exact Nat.le_refl _, hval⟩ ?m1_2 ?m2_2 (fun _ q => q) ?step_2 ?hE_2
    case m1_2 => walk_at "M map1"
    case m2_2 => walk_at "M map2"
    case hE_2 => with_unfolding_all passes_own
    clear kF
    rintro ⟨l1, h1, t1, t2, mo⟩ h tk ⟨hh1, hb1⟩ kF1 kN1
    dsimp only at hh1 hb1 kF1 kN1
    k_fold
    k_steps
    rotate_left
    · exact absurd (hb1.symm.trans (bis_end (by assumption))) (by intro c; cases c)
    rcases kres_cases (p229 (ys.getD ((((l1 : Int) + (h1 : Int)) / 2).toNat) PySem.Str.empty)) with ⟨y, hk⟩ | ⟨ek, hk⟩
    · have hnv : ∀ msg, p229 (ys.getD ((((l1 : Int) + (h1 : Int)) / 2).toNat) PySem.Str.empty) ≠ .error (.value, msg) := fun msg c => by rw [hk] at c; cases c
      refine wpC_any ?_
      k_fold
      k_steps
      · refine' whlFr_next (l1, (l1 + h1) / 2, _, _, _) [PySem.Str.ofString "lo", PySem.Str.ofString "hi", PySem.Str.ofString "mid", PySem.Str.ofString "a", PySem.Str.ofString "x", PySem.Str.ofString "key"] (by with_reducible assumption) (by with_reducible assumption) ?mu_2 ?c_2 ?m1_2 ?m2_2 (fun _ q => q)
        case mu_2 => dsimp only; omega
        case c_2 => exact ⟨by dsimp only; omega, (bisR_hi (k := (fun i => p229 (ys.getD i PySem.Str.empty))) (by assumption) (by assumption) (by assumption)).symm.trans hb1⟩
        case m1_2 => walk_at "M map1"
        case m2_2 => walk_at "M map2"
      · refine' whlFr_next ((l1 + h1) / 2 + 1, h1, _, _, _) [PySem.Str.ofString "lo", PySem.Str.ofString "hi", PySem.Str.ofString "mid", PySem.Str.ofString "a", PySem.Str.ofString "x", PySem.Str.ofString "key"] (by with_reducible assumption) (by with_reducible assumption) ?mu_2 ?c_2 ?m1_2 ?m2_2 (fun _ q => q)
        case mu_2 => dsimp only; omega
        case c_2 => exact ⟨hh1, (bisR_lo (k := (fun i => p229 (ys.getD i PySem.Str.empty))) (by assumption) (by assumption) (by assumption)).symm.trans hb1⟩
        case m1_2 => walk_at "M map1"
        case m2_2 => walk_at "M map2"
      · (show E _ _); exact ok_err hk (by assumption)
    · have hk2 := bis_val_at (k := (fun i => p229 (ys.getD i PySem.Str.empty))) hb1 (by assumption) hk
      clear hk
      refine execs_pre (pre := [_]) (rest := [_]) ?_
      k_fold
      k_steps
      refine execs_C ?_
      refine if_C ?_
      refine isTrue_compare_raises_C ?_
      k_fold
      k_steps
      refine call_name_C ?_
      k_fold
      k_steps
      refine callWith_K_C (by k_asm) (by k_is) ?_
      k_fold
      k_steps
      have hrp1 := getD_rep hrp ((((l1 : Int) + (h1 : Int)) / 2).toNat)
      walk_at "M portC"
      (show E _ _)
      exact hexc _ _ _ _ _ _ (by assumption) (by assumption) (by assumption) (by assumption)
end
section
variable {w : World} {p : Program} {loose : List PStr} {mean : ExcName → Option Value} {mg mb : PStr → Option Value}
    {dp un : Nat} {gd : Option (List Code)} {cn : PStr} {cs : Scope} {a : Addr} {ccd : Value} {cl : List (PStr × Addr)} {outer : List Env} {A₀ : Around} {base h₀ : Heap} {L : Addr} {m : PStr → Option Value}
    {s : Shared} {Q E : Value → Shared → Prop} {news : Ldg}
    (B : Below A₀ base outer h₀) (X : (KK.heap_1 w.params).In h₀) (T : Top p loose mean mg mb h₀) (XB : (KK.heap_1 w.params).In base) (TB : Top p loose mean mg mb base) (D : KtsDicts (outer.filterMap (·.frame)) h₀) (hck : cs.kind = .function)
include B X T XB TB D hck

theorem bisL_val {ra : Addr} {vs : List Value} {ys : List PStr} {ep : Nat} {x : Int} {lo : Nat} {hi : Nat} {hv : Value} {tx tl : Tok} {msg : PStr} (hd5 : dp + 20 < recursionLimit) (hu5 : un + 100 < cLine) (F : Fr h₀ L s.heap m) (N : News h₀ L s.heap news)
   (hra : (ra, lstOf vs ep) ∈ news) (hS : StrsAre vs ys) (h640 : ∀ y ∈ ys, y.length ≤ 640) (hrp : ∀ y ∈ ys, RepOk y) (hl : ys.length ≤ 1000) (hhi : HiIs hv hi ys.length)
   (hval : bis false (fun i => p229 (ys.getD i PySem.Str.empty)) x (hi - lo) lo hi = .error (.value, msg))
   (hexc : ∀ g₂ e t t1 h' tk, Fr h₀ L g₂ m → RaisedS base g₂ (envX cn cs L a ccd cl :: outer) e (clsOf .value) t [.str msg t1] news h' → RaisedK base (envX cn cs L a ccd cl :: outer) e (clsOf .value) t [.str msg t1] news h' → g₂.UpToSlots h' → E (.ref e) { s with heap := h', toks := tk }) :
   wpC (model PySem.Challenge.rw_pm0034_03.row.prog w) (ktrTop dp un gd cn cs L a ccd cl outer) (call (.ref 50) [.ref ra, .int x tx, .int (lo : Int) tl, hv] [(PySem.Str.ofString "key", .ref 108)]) Q E s := by
  walk_at "M fill"
  rcases hhi with ⟨rfl, rfl⟩ | ⟨th, rfl, hhi⟩
  · walk_at "M enterC"
    refine execs_pre (pre := [_, _]) (rest := [_, _]) ?_
    k_fold
    k_steps
    refine execs_C ?_
    refine if_C ?_
    refine wpC_any ?_
    k_fold
    k_steps
    refine execs_C ?_
    (with_reducible rename Fr _ _ _ _ => kF)
    refine' while_frC (fun i : Nat × Nat × Tok × Tok × Option Value => i.2.1 - i.1) (fun i => i.2.1 ≤ ys.length ∧ bis false (fun i => p229 (ys.getD i PySem.Str.empty)) x (i.2.1 - i.1) i.1 i.2.1 = .error (.value, msg))
        (fun i y => if y = PySem.Str.ofString "mid" then i.2.2.2.2 else List.lookup y [(PySem.Str.ofString "lo", .int i.1 i.2.2.1), (PySem.Str.ofString "hi", .int i.2.1 i.2.2.2.1), (PySem.Str.ofString "a", .ref ra), (PySem.Str.ofString "x", .int x tx), (PySem.Str.ofString "key", .ref 108)])
        (fun _ => news) (lo, ys.length, _, _, none) [PySem.Str.ofString "lo", PySem.Str.ofString "hi", PySem.Str.ofString "mid", PySem.Str.ofString "a", PySem.Str.ofString "x", PySem.Str.ofString "key"] kF (by with_reducible assumption) ⟨by first | assumption | exact Nat.le_refl _, hval⟩ ?m1_1 ?m2_1 (fun _ q => q) ?step_1 ?hE_1
    case m1_1 => walk_at "M map1"
    case m2_1 => walk_at "M map2"
    case hE_1 => with_unfolding_all passes_own
    clear kF
    rintro ⟨l1, h1, t1, t2, mo⟩ h tk ⟨hh1, hb1⟩ kF1 kN1
    dsimp only at hh1 hb1 kF1 kN1
    k_fold
    k_steps
    rotate_left
    · exact absurd (hb1.symm.trans (bis_end (by assumption))) (by intro c; cases c)
    rcases kres_cases (p229 (ys.getD ((((l1 : Int) + (h1 : Int)) / 2).toNat) PySem.Str.empty)) with ⟨y, hk⟩ | ⟨ek, hk⟩
    · have hnv : ∀ msg, p229 (ys.getD ((((l1 : Int) + (h1 : Int)) / 2).toNat) PySem.Str.empty) ≠ .error (.value, msg) := fun msg c => by rw [hk] at c; cases c
      refine wpC_any ?_
      k_fold
      k_steps
      · refine' whlFr_next ((l1 + h1) / 2 + 1, h1, _, _, _) [PySem.Str.ofString "lo", PySem.Str.ofString "hi", PySem.Str.ofString "mid", PySem.Str.ofString "a", PySem.Str.ofString "x", PySem.Str.ofString "key"] (by with_reducible assumption) (by with_reducible assumption) ?mu_1 ?c_1 ?m1_1 ?m2_1 (fun _ q => q)
        case mu_1 => dsimp only; omega
        case c_1 => exact ⟨hh1, (bisL_lo (k := (fun i => p229 (ys.getD i PySem.Str.empty))) (by assumption) (by assumption) (by assumption)).symm.trans hb1⟩
        case m1_1 => walk_at "M map1"
        case m2_1 => walk_at "M map2"
      · refine' whlFr_next (l1, (l1 + h1) / 2, _, _, _) [PySem.Str.ofString "lo", PySem.Str.ofString "hi", PySem.Str.ofString "mid", PySem.Str.ofString "a", PySem.Str.ofString "x", PySem.Str.ofString "key"] (by with_reducible assumption) (by with_reducible assumption) ?mu_1 ?c_1 ?m1_1 ?m2_1 (fun _ q => q)
        case mu_1 => dsimp only; omega
        case c_1 => exact ⟨by dsimp only; omega, (bisL_hi (k := (fun i => p229 (ys.getD i PySem.Str.empty))) (by assumption) (by assumption) (by assumption)).symm.trans hb1⟩
        case m1_1 => walk_at "M map1"
        case m2_1 => walk_at "M map2"
      · (show E _ _); exact ok_err hk (by assumption)
    · have hk2 := bis_val_at (k := (fun i => p229 (ys.getD i PySem.Str.empty))) hb1 (by assumption) hk
      clear hk
      refine execs_pre (pre := [_]) (rest := [_]) ?_
      k_fold
      k_steps
      refine execs_C ?_
      refine if_C ?_
      refine isTrue_compare_left_raises_C ?_
      refine call_name_C ?_
      k_fold
      k_steps
      refine callWith_K_C (by k_asm) (by k_is) ?_
      k_fold
      k_steps
      have hrp1 := getD_rep hrp ((((l1 : Int) + (h1 : Int)) / 2).toNat)
      walk_at "M portC"
      (show E _ _)
      exact hexc _ _ _ _ _ _ (by assumption) (by assumption) (by assumption) (by assumption)
  · walk_at "M enterC"
    refine execs_pre (pre := [_, _]) (rest := [_, _]) ?_
    k_fold
    k_steps
    refine execs_C ?_
    refine if_C ?_
    refine wpC_any ?_
    k_fold
    k_steps
    refine execs_C ?_
    (with_reducible rename Fr _ _ _ _ => kF)
    refine' while_frC (fun i : Nat × Nat × Tok × Tok × Option Value => i.2.1 - i.1) (fun i => i.2.1 ≤ ys.length ∧ bis false (fun i => p229 (ys.getD i PySem.Str.empty)) x (i.2.1 - i.1) i.1 i.2.1 = .error (.value, msg))
        (fun i y => if y = PySem.Str.ofString "mid" then i.2.2.2.2 else List.lookup y [(PySem.Str.ofString "lo", .int i.1 i.2.2.1), (PySem.Str.ofString "hi", .int i.2.1 i.2.2.2.1), (PySem.Str.ofString "a", .ref ra), (PySem.Str.ofString "x", .int x tx), (PySem.Str.ofString "key", .ref 108)])
        (fun _ => news) (lo, hi, _, _, none) [PySem.Str.ofString "lo", PySem.Str.ofString "hi", PySem.Str.ofString "mid", PySem.Str.ofString "a", PySem.Str.ofString "x", PySem.Str.ofString "key"] kF (by with_reducible assumption) ⟨by first | assumption | exact Nat.le_refl _, hval⟩ ?m1_2 ?m2_2 (fun _ q => q) ?step_2 ?hE_2
    case m1_2 => walk_at "M map1"
    case m2_2 => walk_at "M map2"
    case hE_2 => with_unfolding_all passes_own
    clear kF
    rintro ⟨l1, h1, t1, t2, mo⟩ h tk ⟨hh1, hb1⟩ kF1 kN1
    dsimp only at hh1 hb1 kF1 kN1
    k_fold
    k_steps
    rotate_left
    · exact absurd (hb1.symm.trans (bis_end (by assumption))) (by intro c; cases c)
    rcases kres_cases (p229 (ys.getD ((((l1 : Int) + (h1 : Int)) / 2).toNat) PySem.Str.empty)) with ⟨y, hk⟩ | ⟨ek, hk⟩
    · have hnv : ∀ msg, p229 (ys.getD ((((l1 : Int) + (h1 : Int)) / 2).toNat) PySem.Str.empty) ≠ .error (.value, msg) := fun msg c => by rw [hk] at c; cases c
      refine wpC_any ?_
      k_fold
      k_steps
      · refine' whlFr_next ((l1 + h1) / 2 + 1, h1, _, _, _) [PySem.Str.ofString "lo", PySem.Str.ofString "hi", PySem.Str.ofString "mid", PySem.Str.ofString "a", PySem.Str.ofString "x", PySem.Str.ofString "key"] (by with_reducible assumption) (by with_reducible assumption) ?mu_2 ?c_2 ?m1_2 ?m2_2 (fun _ q => q)
        case mu_2 => dsimp only; omega
        case c_2 => exact ⟨hh1, (bisL_lo (k := (fun i => p229 (ys.getD i PySem.Str.empty))) (by assumption) (by assumption) (by assumption)).symm.trans hb1⟩
        case m1_2 => walk_at "M map1"
        case m2_2 => walk_at "M map2"
      · refine' whlFr_next (l1, (l1 + h1) / 2, _, _, _) [PySem.Str.ofString "lo", PySem.Str.ofString "hi", PySem.Str.ofString "mid", PySem.Str.ofString "a", PySem.Str.ofString "x", PySem.Str.ofString "key"] (by with_reducible assumption) (by with_reducible assumption) ?mu_2 ?c_2 ?m1_2 ?m2_2 (fun _ q => q)
        case mu_2 => dsimp only; omega
        case c_2 => exact ⟨by dsimp only; omega, (bisL_hi (k := (fun i => p229 (ys.getD i PySem.Str.empty))) (by assumption) (by assumption) (by assumption)).symm.trans hb1⟩
        case m1_2 => walk_at "M map1"
        case m2_2 => walk_at "M map2"
      · (show E _ _); exact ok_err hk (by assumption)
    · have hk2 := bis_val_at (k := (fun i => p229 (ys.getD i PySem.Str.empty))) hb1 (by assumption) hk
      clear hk
      refine execs_pre (pre := [_]) (rest := [_]) ?_
      k_fold
      k_steps
      refine execs_C ?_
      refine if_C ?_
      refine isTrue_compare_left_raises_C ?_
      refine call_name_C ?_
      k_fold
      k_steps
      refine callWith_K_C (by k_asm) (by k_is) ?_
      k_fold
      k_steps
      have hrp1 := getD_rep hrp ((((l1 : Int) + (h1 : Int)) / 2).toNat)
      walk_at "M portC"
      (show E _ _)
      exact hexc _ _ _ _ _ _ (by assumption) (by assumption) (by assumption) (by assumption)
end
end Mine
end
section
open PySem PySem.W PyProof.Rows PySem.Spec PySem.Calls
set_option Elab.async false
set_option maxRecDepth 100000
set_option maxHeartbeats 8000000
set_option linter.all false
namespace Mine
local macro_rules | `(tactic| walk_at $s:str) => `(tactic| k_extra $s)
local macro_rules | `(tactic| omega) => `(tactic| first
  | with_reducible assumption
  | (refine' room1 ?rmh ?rme; (case rmh => with_reducible assumption); (case rme => with_unfolding_all rfl))
  | (refine' room0 ?rmh ?rme; (case rmh => with_reducible assumption); (case rme => with_unfolding_all rfl))
  | (refine' room2 ?rmh ?rme; (case rmh => with_reducible assumption); (case rme => with_unfolding_all rfl))
  | (refine' room00 ?rmh; (case rmh => with_reducible assumption))
  | (refine num_le ?rme; (case rme => with_unfolding_all rfl))
  | (refine num_lt ?rme; (case rme => with_unfolding_all rfl))
  | (refine' le_num ?rmh ?rme; (case rmh => with_reducible assumption); (case rme => with_unfolding_all rfl))
  | (refine' eq_num ?rmh ?rme; (case rmh => with_reducible assumption); (case rme => with_unfolding_all rfl))
  | omega (config := {}))
theorem lines_L3_0 : True := by
  k_with_none
  k_with "execs cons" => ((refine f_execs ?_; intro qk))
  k_with "eval BinOp" => ((refine f_BinOp ?_; intro qk))
  k_with "exec Assign" => ((refine f_Assign ?_; intro qk))
  k_with "eval Subscript" => ((refine f_Subscript ?_; intro qk))
  k_with "isTrue Compare" => ((refine f_Compare ?_; intro qk))
  k_with "exec If" => ((refine f_If ?_; intro qk))
  k_with "eval Call" => (((fail_if_success (with_reducible show wpAny _ _ (eval (Expr.Call (Expr.Attribute _ _ _) _ _ _) _) _ _ _)); refine f_Call ?_; intro qk))
  k_with "spliced" => ((refine f_args ?_; intro qk))
  k_with "callWith" => ((refine f_method1 ?_; intro qk))
  k_with "exec Return some" => ((refine f_Return ?_; intro qk))
  k_with "eval Tuple" => ((refine f_Tuple ?_; intro qk))
  k_with "eval List" => ((refine f_List ?_; intro qk))
  k_with "eval IfExp" => ((refine f_IfExp ?_; intro qk))
  k_with "storeName" => ((k_here; k_dflt (refine' f_store ?F ?N ?_ ?a ?b; (case F => k_asm); (case N => k_asm); (case a => rfl); (case b => rfl); k_whole; intro m' h' F' N'; (try k_sweep))))
  k_with "M map1" => (first
    | (refine map_same ?_; with_unfolding_all rfl)
    | ((repeat' (refine List.forall_mem_cons.mpr (And.intro ?_ ?_))); (all_goals first | rfl | exact List.forall_mem_nil _)))
  k_with "M map2" => (first
    | (refine SameOut.both (b := fun _ => none) ?_ ?_ <;> (repeat (refine SameOut.upd ?_ (by with_unfolding_all rfl))) <;> exact SameOut.lookup rfl)
    | (refine' SameOut.both (b := ?kb) ?k1 ?k2; (case k1 => ((repeat (refine SameOut.upd ?_ (by with_unfolding_all rfl))); exact SameOut.refl)); (case k2 => ((repeat (refine SameOut.upd ?_ (by with_unfolding_all rfl))); exact SameOut.refl)))
    | (refine' SameOut.both (b := ?kb) ?k1 ?k2; (case k2 => ((repeat (refine SameOut.upd ?_ (by with_unfolding_all rfl))); exact SameOut.refl)); (case k1 => ((repeat (refine SameOut.skip ?_)); (repeat (refine SameOut.upd ?_ (by with_unfolding_all rfl))); exact SameOut.refl)))
    | (intro y hy; (repeat (refine (if_neg (ne_of_out hy (by with_unfolding_all rfl))).trans ?_)); (refine Eq.symm ?_); (repeat (refine (if_neg (ne_of_out hy (by with_unfolding_all rfl))).trans ?_)); first | rfl | exact lookup_out rfl hy | exact (lookup_out rfl hy).symm | exact (lookup_out rfl hy).trans (lookup_out rfl hy).symm))
  k_with "M fill" => ((
    have kk : PySem.Challenge.rw_pm0034_03 = PySem.Challenge.rw_pm0034_03 ∧ KK.heap_1 = KK.heap_1 := ⟨rfl, rfl⟩
    revert kk
    k_fill
    intro kk
    clear kk))
  k_with "M enter" => ((
    refine wpAny_call ?_
    k_dflt (refine' code_def ?k1 ?k2 ?k3 ?k4 ?k5 ?kA ?kF ?kK ?k6 ?k7 ?k8 ?k9 ?kB ?_ ?c2 ?c3 ?c4 ?c5; (case kA => exact rfl); (case kF => exact rfl); (case kK => assumption); (case k1 => k_asm); (case k2 => k_asm); (case k3 => k_asm); (case k4 => k_asm); (case k5 => k_asm); (case k6 => k_is); (case k7 => k_is); (case k8 => ((try dsimp only); omega)); (case k9 => first | exact BindsTo.of_eq rfl | (refine' kp_binds ?kx ?ke; (case kx => first | (refine' myIn ?kf ?ki; (case kf => with_reducible assumption); (case ki => with_reducible assumption)) | k_in); (case ke => exact fun _ => rfl)) | exact binds_K (by first | (refine' myIn ?kf ?ki; (case kf => with_reducible assumption); (case ki => with_reducible assumption)) | k_in) rfl (by k_is) rfl rfl rfl); (case c5 => decide); (case kB => exact locs rfl); (case c2 => exact rfl); (case c3 => exact rfl); (case c4 => exact rfl); k_whole; intro g' L' h' FG' F' N' B' X' T'; (have D' := kts_dict B' (by assumption) FG' rfl); (try dsimp only); (try k_lift B'); (refine let_AE (f := execs _) ?_; intro vk ak); (refine f_QE ?_; intro qk ek))))
  k_with "M enter0" => ((
    refine wpAny_call ?_
    k_dflt (refine' code_defS0X ?k1 ?k2 ?k3 ?k4 ?k5 ?kA ?kF ?kK ?k6 ?k7 ?k8 ?k9 ?kB ?_ ?c2 ?c3 ?c4 ?c5; (case kA => exact rfl); (case kF => exact rfl); (case kK => assumption); (case k1 => k_asm); (case k2 => k_asm); (case k3 => k_asm); (case k4 => k_asm); (case k5 => k_asm); (case k6 => k_is); (case k7 => k_is); (case k8 => ((try dsimp only); omega)); (case k9 => first | exact BindsTo.of_eq rfl | (refine' kp_binds ?kx ?ke; (case kx => first | (refine' myIn ?kf ?ki; (case kf => with_reducible assumption); (case ki => with_reducible assumption)) | k_in); (case ke => exact fun _ => rfl)) | exact binds_K (by first | (refine' myIn ?kf ?ki; (case kf => with_reducible assumption); (case ki => with_reducible assumption)) | k_in) rfl (by k_is) rfl rfl rfl); (case c5 => decide); (case kB => exact locs rfl); (case c2 => exact rfl); (case c3 => exact rfl); (case c4 => exact rfl); k_whole; intro g' L' h' FG' F' N' B' X' T' D'; (try dsimp only); (try k_lift B'); (refine let_AE (f := execs _) ?_; intro vk ak); (refine f_QE ?_; intro qk ek))))
  trivial
local macro_rules | `(tactic| k_mem) => `(tactic| first | with_reducible assumption | (refine mem_in ?_; with_reducible assumption))
theorem lines_L3_1 : True := by
  k_with "subscriptTail Name Constant ref int" => ((k_here; refine item_tupleT (News.isTup (by assumption) (by k_mem)) (by decide) (by decide) (by rfl) (by rfl) ?_))
  k_with "subscriptTail Name Constant ref int" => ((k_here; (with_reducible rename StrsAre _ _ => hSA); refine item_strsA (News.isList (by assumption) (by k_mem)) hSA (by decide) (by first | omega | (simp only [List.length_map]; omega)) (by decide) ?_; intro t'))
  k_with "call type:ValueError" => ((refine call_ValueError_made ?_; intro _ _ _))
  k_with "exec While Compare Name cons nil" => (refine Hold.mk ?_)
  k_with "exec While Compare" => (refine Hold.mk ?_)
  k_with "exec While Compare cons nil" => (refine Hold.mk ?_)
  k_with "exec While" => (refine Hold.mk ?_)
  k_with "binaryOp FloorDiv int int" => ((k_here; (with_reducible refine floordiv_pos ?kb1 ?kb2 ?_); (case kb1 => decide); (case kb2 => decide +kernel)))
  k_with "WhlIf" => ((refine whlIf_dec ?_ ?_ <;> intro _))
  k_with "subscriptTail Name Name ref int" => ((k_here; first
    | ((with_reducible rename StrsAre _ _ => hSA); refine item_strsA (News.isList (by assumption) (by k_mem)) hSA (by omega) (by omega) (by omega) ?_; intro t')
    | ((with_reducible rename IntsAre _ _ => hSA); refine item_intsA (News.isList (by assumption) (by k_mem)) hSA (by omega) (by omega) (by omega) ?_; intro t')))
  k_with "call builtin:len" => ((k_here; (with_reducible show wpAny _ _ (call (Value.builtin "len") [Value.ref _]) _ _ _); first
    | ((with_reducible rename StrsAre _ _ => hSA); refine len_strsA (News.isList (by assumption) (by k_mem)) hSA (by omega) ?_)
    | ((with_reducible rename IntsAre _ _ => hSA); refine len_intsA (News.isList (by assumption) (by k_mem)) hSA (by omega) ?_)))
  k_with "M enterC" => ((
    refine wpC_call ?_
    k_dflt (refine' code_def_C ?k1 ?k2 ?k3 ?k4 ?k5 ?kA ?kF ?kK ?k6 ?k7 ?k8 ?k9 ?kB ?_ ?c2 ?c3 ?c4 ?c5; (case kA => exact rfl); (case kF => exact rfl); (case kK => assumption); (case k1 => k_asm); (case k2 => k_asm); (case k3 => k_asm); (case k4 => k_asm); (case k5 => k_asm); (case k6 => k_is); (case k7 => k_is); (case k8 => ((try dsimp only); omega)); (case k9 => first | exact BindsTo.of_eq rfl | (refine' kp_binds ?kx ?ke; (case kx => first | (refine' myIn ?kf ?ki; (case kf => with_reducible assumption); (case ki => with_reducible assumption)) | k_in); (case ke => exact fun _ => rfl)) | exact binds_K (by first | (refine' myIn ?kf ?ki; (case kf => with_reducible assumption); (case ki => with_reducible assumption)) | k_in) rfl (by k_is) rfl rfl rfl); (case c5 => decide); (case kB => exact locs rfl); (case c2 => exact rfl); (case c3 => exact rfl); (case c4 => exact rfl); k_whole; intro g' L' h' FG' F' N' B' X' T'; (have D' := kts_dict B' (by assumption) FG' rfl); (try dsimp only); (try k_lift B'))))
  k_with "M enter0C" => ((
    refine wpC_call ?_
    k_dflt (refine' code_defS0_C ?k1 ?k2 ?k3 ?k4 ?k5 ?kA ?kF ?kK ?k6 ?k7 ?k8 ?k9 ?kB ?_ ?c2 ?c3 ?c4 ?c5; (case kA => exact rfl); (case kF => exact rfl); (case kK => assumption); (case k1 => k_asm); (case k2 => k_asm); (case k3 => k_asm); (case k4 => k_asm); (case k5 => k_asm); (case k6 => k_is); (case k7 => k_is); (case k8 => ((try dsimp only); omega)); (case k9 => first | exact BindsTo.of_eq rfl | (refine' kp_binds ?kx ?ke; (case kx => first | (refine' myIn ?kf ?ki; (case kf => with_reducible assumption); (case ki => with_reducible assumption)) | k_in); (case ke => exact fun _ => rfl)) | exact binds_K (by first | (refine' myIn ?kf ?ki; (case kf => with_reducible assumption); (case ki => with_reducible assumption)) | k_in) rfl (by k_is) rfl rfl rfl); (case c5 => decide); (case kB => exact locs rfl); (case c2 => exact rfl); (case c3 => exact rfl); (case c4 => exact rfl); k_whole; intro g' L' h' FG' F' N' B' X' T' D'; (try dsimp only); (try k_lift B'))))
  k_with "call ref" => (((with_reducible show wpAny _ _ (call (Value.ref 108) _) _ _ _); refine' port_spec ?kB ?kX ?kT ?kXB ?kTB ?kD ?kh ?kd ?ku ?kF ?kN ?k6 ?kv ?_ ?_; (case kB => assumption); (case kX => assumption); (case kT => assumption); (case kXB => assumption); (case kTB => assumption); (case kD => assumption); (case kh => rfl); (case kd => ((try dsimp only); omega)); (case ku => ((try dsimp only); omega)); (case kF => with_reducible assumption); (case kN => with_reducible assumption); (case k6 => first | exact getD_640 (by assumption) _ | assumption); (case kv => first | assumption | (have q := bis_nv (by assumption) (by assumption) (by assumption); exact q) | (have q := bis_nv ((by assumption : 0 ≤ _ → ∀ msg, _ ≠ _) (by omega)) (by assumption) (by assumption); exact q))))
  k_with "call ref" => (first
    | ((with_reducible show wpAny _ _ (call (Value.ref 32) _ _) _ _ _); refine' bisR_full ?kB ?kX ?kT ?kXB ?kTB ?kD ?kh ?kd ?ku ?kF ?kN ?kra ?kro ?kl ?khi ?khv ?_ ?_; (case kB => assumption); (case kX => assumption); (case kT => assumption); (case kXB => assumption); (case kTB => assumption); (case kD => assumption); (case kh => rfl); (case kd => ((try dsimp only); omega)); (case ku => ((try dsimp only); omega)); (case kF => with_reducible assumption); (case kN => with_reducible assumption); (case kra => k_mem); (case kro => assumption); (case kl => omega); (case khi => assumption); (case khv => first | assumption | (have q := hv_app (by assumption) (by assumption); exact q) | (have q := hv_app (by assumption) rfl; exact q)))
    | ((with_reducible show wpAny _ _ (call (Value.ref 50) _ _) _ _ _); refine' bisL_full ?kB ?kX ?kT ?kXB ?kTB ?kD ?kh ?kd ?ku ?kF ?kN ?kra ?kro ?kl ?khi ?khv ?_ ?_; (case kB => assumption); (case kX => assumption); (case kT => assumption); (case kXB => assumption); (case kTB => assumption); (case kD => assumption); (case kh => rfl); (case kd => ((try dsimp only); omega)); (case ku => ((try dsimp only); omega)); (case kF => with_reducible assumption); (case kN => with_reducible assumption); (case kra => k_mem); (case kro => assumption); (case kl => omega); (case khi => assumption); (case khv => first | assumption | (have q := hv_app (by assumption) (by assumption); exact q) | (have q := hv_app (by assumption) rfl; exact q)))
    | ((with_reducible show wpAny _ _ (call (Value.ref 32) _ _) _ _ _); refine' bisR_four ?kB ?kX ?kT ?kXB ?kTB ?kD ?kh ?kd ?ku ?kF ?kN ?kra ?kro ?kkv ?kl ?khi ?khv ?_ ?_; (case kB => assumption); (case kX => assumption); (case kT => assumption); (case kXB => assumption); (case kTB => assumption); (case kD => assumption); (case kh => rfl); (case kd => ((try dsimp only); omega)); (case ku => ((try dsimp only); omega)); (case kF => with_reducible assumption); (case kN => with_reducible assumption); (case kra => k_mem); (case kro => assumption); (case kkv => rfl); (case kl => omega); (case khi => assumption); (case khv => first | assumption | (have q := hv_app (by assumption) (by assumption); exact q) | (have q := hv_app (by assumption) rfl; exact q)))
    | ((with_reducible show wpAny _ _ (call (Value.ref 50) _ _) _ _ _); refine' bisL_four ?kB ?kX ?kT ?kXB ?kTB ?kD ?kh ?kd ?ku ?kF ?kN ?kra ?kro ?kkv ?kl ?khi ?khv ?_ ?_; (case kB => assumption); (case kX => assumption); (case kT => assumption); (case kXB => assumption); (case kTB => assumption); (case kD => assumption); (case kh => rfl); (case kd => ((try dsimp only); omega)); (case ku => ((try dsimp only); omega)); (case kF => with_reducible assumption); (case kN => with_reducible assumption); (case kra => k_mem); (case kro => assumption); (case kkv => rfl); (case kl => omega); (case khi => assumption); (case khv => first | assumption | (have q := hv_app (by assumption) (by assumption); exact q) | (have q := hv_app (by assumption) rfl; exact q))))
  k_with "call builtin:list.insert" => ((k_here; (with_reducible show wpAny _ _ (call (Value.builtin _) [Value.ref _, Value.int _ _, _]) _ _ _); refine' kl_insert ?F ?N ?f ?e (upd_of (by assumption)) ?z ?_; (case F => with_reducible assumption); (case N => with_reducible assumption); (case f => exact fits_bis (by assumption) (by assumption) (by omega) (by omega)); (case e => rfl); (case z => exact room_vs (by assumption) (by omega)); intro h' F' N'))
  k_with "M portC" => ((refine' port_val ?kB ?kX ?kT ?kXB ?kTB ?kD ?kh ?kd ?ku ?kF ?kN ?k6 ?kv ?krp ?_; (case kB => assumption); (case kX => assumption); (case kT => assumption); (case kXB => assumption); (case kTB => assumption); (case kD => assumption); (case kh => rfl); (case kd => ((try dsimp only); omega)); (case ku => ((try dsimp only); omega)); (case kF => with_reducible assumption); (case kN => with_reducible assumption); (case k6 => first | with_reducible assumption | exact getD_640 (by with_reducible assumption) _); (case kv => with_reducible assumption); (case krp => with_reducible assumption); intro g₂ e t t1 h' tk FF SS RR UU; k_steps))
  k_with "M bisC" => (first
    | (refine' bisR_val ?kB ?kX ?kT ?kXB ?kTB ?kD ?kh ?kd ?ku ?kF ?kN ?kra ?kS ?k6 ?krp ?kl ?khi ?kv ?_; (case kB => assumption); (case kX => assumption); (case kT => assumption); (case kXB => assumption); (case kTB => assumption); (case kD => assumption); (case kh => rfl); (case kd => ((try dsimp only); omega)); (case ku => ((try dsimp only); omega)); (case kF => with_reducible assumption); (case kN => with_reducible assumption); (case kra => k_mem); (case kS => with_reducible assumption); (case k6 => with_reducible assumption); (case krp => with_reducible assumption); (case kl => omega); (case khi => with_reducible assumption); (case kv => with_reducible assumption); intro g₂ e t t1 h' tk FF SS RR UU; k_steps)
    | (refine' bisL_val ?kB ?kX ?kT ?kXB ?kTB ?kD ?kh ?kd ?ku ?kF ?kN ?kra ?kS ?k6 ?krp ?kl ?khi ?kv ?_; (case kB => assumption); (case kX => assumption); (case kT => assumption); (case kXB => assumption); (case kTB => assumption); (case kD => assumption); (case kh => rfl); (case kd => ((try dsimp only); omega)); (case ku => ((try dsimp only); omega)); (case kF => with_reducible assumption); (case kN => with_reducible assumption); (case kra => k_mem); (case kS => with_reducible assumption); (case k6 => with_reducible assumption); (case krp => with_reducible assumption); (case kl => omega); (case khi => with_reducible assumption); (case kv => with_reducible assumption); intro g₂ e t t1 h' tk FF SS RR UU; k_steps))
  trivial
section
variable {w : World} {p : Program} {loose : List PStr} {mean : ExcName → Option Value} {mg mb : PStr → Option Value}
    {dp un : Nat} {gd : Option (List Code)} {cn : PStr} {cs : Scope} {a : Addr} {ccd : Value} {cl : List (PStr × Addr)} {outer : List Env} {A₀ : Around} {base h₀ : Heap} {L : Addr} {m : PStr → Option Value}
    {s : Shared} {Q E : Value → Shared → Prop} {news : Ldg}
    (B : Below A₀ base outer h₀) (X : (KK.heap_1 w.params).In h₀) (T : Top p loose mean mg mb h₀) (XB : (KK.heap_1 w.params).In base) (TB : Top p loose mean mg mb base) (D : KtsDicts (outer.filterMap (·.frame)) h₀) (hck : cs.kind = .function)
include B X T XB TB D hck

theorem insR_val {ra : Addr} {vs : List Value} {ys : List PStr} {ep : Nat} {n : Int} {xr : PStr} {lo : Nat} {hi : Nat} {hv : Value} {xt tl : Tok} {msg : PStr} (hd5 : dp + 30 < recursionLimit) (hu5 : un + 200 < cLine) (F : Fr h₀ L s.heap m) (N : News h₀ L s.heap news)
   (hra : (ra, lstOf vs ep) ∈ news) (hS : StrsAre vs ys) (h640 : ∀ y ∈ ys, y.length ≤ 640) (hrp : ∀ y ∈ ys, RepOk y) (hl : ys.length ≤ 1000) (hhi : HiIs hv hi ys.length) (hx640 : xr.length ≤ 640)
   (hkx : p229 xr = .ok n) (hval : bis true (fun i => p229 (ys.getD i PySem.Str.empty)) n (hi - lo) lo hi = .error (.value, msg))
   (hexc : ∀ g₂ e t t1 h' tk, Fr h₀ L g₂ m → RaisedS base g₂ (envX cn cs L a ccd cl :: outer) e (clsOf .value) t [.str msg t1] news h' → RaisedK base (envX cn cs L a ccd cl :: outer) e (clsOf .value) t [.str msg t1] news h' → g₂.UpToSlots h' → E (.ref e) { s with heap := h', toks := tk }) :
   wpC (model PySem.Challenge.rw_pm0034_03.row.prog w) (ktrTop dp un gd cn cs L a ccd cl outer) (call (.ref 23) [.ref ra, .str xr xt, .int (lo : Int) tl, hv] [(PySem.Str.ofString "key", .ref 108)]) Q E s := by
  walk_at "M fill"
  have hnv : ∀ msg, p229 xr ≠ .error (.value, msg) := fun msg c => by rw [hkx] at c; cases c
  walk_at "M enterC"
  refine execs_C ?_
  refine if_C ?_
  refine wpC_any ?_
  k_fold
  k_steps
  refine execs_C ?_
  refine assign_raises_C ?_
  refine call_name_KW_C ?_
  k_fold
  k_steps
  refine callWith_KW_C (by k_asm) (by k_is) rfl ?_
  k_fold
  k_steps
  rotate_left
  · (show E _ _); exact ok_err hkx (by assumption)
  (with_reducible rename p229 xr = Except.ok _ => hk1)
  obtain rfl := ok_inj (hkx.symm.trans hk1)
  walk_at "M bisC"
  (show E _ _)
  exact hexc _ _ _ _ _ _ (by assumption) (by assumption) (by assumption) (by assumption)
end
section
variable {w : World} {p : Program} {loose : List PStr} {mean : ExcName → Option Value} {mg mb : PStr → Option Value}
    {dp un : Nat} {gd : Option (List Code)} {cn : PStr} {cs : Scope} {a : Addr} {ccd : Value} {cl : List (PStr × Addr)} {outer : List Env} {A₀ : Around} {base h₀ : Heap} {L : Addr} {m : PStr → Option Value}
    {s : Shared} {Q E : Value → Shared → Prop} {news : Ldg}
    (B : Below A₀ base outer h₀) (X : (KK.heap_1 w.params).In h₀) (T : Top p loose mean mg mb h₀) (XB : (KK.heap_1 w.params).In base) (TB : Top p loose mean mg mb base) (D : KtsDicts (outer.filterMap (·.frame)) h₀) (hck : cs.kind = .function)
include B X T XB TB D hck

theorem insR_valx {ra : Addr} {xr : PStr} {lo : Nat} {hv : Value} {xt tl : Tok} {msg : PStr} (hd5 : dp + 30 < recursionLimit) (hu5 : un + 200 < cLine) (F : Fr h₀ L s.heap m) (N : News h₀ L s.heap news)
   (hx640 : xr.length ≤ 640) (hxrp : RepOk xr) (hkx : p229 xr = .error (.value, msg))
   (hexc : ∀ g₂ e t t1 h' tk, Fr h₀ L g₂ m → RaisedS base g₂ (envX cn cs L a ccd cl :: outer) e (clsOf .value) t [.str msg t1] news h' → RaisedK base (envX cn cs L a ccd cl :: outer) e (clsOf .value) t [.str msg t1] news h' → g₂.UpToSlots h' → E (.ref e) { s with heap := h', toks := tk }) :
   wpC (model PySem.Challenge.rw_pm0034_03.row.prog w) (ktrTop dp un gd cn cs L a ccd cl outer) (call (.ref 23) [.ref ra, .str xr xt, .int (lo : Int) tl, hv] [(PySem.Str.ofString "key", .ref 108)]) Q E s := by
  walk_at "M fill"
  walk_at "M enterC"
  refine execs_C ?_
  refine if_C ?_
  refine wpC_any ?_
  k_fold
  k_steps
  refine execs_C ?_
  refine assign_raises_C ?_
  refine call_name_KW_C ?_
  k_fold
  k_steps
  refine callWith_args_C ?_
  k_fold
  k_steps
  refine call_name_C ?_
  k_fold
  k_steps
  refine callWith_K_C (by k_asm) (by k_is) ?_
  k_fold
  k_steps
  walk_at "M portC"
  (show E _ _)
  exact hexc _ _ _ _ _ _ (by assumption) (by assumption) (by assumption) (by assumption)
end
section
variable {w : World} {p : Program} {loose : List PStr} {mean : ExcName → Option Value} {mg mb : PStr → Option Value}
    {dp un : Nat} {gd : Option (List Code)} {cn : PStr} {cs : Scope} {a : Addr} {ccd : Value} {cl : List (PStr × Addr)} {outer : List Env} {A₀ : Around} {base h₀ : Heap} {L : Addr} {m : PStr → Option Value}
    {s : Shared} {Q E : Value → Shared → Prop} {news : Ldg}
    (B : Below A₀ base outer h₀) (X : (KK.heap_1 w.params).In h₀) (T : Top p loose mean mg mb h₀) (XB : (KK.heap_1 w.params).In base) (TB : Top p loose mean mg mb base) (D : KtsDicts (outer.filterMap (·.frame)) h₀) (hck : cs.kind = .function)
include B X T XB TB D hck

theorem insL_val {ra : Addr} {vs : List Value} {ys : List PStr} {ep : Nat} {n : Int} {xr : PStr} {lo : Nat} {hi : Nat} {hv : Value} {xt tl : Tok} {msg : PStr} (hd5 : dp + 30 < recursionLimit) (hu5 : un + 200 < cLine) (F : Fr h₀ L s.heap m) (N : News h₀ L s.heap news)
   (hra : (ra, lstOf vs ep) ∈ news) (hS : StrsAre vs ys) (h640 : ∀ y ∈ ys, y.length ≤ 640) (hrp : ∀ y ∈ ys, RepOk y) (hl : ys.length ≤ 1000) (hhi : HiIs hv hi ys.length) (hx640 : xr.length ≤ 640)
   (hkx : p229 xr = .ok n) (hval : bis false (fun i => p229 (ys.getD i PySem.Str.empty)) n (hi - lo) lo hi = .error (.value, msg))
   (hexc : ∀ g₂ e t t1 h' tk, Fr h₀ L g₂ m → RaisedS base g₂ (envX cn cs L a ccd cl :: outer) e (clsOf .value) t [.str msg t1] news h' → RaisedK base (envX cn cs L a ccd cl :: outer) e (clsOf .value) t [.str msg t1] news h' → g₂.UpToSlots h' → E (.ref e) { s with heap := h', toks := tk }) :
   wpC (model PySem.Challenge.rw_pm0034_03.row.prog w) (ktrTop dp un gd cn cs L a ccd cl outer) (call (.ref 41) [.ref ra, .str xr xt, .int (lo : Int) tl, hv] [(PySem.Str.ofString "key", .ref 108)]) Q E s := by
  walk_at "M fill"
  have hnv : ∀ msg, p229 xr ≠ .error (.value, msg) := fun msg c => by rw [hkx] at c; cases c
  walk_at "M enterC"
  refine execs_C ?_
  refine if_C ?_
  refine wpC_any ?_
  k_fold
  k_steps
  refine execs_C ?_
  refine assign_raises_C ?_
  refine call_name_KW_C ?_
  k_fold
  k_steps
  refine callWith_KW_C (by k_asm) (by k_is) rfl ?_
  k_fold
  k_steps
  rotate_left
  · (show E _ _); exact ok_err hkx (by assumption)
  (with_reducible rename p229 xr = Except.ok _ => hk1)
  obtain rfl := ok_inj (hkx.symm.trans hk1)
  walk_at "M bisC"
  (show E _ _)
  exact hexc _ _ _ _ _ _ (by assumption) (by assumption) (by assumption) (by assumption)
end
section
variable {w : World} {p : Program} {loose : List PStr} {mean : ExcName → Option Value} {mg mb : PStr → Option Value}
    {dp un : Nat} {gd : Option (List Code)} {cn : PStr} {cs : Scope} {a : Addr} {ccd : Value} {cl : List (PStr × Addr)} {outer : List Env} {A₀ : Around} {base h₀ : Heap} {L : Addr} {m : PStr → Option Value}
    {s : Shared} {Q E : Value → Shared → Prop} {news : Ldg}
    (B : Below A₀ base outer h₀) (X : (KK.heap_1 w.params).In h₀) (T : Top p loose mean mg mb h₀) (XB : (KK.heap_1 w.params).In base) (TB : Top p loose mean mg mb base) (D : KtsDicts (outer.filterMap (·.frame)) h₀) (hck : cs.kind = .function)
include B X T XB TB D hck

theorem insL_valx {ra : Addr} {xr : PStr} {lo : Nat} {hv : Value} {xt tl : Tok} {msg : PStr} (hd5 : dp + 30 < recursionLimit) (hu5 : un + 200 < cLine) (F : Fr h₀ L s.heap m) (N : News h₀ L s.heap news)
   (hx640 : xr.length ≤ 640) (hxrp : RepOk xr) (hkx : p229 xr = .error (.value, msg))
   (hexc : ∀ g₂ e t t1 h' tk, Fr h₀ L g₂ m → RaisedS base g₂ (envX cn cs L a ccd cl :: outer) e (clsOf .value) t [.str msg t1] news h' → RaisedK base (envX cn cs L a ccd cl :: outer) e (clsOf .value) t [.str msg t1] news h' → g₂.UpToSlots h' → E (.ref e) { s with heap := h', toks := tk }) :
   wpC (model PySem.Challenge.rw_pm0034_03.row.prog w) (ktrTop dp un gd cn cs L a ccd cl outer) (call (.ref 41) [.ref ra, .str xr xt, .int (lo : Int) tl, hv] [(PySem.Str.ofString "key", .ref 108)]) Q E s := by
  walk_at "M fill"
  walk_at "M enterC"
  refine execs_C ?_
  refine if_C ?_
  refine wpC_any ?_
  k_fold
  k_steps
  refine execs_C ?_
  refine assign_raises_C ?_
  refine call_name_KW_C ?_
  k_fold
  k_steps
  refine callWith_args_C ?_
  k_fold
  k_steps
  refine call_name_C ?_
  k_fold
  k_steps
  refine callWith_K_C (by k_asm) (by k_is) ?_
  k_fold
  k_steps
  walk_at "M portC"
  (show E _ _)
  exact hexc _ _ _ _ _ _ (by assumption) (by assumption) (by assumption) (by assumption)
end
end Mine
end
section
open PySem PySem.W PyProof.Rows PySem.Spec PySem.Calls
set_option Elab.async false
set_option maxRecDepth 100000
set_option maxHeartbeats 8000000
set_option linter.all false
namespace Mine
local macro_rules | `(tactic| walk_at "M nothing") => `(tactic| skip)
local macro_rules | `(tactic| walk_at $s:str) => `(tactic| k_extra $s)
local macro_rules | `(tactic| omega) => `(tactic| first
  | with_reducible assumption
  | (refine' room1 ?rmh ?rme; (case rmh => with_reducible assumption); (case rme => with_unfolding_all rfl))
  | (refine' room0 ?rmh ?rme; (case rmh => with_reducible assumption); (case rme => with_unfolding_all rfl))
  | (refine' room2 ?rmh ?rme; (case rmh => with_reducible assumption); (case rme => with_unfolding_all rfl))
  | (refine' room00 ?rmh; (case rmh => with_reducible assumption))
  | (refine num_le ?rme; (case rme => with_unfolding_all rfl))
  | (refine num_lt ?rme; (case rme => with_unfolding_all rfl))
  | (refine' le_num ?rmh ?rme; (case rmh => with_reducible assumption); (case rme => with_unfolding_all rfl))
  | (refine' eq_num ?rmh ?rme; (case rmh => with_reducible assumption); (case rme => with_unfolding_all rfl))
  | omega (config := {}))
theorem lines_M3_0 : True := by
  k_with_none
  k_with "execs cons" => ((refine f_execs ?_; intro qk))
  k_with "eval BinOp" => ((refine f_BinOp ?_; intro qk))
  k_with "exec Assign" => ((refine f_Assign ?_; intro qk))
  k_with "eval Subscript" => ((refine f_Subscript ?_; intro qk))
  k_with "isTrue Compare" => ((refine f_Compare ?_; intro qk))
  k_with "exec If" => ((refine f_If ?_; intro qk))
  k_with "eval Call" => (((fail_if_success (with_reducible show wpAny _ _ (eval (Expr.Call (Expr.Attribute _ _ _) _ _ _) _) _ _ _)); refine f_Call ?_; intro qk))
  k_with "spliced" => ((refine f_args ?_; intro qk))
  k_with "callWith" => ((refine f_method1 ?_; intro qk))
  k_with "exec Return some" => ((refine f_Return ?_; intro qk))
  k_with "eval Tuple" => ((refine f_Tuple ?_; intro qk))
  k_with "eval List" => ((refine f_List ?_; intro qk))
  k_with "eval IfExp" => ((refine f_IfExp ?_; intro qk))
  k_with "storeName" => ((k_here; k_dflt (refine' f_store ?F ?N ?_ ?a ?b; (case F => k_asm); (case N => k_asm); (case a => rfl); (case b => rfl); k_whole; intro m' h' F' N'; (try k_sweep))))
  k_with "M map1" => (first
    | (refine map_same ?_; with_unfolding_all rfl)
    | ((repeat' (refine List.forall_mem_cons.mpr (And.intro ?_ ?_))); (all_goals first | rfl | exact List.forall_mem_nil _)))
  k_with "M map2" => (first
    | (refine SameOut.both (b := fun _ => none) ?_ ?_ <;> (repeat (refine SameOut.upd ?_ (by with_unfolding_all rfl))) <;> exact SameOut.lookup rfl)
    | (refine' SameOut.both (b := ?kb) ?k1 ?k2; (case k1 => ((repeat (refine SameOut.upd ?_ (by with_unfolding_all rfl))); exact SameOut.refl)); (case k2 => ((repeat (refine SameOut.upd ?_ (by with_unfolding_all rfl))); exact SameOut.refl)))
    | (refine' SameOut.both (b := ?kb) ?k1 ?k2; (case k2 => ((repeat (refine SameOut.upd ?_ (by with_unfolding_all rfl))); exact SameOut.refl)); (case k1 => ((repeat (refine SameOut.skip ?_)); (repeat (refine SameOut.upd ?_ (by with_unfolding_all rfl))); exact SameOut.refl)))
    | (intro y hy; (repeat (refine (if_neg (ne_of_out hy (by with_unfolding_all rfl))).trans ?_)); (refine Eq.symm ?_); (repeat (refine (if_neg (ne_of_out hy (by with_unfolding_all rfl))).trans ?_)); first | rfl | exact lookup_out rfl hy | exact (lookup_out rfl hy).symm | exact (lookup_out rfl hy).trans (lookup_out rfl hy).symm))
  k_with "M fill" => ((
    have kk : PySem.Challenge.rw_pm0034_03 = PySem.Challenge.rw_pm0034_03 ∧ KK.heap_1 = KK.heap_1 := ⟨rfl, rfl⟩
    revert kk
    k_fill
    intro kk
    clear kk))
  k_with "M enter" => ((
    refine wpAny_call ?_
    k_dflt (refine' code_def ?k1 ?k2 ?k3 ?k4 ?k5 ?kA ?kF ?kK ?k6 ?k7 ?k8 ?k9 ?kB ?_ ?c2 ?c3 ?c4 ?c5; (case kA => exact rfl); (case kF => exact rfl); (case kK => assumption); (case k1 => k_asm); (case k2 => k_asm); (case k3 => k_asm); (case k4 => k_asm); (case k5 => k_asm); (case k6 => k_is); (case k7 => k_is); (case k8 => ((try dsimp only); omega)); (case k9 => first | exact BindsTo.of_eq rfl | (refine' kp_binds ?kx ?ke; (case kx => first | (refine' myIn ?kf ?ki; (case kf => with_reducible assumption); (case ki => with_reducible assumption)) | k_in); (case ke => exact fun _ => rfl)) | exact binds_K (by first | (refine' myIn ?kf ?ki; (case kf => with_reducible assumption); (case ki => with_reducible assumption)) | k_in) rfl (by k_is) rfl rfl rfl); (case c5 => decide); (case kB => exact locs rfl); (case c2 => exact rfl); (case c3 => exact rfl); (case c4 => exact rfl); k_whole; intro g' L' h' FG' F' N' B' X' T'; (have D' := kts_dict B' (by assumption) FG' rfl); (try dsimp only); (try k_lift B'); (refine let_AE (f := execs _) ?_; intro vk ak); (refine f_QE ?_; intro qk ek))))
  k_with "M enter0" => ((
    refine wpAny_call ?_
    k_dflt (refine' code_defS0X ?k1 ?k2 ?k3 ?k4 ?k5 ?kA ?kF ?kK ?k6 ?k7 ?k8 ?k9 ?kB ?_ ?c2 ?c3 ?c4 ?c5; (case kA => exact rfl); (case kF => exact rfl); (case kK => assumption); (case k1 => k_asm); (case k2 => k_asm); (case k3 => k_asm); (case k4 => k_asm); (case k5 => k_asm); (case k6 => k_is); (case k7 => k_is); (case k8 => ((try dsimp only); omega)); (case k9 => first | exact BindsTo.of_eq rfl | (refine' kp_binds ?kx ?ke; (case kx => first | (refine' myIn ?kf ?ki; (case kf => with_reducible assumption); (case ki => with_reducible assumption)) | k_in); (case ke => exact fun _ => rfl)) | exact binds_K (by first | (refine' myIn ?kf ?ki; (case kf => with_reducible assumption); (case ki => with_reducible assumption)) | k_in) rfl (by k_is) rfl rfl rfl); (case c5 => decide); (case kB => exact locs rfl); (case c2 => exact rfl); (case c3 => exact rfl); (case c4 => exact rfl); k_whole; intro g' L' h' FG' F' N' B' X' T' D'; (try dsimp only); (try k_lift B'); (refine let_AE (f := execs _) ?_; intro vk ak); (refine f_QE ?_; intro qk ek))))
  trivial
local macro_rules | `(tactic| k_mem) => `(tactic| first | with_reducible assumption | (refine mem_in ?_; with_reducible assumption))
theorem lines_M3_1 : True := by
  k_with "subscriptTail Name Constant ref int" => ((k_here; refine item_tupleT (News.isTup (by assumption) (by k_mem)) (by decide) (by decide) (by rfl) (by rfl) ?_))
  k_with "subscriptTail Name Constant ref int" => ((k_here; (with_reducible rename StrsAre _ _ => hSA); refine item_strsA (News.isList (by assumption) (by k_mem)) hSA (by decide) (by first | omega | (simp only [List.length_map]; omega)) (by decide) ?_; intro t'))
  k_with "call type:ValueError" => ((refine call_ValueError_made ?_; intro _ _ _))
  k_with "exec While Compare Name cons nil" => (refine Hold.mk ?_)
  k_with "exec While Compare" => (refine Hold.mk ?_)
  k_with "exec While Compare cons nil" => (refine Hold.mk ?_)
  k_with "exec While" => (refine Hold.mk ?_)
  k_with "binaryOp FloorDiv int int" => ((k_here; (with_reducible refine floordiv_pos ?kb1 ?kb2 ?_); (case kb1 => decide); (case kb2 => decide +kernel)))
  k_with "WhlIf" => ((refine whlIf_dec ?_ ?_ <;> intro _))
  k_with "subscriptTail Name Name ref int" => ((k_here; first
    | ((with_reducible rename StrsAre _ _ => hSA); refine item_strsA (News.isList (by assumption) (by k_mem)) hSA (by omega) (by omega) (by omega) ?_; intro t')
    | ((with_reducible rename IntsAre _ _ => hSA); refine item_intsA (News.isList (by assumption) (by k_mem)) hSA (by omega) (by omega) (by omega) ?_; intro t')))
  k_with "call builtin:len" => ((k_here; (with_reducible show wpAny _ _ (call (Value.builtin "len") [Value.ref _]) _ _ _); first
    | ((with_reducible rename StrsAre _ _ => hSA); refine len_strsA (News.isList (by assumption) (by k_mem)) hSA (by omega) ?_)
    | ((with_reducible rename IntsAre _ _ => hSA); refine len_intsA (News.isList (by assumption) (by k_mem)) hSA (by omega) ?_)))
  k_with "M enterC" => ((
    refine wpC_call ?_
    k_dflt (refine' code_def_C ?k1 ?k2 ?k3 ?k4 ?k5 ?kA ?kF ?kK ?k6 ?k7 ?k8 ?k9 ?kB ?_ ?c2 ?c3 ?c4 ?c5; (case kA => exact rfl); (case kF => exact rfl); (case kK => assumption); (case k1 => k_asm); (case k2 => k_asm); (case k3 => k_asm); (case k4 => k_asm); (case k5 => k_asm); (case k6 => k_is); (case k7 => k_is); (case k8 => ((try dsimp only); omega)); (case k9 => first | exact BindsTo.of_eq rfl | (refine' kp_binds ?kx ?ke; (case kx => first | (refine' myIn ?kf ?ki; (case kf => with_reducible assumption); (case ki => with_reducible assumption)) | k_in); (case ke => exact fun _ => rfl)) | exact binds_K (by first | (refine' myIn ?kf ?ki; (case kf => with_reducible assumption); (case ki => with_reducible assumption)) | k_in) rfl (by k_is) rfl rfl rfl); (case c5 => decide); (case kB => exact locs rfl); (case c2 => exact rfl); (case c3 => exact rfl); (case c4 => exact rfl); k_whole; intro g' L' h' FG' F' N' B' X' T'; (have D' := kts_dict B' (by assumption) FG' rfl); (try dsimp only); (try k_lift B'))))
  k_with "M enter0C" => ((
    refine wpC_call ?_
    k_dflt (refine' code_defS0_C ?k1 ?k2 ?k3 ?k4 ?k5 ?kA ?kF ?kK ?k6 ?k7 ?k8 ?k9 ?kB ?_ ?c2 ?c3 ?c4 ?c5; (case kA => exact rfl); (case kF => exact rfl); (case kK => assumption); (case k1 => k_asm); (case k2 => k_asm); (case k3 => k_asm); (case k4 => k_asm); (case k5 => k_asm); (case k6 => k_is); (case k7 => k_is); (case k8 => ((try dsimp only); omega)); (case k9 => first | exact BindsTo.of_eq rfl | (refine' kp_binds ?kx ?ke; (case kx => first | (refine' myIn ?kf ?ki; (case kf => with_reducible assumption); (case ki => with_reducible assumption)) | k_in); (case ke => exact fun _ => rfl)) | exact binds_K (by first | (refine' myIn ?kf ?ki; (case kf => with_reducible assumption); (case ki => with_reducible assumption)) | k_in) rfl (by k_is) rfl rfl rfl); (case c5 => decide); (case kB => exact locs rfl); (case c2 => exact rfl); (case c3 => exact rfl); (case c4 => exact rfl); k_whole; intro g' L' h' FG' F' N' B' X' T' D'; (try dsimp only); (try k_lift B'))))
  k_with "call ref" => (((with_reducible show wpAny _ _ (call (Value.ref 108) _) _ _ _); refine' port_spec ?kB ?kX ?kT ?kXB ?kTB ?kD ?kh ?kd ?ku ?kF ?kN ?k6 ?kv ?_ ?_; (case kB => assumption); (case kX => assumption); (case kT => assumption); (case kXB => assumption); (case kTB => assumption); (case kD => assumption); (case kh => rfl); (case kd => ((try dsimp only); omega)); (case ku => ((try dsimp only); omega)); (case kF => with_reducible assumption); (case kN => with_reducible assumption); (case k6 => first | exact getD_640 (by assumption) _ | assumption); (case kv => first | assumption | (have q := bis_nv (by assumption) (by assumption) (by assumption); exact q) | (have q := bis_nv ((by assumption : 0 ≤ _ → ∀ msg, _ ≠ _) (by omega)) (by assumption) (by assumption); exact q))))
  k_with "call ref" => (first
    | focus ((with_reducible show wpAny _ _ (call (Value.ref 32) _ _) _ _ _); refine' bisR_full ?kB ?kX ?kT ?kXB ?kTB ?kD ?kh ?kd ?ku ?kF ?kN ?kra ?kro ?kl ?khi ?khv ?_ ?_; (case kB => assumption); (case kX => assumption); (case kT => assumption); (case kXB => assumption); (case kTB => assumption); (case kD => assumption); (case kh => rfl); (case kd => ((try dsimp only); omega)); (case ku => ((try dsimp only); omega)); (case kF => with_reducible assumption); (case kN => with_reducible assumption); (case kra => k_mem); (case kro => assumption); (case kl => omega); (case khi => assumption); (case khv => first | assumption | (have q := hv_app (by assumption) (by assumption); exact q) | (have q := hv_app (by assumption) rfl; exact q)); rotate_left; (intro ek _ _ _ _ _ _ _ hb; have hz := bisZ_err_len (by assumption) hb; cases ek <;> dsimp only [clsOf]))
    | focus ((with_reducible show wpAny _ _ (call (Value.ref 50) _ _) _ _ _); refine' bisL_full ?kB ?kX ?kT ?kXB ?kTB ?kD ?kh ?kd ?ku ?kF ?kN ?kra ?kro ?kl ?khi ?khv ?_ ?_; (case kB => assumption); (case kX => assumption); (case kT => assumption); (case kXB => assumption); (case kTB => assumption); (case kD => assumption); (case kh => rfl); (case kd => ((try dsimp only); omega)); (case ku => ((try dsimp only); omega)); (case kF => with_reducible assumption); (case kN => with_reducible assumption); (case kra => k_mem); (case kro => assumption); (case kl => omega); (case khi => assumption); (case khv => first | assumption | (have q := hv_app (by assumption) (by assumption); exact q) | (have q := hv_app (by assumption) rfl; exact q)); rotate_left; (intro ek _ _ _ _ _ _ _ hb; have hz := bisZ_err_len (by assumption) hb; cases ek <;> dsimp only [clsOf]))
    | focus ((with_reducible show wpAny _ _ (call (Value.ref 32) _ _) _ _ _); refine' bisR_four ?kB ?kX ?kT ?kXB ?kTB ?kD ?kh ?kd ?ku ?kF ?kN ?kra ?kro ?kkv ?kl ?khi ?khv ?_ ?_; (case kB => assumption); (case kX => assumption); (case kT => assumption); (case kXB => assumption); (case kTB => assumption); (case kD => assumption); (case kh => rfl); (case kd => ((try dsimp only); omega)); (case ku => ((try dsimp only); omega)); (case kF => with_reducible assumption); (case kN => with_reducible assumption); (case kra => k_mem); (case kro => assumption); (case kkv => rfl); (case kl => omega); (case khi => assumption); (case khv => first | assumption | (have q := hv_app (by assumption) (by assumption); exact q) | (have q := hv_app (by assumption) rfl; exact q)); rotate_left; (intro ek _ _ _ _ _ _ _ hb; have hz := bisZ_err_len (by assumption) hb; cases ek <;> dsimp only [clsOf]))
    | focus ((with_reducible show wpAny _ _ (call (Value.ref 50) _ _) _ _ _); refine' bisL_four ?kB ?kX ?kT ?kXB ?kTB ?kD ?kh ?kd ?ku ?kF ?kN ?kra ?kro ?kkv ?kl ?khi ?khv ?_ ?_; (case kB => assumption); (case kX => assumption); (case kT => assumption); (case kXB => assumption); (case kTB => assumption); (case kD => assumption); (case kh => rfl); (case kd => ((try dsimp only); omega)); (case ku => ((try dsimp only); omega)); (case kF => with_reducible assumption); (case kN => with_reducible assumption); (case kra => k_mem); (case kro => assumption); (case kkv => rfl); (case kl => omega); (case khi => assumption); (case khv => first | assumption | (have q := hv_app (by assumption) (by assumption); exact q) | (have q := hv_app (by assumption) rfl; exact q)); rotate_left; (intro ek _ _ _ _ _ _ _ hb; have hz := bisZ_err_len (by assumption) hb; cases ek <;> dsimp only [clsOf])))
  k_with "call ref" => (first
    | focus ((with_reducible show wpAny _ _ (call (Value.ref 23) _ _) _ _ _); refine' insR ?kB ?kX ?kT ?kXB ?kTB ?kD ?kh ?kd ?ku ?kF ?kN ?kU ?kro ?kx ?kl ?klo ?khi ?kxv ?khv ?_ ?_; (case kB => assumption); (case kX => assumption); (case kT => assumption); (case kXB => assumption); (case kTB => assumption); (case kD => assumption); (case kh => rfl); (case kd => ((try dsimp only); omega)); (case ku => ((try dsimp only); omega)); (case kF => with_reducible assumption); (case kN => with_reducible assumption); (case kU => assumption); (case kro => assumption); (case kx => assumption); (case kl => omega); (case klo => omega); (case khi => assumption); (case kxv => assumption); (case khv => assumption); rotate_left; (intro ek _ _ _ _ _ _ _ hb; have hz := insZ_err_len (by assumption) (by assumption) hb; cases ek <;> dsimp only [clsOf]))
    | focus ((with_reducible show wpAny _ _ (call (Value.ref 41) _ _) _ _ _); refine' insL ?kB ?kX ?kT ?kXB ?kTB ?kD ?kh ?kd ?ku ?kF ?kN ?kU ?kro ?kx ?kl ?klo ?khi ?kxv ?khv ?_ ?_; (case kB => assumption); (case kX => assumption); (case kT => assumption); (case kXB => assumption); (case kTB => assumption); (case kD => assumption); (case kh => rfl); (case kd => ((try dsimp only); omega)); (case ku => ((try dsimp only); omega)); (case kF => with_reducible assumption); (case kN => with_reducible assumption); (case kU => assumption); (case kro => assumption); (case kx => assumption); (case kl => omega); (case klo => omega); (case khi => assumption); (case kxv => assumption); (case khv => assumption); rotate_left; (intro ek _ _ _ _ _ _ _ hb; have hz := insZ_err_len (by assumption) (by assumption) hb; cases ek <;> dsimp only [clsOf])))
  k_with "call type:str" => ((k_here; (with_reducible show wpAny _ _ (call (Value.type "str") [Value.ref _]) _ _ _); refine' str_own ?U ?X ?N ?G ?hs ?hm ?_; (case G => assumption); (case N => assumption); (case U => first | units_room | k_room | ((try dsimp only); omega)); (case X => first | (refine' myIn ?kf ?ki; (case kf => with_reducible assumption); (case ki => with_reducible assumption)) | k_in); (case hs => k_is); (case hm => k_is)))
  k_with "M bisC" => (first
    | (refine' bisR_val ?kB ?kX ?kT ?kXB ?kTB ?kD ?kh ?kd ?ku ?kF ?kN ?kra ?kS ?k6 ?krp ?kl ?khi ?kv ?_; (case kB => assumption); (case kX => assumption); (case kT => assumption); (case kXB => assumption); (case kTB => assumption); (case kD => assumption); (case kh => rfl); (case kd => ((try dsimp only); omega)); (case ku => ((try dsimp only); omega)); (case kF => with_reducible assumption); (case kN => with_reducible assumption); (case kra => k_mem); (case kS => with_reducible assumption); (case k6 => with_reducible assumption); (case krp => with_reducible assumption); (case kl => omega); (case khi => with_reducible assumption); (case kv => with_reducible assumption); intro g₂ e t t1 h' tk FF SS RR UU; k_steps)
    | (refine' bisL_val ?kB ?kX ?kT ?kXB ?kTB ?kD ?kh ?kd ?ku ?kF ?kN ?kra ?kS ?k6 ?krp ?kl ?khi ?kv ?_; (case kB => assumption); (case kX => assumption); (case kT => assumption); (case kXB => assumption); (case kTB => assumption); (case kD => assumption); (case kh => rfl); (case kd => ((try dsimp only); omega)); (case ku => ((try dsimp only); omega)); (case kF => with_reducible assumption); (case kN => with_reducible assumption); (case kra => k_mem); (case kS => with_reducible assumption); (case k6 => with_reducible assumption); (case krp => with_reducible assumption); (case kl => omega); (case khi => with_reducible assumption); (case kv => with_reducible assumption); intro g₂ e t t1 h' tk FF SS RR UU; k_steps))
  k_with "M insC" => (first
    | (refine' insR_val ?kB ?kX ?kT ?kXB ?kTB ?kD ?kh ?kd ?ku ?kF ?kN ?kra ?kS ?k6 ?krp ?kl ?khi ?kx6 ?kkx ?kv ?_; (case kB => assumption); (case kX => assumption); (case kT => assumption); (case kXB => assumption); (case kTB => assumption); (case kD => assumption); (case kh => rfl); (case kd => ((try dsimp only); omega)); (case ku => ((try dsimp only); omega)); (case kF => with_reducible assumption); (case kN => with_reducible assumption); (case kra => k_mem); (case kS => with_reducible assumption); (case k6 => with_reducible assumption); (case krp => with_reducible assumption); (case kl => omega); (case khi => with_reducible assumption); (case kx6 => with_reducible assumption); (case kkx => with_reducible assumption); (case kv => with_reducible assumption); intro g₂ e t t1 h' tk FF SS RR UU; k_steps)
    | (refine' insR_valx ?kB ?kX ?kT ?kXB ?kTB ?kD ?kh ?kd ?ku ?kF ?kN ?kx6 ?krp ?kkx ?_; (case kB => assumption); (case kX => assumption); (case kT => assumption); (case kXB => assumption); (case kTB => assumption); (case kD => assumption); (case kh => rfl); (case kd => ((try dsimp only); omega)); (case ku => ((try dsimp only); omega)); (case kF => with_reducible assumption); (case kN => with_reducible assumption); (case krp => with_reducible assumption); (case kx6 => with_reducible assumption); (case kkx => with_reducible assumption); intro g₂ e t t1 h' tk FF SS RR UU; k_steps)
    | (refine' insL_val ?kB ?kX ?kT ?kXB ?kTB ?kD ?kh ?kd ?ku ?kF ?kN ?kra ?kS ?k6 ?krp ?kl ?khi ?kx6 ?kkx ?kv ?_; (case kB => assumption); (case kX => assumption); (case kT => assumption); (case kXB => assumption); (case kTB => assumption); (case kD => assumption); (case kh => rfl); (case kd => ((try dsimp only); omega)); (case ku => ((try dsimp only); omega)); (case kF => with_reducible assumption); (case kN => with_reducible assumption); (case kra => k_mem); (case kS => with_reducible assumption); (case k6 => with_reducible assumption); (case krp => with_reducible assumption); (case kl => omega); (case khi => with_reducible assumption); (case kx6 => with_reducible assumption); (case kkx => with_reducible assumption); (case kv => with_reducible assumption); intro g₂ e t t1 h' tk FF SS RR UU; k_steps)
    | (refine' insL_valx ?kB ?kX ?kT ?kXB ?kTB ?kD ?kh ?kd ?ku ?kF ?kN ?kx6 ?krp ?kkx ?_; (case kB => assumption); (case kX => assumption); (case kT => assumption); (case kXB => assumption); (case kTB => assumption); (case kD => assumption); (case kh => rfl); (case kd => ((try dsimp only); omega)); (case ku => ((try dsimp only); omega)); (case kF => with_reducible assumption); (case kN => with_reducible assumption); (case krp => with_reducible assumption); (case kx6 => with_reducible assumption); (case kkx => with_reducible assumption); intro g₂ e t t1 h' tk FF SS RR UU; k_steps))
  trivial
section
variable {w : World} {p : Program} {loose : List PStr} {mean : ExcName → Option Value} {mg mb : PStr → Option Value}
    {dp un : Nat} {gd : Option (List Code)} {cn : PStr} {cs : Scope} {a : Addr} {ccd : Value} {cl : List (PStr × Addr)} {A₀ : Around} {base h₀ : Heap} {L : Addr} {m : PStr → Option Value}
    {s : Shared} {Q E : Value → Shared → Prop} {news : Ldg}
    (B : Below A₀ base [] h₀) (X : (KK.heap_1 w.params).In h₀) (T : Top p loose mean mg mb h₀) (XB : (KK.heap_1 w.params).In base) (TB : Top p loose mean mg mb base) (hck : cs.kind = .function)
include B X T XB TB hck

theorem told_val0 {ra : Addr} {vs : List Value} {ys : List PStr} {ep : Nat} {x : Int} {lo hi : Nat} {hv : Value} {tw tx tl : Tok} {msg : PStr} (hd5 : dp + 40 < recursionLimit) (hu5 : un + 300 < cLine) (F : Fr h₀ L s.heap m) (N : News h₀ L s.heap news)
   (hra : (ra, lstOf vs ep) ∈ news) (hS : StrsAre vs ys) (h640 : ∀ y ∈ ys, y.length ≤ 640) (hrp : ∀ y ∈ ys, RepOk y) (hl : ys.length ≤ 1000) (hhi : HiIs hv hi ys.length)
   (hval : bis false (fun i => p229 (ys.getD i PySem.Str.empty)) x (hi - lo) lo hi = .error (.value, msg))
   (hexc : ∀ t h' tk, Fr h₀ L h' m → News h₀ L h' news → Q (.str (toldTxt .value msg) t) { s with heap := h', toks := tk }) :
   wpC (model PySem.Challenge.rw_pm0034_03.row.prog w) (ktrTop dp un gd cn cs L a ccd cl []) (call (.ref 115) [.int 0 tw, .ref ra, .int x tx, .int (lo : Int) tl, hv, .ref 108]) Q E s := by
  walk_at "M fill"
  have hz := bis_err_len hval h640
  walk_at "M enter0C"
  refine execs_C ?_
  refine try_C ?_
  refine execs_C ?_
  refine if_C ?_
  refine wpC_any ?_
  k_fold
  k_steps
  refine execs_C ?_
  refine return_C ?_
  refine list_raises_C ?_
  refine ifExp_C ?_
  refine wpC_any ?_
  k_fold
  k_steps
  refine call_name_KW_C ?_
  k_fold
  k_steps
  refine callWith_KW_C (by k_asm) (by k_is) rfl ?_
  k_fold
  k_steps
  walk_at "M bisC"
  (show Q (Value.str (toldTxt .value _) _) _)
  exact hexc _ _ _ (by assumption) (by assumption)
end
section
variable {w : World} {p : Program} {loose : List PStr} {mean : ExcName → Option Value} {mg mb : PStr → Option Value}
    {dp un : Nat} {gd : Option (List Code)} {cn : PStr} {cs : Scope} {a : Addr} {ccd : Value} {cl : List (PStr × Addr)} {A₀ : Around} {base h₀ : Heap} {L : Addr} {m : PStr → Option Value}
    {s : Shared} {Q E : Value → Shared → Prop} {news : Ldg}
    (B : Below A₀ base [] h₀) (X : (KK.heap_1 w.params).In h₀) (T : Top p loose mean mg mb h₀) (XB : (KK.heap_1 w.params).In base) (TB : Top p loose mean mg mb base) (hck : cs.kind = .function)
include B X T XB TB hck

theorem told_val1 {ra : Addr} {vs : List Value} {ys : List PStr} {ep : Nat} {x : Int} {lo hi : Nat} {hv : Value} {tw tx tl : Tok} {msg : PStr} (hd5 : dp + 40 < recursionLimit) (hu5 : un + 300 < cLine) (F : Fr h₀ L s.heap m) (N : News h₀ L s.heap news)
   (hra : (ra, lstOf vs ep) ∈ news) (hS : StrsAre vs ys) (h640 : ∀ y ∈ ys, y.length ≤ 640) (hrp : ∀ y ∈ ys, RepOk y) (hl : ys.length ≤ 1000) (hhi : HiIs hv hi ys.length)
   (hval : bis true (fun i => p229 (ys.getD i PySem.Str.empty)) x (hi - lo) lo hi = .error (.value, msg))
   (hexc : ∀ t h' tk, Fr h₀ L h' m → News h₀ L h' news → Q (.str (toldTxt .value msg) t) { s with heap := h', toks := tk }) :
   wpC (model PySem.Challenge.rw_pm0034_03.row.prog w) (ktrTop dp un gd cn cs L a ccd cl []) (call (.ref 115) [.int 1 tw, .ref ra, .int x tx, .int (lo : Int) tl, hv, .ref 108]) Q E s := by
  walk_at "M fill"
  have hz := bis_err_len hval h640
  walk_at "M enter0C"
  refine execs_C ?_
  refine try_C ?_
  refine execs_C ?_
  refine if_C ?_
  refine wpC_any ?_
  k_fold
  k_steps
  refine execs_C ?_
  refine return_C ?_
  refine list_raises_C ?_
  refine ifExp_C ?_
  refine wpC_any ?_
  k_fold
  k_steps
  refine call_name_KW_C ?_
  k_fold
  k_steps
  refine callWith_KW_C (by k_asm) (by k_is) rfl ?_
  k_fold
  k_steps
  walk_at "M bisC"
  (show Q (Value.str (toldTxt .value _) _) _)
  exact hexc _ _ _ (by assumption) (by assumption)
end
section
variable {w : World} {p : Program} {loose : List PStr} {mean : ExcName → Option Value} {mg mb : PStr → Option Value}
    {dp un : Nat} {gd : Option (List Code)} {cn : PStr} {cs : Scope} {a : Addr} {ccd : Value} {cl : List (PStr × Addr)} {A₀ : Around} {base h₀ : Heap} {L : Addr} {m : PStr → Option Value}
    {s : Shared} {Q E : Value → Shared → Prop} {news : Ldg}
    (B : Below A₀ base [] h₀) (X : (KK.heap_1 w.params).In h₀) (T : Top p loose mean mg mb h₀) (XB : (KK.heap_1 w.params).In base) (TB : Top p loose mean mg mb base) (hck : cs.kind = .function)
include B X T XB TB hck

theorem told_val2 {ra : Addr} {vs : List Value} {ys : List PStr} {ep : Nat} {n : Int} {xr : PStr} {lo hi : Nat} {hv : Value} {tw xt tl : Tok} {msg : PStr} (hd5 : dp + 40 < recursionLimit) (hu5 : un + 300 < cLine) (F : Fr h₀ L s.heap m) (N : News h₀ L s.heap news)
   (hra : (ra, lstOf vs ep) ∈ news) (hS : StrsAre vs ys) (h640 : ∀ y ∈ ys, y.length ≤ 640) (hrp : ∀ y ∈ ys, RepOk y) (hl : ys.length ≤ 1000) (hhi : HiIs hv hi ys.length) (hx640 : xr.length ≤ 640)
   (hkx : p229 xr = .ok n) (hval : bis false (fun i => p229 (ys.getD i PySem.Str.empty)) n (hi - lo) lo hi = .error (.value, msg))
   (hexc : ∀ t h' tk, Fr h₀ L h' m → News h₀ L h' news → Q (.str (toldTxt .value msg) t) { s with heap := h', toks := tk }) :
   wpC (model PySem.Challenge.rw_pm0034_03.row.prog w) (ktrTop dp un gd cn cs L a ccd cl []) (call (.ref 115) [.int 2 tw, .ref ra, .str xr xt, .int (lo : Int) tl, hv, .ref 108]) Q E s := by
  walk_at "M fill"
  have hz := bis_err_len hval h640
  walk_at "M enter0C"
  refine execs_C ?_
  refine try_C ?_
  refine execs_C ?_
  refine if_C ?_
  refine wpC_any ?_
  k_fold
  k_steps
  refine wpC_any (wpAny_execs_nil ?_)
  refine execs_C ?_
  refine return_C ?_
  refine list_raises_C ?_
  refine ifExp_C ?_
  refine wpC_any ?_
  k_fold
  k_steps
  refine call_name_KW_C ?_
  k_fold
  k_steps
  refine callWith_KW_C (by k_asm) (by k_is) rfl ?_
  k_fold
  k_steps
  walk_at "M insC"
  (show Q (Value.str (toldTxt .value _) _) _)
  exact hexc _ _ _ (by assumption) (by assumption)
end
section
variable {w : World} {p : Program} {loose : List PStr} {mean : ExcName → Option Value} {mg mb : PStr → Option Value}
    {dp un : Nat} {gd : Option (List Code)} {cn : PStr} {cs : Scope} {a : Addr} {ccd : Value} {cl : List (PStr × Addr)} {A₀ : Around} {base h₀ : Heap} {L : Addr} {m : PStr → Option Value}
    {s : Shared} {Q E : Value → Shared → Prop} {news : Ldg}
    (B : Below A₀ base [] h₀) (X : (KK.heap_1 w.params).In h₀) (T : Top p loose mean mg mb h₀) (XB : (KK.heap_1 w.params).In base) (TB : Top p loose mean mg mb base) (hck : cs.kind = .function)
include B X T XB TB hck

theorem told_val2x {ra : Addr} {xr : PStr} {lo : Nat} {hv : Value} {tw xt tl : Tok} {msg : PStr} (hd5 : dp + 40 < recursionLimit) (hu5 : un + 300 < cLine) (F : Fr h₀ L s.heap m) (N : News h₀ L s.heap news)
   (hx640 : xr.length ≤ 640) (hxrp : RepOk xr) (hkx : p229 xr = .error (.value, msg))
   (hexc : ∀ t h' tk, Fr h₀ L h' m → News h₀ L h' news → Q (.str (toldTxt .value msg) t) { s with heap := h', toks := tk }) :
   wpC (model PySem.Challenge.rw_pm0034_03.row.prog w) (ktrTop dp un gd cn cs L a ccd cl []) (call (.ref 115) [.int 2 tw, .ref ra, .str xr xt, .int (lo : Int) tl, hv, .ref 108]) Q E s := by
  walk_at "M fill"
  have hz := p229_err_len hkx hx640
  walk_at "M enter0C"
  refine execs_C ?_
  refine try_C ?_
  refine execs_C ?_
  refine if_C ?_
  refine wpC_any ?_
  k_fold
  k_steps
  refine wpC_any (wpAny_execs_nil ?_)
  refine execs_C ?_
  refine return_C ?_
  refine list_raises_C ?_
  refine ifExp_C ?_
  refine wpC_any ?_
  k_fold
  k_steps
  refine call_name_KW_C ?_
  k_fold
  k_steps
  refine callWith_KW_C (by k_asm) (by k_is) rfl ?_
  k_fold
  k_steps
  walk_at "M insC"
  (show Q (Value.str (toldTxt .value _) _) _)
  exact hexc _ _ _ (by assumption) (by assumption)
end
section
variable {w : World} {p : Program} {loose : List PStr} {mean : ExcName → Option Value} {mg mb : PStr → Option Value}
    {dp un : Nat} {gd : Option (List Code)} {cn : PStr} {cs : Scope} {a : Addr} {ccd : Value} {cl : List (PStr × Addr)} {A₀ : Around} {base h₀ : Heap} {L : Addr} {m : PStr → Option Value}
    {s : Shared} {Q E : Value → Shared → Prop} {news : Ldg}
    (B : Below A₀ base [] h₀) (X : (KK.heap_1 w.params).In h₀) (T : Top p loose mean mg mb h₀) (XB : (KK.heap_1 w.params).In base) (TB : Top p loose mean mg mb base) (hck : cs.kind = .function)
include B X T XB TB hck

theorem told_val3 {ra : Addr} {vs : List Value} {ys : List PStr} {ep : Nat} {n : Int} {xr : PStr} {lo hi : Nat} {hv : Value} {tw xt tl : Tok} {msg : PStr} (hd5 : dp + 40 < recursionLimit) (hu5 : un + 300 < cLine) (F : Fr h₀ L s.heap m) (N : News h₀ L s.heap news)
   (hra : (ra, lstOf vs ep) ∈ news) (hS : StrsAre vs ys) (h640 : ∀ y ∈ ys, y.length ≤ 640) (hrp : ∀ y ∈ ys, RepOk y) (hl : ys.length ≤ 1000) (hhi : HiIs hv hi ys.length) (hx640 : xr.length ≤ 640)
   (hkx : p229 xr = .ok n) (hval : bis true (fun i => p229 (ys.getD i PySem.Str.empty)) n (hi - lo) lo hi = .error (.value, msg))
   (hexc : ∀ t h' tk, Fr h₀ L h' m → News h₀ L h' news → Q (.str (toldTxt .value msg) t) { s with heap := h', toks := tk }) :
   wpC (model PySem.Challenge.rw_pm0034_03.row.prog w) (ktrTop dp un gd cn cs L a ccd cl []) (call (.ref 115) [.int 3 tw, .ref ra, .str xr xt, .int (lo : Int) tl, hv, .ref 108]) Q E s := by
  walk_at "M fill"
  have hz := bis_err_len hval h640
  walk_at "M enter0C"
  refine execs_C ?_
  refine try_C ?_
  refine execs_C ?_
  refine if_C ?_
  refine wpC_any ?_
  k_fold
  k_steps
  refine wpC_any (wpAny_execs_nil ?_)
  refine execs_C ?_
  refine return_C ?_
  refine list_raises_C ?_
  refine ifExp_C ?_
  refine wpC_any ?_
  k_fold
  k_steps
  refine call_name_KW_C ?_
  k_fold
  k_steps
  refine callWith_KW_C (by k_asm) (by k_is) rfl ?_
  k_fold
  k_steps
  walk_at "M insC"
  (show Q (Value.str (toldTxt .value _) _) _)
  exact hexc _ _ _ (by assumption) (by assumption)
end
section
variable {w : World} {p : Program} {loose : List PStr} {mean : ExcName → Option Value} {mg mb : PStr → Option Value}
    {dp un : Nat} {gd : Option (List Code)} {cn : PStr} {cs : Scope} {a : Addr} {ccd : Value} {cl : List (PStr × Addr)} {A₀ : Around} {base h₀ : Heap} {L : Addr} {m : PStr → Option Value}
    {s : Shared} {Q E : Value → Shared → Prop} {news : Ldg}
    (B : Below A₀ base [] h₀) (X : (KK.heap_1 w.params).In h₀) (T : Top p loose mean mg mb h₀) (XB : (KK.heap_1 w.params).In base) (TB : Top p loose mean mg mb base) (hck : cs.kind = .function)
include B X T XB TB hck

theorem told_val3x {ra : Addr} {xr : PStr} {lo : Nat} {hv : Value} {tw xt tl : Tok} {msg : PStr} (hd5 : dp + 40 < recursionLimit) (hu5 : un + 300 < cLine) (F : Fr h₀ L s.heap m) (N : News h₀ L s.heap news)
   (hx640 : xr.length ≤ 640) (hxrp : RepOk xr) (hkx : p229 xr = .error (.value, msg))
   (hexc : ∀ t h' tk, Fr h₀ L h' m → News h₀ L h' news → Q (.str (toldTxt .value msg) t) { s with heap := h', toks := tk }) :
   wpC (model PySem.Challenge.rw_pm0034_03.row.prog w) (ktrTop dp un gd cn cs L a ccd cl []) (call (.ref 115) [.int 3 tw, .ref ra, .str xr xt, .int (lo : Int) tl, hv, .ref 108]) Q E s := by
  walk_at "M fill"
  have hz := p229_err_len hkx hx640
  walk_at "M enter0C"
  refine execs_C ?_
  refine try_C ?_
  refine execs_C ?_
  refine if_C ?_
  refine wpC_any ?_
  k_fold
  k_steps
  refine wpC_any (wpAny_execs_nil ?_)
  refine execs_C ?_
  refine return_C ?_
  refine list_raises_C ?_
  refine ifExp_C ?_
  refine wpC_any ?_
  k_fold
  k_steps
  refine call_name_KW_C ?_
  k_fold
  k_steps
  refine callWith_KW_C (by k_asm) (by k_is) rfl ?_
  k_fold
  k_steps
  walk_at "M insC"
  (show Q (Value.str (toldTxt .value _) _) _)
  exact hexc _ _ _ (by assumption) (by assumption)
end
end Mine
end
section
open PySem PySem.W PyProof.Rows PySem.Spec PySem.Calls
set_option Elab.async false
set_option maxRecDepth 100000
set_option maxHeartbeats 8000000
set_option linter.all false
namespace Mine
local macro_rules | `(tactic| walk_at $s:str) => `(tactic| k_extra $s)
local macro_rules | `(tactic| omega) => `(tactic| first
  | with_reducible assumption
  | (refine' room1 ?rmh ?rme; (case rmh => with_reducible assumption); (case rme => with_unfolding_all rfl))
  | (refine' room0 ?rmh ?rme; (case rmh => with_reducible assumption); (case rme => with_unfolding_all rfl))
  | (refine' room2 ?rmh ?rme; (case rmh => with_reducible assumption); (case rme => with_unfolding_all rfl))
  | (refine' room00 ?rmh; (case rmh => with_reducible assumption))
  | (refine num_le ?rme; (case rme => with_unfolding_all rfl))
  | (refine num_lt ?rme; (case rme => with_unfolding_all rfl))
  | (refine' le_num ?rmh ?rme; (case rmh => with_reducible assumption); (case rme => with_unfolding_all rfl))
  | (refine' eq_num ?rmh ?rme; (case rmh => with_reducible assumption); (case rme => with_unfolding_all rfl))
  | omega (config := {}))
theorem lines_N3_0 : True := by
  k_with_none
  k_with "execs cons" => ((refine f_execs ?_; intro qk))
  k_with "eval BinOp" => ((refine f_BinOp ?_; intro qk))
  k_with "exec Assign" => ((refine f_Assign ?_; intro qk))
  k_with "eval Subscript" => ((refine f_Subscript ?_; intro qk))
  k_with "isTrue Compare" => ((refine f_Compare ?_; intro qk))
  k_with "exec If" => ((refine f_If ?_; intro qk))
  k_with "eval Call" => (((fail_if_success (with_reducible show wpAny _ _ (eval (Expr.Call (Expr.Attribute _ _ _) _ _ _) _) _ _ _)); refine f_Call ?_; intro qk))
  k_with "spliced" => ((refine f_args ?_; intro qk))
  k_with "callWith" => ((refine f_method1 ?_; intro qk))
  k_with "exec Return some" => ((refine f_Return ?_; intro qk))
  k_with "eval Tuple" => ((refine f_Tuple ?_; intro qk))
  k_with "eval List" => ((refine f_List ?_; intro qk))
  k_with "eval IfExp" => ((refine f_IfExp ?_; intro qk))
  k_with "storeName" => ((k_here; k_dflt (refine' f_store ?F ?N ?_ ?a ?b; (case F => k_asm); (case N => k_asm); (case a => rfl); (case b => rfl); k_whole; intro m' h' F' N'; (try k_sweep))))
  k_with "M map1" => (first
    | (refine map_same ?_; with_unfolding_all rfl)
    | ((repeat' (refine List.forall_mem_cons.mpr (And.intro ?_ ?_))); (all_goals first | rfl | exact List.forall_mem_nil _)))
  k_with "M map2" => (first
    | (refine SameOut.both (b := fun _ => none) ?_ ?_ <;> (repeat (refine SameOut.upd ?_ (by with_unfolding_all rfl))) <;> exact SameOut.lookup rfl)
    | (refine' SameOut.both (b := ?kb) ?k1 ?k2; (case k1 => ((repeat (refine SameOut.upd ?_ (by with_unfolding_all rfl))); exact SameOut.refl)); (case k2 => ((repeat (refine SameOut.upd ?_ (by with_unfolding_all rfl))); exact SameOut.refl)))
    | (refine' SameOut.both (b := ?kb) ?k1 ?k2; (case k2 => ((repeat (refine SameOut.upd ?_ (by with_unfolding_all rfl))); exact SameOut.refl)); (case k1 => ((repeat (refine SameOut.skip ?_)); (repeat (refine SameOut.upd ?_ (by with_unfolding_all rfl))); exact SameOut.refl)))
    | (intro y hy; (repeat (refine (if_neg (ne_of_out hy (by with_unfolding_all rfl))).trans ?_)); (refine Eq.symm ?_); (repeat (refine (if_neg (ne_of_out hy (by with_unfolding_all rfl))).trans ?_)); first | rfl | exact lookup_out rfl hy | exact (lookup_out rfl hy).symm | exact (lookup_out rfl hy).trans (lookup_out rfl hy).symm))
  k_with "M fill" => ((
    have kk : PySem.Challenge.rw_pm0034_03 = PySem.Challenge.rw_pm0034_03 ∧ KK.heap_1 = KK.heap_1 := ⟨rfl, rfl⟩
    revert kk
    k_fill
    intro kk
    clear kk))
  k_with "M enter" => ((
    refine wpAny_call ?_
    k_dflt (refine' code_def ?k1 ?k2 ?k3 ?k4 ?k5 ?kA ?kF ?kK ?k6 ?k7 ?k8 ?k9 ?kB ?_ ?c2 ?c3 ?c4 ?c5; (case kA => exact rfl); (case kF => exact rfl); (case kK => assumption); (case k1 => k_asm); (case k2 => k_asm); (case k3 => k_asm); (case k4 => k_asm); (case k5 => k_asm); (case k6 => k_is); (case k7 => k_is); (case k8 => ((try dsimp only); omega)); (case k9 => first | exact BindsTo.of_eq rfl | (refine' kp_binds ?kx ?ke; (case kx => first | (refine' myIn ?kf ?ki; (case kf => with_reducible assumption); (case ki => with_reducible assumption)) | k_in); (case ke => exact fun _ => rfl)) | exact binds_K (by first | (refine' myIn ?kf ?ki; (case kf => with_reducible assumption); (case ki => with_reducible assumption)) | k_in) rfl (by k_is) rfl rfl rfl); (case c5 => decide); (case kB => exact locs rfl); (case c2 => exact rfl); (case c3 => exact rfl); (case c4 => exact rfl); k_whole; intro g' L' h' FG' F' N' B' X' T'; (have D' := kts_dict B' (by assumption) FG' rfl); (try dsimp only); (try k_lift B'); (refine let_AE (f := execs _) ?_; intro vk ak); (refine f_QE ?_; intro qk ek))))
  k_with "M enter0" => ((
    refine wpAny_call ?_
    k_dflt (refine' code_defS0X ?k1 ?k2 ?k3 ?k4 ?k5 ?kA ?kF ?kK ?k6 ?k7 ?k8 ?k9 ?kB ?_ ?c2 ?c3 ?c4 ?c5; (case kA => exact rfl); (case kF => exact rfl); (case kK => assumption); (case k1 => k_asm); (case k2 => k_asm); (case k3 => k_asm); (case k4 => k_asm); (case k5 => k_asm); (case k6 => k_is); (case k7 => k_is); (case k8 => ((try dsimp only); omega)); (case k9 => first | exact BindsTo.of_eq rfl | (refine' kp_binds ?kx ?ke; (case kx => first | (refine' myIn ?kf ?ki; (case kf => with_reducible assumption); (case ki => with_reducible assumption)) | k_in); (case ke => exact fun _ => rfl)) | exact binds_K (by first | (refine' myIn ?kf ?ki; (case kf => with_reducible assumption); (case ki => with_reducible assumption)) | k_in) rfl (by k_is) rfl rfl rfl); (case c5 => decide); (case kB => exact locs rfl); (case c2 => exact rfl); (case c3 => exact rfl); (case c4 => exact rfl); k_whole; intro g' L' h' FG' F' N' B' X' T' D'; (try dsimp only); (try k_lift B'); (refine let_AE (f := execs _) ?_; intro vk ak); (refine f_QE ?_; intro qk ek))))
  trivial
local macro_rules | `(tactic| k_mem) => `(tactic| first | with_reducible assumption | (refine mem_in ?_; with_reducible assumption))
theorem lines_N3_1 : True := by
  k_with "subscriptTail Name Constant ref int" => ((k_here; refine item_tupleT (News.isTup (by assumption) (by k_mem)) (by decide) (by decide) (by rfl) (by rfl) ?_))
  k_with "subscriptTail Name Constant ref int" => ((k_here; (with_reducible rename StrsAre _ _ => hSA); refine item_strsA (News.isList (by assumption) (by k_mem)) hSA (by decide) (by first | omega | (simp only [List.length_map]; omega)) (by decide) ?_; intro t'))
  k_with "call type:ValueError" => ((refine call_ValueError_made ?_; intro _ _ _))
  k_with "exec While Compare Name cons nil" => (refine Hold.mk ?_)
  k_with "exec While Compare" => (refine Hold.mk ?_)
  k_with "exec While Compare cons nil" => (refine Hold.mk ?_)
  k_with "exec While" => (refine Hold.mk ?_)
  k_with "binaryOp FloorDiv int int" => ((k_here; (with_reducible refine floordiv_pos ?kb1 ?kb2 ?_); (case kb1 => decide); (case kb2 => decide +kernel)))
  k_with "WhlIf" => ((refine whlIf_dec ?_ ?_ <;> intro _))
  k_with "subscriptTail Name Name ref int" => ((k_here; first
    | ((with_reducible rename StrsAre _ _ => hSA); refine item_strsA (News.isList (by assumption) (by k_mem)) hSA (by omega) (by omega) (by omega) ?_; intro t')
    | ((with_reducible rename IntsAre _ _ => hSA); refine item_intsA (News.isList (by assumption) (by k_mem)) hSA (by omega) (by omega) (by omega) ?_; intro t')))
  k_with "call builtin:len" => ((k_here; (with_reducible show wpAny _ _ (call (Value.builtin "len") [Value.ref _]) _ _ _); first
    | ((with_reducible rename StrsAre _ _ => hSA); refine len_strsA (News.isList (by assumption) (by k_mem)) hSA (by omega) ?_)
    | ((with_reducible rename IntsAre _ _ => hSA); refine len_intsA (News.isList (by assumption) (by k_mem)) hSA (by omega) ?_)))
  k_with "subscriptTail Name Constant ref int" => ((k_here; refine item_listL (News.isList (by assumption) (by k_mem)) (by decide) (by decide) (by rfl) ?_))
  trivial
section
variable {w : World} {p : Program} {loose : List PStr} {mean : ExcName → Option Value} {mg mb : PStr → Option Value}
    {dp un : Nat} {gd : Option (List Code)} {cn : PStr} {cs : Scope} {a : Addr} {ccd : Value} {cl : List (PStr × Addr)} {outer : List Env} {A₀ : Around} {base h₀ : Heap} {L : Addr} {m : PStr → Option Value}
    {s : Shared} {Q E : Value → Shared → Prop} {news : Ldg}
    (B : Below A₀ base outer h₀) (X : (KK.heap_1 w.params).In h₀) (T : Top p loose mean mg mb h₀) (XB : (KK.heap_1 w.params).In base) (TB : Top p loose mean mg mb base) (D : KtsDicts (outer.filterMap (·.frame)) h₀) (hck : cs.kind = .function)
include B X T XB TB D hck

theorem mediant_spec {ra rb : Addr} {a1 a2 b1 b2 : Int} {t1 t2 t3 t4 : Tok} {e1 e2 : Nat} (hd5 : dp + 5 < recursionLimit) (hu5 : un + 50 < cLine) (F : Fr h₀ L s.heap m) (N : News h₀ L s.heap news)
   (hra : (ra, lstOf [.int a1 t1, .int a2 t2] e1) ∈ news) (hrb : (rb, lstOf [.int b1 t3, .int b2 t4] e2) ∈ news)
   (hret : ∀ d t t' h' tk, Fr h₀ L h' m → News h₀ L h' ((d, lstOf [.int (a1 + b1) t, .int (a2 + b2) t'] 0) :: news) → (∀ p ∈ news, p.1 < d) → Q (.ref d) { s with heap := h', toks := tk }) :
   wpAny (model PySem.Challenge.rw_pm0034_03.row.prog w) (ktrTop dp un gd cn cs L a ccd cl outer) (call (.ref 129) [.ref ra, .ref rb]) Q E s := by
  walk_at "M fill"
  walk_at "M enter"
  k_steps
  (show Q (Value.ref _) _)
  exact hret _ _ _ _ _ (by assumption) (by assumption) (by assumption)
end
theorem lines_N3_2 : True := by
  k_with "call ref" => (((with_reducible show wpAny _ _ (call (Value.ref 129) _) _ _ _); refine' mediant_spec ?kB ?kX ?kT ?kXB ?kTB ?kD ?kh ?kd ?ku ?kF ?kN ?ka ?kb ?_; (case kB => assumption); (case kX => assumption); (case kT => assumption); (case kXB => assumption); (case kTB => assumption); (case kD => assumption); (case kh => rfl); (case kd => ((try dsimp only); omega)); (case ku => ((try dsimp only); omega)); (case kF => with_reducible assumption); (case kN => with_reducible assumption); (case ka => k_mem); (case kb => k_mem)))
  k_with "call ref" => (((with_reducible show wpAny _ _ (call (Value.ref 136) _) _ _ _); refine Hold.mk ?_))
  k_with "binaryOp Add ref ref" => ((k_here; (with_reducible show wpAny _ _ (binaryOp Operator.Add (Value.ref _) (Value.ref _)) _ _ _); refine' add_listsN ?F ?N ?a ?b ?z ?_; (case F => with_reducible assumption); (case N => with_reducible assumption); (case a => k_mem); (case b => k_mem); (case z => (simp only [List.length_append, List.length_cons, List.length_nil]; omega)); intro D' h' F' N' l1; (try k_lt l1); (try k_sweep)))
  trivial
section
variable {w : World} {p : Program} {loose : List PStr} {mean : ExcName → Option Value} {mg mb : PStr → Option Value}
    {dp un : Nat} {gd : Option (List Code)} {cn : PStr} {cs : Scope} {a : Addr} {ccd : Value} {cl : List (PStr × Addr)} {outer : List Env} {A₀ : Around} {base h₀ : Heap} {L : Addr} {m : PStr → Option Value}
    {s : Shared} {Q E : Value → Shared → Prop} {news : Ldg}
    (B : Below A₀ base outer h₀) (X : (KK.heap_1 w.params).In h₀) (T : Top p loose mean mg mb h₀) (XB : (KK.heap_1 w.params).In base) (TB : Top p loose mean mg mb base) (D : KtsDicts (outer.filterMap (·.frame)) h₀) (hck : cs.kind = .function)
include B X T XB TB D hck

theorem frac_0 {ra rb : Addr} {a1 a2 b1 b2 : Int} {t0 t1 t2 t3 t4 : Tok} {e1 e2 : Nat} (hd5 : dp + 5 < recursionLimit) (hu5 : un + 50 < cLine) (F : Fr h₀ L s.heap m) (N : News h₀ L s.heap news)
   (hra : (ra, lstOf [.int a1 t1, .int a2 t2] e1) ∈ news) (hrb : (rb, lstOf [.int b1 t3, .int b2 t4] e2) ∈ news)
   (hret : ∀ d vs l h' tk, PairsAre l vs (fracs 0 (a1, a2) (b1, b2)) → (∀ p ∈ news, p ∈ l) → Fr h₀ L h' m → News h₀ L h' ((d, lstOf vs 0) :: l) → (∀ p ∈ l, p.1 < d) → Q (.ref d) { s with heap := h', toks := tk }) :
   wpAny (model PySem.Challenge.rw_pm0034_03.row.prog w) (ktrTop dp un gd cn cs L a ccd cl outer) (call (.ref 136) [.ref ra, .ref rb, .int 0 t0]) Q E s := by
  walk_at "M fill"
  walk_at "M enter"
  k_steps
  (show Q (Value.ref _) _)
  exact hret _ _ _ _ _ .nil (fun _ q => q) (by assumption) (by assumption) (by assumption)
end
section
variable {w : World} {p : Program} {loose : List PStr} {mean : ExcName → Option Value} {mg mb : PStr → Option Value}
    {dp un : Nat} {gd : Option (List Code)} {cn : PStr} {cs : Scope} {a : Addr} {ccd : Value} {cl : List (PStr × Addr)} {outer : List Env} {A₀ : Around} {base h₀ : Heap} {L : Addr} {m : PStr → Option Value}
    {s : Shared} {Q E : Value → Shared → Prop} {news : Ldg}
    (B : Below A₀ base outer h₀) (X : (KK.heap_1 w.params).In h₀) (T : Top p loose mean mg mb h₀) (XB : (KK.heap_1 w.params).In base) (TB : Top p loose mean mg mb base) (D : KtsDicts (outer.filterMap (·.frame)) h₀) (hck : cs.kind = .function)
include B X T XB TB D hck

theorem frac_1 {ra rb : Addr} {a1 a2 b1 b2 : Int} {t0 t1 t2 t3 t4 : Tok} {e1 e2 : Nat} (hd5 : dp + 10 < recursionLimit) (hu5 : un + 100 < cLine) (F : Fr h₀ L s.heap m) (N : News h₀ L s.heap news)
   (hra : (ra, lstOf [.int a1 t1, .int a2 t2] e1) ∈ news) (hrb : (rb, lstOf [.int b1 t3, .int b2 t4] e2) ∈ news)
   (hret : ∀ d vs l h' tk, PairsAre l vs (fracs 1 (a1, a2) (b1, b2)) → (∀ p ∈ news, p ∈ l) → Fr h₀ L h' m → News h₀ L h' ((d, lstOf vs 0) :: l) → (∀ p ∈ l, p.1 < d) → Q (.ref d) { s with heap := h', toks := tk }) :
   wpAny (model PySem.Challenge.rw_pm0034_03.row.prog w) (ktrTop dp un gd cn cs L a ccd cl outer) (call (.ref 136) [.ref ra, .ref rb, .int 1 t0]) Q E s := by
  walk_at "M fill"
  walk_at "M enter"
  k_steps
  refine Hold.out ?_
  refine' frac_0 ?kB ?kX ?kT ?kXB ?kTB ?kD ?kh ?kd ?ku ?kF ?kN ?ka ?kb ?_
  case kB => assumption
  case kX => assumption
  case kT => assumption
  case kXB => assumption
  case kTB => assumption
  case kD => assumption
  case kh => rfl
  case kd => ((try dsimp only); omega)
  case ku => ((try dsimp only); omega)
  case kF => with_reducible assumption
  case kN => with_reducible assumption
  case ka => k_mem
  case kb => k_mem
  intro d vs l h' tk hP hsub hF hN hlt
  have hl1 : vs.length = 0 := hP.length.trans (fracs_len 0 _ _)
  have hmid := hsub _ (.head _)
  have hrb1 := hsub _ (.tail _ hrb)
  k_steps
  refine Hold.out ?_
  refine' frac_0 ?kB ?kX ?kT ?kXB ?kTB ?kD ?kh ?kd ?ku ?kF ?kN ?ka ?kb ?_
  case kB => assumption
  case kX => assumption
  case kT => assumption
  case kXB => assumption
  case kTB => assumption
  case kD => assumption
  case kh => rfl
  case kd => ((try dsimp only); omega)
  case ku => ((try dsimp only); omega)
  case kF => with_reducible assumption
  case kN => with_reducible assumption
  case ka => k_mem
  case kb => k_mem
  intro d2 vs2 l2 h2 tk2 hP2 hsub2 hF2 hN2 hlt2
  have hl2 : vs2.length = 0 := hP2.length.trans (fracs_len 0 _ _)
  have hD := hsub2 _ (.head _)
  k_steps
  (show Q (Value.ref _) _)
  (with_reducible rename _ ∧ AllLt _ l2 => hz)
  refine hret _ _ l2 _ _ ?_ (fun p hp => hsub2 _ (.tail _ (.tail _ (.tail _ (hsub _ (.tail _ hp)))))) (by assumption) (news_d2 (by assumption)) (ktn_ltOf hz.2)
  exact ((hP.mono (fun p hp => hsub2 _ (.tail _ (.tail _ (.tail _ hp))))).append (.cons (hsub2 _ (.tail _ (.tail _ (.tail _ hmid)))) .nil)).append hP2
end
section
variable {w : World} {p : Program} {loose : List PStr} {mean : ExcName → Option Value} {mg mb : PStr → Option Value}
    {dp un : Nat} {gd : Option (List Code)} {cn : PStr} {cs : Scope} {a : Addr} {ccd : Value} {cl : List (PStr × Addr)} {outer : List Env} {A₀ : Around} {base h₀ : Heap} {L : Addr} {m : PStr → Option Value}
    {s : Shared} {Q E : Value → Shared → Prop} {news : Ldg}
    (B : Below A₀ base outer h₀) (X : (KK.heap_1 w.params).In h₀) (T : Top p loose mean mg mb h₀) (XB : (KK.heap_1 w.params).In base) (TB : Top p loose mean mg mb base) (D : KtsDicts (outer.filterMap (·.frame)) h₀) (hck : cs.kind = .function)
include B X T XB TB D hck

theorem frac_2 {ra rb : Addr} {a1 a2 b1 b2 : Int} {t0 t1 t2 t3 t4 : Tok} {e1 e2 : Nat} (hd5 : dp + 15 < recursionLimit) (hu5 : un + 150 < cLine) (F : Fr h₀ L s.heap m) (N : News h₀ L s.heap news)
   (hra : (ra, lstOf [.int a1 t1, .int a2 t2] e1) ∈ news) (hrb : (rb, lstOf [.int b1 t3, .int b2 t4] e2) ∈ news)
   (hret : ∀ d vs l h' tk, PairsAre l vs (fracs 2 (a1, a2) (b1, b2)) → (∀ p ∈ news, p ∈ l) → Fr h₀ L h' m → News h₀ L h' ((d, lstOf vs 0) :: l) → (∀ p ∈ l, p.1 < d) → Q (.ref d) { s with heap := h', toks := tk }) :
   wpAny (model PySem.Challenge.rw_pm0034_03.row.prog w) (ktrTop dp un gd cn cs L a ccd cl outer) (call (.ref 136) [.ref ra, .ref rb, .int 2 t0]) Q E s := by
  walk_at "M fill"
  walk_at "M enter"
  k_steps
  refine Hold.out ?_
  refine' frac_1 ?kB ?kX ?kT ?kXB ?kTB ?kD ?kh ?kd ?ku ?kF ?kN ?ka ?kb ?_
  case kB => assumption
  case kX => assumption
  case kT => assumption
  case kXB => assumption
  case kTB => assumption
  case kD => assumption
  case kh => rfl
  case kd => ((try dsimp only); omega)
  case ku => ((try dsimp only); omega)
  case kF => with_reducible assumption
  case kN => with_reducible assumption
  case ka => k_mem
  case kb => k_mem
  intro d vs l h' tk hP hsub hF hN hlt
  have hl1 : vs.length = 1 := hP.length.trans (fracs_len 1 _ _)
  have hmid := hsub _ (.head _)
  have hrb1 := hsub _ (.tail _ hrb)
  k_steps
  refine Hold.out ?_
  refine' frac_1 ?kB ?kX ?kT ?kXB ?kTB ?kD ?kh ?kd ?ku ?kF ?kN ?ka ?kb ?_
  case kB => assumption
  case kX => assumption
  case kT => assumption
  case kXB => assumption
  case kTB => assumption
  case kD => assumption
  case kh => rfl
  case kd => ((try dsimp only); omega)
  case ku => ((try dsimp only); omega)
  case kF => with_reducible assumption
  case kN => with_reducible assumption
  case ka => k_mem
  case kb => k_mem
  intro d2 vs2 l2 h2 tk2 hP2 hsub2 hF2 hN2 hlt2
  have hl2 : vs2.length = 1 := hP2.length.trans (fracs_len 1 _ _)
  have hD := hsub2 _ (.head _)
  k_steps
  (show Q (Value.ref _) _)
  (with_reducible rename _ ∧ AllLt _ l2 => hz)
  refine hret _ _ l2 _ _ ?_ (fun p hp => hsub2 _ (.tail _ (.tail _ (.tail _ (hsub _ (.tail _ hp)))))) (by assumption) (news_d2 (by assumption)) (ktn_ltOf hz.2)
  exact ((hP.mono (fun p hp => hsub2 _ (.tail _ (.tail _ (.tail _ hp))))).append (.cons (hsub2 _ (.tail _ (.tail _ (.tail _ hmid)))) .nil)).append hP2
end
section
variable {w : World} {p : Program} {loose : List PStr} {mean : ExcName → Option Value} {mg mb : PStr → Option Value}
    {dp un : Nat} {gd : Option (List Code)} {cn : PStr} {cs : Scope} {a : Addr} {ccd : Value} {cl : List (PStr × Addr)} {outer : List Env} {A₀ : Around} {base h₀ : Heap} {L : Addr} {m : PStr → Option Value}
    {s : Shared} {Q E : Value → Shared → Prop} {news : Ldg}
    (B : Below A₀ base outer h₀) (X : (KK.heap_1 w.params).In h₀) (T : Top p loose mean mg mb h₀) (XB : (KK.heap_1 w.params).In base) (TB : Top p loose mean mg mb base) (D : KtsDicts (outer.filterMap (·.frame)) h₀) (hck : cs.kind = .function)
include B X T XB TB D hck

theorem frac_3 {ra rb : Addr} {a1 a2 b1 b2 : Int} {t0 t1 t2 t3 t4 : Tok} {e1 e2 : Nat} (hd5 : dp + 20 < recursionLimit) (hu5 : un + 200 < cLine) (F : Fr h₀ L s.heap m) (N : News h₀ L s.heap news)
   (hra : (ra, lstOf [.int a1 t1, .int a2 t2] e1) ∈ news) (hrb : (rb, lstOf [.int b1 t3, .int b2 t4] e2) ∈ news)
   (hret : ∀ d vs l h' tk, PairsAre l vs (fracs 3 (a1, a2) (b1, b2)) → (∀ p ∈ news, p ∈ l) → Fr h₀ L h' m → News h₀ L h' ((d, lstOf vs 0) :: l) → (∀ p ∈ l, p.1 < d) → Q (.ref d) { s with heap := h', toks := tk }) :
   wpAny (model PySem.Challenge.rw_pm0034_03.row.prog w) (ktrTop dp un gd cn cs L a ccd cl outer) (call (.ref 136) [.ref ra, .ref rb, .int 3 t0]) Q E s := by
  walk_at "M fill"
  walk_at "M enter"
  k_steps
  refine Hold.out ?_
  refine' frac_2 ?kB ?kX ?kT ?kXB ?kTB ?kD ?kh ?kd ?ku ?kF ?kN ?ka ?kb ?_
  case kB => assumption
  case kX => assumption
  case kT => assumption
  case kXB => assumption
  case kTB => assumption
  case kD => assumption
  case kh => rfl
  case kd => ((try dsimp only); omega)
  case ku => ((try dsimp only); omega)
  case kF => with_reducible assumption
  case kN => with_reducible assumption
  case ka => k_mem
  case kb => k_mem
  intro d vs l h' tk hP hsub hF hN hlt
  have hl1 : vs.length = 3 := hP.length.trans (fracs_len 2 _ _)
  have hmid := hsub _ (.head _)
  have hrb1 := hsub _ (.tail _ hrb)
  k_steps
  refine Hold.out ?_
  refine' frac_2 ?kB ?kX ?kT ?kXB ?kTB ?kD ?kh ?kd ?ku ?kF ?kN ?ka ?kb ?_
  case kB => assumption
  case kX => assumption
  case kT => assumption
  case kXB => assumption
  case kTB => assumption
  case kD => assumption
  case kh => rfl
  case kd => ((try dsimp only); omega)
  case ku => ((try dsimp only); omega)
  case kF => with_reducible assumption
  case kN => with_reducible assumption
  case ka => k_mem
  case kb => k_mem
  intro d2 vs2 l2 h2 tk2 hP2 hsub2 hF2 hN2 hlt2
  have hl2 : vs2.length = 3 := hP2.length.trans (fracs_len 2 _ _)
  have hD := hsub2 _ (.head _)
  k_steps
  (show Q (Value.ref _) _)
  (with_reducible rename _ ∧ AllLt _ l2 => hz)
  refine hret _ _ l2 _ _ ?_ (fun p hp => hsub2 _ (.tail _ (.tail _ (.tail _ (hsub _ (.tail _ hp)))))) (by assumption) (news_d2 (by assumption)) (ktn_ltOf hz.2)
  exact ((hP.mono (fun p hp => hsub2 _ (.tail _ (.tail _ (.tail _ hp))))).append (.cons (hsub2 _ (.tail _ (.tail _ (.tail _ hmid)))) .nil)).append hP2
end
section
variable {w : World} {p : Program} {loose : List PStr} {mean : ExcName → Option Value} {mg mb : PStr → Option Value}
    {dp un : Nat} {gd : Option (List Code)} {cn : PStr} {cs : Scope} {a : Addr} {ccd : Value} {cl : List (PStr × Addr)} {outer : List Env} {A₀ : Around} {base h₀ : Heap} {L : Addr} {m : PStr → Option Value}
    {s : Shared} {Q E : Value → Shared → Prop} {news : Ldg}
    (B : Below A₀ base outer h₀) (X : (KK.heap_1 w.params).In h₀) (T : Top p loose mean mg mb h₀) (XB : (KK.heap_1 w.params).In base) (TB : Top p loose mean mg mb base) (D : KtsDicts (outer.filterMap (·.frame)) h₀) (hck : cs.kind = .function)
include B X T XB TB D hck

theorem frac_4 {ra rb : Addr} {a1 a2 b1 b2 : Int} {t0 t1 t2 t3 t4 : Tok} {e1 e2 : Nat} (hd5 : dp + 25 < recursionLimit) (hu5 : un + 250 < cLine) (F : Fr h₀ L s.heap m) (N : News h₀ L s.heap news)
   (hra : (ra, lstOf [.int a1 t1, .int a2 t2] e1) ∈ news) (hrb : (rb, lstOf [.int b1 t3, .int b2 t4] e2) ∈ news)
   (hret : ∀ d vs l h' tk, PairsAre l vs (fracs 4 (a1, a2) (b1, b2)) → (∀ p ∈ news, p ∈ l) → Fr h₀ L h' m → News h₀ L h' ((d, lstOf vs 0) :: l) → (∀ p ∈ l, p.1 < d) → Q (.ref d) { s with heap := h', toks := tk }) :
   wpAny (model PySem.Challenge.rw_pm0034_03.row.prog w) (ktrTop dp un gd cn cs L a ccd cl outer) (call (.ref 136) [.ref ra, .ref rb, .int 4 t0]) Q E s := by
  walk_at "M fill"
  walk_at "M enter"
  k_steps
  refine Hold.out ?_
  refine' frac_3 ?kB ?kX ?kT ?kXB ?kTB ?kD ?kh ?kd ?ku ?kF ?kN ?ka ?kb ?_
  case kB => assumption
  case kX => assumption
  case kT => assumption
  case kXB => assumption
  case kTB => assumption
  case kD => assumption
  case kh => rfl
  case kd => ((try dsimp only); omega)
  case ku => ((try dsimp only); omega)
  case kF => with_reducible assumption
  case kN => with_reducible assumption
  case ka => k_mem
  case kb => k_mem
  intro d vs l h' tk hP hsub hF hN hlt
  have hl1 : vs.length = 7 := hP.length.trans (fracs_len 3 _ _)
  have hmid := hsub _ (.head _)
  have hrb1 := hsub _ (.tail _ hrb)
  k_steps
  refine Hold.out ?_
  refine' frac_3 ?kB ?kX ?kT ?kXB ?kTB ?kD ?kh ?kd ?ku ?kF ?kN ?ka ?kb ?_
  case kB => assumption
  case kX => assumption
  case kT => assumption
  case kXB => assumption
  case kTB => assumption
  case kD => assumption
  case kh => rfl
  case kd => ((try dsimp only); omega)
  case ku => ((try dsimp only); omega)
  case kF => with_reducible assumption
  case kN => with_reducible assumption
  case ka => k_mem
  case kb => k_mem
  intro d2 vs2 l2 h2 tk2 hP2 hsub2 hF2 hN2 hlt2
  have hl2 : vs2.length = 7 := hP2.length.trans (fracs_len 3 _ _)
  have hD := hsub2 _ (.head _)
  k_steps
  (show Q (Value.ref _) _)
  (with_reducible rename _ ∧ AllLt _ l2 => hz)
  refine hret _ _ l2 _ _ ?_ (fun p hp => hsub2 _ (.tail _ (.tail _ (.tail _ (hsub _ (.tail _ hp)))))) (by assumption) (news_d2 (by assumption)) (ktn_ltOf hz.2)
  exact ((hP.mono (fun p hp => hsub2 _ (.tail _ (.tail _ (.tail _ hp))))).append (.cons (hsub2 _ (.tail _ (.tail _ (.tail _ hmid)))) .nil)).append hP2
end
end Mine
end
section
open PySem PySem.W PyProof.Rows PySem.Spec PySem.Calls
set_option Elab.async false
set_option maxRecDepth 100000
set_option maxHeartbeats 8000000
set_option linter.all false
namespace Mine
local macro_rules | `(tactic| walk_at "M nothing") => `(tactic| skip)
local macro_rules | `(tactic| walk_at $s:str) => `(tactic| k_extra $s)
local macro_rules | `(tactic| omega) => `(tactic| first
  | with_reducible assumption
  | (refine' room1 ?rmh ?rme; (case rmh => with_reducible assumption); (case rme => with_unfolding_all rfl))
  | (refine' room0 ?rmh ?rme; (case rmh => with_reducible assumption); (case rme => with_unfolding_all rfl))
  | (refine' room2 ?rmh ?rme; (case rmh => with_reducible assumption); (case rme => with_unfolding_all rfl))
  | (refine' room00 ?rmh; (case rmh => with_reducible assumption))
  | (refine num_le ?rme; (case rme => with_unfolding_all rfl))
  | (refine num_lt ?rme; (case rme => with_unfolding_all rfl))
  | (refine' le_num ?rmh ?rme; (case rmh => with_reducible assumption); (case rme => with_unfolding_all rfl))
  | (refine' eq_num ?rmh ?rme; (case rmh => with_reducible assumption); (case rme => with_unfolding_all rfl))
  | omega (config := {}))
theorem lines_P3_0 : True := by
  k_with_none
  k_with "execs cons" => ((refine f_execs ?_; intro qk))
  k_with "eval BinOp" => ((refine f_BinOp ?_; intro qk))
  k_with "exec Assign" => ((refine f_Assign ?_; intro qk))
  k_with "eval Subscript" => ((refine f_Subscript ?_; intro qk))
  k_with "isTrue Compare" => ((refine f_Compare ?_; intro qk))
  k_with "exec If" => ((refine f_If ?_; intro qk))
  k_with "eval Call" => (((fail_if_success (with_reducible show wpAny _ _ (eval (Expr.Call (Expr.Attribute _ _ _) _ _ _) _) _ _ _)); refine f_Call ?_; intro qk))
  k_with "spliced" => ((refine f_args ?_; intro qk))
  k_with "callWith" => ((refine f_method1 ?_; intro qk))
  k_with "exec Return some" => ((refine f_Return ?_; intro qk))
  k_with "eval Tuple" => ((refine f_Tuple ?_; intro qk))
  k_with "eval List" => ((refine f_List ?_; intro qk))
  k_with "eval IfExp" => ((refine f_IfExp ?_; intro qk))
  k_with "storeName" => ((k_here; k_dflt (refine' f_store ?F ?N ?_ ?a ?b; (case F => k_asm); (case N => k_asm); (case a => rfl); (case b => rfl); k_whole; intro m' h' F' N'; (try k_sweep))))
  k_with "M map1" => (first
    | (refine map_same ?_; with_unfolding_all rfl)
    | ((repeat' (refine List.forall_mem_cons.mpr (And.intro ?_ ?_))); (all_goals first | rfl | exact List.forall_mem_nil _)))
  k_with "M map2" => (first
    | (refine SameOut.both (b := fun _ => none) ?_ ?_ <;> (repeat (refine SameOut.upd ?_ (by with_unfolding_all rfl))) <;> exact SameOut.lookup rfl)
    | (refine' SameOut.both (b := ?kb) ?k1 ?k2; (case k1 => ((repeat (refine SameOut.upd ?_ (by with_unfolding_all rfl))); exact SameOut.refl)); (case k2 => ((repeat (refine SameOut.upd ?_ (by with_unfolding_all rfl))); exact SameOut.refl)))
    | (refine' SameOut.both (b := ?kb) ?k1 ?k2; (case k2 => ((repeat (refine SameOut.upd ?_ (by with_unfolding_all rfl))); exact SameOut.refl)); (case k1 => ((repeat (refine SameOut.skip ?_)); (repeat (refine SameOut.upd ?_ (by with_unfolding_all rfl))); exact SameOut.refl)))
    | (intro y hy; (repeat (refine (if_neg (ne_of_out hy (by with_unfolding_all rfl))).trans ?_)); (refine Eq.symm ?_); (repeat (refine (if_neg (ne_of_out hy (by with_unfolding_all rfl))).trans ?_)); first | rfl | exact lookup_out rfl hy | exact (lookup_out rfl hy).symm | exact (lookup_out rfl hy).trans (lookup_out rfl hy).symm))
  k_with "M fill" => ((
    have kk : PySem.Challenge.rw_pm0034_03 = PySem.Challenge.rw_pm0034_03 ∧ KK.heap_1 = KK.heap_1 := ⟨rfl, rfl⟩
    revert kk
    k_fill
    intro kk
    clear kk))
  k_with "M enter" => ((
    refine wpAny_call ?_
    k_dflt (refine' code_def ?k1 ?k2 ?k3 ?k4 ?k5 ?kA ?kF ?kK ?k6 ?k7 ?k8 ?k9 ?kB ?_ ?c2 ?c3 ?c4 ?c5; (case kA => exact rfl); (case kF => exact rfl); (case kK => assumption); (case k1 => k_asm); (case k2 => k_asm); (case k3 => k_asm); (case k4 => k_asm); (case k5 => k_asm); (case k6 => k_is); (case k7 => k_is); (case k8 => ((try dsimp only); omega)); (case k9 => first | exact BindsTo.of_eq rfl | (refine' kp_binds ?kx ?ke; (case kx => first | (refine' myIn ?kf ?ki; (case kf => with_reducible assumption); (case ki => with_reducible assumption)) | k_in); (case ke => exact fun _ => rfl)) | exact binds_K (by first | (refine' myIn ?kf ?ki; (case kf => with_reducible assumption); (case ki => with_reducible assumption)) | k_in) rfl (by k_is) rfl rfl rfl); (case c5 => decide); (case kB => exact locs rfl); (case c2 => exact rfl); (case c3 => exact rfl); (case c4 => exact rfl); k_whole; intro g' L' h' FG' F' N' B' X' T'; (have D' := kts_dict B' (by assumption) FG' rfl); (try dsimp only); (try k_lift B'); (refine let_AE (f := execs _) ?_; intro vk ak); (refine f_QE ?_; intro qk ek))))
  k_with "M enter0" => ((
    refine wpAny_call ?_
    k_dflt (refine' code_defS0X ?k1 ?k2 ?k3 ?k4 ?k5 ?kA ?kF ?kK ?k6 ?k7 ?k8 ?k9 ?kB ?_ ?c2 ?c3 ?c4 ?c5; (case kA => exact rfl); (case kF => exact rfl); (case kK => assumption); (case k1 => k_asm); (case k2 => k_asm); (case k3 => k_asm); (case k4 => k_asm); (case k5 => k_asm); (case k6 => k_is); (case k7 => k_is); (case k8 => ((try dsimp only); omega)); (case k9 => first | exact BindsTo.of_eq rfl | (refine' kp_binds ?kx ?ke; (case kx => first | (refine' myIn ?kf ?ki; (case kf => with_reducible assumption); (case ki => with_reducible assumption)) | k_in); (case ke => exact fun _ => rfl)) | exact binds_K (by first | (refine' myIn ?kf ?ki; (case kf => with_reducible assumption); (case ki => with_reducible assumption)) | k_in) rfl (by k_is) rfl rfl rfl); (case c5 => decide); (case kB => exact locs rfl); (case c2 => exact rfl); (case c3 => exact rfl); (case c4 => exact rfl); k_whole; intro g' L' h' FG' F' N' B' X' T' D'; (try dsimp only); (try k_lift B'); (refine let_AE (f := execs _) ?_; intro vk ak); (refine f_QE ?_; intro qk ek))))
  trivial
local macro_rules | `(tactic| k_mem) => `(tactic| first | with_reducible assumption | (refine mem_in ?_; with_reducible assumption))
theorem lines_P3_1 : True := by
  k_with "subscriptTail Name Constant ref int" => ((k_here; refine item_tupleT (News.isTup (by assumption) (by k_mem)) (by decide) (by decide) (by rfl) (by rfl) ?_))
  k_with "subscriptTail Name Constant ref int" => ((k_here; (with_reducible rename StrsAre _ _ => hSA); refine item_strsA (News.isList (by assumption) (by k_mem)) hSA (by decide) (by first | omega | (simp only [List.length_map]; omega)) (by decide) ?_; intro t'))
  k_with "call type:ValueError" => ((refine call_ValueError_made ?_; intro _ _ _))
  k_with "exec While Compare Name cons nil" => (refine Hold.mk ?_)
  k_with "exec While Compare" => (refine Hold.mk ?_)
  k_with "exec While Compare cons nil" => (refine Hold.mk ?_)
  k_with "exec While" => (refine Hold.mk ?_)
  k_with "binaryOp FloorDiv int int" => ((k_here; (with_reducible refine floordiv_pos ?kb1 ?kb2 ?_); (case kb1 => decide); (case kb2 => decide +kernel)))
  k_with "WhlIf" => ((refine whlIf_dec ?_ ?_ <;> intro _))
  k_with "subscriptTail Name Name ref int" => ((k_here; first
    | ((with_reducible rename StrsAre _ _ => hSA); refine item_strsA (News.isList (by assumption) (by k_mem)) hSA (by omega) (by omega) (by omega) ?_; intro t')
    | ((with_reducible rename IntsAre _ _ => hSA); refine item_intsA (News.isList (by assumption) (by k_mem)) hSA (by omega) (by omega) (by omega) ?_; intro t')))
  k_with "call builtin:len" => ((k_here; (with_reducible show wpAny _ _ (call (Value.builtin "len") [Value.ref _]) _ _ _); first
    | ((with_reducible rename StrsAre _ _ => hSA); refine len_strsA (News.isList (by assumption) (by k_mem)) hSA (by omega) ?_)
    | ((with_reducible rename IntsAre _ _ => hSA); refine len_intsA (News.isList (by assumption) (by k_mem)) hSA (by omega) ?_)))
  k_with "subscriptTail Name Constant ref int" => ((k_here; refine item_listL (News.isList (by assumption) (by k_mem)) (by decide) (by decide) (by rfl) ?_))
  k_with "exec For Name Call cons nil" => ((k_here; (with_unfolding_all refine' For_turns ?lF ?_; (case lF => k_asm); k_whole)))
  k_with "pyIter ref" => ((refine Hold.mk ?_))
  k_with "call ref" => (((with_reducible show wpAny _ _ (call (Value.ref 101) _) _ _ _); refine' parse257_spec ?kB ?kX ?kT ?kXB ?kTB ?kD ?kh ?kd ?ku ?kF ?kN ?kl ?_ ?kx; (case kB => assumption); (case kX => assumption); (case kT => assumption); (case kXB => assumption); (case kTB => assumption); (case kD => assumption); (case kh => rfl); (case kd => ((try dsimp only); omega)); (case ku => ((try dsimp only); omega)); (case kF => with_reducible assumption); (case kN => with_reducible assumption); (case kl => (rw [q257_len]; omega)); (case kx => (intro k g₂ e t h' tk hk; exact (p257_no hk).elim)); intro x t h' tk hk F' N'; have hl := p257_leq hk; have e := p257_ok hk; subst e))
  trivial
section
variable {w : World} {p : Program} {loose : List PStr} {mean : ExcName → Option Value} {mg mb : PStr → Option Value}
    {dp un : Nat} {gd : Option (List Code)} {cn : PStr} {cs : Scope} {a : Addr} {ccd : Value} {cl : List (PStr × Addr)} {outer : List Env} {A₀ : Around} {base h₀ : Heap} {L : Addr} {m : PStr → Option Value}
    {s : Shared} {Q E : Value → Shared → Prop} {news : Ldg}
    (B : Below A₀ base outer h₀) (X : (KK.heap_1 w.params).In h₀) (T : Top p loose mean mg mb h₀) (XB : (KK.heap_1 w.params).In base) (TB : Top p loose mean mg mb base) (D : KtsDicts (outer.filterMap (·.frame)) h₀) (hck : cs.kind = .function)
include B X T XB TB D hck

theorem read_spec {pl lv : Nat} {t1 t2 : Tok} (hd5 : dp + 10 < recursionLimit) (hu5 : un + 100 < cLine) (F : Fr h₀ L s.heap m) (N : News h₀ L s.heap news) (hpl : pl ≤ 20) (hlv : lv ≤ 4)
   (hret : ∀ d t t' h' tk, Fr h₀ L h' m → News h₀ L h' ((d, lstOf [.int (rdIter lv (Txt.mul (PySem.Str.ofString "\"") pl ++ PySem.Str.ofString "x", 0, 0)).2.1 t, .int (rdIter lv (Txt.mul (PySem.Str.ofString "\"") pl ++ PySem.Str.ofString "x", 0, 0)).2.2 t'] 0) :: news) → (∀ p ∈ news, p.1 < d) → Q (.ref d) { s with heap := h', toks := tk }) :
   wpAny (model PySem.Challenge.rw_pm0034_03.row.prog w) (ktrTop dp un gd cn cs L a ccd cl outer) (call (.ref 143) [.int pl t1, .int lv t2]) Q E s := by
  walk_at "M fill"
  have lx : (PySem.Str.ofString "x").length = 1 := by decide +kernel
  walk_at "M enter"
  k_steps
  refine Hold.out ?_
  refine' pyIter_rangeA (fun (i : Nat) (σ : PStr × Tok × Int × Tok × Int × Tok × Option Value × Option Value) => (σ.1, σ.2.2.1, σ.2.2.2.2.1) = rdIter i (Txt.mul (PySem.Str.ofString "\"") pl ++ PySem.Str.ofString "x", 0, 0) ∧ σ.1.length ≤ 21 + i)
    (fun _ σ y => if y = PySem.Str.ofString "level" then σ.2.2.2.2.2.2.1 else if y = PySem.Str.ofString "odd" then σ.2.2.2.2.2.2.2 else List.lookup y [(PySem.Str.ofString "text", .str σ.1 σ.2.1), (PySem.Str.ofString "first", .int σ.2.2.1 σ.2.2.2.1), (PySem.Str.ofString "second", .int σ.2.2.2.2.1 σ.2.2.2.2.2.1), (PySem.Str.ofString "place", .int pl t1), (PySem.Str.ofString "levels", .int lv t2)])
    (fun _ _ => news) lv (Txt.mul (PySem.Str.ofString "\"") pl ++ PySem.Str.ofString "x", _, 0, _, 0, _, none, none) [PySem.Str.ofString "text", PySem.Str.ofString "first", PySem.Str.ofString "second", PySem.Str.ofString "level", PySem.Str.ofString "odd", PySem.Str.ofString "place", PySem.Str.ofString "levels"] (by assumption) (by assumption) (by assumption) rfl (by omega) ⟨rfl, ?_⟩ ?m1 ?m2 (fun q hq => .tail _ hq) ?turn ?done
  case m1 => walk_at "M map1"
  case m2 => walk_at "M map2"
  · dsimp only; omega
  case turn =>
    rintro i ⟨tx, tt, f, tf, g, tg, lvl, odd⟩ h tk tlv own hi ⟨hc, hlen⟩ hne kF1 kN1
    dsimp only at hc hlen hne kF1 kN1
    k_fold
    k_steps
    · refine' turnFr_next (quo tx ++ PySem.Str.ofString "x", _, 1, _, 1, _, some (.int i tlv), some (.bool _)) [PySem.Str.ofString "text", PySem.Str.ofString "first", PySem.Str.ofString "second", PySem.Str.ofString "level", PySem.Str.ofString "odd", PySem.Str.ofString "place", PySem.Str.ofString "levels"] (by assumption) (by assumption) ⟨rd_a hc (by assumption) (by assumption), ?l_a⟩ ?m1_a ?m2_a ?n0_a hne
      case l_a => dsimp only; omega
      case m1_a => walk_at "M map1"
      case m2_a => walk_at "M map2"
      case n0_a => exact fun q hq => .tail _ hq
    · refine' turnFr_next (quo tx ++ PySem.Str.ofString "x", _, f + g, _, g, tg, some (.int i tlv), some (.bool _)) [PySem.Str.ofString "text", PySem.Str.ofString "first", PySem.Str.ofString "second", PySem.Str.ofString "level", PySem.Str.ofString "odd", PySem.Str.ofString "place", PySem.Str.ofString "levels"] (by assumption) (by assumption) ⟨rd_b hc (by assumption) (by assumption), ?l_b⟩ ?m1_b ?m2_b ?n0_b hne
      case l_b => dsimp only; omega
      case m1_b => walk_at "M map1"
      case m2_b => walk_at "M map2"
      case n0_b => exact fun q hq => hq
    · refine' turnFr_next (quo tx, _, 0, _, 0, _, some (.int i tlv), some (.bool _)) [PySem.Str.ofString "text", PySem.Str.ofString "first", PySem.Str.ofString "second", PySem.Str.ofString "level", PySem.Str.ofString "odd", PySem.Str.ofString "place", PySem.Str.ofString "levels"] (by assumption) (by assumption) ⟨rd_c hc (by assumption) (by assumption), ?l_c⟩ ?m1_c ?m2_c ?n0_c hne
      case l_c => dsimp only; omega
      case m1_c => walk_at "M map1"
      case m2_c => walk_at "M map2"
      case n0_c => exact fun q hq => .tail _ hq
    · refine' turnFr_next (quo tx, _, f, tf, f + g, _, some (.int i tlv), some (.bool _)) [PySem.Str.ofString "text", PySem.Str.ofString "first", PySem.Str.ofString "second", PySem.Str.ofString "level", PySem.Str.ofString "odd", PySem.Str.ofString "place", PySem.Str.ofString "levels"] (by assumption) (by assumption) ⟨rd_d hc (by assumption) (by assumption), ?l_d⟩ ?m1_d ?m2_d ?n0_d hne
      case l_d => dsimp only; omega
      case m1_d => walk_at "M map1"
      case m2_d => walk_at "M map2"
      case n0_d => exact fun q hq => hq
  case done =>
    rintro ⟨tx, tt, f, tf, g, tg, lvl, odd⟩ h tk ⟨hc, hlen⟩ kF1 kN1
    dsimp only at hc hlen kF1 kN1 ⊢
    k_steps
    (show Q (Value.ref _) _)
    have e1 : f = (rdIter lv (Txt.mul (PySem.Str.ofString "\"") pl ++ PySem.Str.ofString "x", 0, 0)).2.1 := congrArg (fun q => q.2.1) hc
    have e2 : g = (rdIter lv (Txt.mul (PySem.Str.ofString "\"") pl ++ PySem.Str.ofString "x", 0, 0)).2.2 := congrArg (fun q => q.2.2) hc
    refine' hret _ _ _ _ _ ?r1 ?r2 ?r3
    case r1 => assumption
    case r2 => rw [← e1, ← e2]; assumption
    case r3 => assumption
end
end Mine
end
section
open PySem PySem.W PyProof.Rows PySem.Spec PySem.Calls
set_option Elab.async false
set_option maxRecDepth 100000
set_option maxHeartbeats 4000000
set_option linter.all false
namespace Mine
/-- law's own statements and names, taken out of the row -/
def lawDef3 : Option (List Stmt × Scope) := match PySem.Challenge.pw_pm0034_03.main.body.getLast? with
  | some (.FunctionDef _ _ b _ _ _ sc _ _ _) => some (b, sc)
  | _ => none
def lawStmts3 : List Stmt := match lawDef3 with
  | some (b, _) => b
  | none => []
def lawScope3 : Scope := match lawDef3 with
  | some (_, sc) => sc
  | none => default
def forBody : List Stmt → List Stmt
  | .For _ _ b _ _ :: _ => b
  | _ => []
def turn3 : List Stmt := forBody (lawStmts3.drop 9)
def step3 : List Stmt := forBody (turn3.drop 11)
def pass3 : List Stmt := forBody (turn3.drop 14)
example : ∃ a b c d e f, step3 = [a, b, c, d, e, f] := ⟨_, _, _, _, _, _, by with_unfolding_all rfl⟩
example : ∃ a b, pass3 = a :: b := ⟨_, _, by with_unfolding_all rfl⟩
example : ∃ k n g c m, lawScope3 = Scope.mk k n g c m := ⟨_, _, _, _, _, by with_unfolding_all rfl⟩
end Mine
end
section
open PySem PySem.W PyProof.Rows PySem.Spec PySem.Calls
set_option Elab.async false
set_option maxRecDepth 100000
set_option maxHeartbeats 8000000
set_option linter.all false
namespace Mine
local macro_rules | `(tactic| walk_at $s:str) => `(tactic| k_extra $s)
local macro_rules | `(tactic| omega) => `(tactic| first
  | with_reducible assumption
  | (refine' room1 ?rmh ?rme; (case rmh => with_reducible assumption); (case rme => with_unfolding_all rfl))
  | (refine' room0 ?rmh ?rme; (case rmh => with_reducible assumption); (case rme => with_unfolding_all rfl))
  | (refine' room2 ?rmh ?rme; (case rmh => with_reducible assumption); (case rme => with_unfolding_all rfl))
  | (refine' room00 ?rmh; (case rmh => with_reducible assumption))
  | (refine num_le ?rme; (case rme => with_unfolding_all rfl))
  | (refine num_lt ?rme; (case rme => with_unfolding_all rfl))
  | (refine' le_num ?rmh ?rme; (case rmh => with_reducible assumption); (case rme => with_unfolding_all rfl))
  | (refine' eq_num ?rmh ?rme; (case rmh => with_reducible assumption); (case rme => with_unfolding_all rfl))
  | omega (config := {}))
theorem lines_V4_0 : True := by
  k_with_none
  k_with "execs cons" => ((refine f_execs ?_; intro qk))
  k_with "eval BinOp" => ((refine f_BinOp ?_; intro qk))
  k_with "exec Assign" => ((refine f_Assign ?_; intro qk))
  k_with "eval Subscript" => ((refine f_Subscript ?_; intro qk))
  k_with "isTrue Compare" => ((refine f_Compare ?_; intro qk))
  k_with "exec If" => ((refine f_If ?_; intro qk))
  k_with "eval Call" => (((fail_if_success (with_reducible show wpAny _ _ (eval (Expr.Call (Expr.Attribute _ _ _) _ _ _) _) _ _ _)); refine f_Call ?_; intro qk))
  k_with "spliced" => ((refine f_args ?_; intro qk))
  k_with "callWith" => ((refine f_method1 ?_; intro qk))
  k_with "exec Return some" => ((refine f_Return ?_; intro qk))
  k_with "eval Tuple" => ((refine f_Tuple ?_; intro qk))
  k_with "eval List" => ((refine f_List ?_; intro qk))
  k_with "eval IfExp" => ((refine f_IfExp ?_; intro qk))
  k_with "storeName" => ((k_here; k_dflt (refine' f_store ?F ?N ?_ ?a ?b; (case F => k_asm); (case N => k_asm); (case a => rfl); (case b => rfl); k_whole; intro m' h' F' N'; (try k_sweep))))
  k_with "M map1" => (first
    | (refine map_same ?_; with_unfolding_all rfl)
    | ((repeat' (refine List.forall_mem_cons.mpr (And.intro ?_ ?_))); (all_goals first | rfl | exact List.forall_mem_nil _)))
  k_with "M map2" => (first
    | (refine SameOut.both (b := fun _ => none) ?_ ?_ <;> (repeat (refine SameOut.upd ?_ (by with_unfolding_all rfl))) <;> exact SameOut.lookup rfl)
    | (refine' SameOut.both (b := ?kb) ?k1 ?k2; (case k1 => ((repeat (refine SameOut.upd ?_ (by with_unfolding_all rfl))); exact SameOut.refl)); (case k2 => ((repeat (refine SameOut.upd ?_ (by with_unfolding_all rfl))); exact SameOut.refl)))
    | (refine' SameOut.both (b := ?kb) ?k1 ?k2; (case k2 => ((repeat (refine SameOut.upd ?_ (by with_unfolding_all rfl))); exact SameOut.refl)); (case k1 => ((repeat (refine SameOut.skip ?_)); (repeat (refine SameOut.upd ?_ (by with_unfolding_all rfl))); exact SameOut.refl)))
    | (intro y hy; (repeat (refine (if_neg (ne_of_out hy (by with_unfolding_all rfl))).trans ?_)); (refine Eq.symm ?_); (repeat (refine (if_neg (ne_of_out hy (by with_unfolding_all rfl))).trans ?_)); first | rfl | exact lookup_out rfl hy | exact (lookup_out rfl hy).symm | exact (lookup_out rfl hy).trans (lookup_out rfl hy).symm))
  k_with "M fill" => ((
    have kk : PySem.Challenge.rw_pm0034_03 = PySem.Challenge.rw_pm0034_03 ∧ KK.heap_1 = KK.heap_1 := ⟨rfl, rfl⟩
    revert kk
    k_fill
    intro kk
    clear kk))
  k_with "M enter" => ((
    refine wpAny_call ?_
    k_dflt (refine' code_def ?k1 ?k2 ?k3 ?k4 ?k5 ?kA ?kF ?kK ?k6 ?k7 ?k8 ?k9 ?kB ?_ ?c2 ?c3 ?c4 ?c5; (case kA => exact rfl); (case kF => exact rfl); (case kK => assumption); (case k1 => k_asm); (case k2 => k_asm); (case k3 => k_asm); (case k4 => k_asm); (case k5 => k_asm); (case k6 => k_is); (case k7 => k_is); (case k8 => ((try dsimp only); omega)); (case k9 => first | exact BindsTo.of_eq rfl | (refine' kp_binds ?kx ?ke; (case kx => first | (refine' myIn ?kf ?ki; (case kf => with_reducible assumption); (case ki => with_reducible assumption)) | k_in); (case ke => exact fun _ => rfl)) | exact binds_K (by first | (refine' myIn ?kf ?ki; (case kf => with_reducible assumption); (case ki => with_reducible assumption)) | k_in) rfl (by k_is) rfl rfl rfl); (case c5 => decide); (case kB => exact locs rfl); (case c2 => exact rfl); (case c3 => exact rfl); (case c4 => exact rfl); k_whole; intro g' L' h' FG' F' N' B' X' T'; (have D' := kts_dict B' (by assumption) FG' rfl); (try dsimp only); (try k_lift B'); (refine let_AE (f := execs _) ?_; intro vk ak); (refine f_QE ?_; intro qk ek))))
  k_with "M enter0" => ((
    refine wpAny_call ?_
    k_dflt (refine' code_defS0X ?k1 ?k2 ?k3 ?k4 ?k5 ?kA ?kF ?kK ?k6 ?k7 ?k8 ?k9 ?kB ?_ ?c2 ?c3 ?c4 ?c5; (case kA => exact rfl); (case kF => exact rfl); (case kK => assumption); (case k1 => k_asm); (case k2 => k_asm); (case k3 => k_asm); (case k4 => k_asm); (case k5 => k_asm); (case k6 => k_is); (case k7 => k_is); (case k8 => ((try dsimp only); omega)); (case k9 => first | exact BindsTo.of_eq rfl | (refine' kp_binds ?kx ?ke; (case kx => first | (refine' myIn ?kf ?ki; (case kf => with_reducible assumption); (case ki => with_reducible assumption)) | k_in); (case ke => exact fun _ => rfl)) | exact binds_K (by first | (refine' myIn ?kf ?ki; (case kf => with_reducible assumption); (case ki => with_reducible assumption)) | k_in) rfl (by k_is) rfl rfl rfl); (case c5 => decide); (case kB => exact locs rfl); (case c2 => exact rfl); (case c3 => exact rfl); (case c4 => exact rfl); k_whole; intro g' L' h' FG' F' N' B' X' T' D'; (try dsimp only); (try k_lift B'); (refine let_AE (f := execs _) ?_; intro vk ak); (refine f_QE ?_; intro qk ek))))
  trivial
local macro_rules | `(tactic| k_mem) => `(tactic| first | with_reducible assumption | (refine mem_in ?_; with_reducible assumption))
theorem lines_V4_1 : True := by
  k_with "subscriptTail Name Constant ref int" => ((k_here; refine item_tupleT (News.isTup (by assumption) (by k_mem)) (by decide) (by decide) (by rfl) (by rfl) ?_))
  k_with "subscriptTail Name Constant ref int" => ((k_here; (with_reducible rename StrsAre _ _ => hSA); refine item_strsA (News.isList (by assumption) (by k_mem)) hSA (by decide) (by first | omega | (simp only [List.length_map]; omega)) (by decide) ?_; intro t'))
  k_with "call type:ValueError" => ((refine call_ValueError_made ?_; intro _ _ _))
  k_with "exec While Compare Name cons nil" => (refine Hold.mk ?_)
  k_with "exec While Compare" => (refine Hold.mk ?_)
  k_with "exec While Compare cons nil" => (refine Hold.mk ?_)
  k_with "exec While" => (refine Hold.mk ?_)
  k_with "binaryOp FloorDiv int int" => ((k_here; (with_reducible refine floordiv_pos ?kb1 ?kb2 ?_); (case kb1 => decide); (case kb2 => decide +kernel)))
  k_with "WhlIf" => ((refine whlIf_dec ?_ ?_ <;> intro _))
  k_with "subscriptTail Name Name ref int" => ((k_here; first
    | ((with_reducible rename StrsAre _ _ => hSA); refine item_strsA (News.isList (by assumption) (by k_mem)) hSA (by omega) (by omega) (by omega) ?_; intro t')
    | ((with_reducible rename IntsAre _ _ => hSA); refine item_intsA (News.isList (by assumption) (by k_mem)) hSA (by omega) (by omega) (by omega) ?_; intro t')))
  k_with "call builtin:len" => ((k_here; (with_reducible show wpAny _ _ (call (Value.builtin "len") [Value.ref _]) _ _ _); first
    | ((with_reducible rename StrsAre _ _ => hSA); refine len_strsA (News.isList (by assumption) (by k_mem)) hSA (by omega) ?_)
    | ((with_reducible rename IntsAre _ _ => hSA); refine len_intsA (News.isList (by assumption) (by k_mem)) hSA (by omega) ?_)))
  k_with "subscriptTail Name Constant ref int" => ((k_here; refine item_listL (News.isList (by assumption) (by k_mem)) (by decide) (by decide) (by rfl) ?_))
  k_with "subscriptTail Name Name ref int" => ((k_here; k_dflt (refine' item_listL (News.isList ?zN ?zm) ?z0 ?zf ?zv ?_; (case zN => with_reducible assumption); (case zm => k_mem); (case z0 => omega); (case zf => omega); (case zv => simpa using (by assumption)))))
  k_with "subscriptTail Subscript Slice ref ref" => ((k_here; k_dflt (refine' slice_L ?zF ?zN ?zl ?zp ?zq ?zz ?ze ?_; (case zF => k_asm); (case zN => k_asm); (case zl => k_mem); (case zp => kmk_part); (case zq => kmk_part); (case zz => exact Nat.le_of_ble_eq_true rfl); (case ze => exact rfl)); intro D' h' F' N' l1; (try k_lt l1); (try k_sweep)))
  k_with "call type:list" => ((k_here; (with_reducible show wpAny _ _ (call (Value.type "list") [Value.ref _]) _ _ _); k_dflt (refine' list_of_L ?zF ?zN ?zb ?zz ?_; (case zF => k_asm); (case zN => k_asm); (case zb => k_mem); (case zz => omega)); intro D' c' h' F' N' l1; (try k_lt l1); (try k_sweep)))
  k_with "compareOp NotEq ref ref" => ((k_here; (with_reducible show wpAny _ _ (compareOp CmpOp.NotEq (Value.ref _) (Value.ref _)) _ _ _); k_dflt (refine' ne_strs_L ?zN ?za ?zb ?zs ?zt ?zu ?_; (case zN => k_asm); (case za => k_mem); (case zb => k_mem); (case zs => with_reducible assumption); (case zt => with_reducible assumption); (case zu => ((try dsimp only); omega)))))
  k_with "compareOp NotEq str str" => ((with_reducible refine ne_str_same ?_))
  k_with "compareOp NotEq ref ref" => ((k_here; (with_reducible show wpAny _ _ (compareOp CmpOp.NotEq (Value.ref _) (Value.ref _)) _ _ _); k_dflt (refine' ne_strs_same ?zN ?za ?zb ?zs ?zu ?_; (case zN => k_asm); (case za => k_mem); (case zb => k_mem); (case zs => with_reducible assumption); (case zu => ((try dsimp only); omega)))))
  k_with "binaryOp Mult int int" => (refine mul_int (hm := by assumption) ?_)
  k_with "compareOp NotEq ref ref" => ((k_here; (with_reducible show wpAny _ _ (compareOp CmpOp.NotEq (Value.ref _) (Value.ref _)) _ _ _); k_dflt (refine' ne_ints_same ?zN ?za ?zb ?zs ?zu ?_; (case zN => k_asm); (case za => k_mem); (case zb => k_mem); (case zs => with_reducible assumption); (case zu => ((try dsimp only); omega)))))
  k_with "call builtin:list.insert" => ((k_here; (with_reducible show wpAny _ _ (call (Value.builtin "list.insert") [Value.ref _, Value.int _ _, _]) _ _ _); k_dflt (refine' insert_L ?zF ?zN ?zU ?z0 ?z1 ?zz ?_; (case zF => k_asm); (case zN => k_asm); (case zU => exact UpdF.head (fun p hp => Nat.ne_of_lt (ktn_ltOf (by assumption) p hp))); (case z0 => omega); (case z1 => omega); (case zz => omega)); intro h' F' N'))
  trivial
local macro_rules | `(tactic| k_mem) => `(tactic| first | with_reducible assumption | (refine mem_in ?_; with_reducible assumption))
theorem lines_V4_2 : True := by
  k_with "call builtin:list.append" => ((k_here; (with_reducible show wpAny _ _ (call (Value.builtin "list.append") [Value.ref _, _]) _ _ _); k_dflt (refine' append_L ?zF ?zN (UpdF.head ?zu) ?zz ?_; (case zF => k_asm); (case zN => k_asm); (case zu => assumption); (case zz => omega)); intro h' F' N'))
  k_with "subscriptTail Name UnaryOp ref int" => ((k_here; k_dflt (refine' last_L ?zN ?zm ?zk ?zz ?_; (case zN => with_reducible assumption); (case zm => k_mem); (case zk => rfl); (case zz => omega))))
  trivial
abbrev cells3 (c1 c2 c3 : Addr) : List (PStr × Addr) := [(PySem.Str.ofString "ports", c3), (PySem.Str.ofString "levels", c2), (PySem.Str.ofString "numbers", c1)]
section
variable {w : World} {p : Program} {loose : List PStr} {mean : ExcName → Option Value} {mg mb : PStr → Option Value}
    {dp un : Nat} {gd : Option (List Code)} {a : Addr} {ccd : Value} {c1 c2 c3 : Addr} {A₀ : Around} {base h₀ : Heap} {L : Addr}
    {s : Shared} {news : Ldg}
    (B : Below A₀ base [] h₀) (X : (KK.heap_1 w.params).In h₀) (T : Top p loose mean mg mb h₀) (XB : (KK.heap_1 w.params).In base) (TB : Top p loose mean mg mb base)
include B X T XB TB

theorem step_tail {wvs rvs : List Value} {db da dm dw dr : Addr} {m1 m2 : Int} {t1 t2 : Tok} {em ew er : Nat} {gp : Int} {tg : Tok} {own : Addr × Obj} {jk : PStr → Option Value} {Q : Flow → Shared → Prop} {E : Value → Shared → Prop} {j : Nat} {tj : Tok} {wh sg : Int} {twh tsg : Tok}
   (F : Fr h₀ L s.heap (fun y => if y = PySem.Str.ofString "middle" then some (.ref dm) else if y = PySem.Str.ofString "place" then some (.int j tj) else if y = PySem.Str.ofString "below" then some (.ref db) else if y = PySem.Str.ofString "above" then some (.ref da) else if y = PySem.Str.ofString "gap" then some (.int gp tg)
      else if y = PySem.Str.ofString "way" then some (.ref dw) else if y = PySem.Str.ofString "which" then some (.int wh twh) else if y = PySem.Str.ofString "sought" then some (.int sg tsg) else jk y))
   (N : News h₀ L s.heap ((dw, lstOf wvs ew) :: (dr, lstOf rvs er) :: own :: news)) (hmid : (dm, lstOf [.int m1 t1, .int m2 t2] em) ∈ news) (hwl : wvs.length ≤ 100) (hw : ∀ p ∈ (dr, lstOf rvs er) :: own :: news, p.1 ≠ dw)
   (hmo : IntMulOk sg m2)
   (hlo : (60 * m1 < sg * m2 ∨ (wh.fmod 2 = 1 ∧ 60 * m1 = sg * m2)) → ∀ h' tk t b, b = true → Fr h₀ L h' (fun y => if y = PySem.Str.ofString "middle" then some (.ref dm) else if y = PySem.Str.ofString "place" then some (.int j tj) else if y = PySem.Str.ofString "below" then some (.ref dm) else if y = PySem.Str.ofString "above" then some (.ref da) else if y = PySem.Str.ofString "gap" then some (.int (j + 1) t)
      else if y = PySem.Str.ofString "way" then some (.ref dw) else if y = PySem.Str.ofString "which" then some (.int wh twh) else if y = PySem.Str.ofString "sought" then some (.int sg tsg) else jk y) → News h₀ L h' ((dw, lstOf (wvs ++ [.bool b]) (ew + 1)) :: (dr, lstOf rvs er) :: own :: news) → Q .next { s with heap := h', toks := tk })
   (hhi : ¬ (60 * m1 < sg * m2 ∨ (wh.fmod 2 = 1 ∧ 60 * m1 = sg * m2)) → ∀ h' tk b, b = false → Fr h₀ L h' (fun y => if y = PySem.Str.ofString "middle" then some (.ref dm) else if y = PySem.Str.ofString "place" then some (.int j tj) else if y = PySem.Str.ofString "below" then some (.ref db) else if y = PySem.Str.ofString "above" then some (.ref dm) else if y = PySem.Str.ofString "gap" then some (.int gp tg)
      else if y = PySem.Str.ofString "way" then some (.ref dw) else if y = PySem.Str.ofString "which" then some (.int wh twh) else if y = PySem.Str.ofString "sought" then some (.int sg tsg) else jk y) → News h₀ L h' ((dw, lstOf (wvs ++ [.bool b]) (ew + 1)) :: (dr, lstOf rvs er) :: own :: news) → Q .next { s with heap := h', toks := tk }) :
   wpAny (model PySem.Challenge.rw_pm0034_03.row.prog w) (ktrTop dp un gd (PySem.Str.ofString "law") lawScope3 L a ccd (cells3 c1 c2 c3) []) (execs (step3.drop 4) (envX (PySem.Str.ofString "law") lawScope3 L a ccd (cells3 c1 c2 c3))) Q E s := by
  walk_at "M fill"
  show wpAny _ (ktrTop _ _ _ _ (Scope.mk _ _ _ _ _) _ _ _ _ _) (execs (_ :: _ :: []) (envX _ (Scope.mk _ _ _ _ _) _ _ _ _)) _ _ _
  k_steps
  · refine' hlo (.inl (by assumption)) _ _ _ _ ?bb_1 (fr_map [PySem.Str.ofString "middle", PySem.Str.ofString "place", PySem.Str.ofString "below", PySem.Str.ofString "above", PySem.Str.ofString "gap", PySem.Str.ofString "way", PySem.Str.ofString "which", PySem.Str.ofString "sought"] (by assumption) ?m1_1 ?m2_1) (news_drop1 (by assumption))
    case m1_1 => walk_at "M map1"
    case m2_1 => walk_at "M map2"
    case bb_1 => exact (decide_eq_true (by assumption))
  · refine' hlo (.inr ⟨by assumption, by assumption⟩) _ _ _ _ ?bb_2 (fr_map [PySem.Str.ofString "middle", PySem.Str.ofString "place", PySem.Str.ofString "below", PySem.Str.ofString "above", PySem.Str.ofString "gap", PySem.Str.ofString "way", PySem.Str.ofString "which", PySem.Str.ofString "sought"] (by assumption) ?m1_2 ?m2_2) (news_drop1 (by assumption))
    case m1_2 => walk_at "M map1"
    case m2_2 => walk_at "M map2"
    case bb_2 => exact (beq_iff_eq.mpr (by assumption))
  · refine' hhi (fun c => c.elim (by assumption) (fun c => absurd c.2 (by assumption))) _ _ _ ?bb_3 (fr_map [PySem.Str.ofString "middle", PySem.Str.ofString "place", PySem.Str.ofString "below", PySem.Str.ofString "above", PySem.Str.ofString "gap", PySem.Str.ofString "way", PySem.Str.ofString "which", PySem.Str.ofString "sought"] (by assumption) ?m1_3 ?m2_3) (by assumption)
    case m1_3 => walk_at "M map1"
    case m2_3 => walk_at "M map2"
    case bb_3 => exact (beq_eq_false_iff_ne.mpr (by assumption))
  · exact absurd (by assumption : wh.fmod 2 = 1) (by assumption)
  · refine' hhi (fun c => c.elim (by assumption) (fun c => absurd c.1 (by assumption))) _ _ _ ?bb_5 (fr_map [PySem.Str.ofString "middle", PySem.Str.ofString "place", PySem.Str.ofString "below", PySem.Str.ofString "above", PySem.Str.ofString "gap", PySem.Str.ofString "way", PySem.Str.ofString "which", PySem.Str.ofString "sought"] (by assumption) ?m1_5 ?m2_5) (by assumption)
    case m1_5 => walk_at "M map1"
    case m2_5 => walk_at "M map2"
    case bb_5 => exact (beq_eq_false_iff_ne.mpr (by assumption))
end
end Mine
end
section
open PySem PySem.W PyProof.Rows PySem.Spec PySem.Calls
set_option Elab.async false
set_option maxRecDepth 100000
set_option maxHeartbeats 8000000
set_option linter.all false
namespace Mine
local macro_rules | `(tactic| walk_at "M nothing") => `(tactic| skip)
local macro_rules | `(tactic| walk_at $s:str) => `(tactic| k_extra $s)
local macro_rules | `(tactic| omega) => `(tactic| first
  | with_reducible assumption
  | (refine' room1 ?rmh ?rme; (case rmh => with_reducible assumption); (case rme => with_unfolding_all rfl))
  | (refine' room0 ?rmh ?rme; (case rmh => with_reducible assumption); (case rme => with_unfolding_all rfl))
  | (refine' room2 ?rmh ?rme; (case rmh => with_reducible assumption); (case rme => with_unfolding_all rfl))
  | (refine' room00 ?rmh; (case rmh => with_reducible assumption))
  | (refine num_le ?rme; (case rme => with_unfolding_all rfl))
  | (refine num_lt ?rme; (case rme => with_unfolding_all rfl))
  | (refine' le_num ?rmh ?rme; (case rmh => with_reducible assumption); (case rme => with_unfolding_all rfl))
  | (refine' eq_num ?rmh ?rme; (case rmh => with_reducible assumption); (case rme => with_unfolding_all rfl))
  | omega (config := {}))
theorem lines_V5_0 : True := by
  k_with_none
  k_with "execs cons" => ((refine f_execs ?_; intro qk))
  k_with "eval BinOp" => ((refine f_BinOp ?_; intro qk))
  k_with "exec Assign" => ((refine f_Assign ?_; intro qk))
  k_with "eval Subscript" => ((refine f_Subscript ?_; intro qk))
  k_with "isTrue Compare" => ((refine f_Compare ?_; intro qk))
  k_with "exec If" => ((refine f_If ?_; intro qk))
  k_with "eval Call" => (((fail_if_success (with_reducible show wpAny _ _ (eval (Expr.Call (Expr.Attribute _ _ _) _ _ _) _) _ _ _)); refine f_Call ?_; intro qk))
  k_with "spliced" => ((refine f_args ?_; intro qk))
  k_with "callWith" => ((refine f_method1 ?_; intro qk))
  k_with "exec Return some" => ((refine f_Return ?_; intro qk))
  k_with "eval Tuple" => ((refine f_Tuple ?_; intro qk))
  k_with "eval List" => ((refine f_List ?_; intro qk))
  k_with "eval IfExp" => ((refine f_IfExp ?_; intro qk))
  k_with "storeName" => ((k_here; k_dflt (refine' f_store ?F ?N ?_ ?a ?b; (case F => k_asm); (case N => k_asm); (case a => rfl); (case b => rfl); k_whole; intro m' h' F' N'; (try k_sweep))))
  k_with "M map1" => (first
    | (refine map_same ?_; with_unfolding_all rfl)
    | ((repeat' (refine List.forall_mem_cons.mpr (And.intro ?_ ?_))); (all_goals first | rfl | exact List.forall_mem_nil _)))
  k_with "M map2" => (first
    | (refine SameOut.both (b := fun _ => none) ?_ ?_ <;> (repeat (refine SameOut.upd ?_ (by with_unfolding_all rfl))) <;> exact SameOut.lookup rfl)
    | (refine' SameOut.both (b := ?kb) ?k1 ?k2; (case k1 => ((repeat (refine SameOut.upd ?_ (by with_unfolding_all rfl))); exact SameOut.refl)); (case k2 => ((repeat (refine SameOut.upd ?_ (by with_unfolding_all rfl))); exact SameOut.refl)))
    | (refine' SameOut.both (b := ?kb) ?k1 ?k2; (case k2 => ((repeat (refine SameOut.upd ?_ (by with_unfolding_all rfl))); exact SameOut.refl)); (case k1 => ((repeat (refine SameOut.skip ?_)); (repeat (refine SameOut.upd ?_ (by with_unfolding_all rfl))); exact SameOut.refl)))
    | (intro y hy; (repeat (refine (if_neg (ne_of_out hy (by with_unfolding_all rfl))).trans ?_)); (refine Eq.symm ?_); (repeat (refine (if_neg (ne_of_out hy (by with_unfolding_all rfl))).trans ?_)); first | rfl | exact lookup_out rfl hy | exact (lookup_out rfl hy).symm | exact (lookup_out rfl hy).trans (lookup_out rfl hy).symm))
  k_with "M fill" => ((
    have kk : PySem.Challenge.rw_pm0034_03 = PySem.Challenge.rw_pm0034_03 ∧ KK.heap_1 = KK.heap_1 := ⟨rfl, rfl⟩
    revert kk
    k_fill
    intro kk
    clear kk))
  k_with "M enter" => ((
    refine wpAny_call ?_
    k_dflt (refine' code_def ?k1 ?k2 ?k3 ?k4 ?k5 ?kA ?kF ?kK ?k6 ?k7 ?k8 ?k9 ?kB ?_ ?c2 ?c3 ?c4 ?c5; (case kA => exact rfl); (case kF => exact rfl); (case kK => assumption); (case k1 => k_asm); (case k2 => k_asm); (case k3 => k_asm); (case k4 => k_asm); (case k5 => k_asm); (case k6 => k_is); (case k7 => k_is); (case k8 => ((try dsimp only); omega)); (case k9 => first | exact BindsTo.of_eq rfl | (refine' kp_binds ?kx ?ke; (case kx => first | (refine' myIn ?kf ?ki; (case kf => with_reducible assumption); (case ki => with_reducible assumption)) | k_in); (case ke => exact fun _ => rfl)) | exact binds_K (by first | (refine' myIn ?kf ?ki; (case kf => with_reducible assumption); (case ki => with_reducible assumption)) | k_in) rfl (by k_is) rfl rfl rfl); (case c5 => decide); (case kB => exact locs rfl); (case c2 => exact rfl); (case c3 => exact rfl); (case c4 => exact rfl); k_whole; intro g' L' h' FG' F' N' B' X' T'; (have D' := kts_dict B' (by assumption) FG' rfl); (try dsimp only); (try k_lift B'); (refine let_AE (f := execs _) ?_; intro vk ak); (refine f_QE ?_; intro qk ek))))
  k_with "M enter0" => ((
    refine wpAny_call ?_
    k_dflt (refine' code_defS0X ?k1 ?k2 ?k3 ?k4 ?k5 ?kA ?kF ?kK ?k6 ?k7 ?k8 ?k9 ?kB ?_ ?c2 ?c3 ?c4 ?c5; (case kA => exact rfl); (case kF => exact rfl); (case kK => assumption); (case k1 => k_asm); (case k2 => k_asm); (case k3 => k_asm); (case k4 => k_asm); (case k5 => k_asm); (case k6 => k_is); (case k7 => k_is); (case k8 => ((try dsimp only); omega)); (case k9 => first | exact BindsTo.of_eq rfl | (refine' kp_binds ?kx ?ke; (case kx => first | (refine' myIn ?kf ?ki; (case kf => with_reducible assumption); (case ki => with_reducible assumption)) | k_in); (case ke => exact fun _ => rfl)) | exact binds_K (by first | (refine' myIn ?kf ?ki; (case kf => with_reducible assumption); (case ki => with_reducible assumption)) | k_in) rfl (by k_is) rfl rfl rfl); (case c5 => decide); (case kB => exact locs rfl); (case c2 => exact rfl); (case c3 => exact rfl); (case c4 => exact rfl); k_whole; intro g' L' h' FG' F' N' B' X' T' D'; (try dsimp only); (try k_lift B'); (refine let_AE (f := execs _) ?_; intro vk ak); (refine f_QE ?_; intro qk ek))))
  trivial
local macro_rules | `(tactic| k_mem) => `(tactic| first | with_reducible assumption | (refine mem_in ?_; with_reducible assumption))
theorem lines_V5_1 : True := by
  k_with "subscriptTail Name Constant ref int" => ((k_here; refine item_tupleT (News.isTup (by assumption) (by k_mem)) (by decide) (by decide) (by rfl) (by rfl) ?_))
  k_with "subscriptTail Name Constant ref int" => ((k_here; (with_reducible rename StrsAre _ _ => hSA); refine item_strsA (News.isList (by assumption) (by k_mem)) hSA (by decide) (by first | omega | (simp only [List.length_map]; omega)) (by decide) ?_; intro t'))
  k_with "call type:ValueError" => ((refine call_ValueError_made ?_; intro _ _ _))
  k_with "exec While Compare Name cons nil" => (refine Hold.mk ?_)
  k_with "exec While Compare" => (refine Hold.mk ?_)
  k_with "exec While Compare cons nil" => (refine Hold.mk ?_)
  k_with "exec While" => (refine Hold.mk ?_)
  k_with "binaryOp FloorDiv int int" => ((k_here; (with_reducible refine floordiv_pos ?kb1 ?kb2 ?_); (case kb1 => decide); (case kb2 => decide +kernel)))
  k_with "WhlIf" => ((refine whlIf_dec ?_ ?_ <;> intro _))
  k_with "subscriptTail Name Name ref int" => ((k_here; first
    | ((with_reducible rename StrsAre _ _ => hSA); refine item_strsA (News.isList (by assumption) (by k_mem)) hSA (by omega) (by omega) (by omega) ?_; intro t')
    | ((with_reducible rename IntsAre _ _ => hSA); refine item_intsA (News.isList (by assumption) (by k_mem)) hSA (by omega) (by omega) (by omega) ?_; intro t')))
  k_with "call builtin:len" => ((k_here; (with_reducible show wpAny _ _ (call (Value.builtin "len") [Value.ref _]) _ _ _); first
    | ((with_reducible rename StrsAre _ _ => hSA); refine len_strsA (News.isList (by assumption) (by k_mem)) hSA (by omega) ?_)
    | ((with_reducible rename IntsAre _ _ => hSA); refine len_intsA (News.isList (by assumption) (by k_mem)) hSA (by omega) ?_)))
  k_with "subscriptTail Name Constant ref int" => ((k_here; refine item_listL (News.isList (by assumption) (by k_mem)) (by decide) (by decide) (by rfl) ?_))
  k_with "call ref" => (((with_reducible show wpAny _ _ (call (Value.ref 129) _) _ _ _); refine' mediant_spec ?kB ?kX ?kT ?kXB ?kTB ?kD ?kh ?kd ?ku ?kF ?kN ?ka ?kb ?_; (case kB => assumption); (case kX => assumption); (case kT => assumption); (case kXB => assumption); (case kTB => assumption); (case kD => assumption); (case kh => rfl); (case kd => ((try dsimp only); omega)); (case ku => ((try dsimp only); omega)); (case kF => with_reducible assumption); (case kN => with_reducible assumption); (case ka => k_mem); (case kb => k_mem)))
  k_with "subscriptTail Name Name ref int" => ((k_here; k_dflt (refine' item_listL (News.isList ?zN ?zm) ?z0 ?zf ?zv ?_; (case zN => with_reducible assumption); (case zm => k_mem); (case z0 => omega); (case zf => omega); (case zv => simpa using (by assumption)))))
  k_with "subscriptTail Subscript Slice ref ref" => ((k_here; k_dflt (refine' slice_L ?zF ?zN ?zl ?zp ?zq ?zz ?ze ?_; (case zF => k_asm); (case zN => k_asm); (case zl => k_mem); (case zp => kmk_part); (case zq => kmk_part); (case zz => exact Nat.le_of_ble_eq_true rfl); (case ze => exact rfl)); intro D' h' F' N' l1; (try k_lt l1); (try k_sweep)))
  k_with "call type:list" => ((k_here; (with_reducible show wpAny _ _ (call (Value.type "list") [Value.ref _]) _ _ _); k_dflt (refine' list_of_L ?zF ?zN ?zb ?zz ?_; (case zF => k_asm); (case zN => k_asm); (case zb => k_mem); (case zz => omega)); intro D' c' h' F' N' l1; (try k_lt l1); (try k_sweep)))
  k_with "compareOp NotEq ref ref" => ((k_here; (with_reducible show wpAny _ _ (compareOp CmpOp.NotEq (Value.ref _) (Value.ref _)) _ _ _); k_dflt (refine' ne_strs_L ?zN ?za ?zb ?zs ?zt ?zu ?_; (case zN => k_asm); (case za => k_mem); (case zb => k_mem); (case zs => with_reducible assumption); (case zt => with_reducible assumption); (case zu => ((try dsimp only); omega)))))
  k_with "compareOp NotEq str str" => ((with_reducible refine ne_str_same ?_))
  k_with "compareOp NotEq ref ref" => ((k_here; (with_reducible show wpAny _ _ (compareOp CmpOp.NotEq (Value.ref _) (Value.ref _)) _ _ _); k_dflt (refine' ne_strs_same ?zN ?za ?zb ?zs ?zu ?_; (case zN => k_asm); (case za => k_mem); (case zb => k_mem); (case zs => with_reducible assumption); (case zu => ((try dsimp only); omega)))))
  k_with "binaryOp Mult int int" => (refine mul_int (hm := by assumption) ?_)
  k_with "compareOp NotEq ref ref" => ((k_here; (with_reducible show wpAny _ _ (compareOp CmpOp.NotEq (Value.ref _) (Value.ref _)) _ _ _); k_dflt (refine' ne_ints_same ?zN ?za ?zb ?zs ?zu ?_; (case zN => k_asm); (case za => k_mem); (case zb => k_mem); (case zs => with_reducible assumption); (case zu => ((try dsimp only); omega)))))
  k_with "call builtin:list.insert" => ((k_here; (with_reducible show wpAny _ _ (call (Value.builtin "list.insert") [Value.ref _, Value.int _ _, _]) _ _ _); k_dflt (refine' insert_L ?zF ?zN ?zU ?z0 ?z1 ?zz ?_; (case zF => k_asm); (case zN => k_asm); (case zU => exact UpdF.head (fun p hp => Nat.ne_of_lt (ktn_ltOf (by assumption) p hp))); (case z0 => omega); (case z1 => omega); (case zz => omega)); intro h' F' N'))
  trivial
/-- what a turn holds still -/
structure TV where
  dfr : Addr
  dth : Addr
  dst : Addr
  dw : Addr
  dr : Addr
  wh : Int
  twh : Tok
  sg : Int
  tsg : Tok
  lo : Int
  tlo : Tok
  sh : Int
  tsh : Tok
  thv : Value
  hv : Value
def sMap (v : TV) (b a : Addr) (gp : Int) (tg : Tok) (st : Option Value) (jk : PStr → Option Value) : PStr → Option Value := fun y =>
  if y = PySem.Str.ofString "step" then st else if y = PySem.Str.ofString "below" then some (.ref b) else if y = PySem.Str.ofString "above" then some (.ref a) else if y = PySem.Str.ofString "gap" then some (.int gp tg)
  else if y = PySem.Str.ofString "fractions" then some (.ref v.dfr) else if y = PySem.Str.ofString "things" then some (.ref v.dth) else if y = PySem.Str.ofString "start" then some (.ref v.dst) else if y = PySem.Str.ofString "way" then some (.ref v.dw) else if y = PySem.Str.ofString "row" then some (.ref v.dr)
  else if y = PySem.Str.ofString "which" then some (.int v.wh v.twh) else if y = PySem.Str.ofString "sought" then some (.int v.sg v.tsg) else if y = PySem.Str.ofString "low" then some (.int v.lo v.tlo) else if y = PySem.Str.ofString "shift" then some (.int v.sh v.tsh) else if y = PySem.Str.ofString "thing" then some v.thv else if y = PySem.Str.ofString "high" then some v.hv else jk y
abbrev sNames : List PStr := [PySem.Str.ofString "step", PySem.Str.ofString "below", PySem.Str.ofString "above", PySem.Str.ofString "gap", PySem.Str.ofString "fractions", PySem.Str.ofString "things", PySem.Str.ofString "start", PySem.Str.ofString "way", PySem.Str.ofString "row", PySem.Str.ofString "which", PySem.Str.ofString "sought", PySem.Str.ofString "low", PySem.Str.ofString "shift", PySem.Str.ofString "thing", PySem.Str.ofString "high"]
local macro_rules | `(tactic| k_mem) => `(tactic| first | with_reducible assumption | (refine mem_in ?_; with_reducible assumption))
section
variable {w : World} {p : Program} {loose : List PStr} {mean : ExcName → Option Value} {mg mb : PStr → Option Value}
    {dp un : Nat} {gd : Option (List Code)} {a : Addr} {ccd : Value} {c1 c2 c3 : Addr} {A₀ : Around} {base h₀ : Heap} {L : Addr}
    {s : Shared} {news : Ldg}
    (B : Below A₀ base [] h₀) (X : (KK.heap_1 w.params).In h₀) (T : Top p loose mean mg mb h₀) (XB : (KK.heap_1 w.params).In base) (TB : Top p loose mean mg mb base)
include B X T XB TB

theorem step_body {v : TV} {fvs tvs wvs rvs : List Value} {fs : List (Int × Int)} {db da : Addr} {b1 b2 a1 a2 : Int} {t1 t2 t3 t4 : Tok} {e1 e2 ew er et : Nat} {gp : Int} {tg : Tok} {own : Addr × Obj} {jk : PStr → Option Value} {Q : Flow → Shared → Prop} {E : Value → Shared → Prop} {i : Nat} {ti : Tok}
   (hd5 : dp + 60 < recursionLimit) (hu5 : un + 500 < cLine)
   (F : Fr h₀ L s.heap (sMap v db da gp tg (some (.int i ti)) jk))
   (N : News h₀ L s.heap ((v.dw, lstOf wvs ew) :: (v.dr, lstOf rvs er) :: own :: news))
   (hb : (db, lstOf [.int b1 t1, .int b2 t2] e1) ∈ news) (ha : (da, lstOf [.int a1 t3, .int a2 t4] e2) ∈ news)
   (hfr : (v.dfr, lstOf fvs 0) ∈ news) (hP : PairsAre news fvs fs) {j rj : Nat} {bad good : PStr} {tb tgd : Tok} {dv : Value} (hj : j < fs.length) (hit : fs[j] = (b1 + a1, b2 + a2)) (hno : ∀ i (h : i < fs.length), i < j → fs[i] ≠ (b1 + a1, b2 + a2)) (hfl : fs.length ≤ 15)
   (hth : (v.dth, lstOf tvs et) ∈ news) (htl : tvs.length = fs.length) (htj : tvs[j]? = some (.ref rj)) (hrj : (rj, lstOf [.str bad tb, dv, .str good tgd] 0) ∈ news) {ys : List PStr} (hrs : StrsAre rvs ys) (hrl : rvs.length ≤ 100) (hlo0 : 0 ≤ v.lo) (hlj : v.lo + (j : Int) < rvs.length) (hwl : wvs.length ≤ 100) (hmo : IntMulOk v.sg (b2 + a2))
   (hap : ∀ p ∈ own :: news, p.1 ≠ v.dr ∧ p.1 ≠ v.dw) (hwr : v.dw ≠ v.dr) (hdv : dv = .none ∨ ∃ due td, dv = .str due td ∧ due.length ≤ 1000 ∧
     ∀ {Q' E' : Value → Shared → Prop} {s' : Shared} {m' : PStr → Option Value} {led : Ldg} (tw tl : Tok), (v.dr, lstOf rvs er) ∈ led → Fr h₀ L s'.heap m' → News h₀ L s'.heap led →
      (∀ t h' tk, Fr h₀ L h' m' → News h₀ L h' led → Q' (.str due t) { s' with heap := h', toks := tk }) →
      wpC (model PySem.Challenge.rw_pm0034_03.row.prog w) (ktrTop dp un gd (PySem.Str.ofString "law") lawScope3 L a ccd (cells3 c1 c2 c3) []) (call (.ref 115) [.int v.wh tw, .ref v.dr, v.thv, .int v.lo tl, v.hv, .ref 108]) Q' E' s')
   (hlo : (60 * (b1 + a1) < v.sg * (b2 + a2) ∨ (v.wh.fmod 2 = 1 ∧ 60 * (b1 + a1) = v.sg * (b2 + a2))) → ∀ h' tk t b dm tm1 tm2 jk' rv2, b = true → ((rv2 = rvs ∧ dv = .none) ∨ (rv2 = rvs.set (v.lo + (j : Int)).toNat (.str good tgd) ∧ dv ≠ .none)) →
      Fr h₀ L h' (sMap v dm da (j + 1) t (some (.int i ti)) jk') → News h₀ L h' ((v.dw, lstOf (wvs ++ [.bool b]) (ew + 1)) :: (v.dr, lstOf rv2 er) :: own :: (dm, lstOf [.int (b1 + a1) tm1, .int (b2 + a2) tm2] 0) :: news) → (∀ p ∈ (v.dw, lstOf wvs ew) :: (v.dr, lstOf rvs er) :: own :: news, p.1 < dm) → Q .next { s with heap := h', toks := tk })
   (hhi : ¬ (60 * (b1 + a1) < v.sg * (b2 + a2) ∨ (v.wh.fmod 2 = 1 ∧ 60 * (b1 + a1) = v.sg * (b2 + a2))) → ∀ h' tk b dm tm1 tm2 jk' rv2, b = false → ((rv2 = rvs ∧ dv = .none) ∨ (rv2 = rvs.set (v.lo + (j : Int)).toNat (.str good tgd) ∧ dv ≠ .none)) →
      Fr h₀ L h' (sMap v db dm gp tg (some (.int i ti)) jk') → News h₀ L h' ((v.dw, lstOf (wvs ++ [.bool b]) (ew + 1)) :: (v.dr, lstOf rv2 er) :: own :: (dm, lstOf [.int (b1 + a1) tm1, .int (b2 + a2) tm2] 0) :: news) → (∀ p ∈ (v.dw, lstOf wvs ew) :: (v.dr, lstOf rvs er) :: own :: news, p.1 < dm) → Q .next { s with heap := h', toks := tk }) :
   wpC (model PySem.Challenge.rw_pm0034_03.row.prog w) (ktrTop dp un gd (PySem.Str.ofString "law") lawScope3 L a ccd (cells3 c1 c2 c3) []) (execs step3 (envX (PySem.Str.ofString "law") lawScope3 L a ccd (cells3 c1 c2 c3))) Q E s := by
  walk_at "M fill"
  have D : KtsDicts (([] : List Env).filterMap (·.frame)) h₀ := fun b hb => nomatch hb
  show wpC _ (ktrTop _ _ _ _ (Scope.mk _ _ _ _ _) _ _ _ _ _) (execs (_ :: _ :: _ :: _ :: _ :: _ :: []) (envX _ (Scope.mk _ _ _ _ _) _ _ _ _)) _ _ _
  unfold sMap at F
  refine execs_pre (pre := [_]) (rest := _) ?_
  k_fold
  k_steps
  (with_reducible rename ∀ p ∈ (v.dw, _) :: _, _ => hmlt)
  refine execs_pre (pre := [_]) (rest := _) ?_
  k_fold
  k_steps
  refine' idx_pairs ?iN ?iD ?iq ?iP hj ?ii ?ino (by omega) ?iu ?_
  case iN => with_reducible assumption
  case iD => k_mem
  case iq => k_mem
  case iP => exact hP.mono (fun p hp => .tail _ (.tail _ (.tail _ (.tail _ hp))))
  case ii => exact hit
  case ino => exact hno
  case iu => ((try dsimp only); omega)
  k_steps
  refine execs_pre (pre := [_]) (rest := _) ?_
  k_fold
  k_steps
  (with_reducible rename News _ _ _ _ => kN)
  rename_i dm tm1 tm2 _ _ _ _ _ _ _ _ _ _ _ _ _ _ _ _ _ _ _ _ _ _
  have kN1 := news_drop1 kN
  clear kN
  rcases hdv with rfl | ⟨due, td, rfl, hdl, htold⟩
  · refine execs_pre (pre := [_]) (rest := _) ?_
    k_fold
    k_steps
    have kN2 := news_sub (by assumption : News h₀ L _ ((dm, lstOf [.int (b1 + a1) tm1, .int (b2 + a2) tm2] 0) :: (v.dw, lstOf wvs ew) :: (v.dr, lstOf rvs er) :: own :: news)) mem_mv1
    refine wpC_any ?_
    refine' step_tail (j := j) (sg := v.sg) (wh := v.wh) (m1 := b1 + a1) (m2 := b2 + a2) B X T XB TB (fr_map [PySem.Str.ofString "middle", PySem.Str.ofString "place", PySem.Str.ofString "below", PySem.Str.ofString "above", PySem.Str.ofString "gap", PySem.Str.ofString "way", PySem.Str.ofString "which", PySem.Str.ofString "sought"] (by assumption) ?f1_n ?f2_n) (rvs := rvs) (er := er) (wvs := wvs) (ew := ew) (own := own) (news := (dm, lstOf [.int (b1 + a1) tm1, .int (b2 + a2) tm2] 0) :: news) kN2 (.head _) hwl ?w_n hmo ?lo_n ?hi_n
    case f1_n => walk_at "M map1"
    case f2_n => walk_at "M map2"
    case w_n =>
      intro p hp
      rcases List.mem_cons.mp hp with rfl | hp
      · exact hwr.symm
      rcases List.mem_cons.mp hp with rfl | hp
      · exact (hap _ (.head _)).2
      rcases List.mem_cons.mp hp with rfl | hp
      · exact Nat.ne_of_gt (hmlt (v.dw, lstOf wvs ew) (.head _))
      · exact (hap _ (.tail _ hp)).2
    case lo_n =>
      intro hc h' tk t b hb F' N'
      refine' hlo hc h' tk t b dm tm1 tm2 _ _ hb (.inl ⟨rfl, rfl⟩) (fr_map sNames F' ?g1_n ?g2_n) N' hmlt
      case g1_n => unfold sMap; walk_at "M map1"
      case g2_n => unfold sMap; walk_at "M map2"
    case hi_n =>
      intro hc h' tk b hb F' N'
      refine' hhi hc h' tk b dm tm1 tm2 _ _ hb (.inl ⟨rfl, rfl⟩) (fr_map sNames F' ?g1_n ?g2_n) N' hmlt
      case g1_n => unfold sMap; walk_at "M map1"
      case g2_n => unfold sMap; walk_at "M map2"
  · refine execs_C ?_
    refine if_C ?_
    refine wpC_any ?_
    k_fold
    k_steps
    refine execs_pre (pre := [_]) (rest := _) ?_
    k_fold
    k_steps
    refine execs_C ?_
    refine if_C ?_
    refine isTrue_or_C ?_
    refine isTrue_compare_C ?_
    refine call_name_C ?_
    k_fold
    k_steps
    refine callWith_K_C (by k_asm) (by k_is) ?_
    k_fold
    k_steps
    refine' htold _ _ ?tm ?tF ?tN ?_
    case tN => with_reducible assumption
    case tF => with_reducible assumption
    case tm => k_mem
    intro t h' tk tF tN
    k_steps
    refine or_one_C ?_
    k_fold
    k_steps
    refine wpC_any (wpAny_execs_nil ?_)
    (with_reducible rename News _ _ _ (_ :: (dm, _) :: _) => kN)
    have kN3 := news_sub kN mem_mv3
    clear kN
    refine execs_pre (pre := [_]) (rest := []) ?_
    k_fold
    k_steps
    refine' set_L ?zF ?zN (UpdF.head ?zu) ?z0 ?zk ?zz ?_
    case zN => with_reducible assumption
    case zF => k_asm
    case zu =>
      intro p hp
      rcases List.mem_cons.mp hp with rfl | hp
      · exact Nat.ne_of_gt (hmlt (v.dr, lstOf rvs er) (.tail _ (.head _)))
      rcases List.mem_cons.mp hp with rfl | hp
      · exact hwr
      rcases List.mem_cons.mp hp with rfl | hp
      · exact (hap _ (.head _)).1
      · exact (hap _ (.tail _ hp)).1
    case z0 => omega
    case zk => exact hlj
    case zz => omega
    intro h'' F'' N''
    k_steps
    refine wpC_any (wpAny_execs_nil ?_)
    have kN2 := news_sub (by assumption : News h₀ L _ ((v.dr, lstOf (rvs.set (v.lo + (j : Int)).toNat (.str good tgd)) er) :: (dm, lstOf [.int (b1 + a1) tm1, .int (b2 + a2) tm2] 0) :: (v.dw, lstOf wvs ew) :: own :: news)) mem_mv2
    refine wpC_any ?_
    refine' step_tail (j := j) (sg := v.sg) (wh := v.wh) (m1 := b1 + a1) (m2 := b2 + a2) B X T XB TB (fr_map [PySem.Str.ofString "middle", PySem.Str.ofString "place", PySem.Str.ofString "below", PySem.Str.ofString "above", PySem.Str.ofString "gap", PySem.Str.ofString "way", PySem.Str.ofString "which", PySem.Str.ofString "sought"] (by assumption) ?f1_s ?f2_s) (rvs := rvs.set (v.lo + (j : Int)).toNat (.str good tgd)) (er := er) (wvs := wvs) (ew := ew) (own := own) (news := (dm, lstOf [.int (b1 + a1) tm1, .int (b2 + a2) tm2] 0) :: news) kN2 (.head _) hwl ?w_s hmo ?lo_s ?hi_s
    case f1_s => walk_at "M map1"
    case f2_s => walk_at "M map2"
    case w_s =>
      intro p hp
      rcases List.mem_cons.mp hp with rfl | hp
      · exact hwr.symm
      rcases List.mem_cons.mp hp with rfl | hp
      · exact (hap _ (.head _)).2
      rcases List.mem_cons.mp hp with rfl | hp
      · exact Nat.ne_of_gt (hmlt (v.dw, lstOf wvs ew) (.head _))
      · exact (hap _ (.tail _ hp)).2
    case lo_s =>
      intro hc h' tk t b hb F' N'
      refine' hlo hc h' tk t b dm tm1 tm2 _ _ hb (.inr ⟨rfl, fun c => by cases c⟩) (fr_map sNames F' ?g1_s ?g2_s) N' hmlt
      case g1_s => unfold sMap; walk_at "M map1"
      case g2_s => unfold sMap; walk_at "M map2"
    case hi_s =>
      intro hc h' tk b hb F' N'
      refine' hhi hc h' tk b dm tm1 tm2 _ _ hb (.inr ⟨rfl, fun c => by cases c⟩) (fr_map sNames F' ?g1_s ?g2_s) N' hmlt
      case g1_s => unfold sMap; walk_at "M map1"
      case g2_s => unfold sMap; walk_at "M map2"
end
end Mine
end
section
open PySem PySem.W PyProof.Rows PySem.Spec PySem.Calls
set_option Elab.async false
set_option maxRecDepth 100000
set_option maxHeartbeats 8000000
set_option linter.all false
namespace Mine
local macro_rules | `(tactic| walk_at $s:str) => `(tactic| k_extra $s)
local macro_rules | `(tactic| omega) => `(tactic| first
  | with_reducible assumption
  | (refine' room1 ?rmh ?rme; (case rmh => with_reducible assumption); (case rme => with_unfolding_all rfl))
  | (refine' room0 ?rmh ?rme; (case rmh => with_reducible assumption); (case rme => with_unfolding_all rfl))
  | (refine' room2 ?rmh ?rme; (case rmh => with_reducible assumption); (case rme => with_unfolding_all rfl))
  | (refine' room00 ?rmh; (case rmh => with_reducible assumption))
  | (refine num_le ?rme; (case rme => with_unfolding_all rfl))
  | (refine num_lt ?rme; (case rme => with_unfolding_all rfl))
  | (refine' le_num ?rmh ?rme; (case rmh => with_reducible assumption); (case rme => with_unfolding_all rfl))
  | (refine' eq_num ?rmh ?rme; (case rmh => with_reducible assumption); (case rme => with_unfolding_all rfl))
  | omega (config := {}))
theorem lines_V6_0 : True := by
  k_with_none
  k_with "execs cons" => ((refine f_execs ?_; intro qk))
  k_with "eval BinOp" => ((refine f_BinOp ?_; intro qk))
  k_with "exec Assign" => ((refine f_Assign ?_; intro qk))
  k_with "eval Subscript" => ((refine f_Subscript ?_; intro qk))
  k_with "isTrue Compare" => ((refine f_Compare ?_; intro qk))
  k_with "exec If" => ((refine f_If ?_; intro qk))
  k_with "eval Call" => (((fail_if_success (with_reducible show wpAny _ _ (eval (Expr.Call (Expr.Attribute _ _ _) _ _ _) _) _ _ _)); refine f_Call ?_; intro qk))
  k_with "spliced" => ((refine f_args ?_; intro qk))
  k_with "callWith" => ((refine f_method1 ?_; intro qk))
  k_with "exec Return some" => ((refine f_Return ?_; intro qk))
  k_with "eval Tuple" => ((refine f_Tuple ?_; intro qk))
  k_with "eval List" => ((refine f_List ?_; intro qk))
  k_with "eval IfExp" => ((refine f_IfExp ?_; intro qk))
  k_with "storeName" => ((k_here; k_dflt (refine' f_store ?F ?N ?_ ?a ?b; (case F => k_asm); (case N => k_asm); (case a => rfl); (case b => rfl); k_whole; intro m' h' F' N'; (try k_sweep))))
  k_with "M map1" => (first
    | (refine map_same ?_; with_unfolding_all rfl)
    | ((repeat' (refine List.forall_mem_cons.mpr (And.intro ?_ ?_))); (all_goals first | rfl | exact List.forall_mem_nil _)))
  k_with "M map2" => (first
    | (refine SameOut.both (b := fun _ => none) ?_ ?_ <;> (repeat (refine SameOut.upd ?_ (by with_unfolding_all rfl))) <;> exact SameOut.lookup rfl)
    | (refine' SameOut.both (b := ?kb) ?k1 ?k2; (case k1 => ((repeat (refine SameOut.upd ?_ (by with_unfolding_all rfl))); exact SameOut.refl)); (case k2 => ((repeat (refine SameOut.upd ?_ (by with_unfolding_all rfl))); exact SameOut.refl)))
    | (refine' SameOut.both (b := ?kb) ?k1 ?k2; (case k2 => ((repeat (refine SameOut.upd ?_ (by with_unfolding_all rfl))); exact SameOut.refl)); (case k1 => ((repeat (refine SameOut.skip ?_)); (repeat (refine SameOut.upd ?_ (by with_unfolding_all rfl))); exact SameOut.refl)))
    | (intro y hy; (repeat (refine (if_neg (ne_of_out hy (by with_unfolding_all rfl))).trans ?_)); (refine Eq.symm ?_); (repeat (refine (if_neg (ne_of_out hy (by with_unfolding_all rfl))).trans ?_)); first | rfl | exact lookup_out rfl hy | exact (lookup_out rfl hy).symm | exact (lookup_out rfl hy).trans (lookup_out rfl hy).symm))
  k_with "M fill" => ((
    have kk : PySem.Challenge.rw_pm0034_03 = PySem.Challenge.rw_pm0034_03 ∧ KK.heap_1 = KK.heap_1 := ⟨rfl, rfl⟩
    revert kk
    k_fill
    intro kk
    clear kk))
  k_with "subscriptTail Name Constant ref int" => ((k_here; refine item_listL (News.isList (by assumption) (by k_mem)) (by decide) (by decide) (by rfl) ?_))
  k_with "subscriptTail Name Name ref int" => ((k_here; k_dflt (refine' item_listL (News.isList ?zN ?zm) ?z0 ?zf ?zv ?_; (case zN => with_reducible assumption); (case zm => k_mem); (case z0 => omega); (case zf => omega); (case zv => simpa using (by assumption)))))
  k_with "subscriptTail Subscript Slice ref ref" => ((k_here; k_dflt (refine' slice_L ?zF ?zN ?zl ?zp ?zq ?zz ?ze ?_; (case zF => k_asm); (case zN => k_asm); (case zl => k_mem); (case zp => kmk_part); (case zq => kmk_part); (case zz => exact Nat.le_of_ble_eq_true rfl); (case ze => exact rfl)); intro D' h' F' N' l1; (try k_lt l1); (try k_sweep)))
  k_with "call type:list" => ((k_here; (with_reducible show wpAny _ _ (call (Value.type "list") [Value.ref _]) _ _ _); k_dflt (refine' list_of_L ?zF ?zN ?zb ?zz ?_; (case zF => k_asm); (case zN => k_asm); (case zb => k_mem); (case zz => omega)); intro D' c' h' F' N' l1; (try k_lt l1); (try k_sweep)))
  k_with "compareOp NotEq ref ref" => ((k_here; (with_reducible show wpAny _ _ (compareOp CmpOp.NotEq (Value.ref _) (Value.ref _)) _ _ _); k_dflt (refine' ne_strs_L ?zN ?za ?zb ?zs ?zt ?zu ?_; (case zN => k_asm); (case za => k_mem); (case zb => k_mem); (case zs => with_reducible assumption); (case zt => with_reducible assumption); (case zu => ((try dsimp only); omega)))))
  k_with "compareOp NotEq str str" => ((with_reducible refine ne_str_same ?_))
  k_with "compareOp NotEq ref ref" => ((k_here; (with_reducible show wpAny _ _ (compareOp CmpOp.NotEq (Value.ref _) (Value.ref _)) _ _ _); k_dflt (refine' ne_strs_same ?zN ?za ?zb ?zs ?zu ?_; (case zN => k_asm); (case za => k_mem); (case zb => k_mem); (case zs => with_reducible assumption); (case zu => ((try dsimp only); omega)))))
  k_with "binaryOp Mult int int" => (refine mul_int (hm := by assumption) ?_)
  k_with "compareOp NotEq ref ref" => ((k_here; (with_reducible show wpAny _ _ (compareOp CmpOp.NotEq (Value.ref _) (Value.ref _)) _ _ _); k_dflt (refine' ne_ints_same ?zN ?za ?zb ?zs ?zu ?_; (case zN => k_asm); (case za => k_mem); (case zb => k_mem); (case zs => with_reducible assumption); (case zu => ((try dsimp only); omega)))))
  k_with "call builtin:list.insert" => ((k_here; (with_reducible show wpAny _ _ (call (Value.builtin "list.insert") [Value.ref _, Value.int _ _, _]) _ _ _); k_dflt (refine' insert_L ?zF ?zN ?zU ?z0 ?z1 ?zz ?_; (case zF => k_asm); (case zN => k_asm); (case zU => exact UpdF.head (fun p hp => Nat.ne_of_lt (ktn_ltOf (by assumption) p hp))); (case z0 => omega); (case z1 => omega); (case zz => omega)); intro h' F' N'))
  trivial
local macro_rules | `(tactic| k_mem) => `(tactic| first | with_reducible assumption | (refine mem_in ?_; with_reducible assumption))
theorem lines_V6_1 : True := by
  k_with "binaryOp FloorDiv int int" => ((k_here; (with_reducible refine floordiv_pos ?kb1 ?kb2 ?_); (case kb1 => decide); (case kb2 => decide +kernel)))
  k_with "binaryOp Add str str" => ((k_here; (with_reducible show wpAny _ _ (binaryOp Operator.Add (Value.str _ _) (Value.str _ _)) _ _ _); (refine add_named (K := 100000) (L := 100000) ?kb ?kd ?ke ?_; (case kb => omega); (case kd => omega); (case ke => decide); intro _ _ _ _ hk _; (try dsimp only at hk))))
  k_with "binaryOp Pow int int" => ((with_reducible refine pow_int_small ?kp1 ?kp2 ?kp3 ?_; (case kp1 => omega); (case kp2 => omega); (case kp3 => decide)))
  trivial
section
variable {w : World} {p : Program} {loose : List PStr} {mean : ExcName → Option Value} {mg mb : PStr → Option Value}
    {dp un : Nat} {gd : Option (List Code)} {a : Addr} {ccd : Value} {c1 c2 c3 : Addr} {A₀ : Around} {base h₀ : Heap} {L : Addr}
    {s : Shared} {news : Ldg}
    (B : Below A₀ base [] h₀) (X : (KK.heap_1 w.params).In h₀) (T : Top p loose mean mg mb h₀) (XB : (KK.heap_1 w.params).In base) (TB : Top p loose mean mg mb base)
include B X T XB TB

theorem turn_a {dn : Addr} {nvs : List Value} {ns : List Int} {o1 o2 : Obj} {jk : PStr → Option Value} {Q : Flow → Shared → Prop} {E : Value → Shared → Prop} {i : Nat} {ti tsh tlv : Tok} {sh lv sz wh sg : Int}
   (hd5 : dp + 60 < recursionLimit) (hu5 : un + 500 < cLine) (hi : i < 8)
   (F : Fr h₀ L s.heap (fun y => if y = PySem.Str.ofString "turn" then some (.int i ti) else if y = PySem.Str.ofString "shift" then some (.int sh tsh) else jk y))
   (N : News h₀ L s.heap news) (hc2 : (c2, o2) ∈ news) (ho2 : o2.data = .cell (some (.int lv tlv))) (hc1 : (c1, o1) ∈ news) (ho1 : o1.data = .cell (some (.ref dn))) (hdn : (dn, lstOf nvs 0) ∈ news) (hns : IntsAre nvs ns) (hnl : ns.length = 15) (hlv : lv = 3 ∨ lv = 4)
   (hsz : (if (i : Int).fmod 2 ≠ 0 then ((i : Int) / 2 + sh).fmod lv else lv) = sz) (hwh : ((i : Int) + (i : Int) / 4 + sh).fmod 4 = wh) (hsg : 10 * ((ns.getD i 0 / 10).fmod 27) - 10 = sg)
   (hret : ∀ h' tk t1 t2 t3, Fr h₀ L h' (fun y => if y = PySem.Str.ofString "sought" then some (.int sg t3) else if y = PySem.Str.ofString "which" then some (.int wh t2) else if y = PySem.Str.ofString "size" then some (.int sz t1) else if y = PySem.Str.ofString "turn" then some (.int i ti) else if y = PySem.Str.ofString "shift" then some (.int sh tsh) else jk y) → News h₀ L h' news → Q .next { s with heap := h', toks := tk }) :
   wpAny (model PySem.Challenge.rw_pm0034_03.row.prog w) (ktrTop dp un gd (PySem.Str.ofString "law") lawScope3 L a ccd (cells3 c1 c2 c3) []) (execs (turn3.take 3) (envX (PySem.Str.ofString "law") lawScope3 L a ccd (cells3 c1 c2 c3))) Q E s := by
  walk_at "M fill"
  show wpAny _ (ktrTop _ _ _ _ (Scope.mk _ _ _ _ _) _ _ _ _ _) (execs (_ :: _ :: _ :: []) (envX _ (Scope.mk _ _ _ _ _) _ _ _ _)) _ _ _
  subst hwh
  subst hsg
  k_steps
  · rw [if_pos (by assumption)] at hsz; subst hsz
    exact hret _ _ _ _ _ (by assumption) (by assumption)
  · rw [if_neg (fun c => c (by assumption))] at hsz; subst hsz
    exact hret _ _ _ _ _ (by assumption) (by assumption)
end
def thTxt (sg : Int) : PStr := PySem.Str.ofString "229 z (|||" ++ PySem.Str.ofString (toString sg) ++ PySem.Str.ofString "|)"
section
variable {w : World} {p : Program} {loose : List PStr} {mean : ExcName → Option Value} {mg mb : PStr → Option Value}
    {dp un : Nat} {gd : Option (List Code)} {a : Addr} {ccd : Value} {c1 c2 c3 : Addr} {A₀ : Around} {base h₀ : Heap} {L : Addr}
    {s : Shared} {news : Ldg}
    (B : Below A₀ base [] h₀) (X : (KK.heap_1 w.params).In h₀) (T : Top p loose mean mg mb h₀) (XB : (KK.heap_1 w.params).In base) (TB : Top p loose mean mg mb base)
include B X T XB TB

theorem turn_b {jk : PStr → Option Value} {Q : Flow → Shared → Prop} {E : Value → Shared → Prop} {twh tsg : Tok} {wh sg : Int}
   (F : Fr h₀ L s.heap (fun y => if y = PySem.Str.ofString "which" then some (.int wh twh) else if y = PySem.Str.ofString "sought" then some (.int sg tsg) else jk y))
   (N : News h₀ L s.heap news) (hs1 : -1000 ≤ sg) (hs2 : sg ≤ 1000) (hsl : (PySem.Str.ofString (toString sg)).length ≤ 100)
   (hret : ∀ h' tk thv, ((wh < 2 ∧ thv = .int sg tsg) ∨ (¬ wh < 2 ∧ ∃ t, thv = .str (thTxt sg) t)) → Fr h₀ L h' (fun y => if y = PySem.Str.ofString "thing" then some thv else if y = PySem.Str.ofString "which" then some (.int wh twh) else if y = PySem.Str.ofString "sought" then some (.int sg tsg) else jk y) → News h₀ L h' news → Q .next { s with heap := h', toks := tk }) :
   wpAny (model PySem.Challenge.rw_pm0034_03.row.prog w) (ktrTop dp un gd (PySem.Str.ofString "law") lawScope3 L a ccd (cells3 c1 c2 c3) []) (execs ((turn3.drop 3).take 1) (envX (PySem.Str.ofString "law") lawScope3 L a ccd (cells3 c1 c2 c3))) Q E s := by
  walk_at "M fill"
  have l1 : (PySem.Str.ofString "229 z (|||").length = 10 := by decide +kernel
  have l2 : (PySem.Str.ofString "|)").length = 2 := by decide +kernel
  show wpAny _ (ktrTop _ _ _ _ (Scope.mk _ _ _ _ _) _ _ _ _ _) (execs (_ :: []) (envX _ (Scope.mk _ _ _ _ _) _ _ _ _)) _ _ _
  k_steps
  · exact hret _ _ _ (.inl ⟨by assumption, rfl⟩) (by assumption) (by assumption)
  refine' hret _ _ _ ?c (by assumption) (by assumption)
  case c => exact .inr ⟨by assumption, _, congrArg (fun x => Value.str x _) (txt_add (by assumption) (txt_add (by assumption) rfl rfl) rfl)⟩
end
section
variable {w : World} {p : Program} {loose : List PStr} {mean : ExcName → Option Value} {mg mb : PStr → Option Value}
    {dp un : Nat} {gd : Option (List Code)} {a : Addr} {ccd : Value} {c1 c2 c3 : Addr} {A₀ : Around} {base h₀ : Heap} {L : Addr}
    {s : Shared} {news : Ldg}
    (B : Below A₀ base [] h₀) (X : (KK.heap_1 w.params).In h₀) (T : Top p loose mean mg mb h₀) (XB : (KK.heap_1 w.params).In base) (TB : Top p loose mean mg mb base)
include B X T XB TB

theorem turn_c {jk : PStr → Option Value} {Q : Flow → Shared → Prop} {E : Value → Shared → Prop} {i sz : Nat} {ti tlo tsz : Tok} {lo : Int} {hv : Value} (hsz : sz ≤ 4)
   (F : Fr h₀ L s.heap (fun y => if y = PySem.Str.ofString "turn" then some (.int i ti) else if y = PySem.Str.ofString "low" then some (.int lo tlo) else if y = PySem.Str.ofString "size" then some (.int sz tsz) else jk y))
   (N : News h₀ L s.heap news)
   (hret : ∀ h' tk hv, (((i : Int).fmod 2 ≠ 0 ∧ ∃ t, hv = .int (lo + 2 ^ sz - 1) t) ∨ ((i : Int).fmod 2 = 0 ∧ hv = .none)) → Fr h₀ L h' (fun y => if y = PySem.Str.ofString "high" then some hv else if y = PySem.Str.ofString "turn" then some (.int i ti) else if y = PySem.Str.ofString "low" then some (.int lo tlo) else if y = PySem.Str.ofString "size" then some (.int sz tsz) else jk y) → News h₀ L h' news → Q .next { s with heap := h', toks := tk }) :
   wpAny (model PySem.Challenge.rw_pm0034_03.row.prog w) (ktrTop dp un gd (PySem.Str.ofString "law") lawScope3 L a ccd (cells3 c1 c2 c3) []) (execs ((turn3.drop 4).take 1) (envX (PySem.Str.ofString "law") lawScope3 L a ccd (cells3 c1 c2 c3))) Q E s := by
  walk_at "M fill"
  show wpAny _ (ktrTop _ _ _ _ (Scope.mk _ _ _ _ _) _ _ _ _ _) (execs (_ :: []) (envX _ (Scope.mk _ _ _ _ _) _ _ _ _)) _ _ _
  k_steps
  · exact hret _ _ _ (.inl ⟨by assumption, _, rfl⟩) (by assumption) (by assumption)
  · exact hret _ _ _ (.inr ⟨by assumption, rfl⟩) (by assumption) (by assumption)
end
end Mine
end
section
open PySem PySem.W PyProof.Rows PySem.Spec PySem.Calls
set_option Elab.async false
set_option maxRecDepth 100000
set_option maxHeartbeats 8000000
set_option linter.all false
namespace Mine
local macro_rules | `(tactic| walk_at "M nothing") => `(tactic| skip)
local macro_rules | `(tactic| walk_at $s:str) => `(tactic| k_extra $s)
local macro_rules | `(tactic| omega) => `(tactic| first
  | with_reducible assumption
  | (refine' room1 ?rmh ?rme; (case rmh => with_reducible assumption); (case rme => with_unfolding_all rfl))
  | (refine' room0 ?rmh ?rme; (case rmh => with_reducible assumption); (case rme => with_unfolding_all rfl))
  | (refine' room2 ?rmh ?rme; (case rmh => with_reducible assumption); (case rme => with_unfolding_all rfl))
  | (refine' room00 ?rmh; (case rmh => with_reducible assumption))
  | (refine num_le ?rme; (case rme => with_unfolding_all rfl))
  | (refine num_lt ?rme; (case rme => with_unfolding_all rfl))
  | (refine' le_num ?rmh ?rme; (case rmh => with_reducible assumption); (case rme => with_unfolding_all rfl))
  | (refine' eq_num ?rmh ?rme; (case rmh => with_reducible assumption); (case rme => with_unfolding_all rfl))
  | omega (config := {}))
theorem lines_V7_0 : True := by
  k_with_none
  k_with "execs cons" => ((refine f_execs ?_; intro qk))
  k_with "eval BinOp" => ((refine f_BinOp ?_; intro qk))
  k_with "exec Assign" => ((refine f_Assign ?_; intro qk))
  k_with "eval Subscript" => ((refine f_Subscript ?_; intro qk))
  k_with "isTrue Compare" => ((refine f_Compare ?_; intro qk))
  k_with "exec If" => ((refine f_If ?_; intro qk))
  k_with "eval Call" => (((fail_if_success (with_reducible show wpAny _ _ (eval (Expr.Call (Expr.Attribute _ _ _) _ _ _) _) _ _ _)); refine f_Call ?_; intro qk))
  k_with "spliced" => ((refine f_args ?_; intro qk))
  k_with "callWith" => ((refine f_method1 ?_; intro qk))
  k_with "exec Return some" => ((refine f_Return ?_; intro qk))
  k_with "eval Tuple" => ((refine f_Tuple ?_; intro qk))
  k_with "eval List" => ((refine f_List ?_; intro qk))
  k_with "eval IfExp" => ((refine f_IfExp ?_; intro qk))
  k_with "storeName" => ((k_here; k_dflt (refine' f_store ?F ?N ?_ ?a ?b; (case F => k_asm); (case N => k_asm); (case a => rfl); (case b => rfl); k_whole; intro m' h' F' N'; (try k_sweep))))
  k_with "M map1" => (first
    | (refine map_same ?_; with_unfolding_all rfl)
    | ((repeat' (refine List.forall_mem_cons.mpr (And.intro ?_ ?_))); (all_goals first | rfl | exact List.forall_mem_nil _)))
  k_with "M map2" => (first
    | (refine SameOut.both (b := fun _ => none) ?_ ?_ <;> (repeat (refine SameOut.upd ?_ (by with_unfolding_all rfl))) <;> exact SameOut.lookup rfl)
    | (refine' SameOut.both (b := ?kb) ?k1 ?k2; (case k1 => ((repeat (refine SameOut.upd ?_ (by with_unfolding_all rfl))); exact SameOut.refl)); (case k2 => ((repeat (refine SameOut.upd ?_ (by with_unfolding_all rfl))); exact SameOut.refl)))
    | (refine' SameOut.both (b := ?kb) ?k1 ?k2; (case k2 => ((repeat (refine SameOut.upd ?_ (by with_unfolding_all rfl))); exact SameOut.refl)); (case k1 => ((repeat (refine SameOut.skip ?_)); (repeat (refine SameOut.upd ?_ (by with_unfolding_all rfl))); exact SameOut.refl)))
    | (intro y hy; (repeat (refine (if_neg (ne_of_out hy (by with_unfolding_all rfl))).trans ?_)); (refine Eq.symm ?_); (repeat (refine (if_neg (ne_of_out hy (by with_unfolding_all rfl))).trans ?_)); first | rfl | exact lookup_out rfl hy | exact (lookup_out rfl hy).symm | exact (lookup_out rfl hy).trans (lookup_out rfl hy).symm))
  k_with "M fill" => ((
    have kk : PySem.Challenge.rw_pm0034_03 = PySem.Challenge.rw_pm0034_03 ∧ KK.heap_1 = KK.heap_1 := ⟨rfl, rfl⟩
    revert kk
    k_fill
    intro kk
    clear kk))
  k_with "subscriptTail Name Constant ref int" => ((k_here; refine item_listL (News.isList (by assumption) (by k_mem)) (by decide) (by decide) (by rfl) ?_))
  k_with "subscriptTail Name Name ref int" => ((k_here; k_dflt (refine' item_listL (News.isList ?zN ?zm) ?z0 ?zf ?zv ?_; (case zN => with_reducible assumption); (case zm => k_mem); (case z0 => omega); (case zf => omega); (case zv => simpa using (by assumption)))))
  k_with "subscriptTail Subscript Slice ref ref" => ((k_here; k_dflt (refine' slice_L ?zF ?zN ?zl ?zp ?zq ?zz ?ze ?_; (case zF => k_asm); (case zN => k_asm); (case zl => k_mem); (case zp => kmk_part); (case zq => kmk_part); (case zz => exact Nat.le_of_ble_eq_true rfl); (case ze => exact rfl)); intro D' h' F' N' l1; (try k_lt l1); (try k_sweep)))
  k_with "call type:list" => ((k_here; (with_reducible show wpAny _ _ (call (Value.type "list") [Value.ref _]) _ _ _); k_dflt (refine' list_of_L ?zF ?zN ?zb ?zz ?_; (case zF => k_asm); (case zN => k_asm); (case zb => k_mem); (case zz => omega)); intro D' c' h' F' N' l1; (try k_lt l1); (try k_sweep)))
  k_with "compareOp NotEq ref ref" => ((k_here; (with_reducible show wpAny _ _ (compareOp CmpOp.NotEq (Value.ref _) (Value.ref _)) _ _ _); k_dflt (refine' ne_strs_L ?zN ?za ?zb ?zs ?zt ?zu ?_; (case zN => k_asm); (case za => k_mem); (case zb => k_mem); (case zs => with_reducible assumption); (case zt => with_reducible assumption); (case zu => ((try dsimp only); omega)))))
  k_with "compareOp NotEq str str" => ((with_reducible refine ne_str_same ?_))
  k_with "compareOp NotEq ref ref" => ((k_here; (with_reducible show wpAny _ _ (compareOp CmpOp.NotEq (Value.ref _) (Value.ref _)) _ _ _); k_dflt (refine' ne_strs_same ?zN ?za ?zb ?zs ?zu ?_; (case zN => k_asm); (case za => k_mem); (case zb => k_mem); (case zs => with_reducible assumption); (case zu => ((try dsimp only); omega)))))
  k_with "binaryOp Mult int int" => (refine mul_int (hm := by assumption) ?_)
  k_with "compareOp NotEq ref ref" => ((k_here; (with_reducible show wpAny _ _ (compareOp CmpOp.NotEq (Value.ref _) (Value.ref _)) _ _ _); k_dflt (refine' ne_ints_same ?zN ?za ?zb ?zs ?zu ?_; (case zN => k_asm); (case za => k_mem); (case zb => k_mem); (case zs => with_reducible assumption); (case zu => ((try dsimp only); omega)))))
  k_with "call builtin:list.insert" => ((k_here; (with_reducible show wpAny _ _ (call (Value.builtin "list.insert") [Value.ref _, Value.int _ _, _]) _ _ _); k_dflt (refine' insert_L ?zF ?zN ?zU ?z0 ?z1 ?zz ?_; (case zF => k_asm); (case zN => k_asm); (case zU => exact UpdF.head (fun p hp => Nat.ne_of_lt (ktn_ltOf (by assumption) p hp))); (case z0 => omega); (case z1 => omega); (case zz => omega)); intro h' F' N'))
  trivial
local macro_rules | `(tactic| k_mem) => `(tactic| first | with_reducible assumption | (refine mem_in ?_; with_reducible assumption))
theorem lines_V7_1 : True := by
  k_with "call ref" => (((with_reducible show wpAny _ _ (call (Value.ref 115) _) _ _ _); refine Hold.mk ?_))
  trivial
section
variable {w : World} {p : Program} {loose : List PStr} {mean : ExcName → Option Value} {mg mb : PStr → Option Value}
    {dp un : Nat} {gd : Option (List Code)} {a : Addr} {ccd : Value} {c1 c2 c3 : Addr} {A₀ : Around} {base h₀ : Heap} {L : Addr}
    {s : Shared} {news : Ldg}
    (B : Below A₀ base [] h₀) (X : (KK.heap_1 w.params).In h₀) (T : Top p loose mean mg mb h₀) (XB : (KK.heap_1 w.params).In base) (TB : Top p loose mean mg mb base)
include B X T XB TB

theorem turn_d {dst : Addr} {svs : List Value} {ss : List PStr} {jk : PStr → Option Value} {Q : Flow → Shared → Prop} {E : Value → Shared → Prop} {i : Nat} {ti tlo twh : Tok} {lo wh : Int} {hv thv : Value} {est : Nat}
   (hd5 : dp + 60 < recursionLimit) (hu5 : un + 500 < cLine) (hi : i < 8)
   (F : Fr h₀ L s.heap (fun y => if y = PySem.Str.ofString "start" then some (.ref dst) else if y = PySem.Str.ofString "which" then some (.int wh twh) else if y = PySem.Str.ofString "thing" then some thv else if y = PySem.Str.ofString "low" then some (.int lo tlo) else if y = PySem.Str.ofString "high" then some hv else if y = PySem.Str.ofString "turn" then some (.int i ti) else jk y))
   (N : News h₀ L s.heap news) (hst : (dst, lstOf svs est) ∈ news) (hss : StrsAre svs ss) (hsl : svs.length ≤ 100)
   (h227 : 1 < wh → ∀ {Q' E' : Value → Shared → Prop} {s' : Shared} {m' : PStr → Option Value} {led : Ldg} {dr : Addr} {er : Nat} (tw tl t3 : Tok), (dr, lstOf svs er) ∈ led → Fr h₀ L s'.heap m' → News h₀ L s'.heap led →
      (∀ t h' tk, Fr h₀ L h' m' → News h₀ L h' led → Q' (.str (PySem.Str.ofString "reply 227 z") t) { s' with heap := h', toks := tk }) →
      wpAny (model PySem.Challenge.rw_pm0034_03.row.prog w) (ktrTop dp un gd (PySem.Str.ofString "law") lawScope3 L a ccd (cells3 c1 c2 c3) []) (call (.ref 115) [.int wh tw, .ref dr, .str (PySem.Str.ofString "227 z") t3, .int lo tl, hv, .ref 108]) Q' E' s')
   (hneg : ∀ {Q' E' : Value → Shared → Prop} {s' : Shared} {m' : PStr → Option Value} {led : Ldg} {dr : Addr} {er : Nat} (tw tl : Tok), (dr, lstOf svs er) ∈ led → Fr h₀ L s'.heap m' → News h₀ L s'.heap led →
      (∀ t h' tk, Fr h₀ L h' m' → News h₀ L h' led → Q' (.str (PySem.Str.ofString "value lo must be non-negative") t) { s' with heap := h', toks := tk }) →
      wpAny (model PySem.Challenge.rw_pm0034_03.row.prog w) (ktrTop dp un gd (PySem.Str.ofString "law") lawScope3 L a ccd (cells3 c1 c2 c3) []) (call (.ref 115) [.int wh tw, .ref dr, thv, .int (-1 - (i : Int)) tl, hv, .ref 108]) Q' E' s')
   (hret : ∀ h' tk dr er, Fr h₀ L h' (fun y => if y = PySem.Str.ofString "row" then some (.ref dr) else if y = PySem.Str.ofString "start" then some (.ref dst) else if y = PySem.Str.ofString "which" then some (.int wh twh) else if y = PySem.Str.ofString "thing" then some thv else if y = PySem.Str.ofString "low" then some (.int lo tlo) else if y = PySem.Str.ofString "high" then some hv else if y = PySem.Str.ofString "turn" then some (.int i ti) else jk y) → News h₀ L h' ((dr, lstOf svs er) :: news) → (∀ p ∈ news, p.1 < dr) → Q .next { s with heap := h', toks := tk }) :
   wpAny (model PySem.Challenge.rw_pm0034_03.row.prog w) (ktrTop dp un gd (PySem.Str.ofString "law") lawScope3 L a ccd (cells3 c1 c2 c3) []) (execs ((turn3.drop 5).take 3) (envX (PySem.Str.ofString "law") lawScope3 L a ccd (cells3 c1 c2 c3))) Q E s := by
  walk_at "M fill"
  have D : KtsDicts (([] : List Env).filterMap (·.frame)) h₀ := fun b hb => nomatch hb
  show wpAny _ (ktrTop _ _ _ _ (Scope.mk _ _ _ _ _) _ _ _ _ _) (execs (_ :: _ :: _ :: []) (envX _ (Scope.mk _ _ _ _ _) _ _ _ _)) _ _ _
  k_steps
  · skip
    refine Hold.out ?_
    refine' h227 (by omega) _ _ _ ?tm_1 ?tF_1 ?tN_1 ?_
    case tN_1 => with_reducible assumption
    case tF_1 => with_reducible assumption
    case tm_1 => k_mem
    intro t h' tk tF tN
    k_steps
    refine Hold.out ?_
    refine' hneg _ _ ?tm_2 ?tF_2 ?tN_2 ?_
    case tN_2 => with_reducible assumption
    case tF_2 => with_reducible assumption
    case tm_2 => k_mem
    intro t h' tk tF tN
    k_steps
    (show Q _ _)
    exact hret _ _ _ _ (by assumption) (by assumption) (by first | assumption | exact ktn_ltOf (by assumption))
  · skip
    refine Hold.out ?_
    refine' hneg _ _ ?tm_3 ?tF_3 ?tN_3 ?_
    case tN_3 => with_reducible assumption
    case tF_3 => with_reducible assumption
    case tm_3 => k_mem
    intro t h' tk tF tN
    k_steps
    (show Q _ _)
    exact hret _ _ _ _ (by assumption) (by assumption) (by first | assumption | exact ktn_ltOf (by assumption))
end
end Mine
end
section
open PySem PySem.W PyProof.Rows PySem.Spec PySem.Calls
set_option Elab.async false
set_option maxRecDepth 100000
set_option maxHeartbeats 8000000
set_option linter.all false
namespace Mine
local macro_rules | `(tactic| walk_at $s:str) => `(tactic| k_extra $s)
local macro_rules | `(tactic| omega) => `(tactic| first
  | with_reducible assumption
  | (refine' room1 ?rmh ?rme; (case rmh => with_reducible assumption); (case rme => with_unfolding_all rfl))
  | (refine' room0 ?rmh ?rme; (case rmh => with_reducible assumption); (case rme => with_unfolding_all rfl))
  | (refine' room2 ?rmh ?rme; (case rmh => with_reducible assumption); (case rme => with_unfolding_all rfl))
  | (refine' room00 ?rmh; (case rmh => with_reducible assumption))
  | (refine num_le ?rme; (case rme => with_unfolding_all rfl))
  | (refine num_lt ?rme; (case rme => with_unfolding_all rfl))
  | (refine' le_num ?rmh ?rme; (case rmh => with_reducible assumption); (case rme => with_unfolding_all rfl))
  | (refine' eq_num ?rmh ?rme; (case rmh => with_reducible assumption); (case rme => with_unfolding_all rfl))
  | omega (config := {}))
theorem lines_V8_0 : True := by
  k_with_none
  k_with "execs cons" => ((refine f_execs ?_; intro qk))
  k_with "eval BinOp" => ((refine f_BinOp ?_; intro qk))
  k_with "exec Assign" => ((refine f_Assign ?_; intro qk))
  k_with "eval Subscript" => ((refine f_Subscript ?_; intro qk))
  k_with "isTrue Compare" => ((refine f_Compare ?_; intro qk))
  k_with "exec If" => ((refine f_If ?_; intro qk))
  k_with "eval Call" => (((fail_if_success (with_reducible show wpAny _ _ (eval (Expr.Call (Expr.Attribute _ _ _) _ _ _) _) _ _ _)); refine f_Call ?_; intro qk))
  k_with "spliced" => ((refine f_args ?_; intro qk))
  k_with "callWith" => ((refine f_method1 ?_; intro qk))
  k_with "exec Return some" => ((refine f_Return ?_; intro qk))
  k_with "eval Tuple" => ((refine f_Tuple ?_; intro qk))
  k_with "eval List" => ((refine f_List ?_; intro qk))
  k_with "eval IfExp" => ((refine f_IfExp ?_; intro qk))
  k_with "storeName" => ((k_here; k_dflt (refine' f_store ?F ?N ?_ ?a ?b; (case F => k_asm); (case N => k_asm); (case a => rfl); (case b => rfl); k_whole; intro m' h' F' N'; (try k_sweep))))
  k_with "M map1" => (first
    | (refine map_same ?_; with_unfolding_all rfl)
    | ((repeat' (refine List.forall_mem_cons.mpr (And.intro ?_ ?_))); (all_goals first | rfl | exact List.forall_mem_nil _)))
  k_with "M map2" => (first
    | (refine SameOut.both (b := fun _ => none) ?_ ?_ <;> (repeat (refine SameOut.upd ?_ (by with_unfolding_all rfl))) <;> exact SameOut.lookup rfl)
    | (refine' SameOut.both (b := ?kb) ?k1 ?k2; (case k1 => ((repeat (refine SameOut.upd ?_ (by with_unfolding_all rfl))); exact SameOut.refl)); (case k2 => ((repeat (refine SameOut.upd ?_ (by with_unfolding_all rfl))); exact SameOut.refl)))
    | (refine' SameOut.both (b := ?kb) ?k1 ?k2; (case k2 => ((repeat (refine SameOut.upd ?_ (by with_unfolding_all rfl))); exact SameOut.refl)); (case k1 => ((repeat (refine SameOut.skip ?_)); (repeat (refine SameOut.upd ?_ (by with_unfolding_all rfl))); exact SameOut.refl)))
    | (intro y hy; (repeat (refine (if_neg (ne_of_out hy (by with_unfolding_all rfl))).trans ?_)); (refine Eq.symm ?_); (repeat (refine (if_neg (ne_of_out hy (by with_unfolding_all rfl))).trans ?_)); first | rfl | exact lookup_out rfl hy | exact (lookup_out rfl hy).symm | exact (lookup_out rfl hy).trans (lookup_out rfl hy).symm))
  k_with "M fill" => ((
    have kk : PySem.Challenge.rw_pm0034_03 = PySem.Challenge.rw_pm0034_03 ∧ KK.heap_1 = KK.heap_1 := ⟨rfl, rfl⟩
    revert kk
    k_fill
    intro kk
    clear kk))
  k_with "subscriptTail Name Constant ref int" => ((k_here; refine item_listL (News.isList (by assumption) (by k_mem)) (by decide) (by decide) (by rfl) ?_))
  k_with "subscriptTail Name Name ref int" => ((k_here; k_dflt (refine' item_listL (News.isList ?zN ?zm) ?z0 ?zf ?zv ?_; (case zN => with_reducible assumption); (case zm => k_mem); (case z0 => omega); (case zf => omega); (case zv => simpa using (by assumption)))))
  k_with "subscriptTail Subscript Slice ref ref" => ((k_here; k_dflt (refine' slice_L ?zF ?zN ?zl ?zp ?zq ?zz ?ze ?_; (case zF => k_asm); (case zN => k_asm); (case zl => k_mem); (case zp => kmk_part); (case zq => kmk_part); (case zz => exact Nat.le_of_ble_eq_true rfl); (case ze => exact rfl)); intro D' h' F' N' l1; (try k_lt l1); (try k_sweep)))
  k_with "call type:list" => ((k_here; (with_reducible show wpAny _ _ (call (Value.type "list") [Value.ref _]) _ _ _); k_dflt (refine' list_of_L ?zF ?zN ?zb ?zz ?_; (case zF => k_asm); (case zN => k_asm); (case zb => k_mem); (case zz => omega)); intro D' c' h' F' N' l1; (try k_lt l1); (try k_sweep)))
  k_with "compareOp NotEq ref ref" => ((k_here; (with_reducible show wpAny _ _ (compareOp CmpOp.NotEq (Value.ref _) (Value.ref _)) _ _ _); k_dflt (refine' ne_strs_L ?zN ?za ?zb ?zs ?zt ?zu ?_; (case zN => k_asm); (case za => k_mem); (case zb => k_mem); (case zs => with_reducible assumption); (case zt => with_reducible assumption); (case zu => ((try dsimp only); omega)))))
  k_with "compareOp NotEq str str" => ((with_reducible refine ne_str_same ?_))
  k_with "compareOp NotEq ref ref" => ((k_here; (with_reducible show wpAny _ _ (compareOp CmpOp.NotEq (Value.ref _) (Value.ref _)) _ _ _); k_dflt (refine' ne_strs_same ?zN ?za ?zb ?zs ?zu ?_; (case zN => k_asm); (case za => k_mem); (case zb => k_mem); (case zs => with_reducible assumption); (case zu => ((try dsimp only); omega)))))
  k_with "binaryOp Mult int int" => (refine mul_int (hm := by assumption) ?_)
  k_with "compareOp NotEq ref ref" => ((k_here; (with_reducible show wpAny _ _ (compareOp CmpOp.NotEq (Value.ref _) (Value.ref _)) _ _ _); k_dflt (refine' ne_ints_same ?zN ?za ?zb ?zs ?zu ?_; (case zN => k_asm); (case za => k_mem); (case zb => k_mem); (case zs => with_reducible assumption); (case zu => ((try dsimp only); omega)))))
  k_with "call builtin:list.insert" => ((k_here; (with_reducible show wpAny _ _ (call (Value.builtin "list.insert") [Value.ref _, Value.int _ _, _]) _ _ _); k_dflt (refine' insert_L ?zF ?zN ?zU ?z0 ?z1 ?zz ?_; (case zF => k_asm); (case zN => k_asm); (case zU => exact UpdF.head (fun p hp => Nat.ne_of_lt (ktn_ltOf (by assumption) p hp))); (case z0 => omega); (case z1 => omega); (case zz => omega)); intro h' F' N'))
  k_with "binaryOp Add ref ref" => ((k_here; (with_reducible show wpAny _ _ (binaryOp Operator.Add (Value.ref _) (Value.ref _)) _ _ _); refine' add_listsN ?F ?N ?a ?b ?z ?_; (case F => with_reducible assumption); (case N => with_reducible assumption); (case a => k_mem); (case b => k_mem); (case z => (simp only [List.length_append, List.length_cons, List.length_nil]; omega)); intro D' h' F' N' l1; (try k_lt l1); (try k_sweep)))
  trivial
local macro_rules | `(tactic| k_mem) => `(tactic| first | with_reducible assumption | (refine mem_in ?_; with_reducible assumption))
theorem lines_V8_1 : True := by
  k_with "binaryOp Pow int int" => ((with_reducible refine pow_int_small ?kp1 ?kp2 ?kp3 ?_; (case kp1 => omega); (case kp2 => omega); (case kp3 => decide)))
  k_with "subscriptTail BinOp BinOp ref int" => ((refine Hold.mk ?_))
  trivial
section
variable {w : World} {p : Program} {loose : List PStr} {mean : ExcName → Option Value} {mg mb : PStr → Option Value}
    {dp un : Nat} {gd : Option (List Code)} {a : Addr} {ccd : Value} {c1 c2 c3 : Addr} {A₀ : Around} {base h₀ : Heap} {L : Addr}
    {s : Shared} {news : Ldg}
    (B : Below A₀ base [] h₀) (X : (KK.heap_1 w.params).In h₀) (T : Top p loose mean mg mb h₀) (XB : (KK.heap_1 w.params).In base) (TB : Top p loose mean mg mb base)
include B X T XB TB

theorem turn_e {dfr : Addr} {fvs : List Value} {fs : List (Int × Int)} {jk : PStr → Option Value} {Q : Flow → Shared → Prop} {E : Value → Shared → Prop} {sz : Nat} {tsz : Tok}
   (hd5 : dp + 60 < recursionLimit) (hu5 : un + 500 < cLine) (hsz : sz ≤ 4)
   (F : Fr h₀ L s.heap (fun y => if y = PySem.Str.ofString "fractions" then some (.ref dfr) else if y = PySem.Str.ofString "size" then some (.int sz tsz) else jk y))
   (N : News h₀ L s.heap news) (hfr : (dfr, lstOf fvs 0) ∈ news) (hP : PairsAre news fvs fs) (hfl : fs.length ≤ 15) (hix : 2 ^ sz - 1 ≤ fs.length)
   (hret : ∀ h' tk db da dw t1 t2 t3 t4 tg ea l', (∀ p ∈ news, p ∈ l') → (db, lstOf [.int 0 t1, .int 1 t2] 0) ∈ l' → (da, lstOf [.int ((fs ++ [(1, 0)]).getD (2 ^ sz - 1) (0, 0)).1 t3, .int ((fs ++ [(1, 0)]).getD (2 ^ sz - 1) (0, 0)).2 t4] ea) ∈ l' → (∀ p ∈ l', p.1 < dw) →
      Fr h₀ L h' (fun y => if y = PySem.Str.ofString "way" then some (.ref dw) else if y = PySem.Str.ofString "gap" then some (.int 0 tg) else if y = PySem.Str.ofString "above" then some (.ref da) else if y = PySem.Str.ofString "below" then some (.ref db) else if y = PySem.Str.ofString "fractions" then some (.ref dfr) else if y = PySem.Str.ofString "size" then some (.int sz tsz) else jk y) → News h₀ L h' ((dw, lstOf [] 0) :: l') → Q .next { s with heap := h', toks := tk }) :
   wpAny (model PySem.Challenge.rw_pm0034_03.row.prog w) (ktrTop dp un gd (PySem.Str.ofString "law") lawScope3 L a ccd (cells3 c1 c2 c3) []) (execs ((turn3.drop 8).take 3) (envX (PySem.Str.ofString "law") lawScope3 L a ccd (cells3 c1 c2 c3))) Q E s := by
  walk_at "M fill"
  have hl := hP.length
  show wpAny _ (ktrTop _ _ _ _ (Scope.mk _ _ _ _ _) _ _ _ _ _) (execs (_ :: _ :: _ :: []) (envX _ (Scope.mk _ _ _ _ _) _ _ _ _)) _ _ _
  k_steps
  (with_reducible rename News _ _ _ _ => kN)
  refine' idx_ext (sz := sz) kN hP hsz hix ?_
  intro r t' u' e hr
  k_steps
  (show Q _ _)
  refine' hret _ _ _ _ _ _ _ _ _ _ _ _ ?hs (.tail _ (.tail _ (.tail _ (.tail _ (.head _))))) (.tail _ hr) ?hlt (fr_map [PySem.Str.ofString "way", PySem.Str.ofString "gap", PySem.Str.ofString "above", PySem.Str.ofString "below", PySem.Str.ofString "fractions", PySem.Str.ofString "size"] (by assumption) ?m1 ?m2) (by assumption)
  case m1 => walk_at "M map1"
  case m2 => walk_at "M map2"
  case hs => exact fun p hp => .tail _ (.tail _ (.tail _ (.tail _ (.tail _ hp))))
  case hlt => exact ktn_ltOf (by assumption)
end
end Mine
end
section
open PySem PySem.W PyProof.Rows PySem.Spec PySem.Calls
set_option Elab.async false
set_option maxRecDepth 100000
set_option maxHeartbeats 8000000
set_option linter.all false
namespace Mine
local macro_rules | `(tactic| walk_at "M nothing") => `(tactic| skip)
local macro_rules | `(tactic| walk_at $s:str) => `(tactic| k_extra $s)
local macro_rules | `(tactic| omega) => `(tactic| first
  | with_reducible assumption
  | (refine' room1 ?rmh ?rme; (case rmh => with_reducible assumption); (case rme => with_unfolding_all rfl))
  | (refine' room0 ?rmh ?rme; (case rmh => with_reducible assumption); (case rme => with_unfolding_all rfl))
  | (refine' room2 ?rmh ?rme; (case rmh => with_reducible assumption); (case rme => with_unfolding_all rfl))
  | (refine' room00 ?rmh; (case rmh => with_reducible assumption))
  | (refine num_le ?rme; (case rme => with_unfolding_all rfl))
  | (refine num_lt ?rme; (case rme => with_unfolding_all rfl))
  | (refine' le_num ?rmh ?rme; (case rmh => with_reducible assumption); (case rme => with_unfolding_all rfl))
  | (refine' eq_num ?rmh ?rme; (case rmh => with_reducible assumption); (case rme => with_unfolding_all rfl))
  | omega (config := {}))
theorem lines_V9_0 : True := by
  k_with_none
  k_with "execs cons" => ((refine f_execs ?_; intro qk))
  k_with "eval BinOp" => ((refine f_BinOp ?_; intro qk))
  k_with "exec Assign" => ((refine f_Assign ?_; intro qk))
  k_with "eval Subscript" => ((refine f_Subscript ?_; intro qk))
  k_with "isTrue Compare" => ((refine f_Compare ?_; intro qk))
  k_with "exec If" => ((refine f_If ?_; intro qk))
  k_with "eval Call" => (((fail_if_success (with_reducible show wpAny _ _ (eval (Expr.Call (Expr.Attribute _ _ _) _ _ _) _) _ _ _)); refine f_Call ?_; intro qk))
  k_with "spliced" => ((refine f_args ?_; intro qk))
  k_with "callWith" => ((refine f_method1 ?_; intro qk))
  k_with "exec Return some" => ((refine f_Return ?_; intro qk))
  k_with "eval Tuple" => ((refine f_Tuple ?_; intro qk))
  k_with "eval List" => ((refine f_List ?_; intro qk))
  k_with "eval IfExp" => ((refine f_IfExp ?_; intro qk))
  k_with "storeName" => ((k_here; k_dflt (refine' f_store ?F ?N ?_ ?a ?b; (case F => k_asm); (case N => k_asm); (case a => rfl); (case b => rfl); k_whole; intro m' h' F' N'; (try k_sweep))))
  k_with "M map1" => (first
    | (refine map_same ?_; with_unfolding_all rfl)
    | ((repeat' (refine List.forall_mem_cons.mpr (And.intro ?_ ?_))); (all_goals first | rfl | exact List.forall_mem_nil _)))
  k_with "M map2" => (first
    | (refine SameOut.both (b := fun _ => none) ?_ ?_ <;> (repeat (refine SameOut.upd ?_ (by with_unfolding_all rfl))) <;> exact SameOut.lookup rfl)
    | (refine' SameOut.both (b := ?kb) ?k1 ?k2; (case k1 => ((repeat (refine SameOut.upd ?_ (by with_unfolding_all rfl))); exact SameOut.refl)); (case k2 => ((repeat (refine SameOut.upd ?_ (by with_unfolding_all rfl))); exact SameOut.refl)))
    | (refine' SameOut.both (b := ?kb) ?k1 ?k2; (case k2 => ((repeat (refine SameOut.upd ?_ (by with_unfolding_all rfl))); exact SameOut.refl)); (case k1 => ((repeat (refine SameOut.skip ?_)); (repeat (refine SameOut.upd ?_ (by with_unfolding_all rfl))); exact SameOut.refl)))
    | (intro y hy; (repeat (refine (if_neg (ne_of_out hy (by with_unfolding_all rfl))).trans ?_)); (refine Eq.symm ?_); (repeat (refine (if_neg (ne_of_out hy (by with_unfolding_all rfl))).trans ?_)); first | rfl | exact lookup_out rfl hy | exact (lookup_out rfl hy).symm | exact (lookup_out rfl hy).trans (lookup_out rfl hy).symm))
  k_with "M fill" => ((
    have kk : PySem.Challenge.rw_pm0034_03 = PySem.Challenge.rw_pm0034_03 ∧ KK.heap_1 = KK.heap_1 := ⟨rfl, rfl⟩
    revert kk
    k_fill
    intro kk
    clear kk))
  k_with "subscriptTail Name Constant ref int" => ((k_here; refine item_listL (News.isList (by assumption) (by k_mem)) (by decide) (by decide) (by rfl) ?_))
  k_with "subscriptTail Name Name ref int" => ((k_here; k_dflt (refine' item_listL (News.isList ?zN ?zm) ?z0 ?zf ?zv ?_; (case zN => with_reducible assumption); (case zm => k_mem); (case z0 => omega); (case zf => omega); (case zv => simpa using (by assumption)))))
  k_with "subscriptTail Subscript Slice ref ref" => ((k_here; k_dflt (refine' slice_L ?zF ?zN ?zl ?zp ?zq ?zz ?ze ?_; (case zF => k_asm); (case zN => k_asm); (case zl => k_mem); (case zp => kmk_part); (case zq => kmk_part); (case zz => exact Nat.le_of_ble_eq_true rfl); (case ze => exact rfl)); intro D' h' F' N' l1; (try k_lt l1); (try k_sweep)))
  k_with "call type:list" => ((k_here; (with_reducible show wpAny _ _ (call (Value.type "list") [Value.ref _]) _ _ _); k_dflt (refine' list_of_L ?zF ?zN ?zb ?zz ?_; (case zF => k_asm); (case zN => k_asm); (case zb => k_mem); (case zz => omega)); intro D' c' h' F' N' l1; (try k_lt l1); (try k_sweep)))
  k_with "compareOp NotEq ref ref" => ((k_here; (with_reducible show wpAny _ _ (compareOp CmpOp.NotEq (Value.ref _) (Value.ref _)) _ _ _); k_dflt (refine' ne_strs_L ?zN ?za ?zb ?zs ?zt ?zu ?_; (case zN => k_asm); (case za => k_mem); (case zb => k_mem); (case zs => with_reducible assumption); (case zt => with_reducible assumption); (case zu => ((try dsimp only); omega)))))
  k_with "compareOp NotEq str str" => ((with_reducible refine ne_str_same ?_))
  k_with "compareOp NotEq ref ref" => ((k_here; (with_reducible show wpAny _ _ (compareOp CmpOp.NotEq (Value.ref _) (Value.ref _)) _ _ _); k_dflt (refine' ne_strs_same ?zN ?za ?zb ?zs ?zu ?_; (case zN => k_asm); (case za => k_mem); (case zb => k_mem); (case zs => with_reducible assumption); (case zu => ((try dsimp only); omega)))))
  k_with "binaryOp Mult int int" => (refine mul_int (hm := by assumption) ?_)
  k_with "compareOp NotEq ref ref" => ((k_here; (with_reducible show wpAny _ _ (compareOp CmpOp.NotEq (Value.ref _) (Value.ref _)) _ _ _); k_dflt (refine' ne_ints_same ?zN ?za ?zb ?zs ?zu ?_; (case zN => k_asm); (case za => k_mem); (case zb => k_mem); (case zs => with_reducible assumption); (case zu => ((try dsimp only); omega)))))
  k_with "call builtin:list.insert" => ((k_here; (with_reducible show wpAny _ _ (call (Value.builtin "list.insert") [Value.ref _, Value.int _ _, _]) _ _ _); k_dflt (refine' insert_L ?zF ?zN ?zU ?z0 ?z1 ?zz ?_; (case zF => k_asm); (case zN => k_asm); (case zU => exact UpdF.head (fun p hp => Nat.ne_of_lt (ktn_ltOf (by assumption) p hp))); (case z0 => omega); (case z1 => omega); (case zz => omega)); intro h' F' N'))
  trivial
/-- refs of things: the reply, its due, the good one -/
inductive ThingsAre (l : Ldg) : List Value → List (PStr × Option PStr × PStr) → Prop where
  | nil : ThingsAre l [] []
  | cons {r : Addr} {x g : PStr} {d : Option PStr} {dv : Value} {t u : Tok} {vs : List Value} {ts : List (PStr × Option PStr × PStr)} (h : (r, lstOf [.str x t, dv, .str g u] 0) ∈ l)
      (hd : (d = none ∧ dv = .none) ∨ ∃ due td, d = some due ∧ dv = .str due td) (hs : ThingsAre l vs ts) : ThingsAre l (.ref r :: vs) ((x, d, g) :: ts)
theorem ThingsAre.mono {l l' : Ldg} (h : ∀ p ∈ l, p ∈ l') : ∀ {vs : List Value} {ts : List (PStr × Option PStr × PStr)}, ThingsAre l vs ts → ThingsAre l' vs ts
  | _, _, .nil => .nil
  | _, _, .cons a d b => .cons (h _ a) d (b.mono h)
theorem ThingsAre.length {l : Ldg} : ∀ {vs : List Value} {ts : List (PStr × Option PStr × PStr)}, ThingsAre l vs ts → vs.length = ts.length
  | _, _, .nil => rfl
  | _, _, .cons _ _ b => congrArg (· + 1) b.length
theorem ThingsAre.at {l : Ldg} : ∀ {vs : List Value} {ts : List (PStr × Option PStr × PStr)}, ThingsAre l vs ts → ∀ (i : Nat) (h : i < ts.length), ∃ r t u dv, vs[i]? = some (.ref r) ∧ (r, lstOf [.str (ts[i]).1 t, dv, .str (ts[i]).2.2 u] 0) ∈ l ∧ (((ts[i]).2.1 = none ∧ dv = .none) ∨ ∃ due td, (ts[i]).2.1 = some due ∧ dv = .str due td)
  | _, _, .cons (r := r) (t := t) (u := u) (dv := dv) a d b, 0, _ => ⟨r, t, u, dv, rfl, a, d⟩
  | _, _, .cons a d b, i + 1, h => b.at i (Nat.lt_of_succ_lt_succ h)
/-- the inner loop's state -/
structure LS where
  b : Addr
  a : Addr
  tg : Tok
  st : Option Value
  jk : PStr → Option Value
  wvs : List Value
  ew : Nat
  rvs : List Value
  er : Nat
  mid : Ldg
/-- what an inner turn does -/
structure Path where
  P : Nat → (Int × Int) × (Int × Int)
  G : Nat → Int
  W : Nat → List Bool
  Y : Nat → List PStr
  J : Nat → Nat
def Path.mid (p : Path) (i : Nat) : Int × Int := ((p.P i).1.1 + (p.P i).2.1, (p.P i).1.2 + (p.P i).2.2)
def Path.go (p : Path) (v : TV) (i : Nat) : Prop := 60 * (p.mid i).1 < v.sg * (p.mid i).2 ∨ (v.wh.fmod 2 = 1 ∧ 60 * (p.mid i).1 = v.sg * (p.mid i).2)
structure Path.Ok (p : Path) (v : TV) (sz : Nat) (fs : List (Int × Int)) (ts : List (PStr × Option PStr × PStr)) : Prop where
  j : ∀ i, i < sz → p.J i < fs.length
  hit : ∀ i (h : p.J i < fs.length), i < sz → fs[p.J i] = p.mid i
  no : ∀ i, i < sz → ∀ k (h : k < fs.length), k < p.J i → fs[k] ≠ p.mid i
  up : ∀ i, i < sz → p.go v i → p.P (i + 1) = (p.mid i, (p.P i).2) ∧ p.G (i + 1) = p.J i + 1 ∧ p.W (i + 1) = p.W i ++ [true]
  dn : ∀ i, i < sz → ¬ p.go v i → p.P (i + 1) = ((p.P i).1, p.mid i) ∧ p.G (i + 1) = p.G i ∧ p.W (i + 1) = p.W i ++ [false]
  same : ∀ i (h : p.J i < ts.length), i < sz → (ts[p.J i]).2.1 = none → p.Y (i + 1) = p.Y i
  put : ∀ i (h : p.J i < ts.length), i < sz → (ts[p.J i]).2.1 ≠ none → p.Y (i + 1) = (p.Y i).set (v.lo + (p.J i : Int)).toNat (ts[p.J i]).2.2
  len : ∀ i, i ≤ sz → (p.Y i).length = (p.Y 0).length
  wlen : ∀ i, i ≤ sz → (p.W i).length ≤ 100
  mul : ∀ i, i < sz → IntMulOk v.sg (p.mid i).2
theorem strs_set : ∀ {vs : List Value} {xs : List PStr} (k : Nat) (x : PStr) (t : Tok), StrsAre vs xs → StrsAre (vs.set k (.str x t)) (xs.set k x)
  | _, _, _, _, _, .nil => .nil
  | _, _, 0, x, t, .cons _ _ r => .cons _ _ r
  | _, _, k + 1, x, t, .cons _ _ r => .cons _ _ (strs_set k x t r)
local macro_rules | `(tactic| k_mem) => `(tactic| first | with_reducible assumption | (refine mem_in ?_; with_reducible assumption))
theorem lines_V9_1 : True := by
  k_with "pyIter ref" => ((refine Hold.mk ?_))
  trivial
section
variable {w : World} {p : Program} {loose : List PStr} {mean : ExcName → Option Value} {mg mb : PStr → Option Value}
    {dp un : Nat} {gd : Option (List Code)} {a : Addr} {ccd : Value} {c1 c2 c3 : Addr} {A₀ : Around} {base h₀ : Heap} {L : Addr}
    {s : Shared} {news : Ldg}
    (B : Below A₀ base [] h₀) (X : (KK.heap_1 w.params).In h₀) (T : Top p loose mean mg mb h₀) (XB : (KK.heap_1 w.params).In base) (TB : Top p loose mean mg mb base)
include B X T XB TB

theorem turn_f {v : TV} {pa : Path} {fvs tvs svs : List Value} {fs : List (Int × Int)} {ts : List (PStr × Option PStr × PStr)} {db da : Addr} {t1 t2 t3 t4 tg tsz : Tok} {e1 e2 er et : Nat} {st0 : Option Value} {jk : PStr → Option Value} {Q : Flow → Shared → Prop} {E : Value → Shared → Prop} {sz : Nat}
   (hd5 : dp + 60 < recursionLimit) (hu5 : un + 500 < cLine) (hsz : sz ≤ 4) (hE : PassesOwn (model PySem.Challenge.rw_pm0034_03.row.prog w) (ktrTop dp un gd (PySem.Str.ofString "law") lawScope3 L a ccd (cells3 c1 c2 c3) []) (envX (PySem.Str.ofString "law") lawScope3 L a ccd (cells3 c1 c2 c3)) E)
   (F : Fr h₀ L s.heap (fun y => if y = PySem.Str.ofString "size" then some (.int sz tsz) else sMap v db da 0 tg st0 jk y))
   (N : News h₀ L s.heap ((v.dw, lstOf [] 0) :: (v.dr, lstOf svs er) :: news))
   (hb : (db, lstOf [.int (pa.P 0).1.1 t1, .int (pa.P 0).1.2 t2] e1) ∈ news) (ha : (da, lstOf [.int (pa.P 0).2.1 t3, .int (pa.P 0).2.2 t4] e2) ∈ news)
   (hfr : (v.dfr, lstOf fvs 0) ∈ news) (hP : PairsAre news fvs fs) (hfl : fs.length ≤ 15) (hth : (v.dth, lstOf tvs et) ∈ news) (hT : ThingsAre news tvs ts) (htl : ts.length = fs.length)
   (hss : StrsAre svs (pa.Y 0)) (hsl : svs.length = v.lo.toNat + fs.length) (hlo0 : 0 ≤ v.lo) (hlo1 : v.lo ≤ 2) (hap : ∀ p ∈ news, p.1 ≠ v.dr ∧ p.1 ≠ v.dw) (hwr : v.dw ≠ v.dr)
   (G0 : pa.G 0 = 0) (W0 : pa.W 0 = []) (ok : pa.Ok v sz fs ts)
   (htold : ∀ i, i < sz → ∀ due, (∃ h : pa.J i < ts.length, (ts[pa.J i]).2.1 = some due) → due.length ≤ 1000 ∧ ∀ {rvs : List Value} {er : Nat}, StrsAre rvs (pa.Y i) → ∀ {Q' E' : Value → Shared → Prop} {s' : Shared} {m' : PStr → Option Value} {led : Ldg} (tw tl : Tok), (v.dr, lstOf rvs er) ∈ led → Fr h₀ L s'.heap m' → News h₀ L s'.heap led →
      (∀ t h' tk, Fr h₀ L h' m' → News h₀ L h' led → Q' (.str due t) { s' with heap := h', toks := tk }) →
      wpC (model PySem.Challenge.rw_pm0034_03.row.prog w) (ktrTop dp un gd (PySem.Str.ofString "law") lawScope3 L a ccd (cells3 c1 c2 c3) []) (call (.ref 115) [.int v.wh tw, .ref v.dr, v.thv, .int v.lo tl, v.hv, .ref 108]) Q' E' s')
   (hret : ∀ h' tk db' da' tg' st' jk' wvs ew rvs er' l', wvs = (pa.W sz).map Value.bool → StrsAre rvs (pa.Y sz) → (∀ p ∈ news, p ∈ l') → (∀ p ∈ l', p.1 ≠ v.dr ∧ p.1 ≠ v.dw) →
      Fr h₀ L h' (sMap v db' da' (pa.G sz) tg' st' jk') → News h₀ L h' ((v.dw, lstOf wvs ew) :: (v.dr, lstOf rvs er') :: l') → Q .next { s with heap := h', toks := tk }) :
   wpC (model PySem.Challenge.rw_pm0034_03.row.prog w) (ktrTop dp un gd (PySem.Str.ofString "law") lawScope3 L a ccd (cells3 c1 c2 c3) []) (execs ((turn3.drop 11).take 1) (envX (PySem.Str.ofString "law") lawScope3 L a ccd (cells3 c1 c2 c3))) Q E s := by
  walk_at "M fill"
  show wpC _ (ktrTop _ _ _ _ (Scope.mk _ _ _ _ _) _ _ _ _ _) (execs (_ :: []) (envX _ (Scope.mk _ _ _ _ _) _ _ _ _)) _ _ _
  unfold sMap at F
  refine execs_C ?_
  refine' For_turns_C (by assumption) ?_ ?hs ?hE
  case hE => exact hE
  case hs => intro x; rfl
  k_fold
  k_steps
  refine Hold.out ?_
  have hyl := hss.len_eq
  refine' pyIter_rangeC (fun (i : Nat) (σ : LS) => (∀ p ∈ news, p ∈ σ.mid) ∧ (∃ t u e, (σ.b, lstOf [.int (pa.P i).1.1 t, .int (pa.P i).1.2 u] e) ∈ σ.mid) ∧ (∃ t u e, (σ.a, lstOf [.int (pa.P i).2.1 t, .int (pa.P i).2.2 u] e) ∈ σ.mid) ∧ σ.wvs = (pa.W i).map Value.bool ∧ StrsAre σ.rvs (pa.Y i) ∧ (∀ p ∈ σ.mid, p.1 ≠ v.dr ∧ p.1 ≠ v.dw))
    (fun i σ => sMap v σ.b σ.a (pa.G i) σ.tg σ.st σ.jk) (fun i σ => (v.dw, lstOf σ.wvs σ.ew) :: (v.dr, lstOf σ.rvs σ.er) :: σ.mid) sz
    ⟨db, da, tg, st0, (fun y => if y = PySem.Str.ofString "size" then some (.int sz tsz) else jk y), [], 0, svs, er, news⟩ sNames (by assumption) (by assumption) (by assumption) rfl (by omega)
    ⟨fun p hp => hp, ⟨_, _, _, hb⟩, ⟨_, _, _, ha⟩, by rw [W0]; rfl, hss, hap⟩ ?m1 ?m2 (fun q hq => hq) ?turn ?done
  case m1 => dsimp only; rw [G0]; unfold sMap; walk_at "M map1"
  case m2 => dsimp only; rw [G0]; unfold sMap; walk_at "M map2"
  case done =>
    rintro σ h tk ⟨hs, _, _, hw, hy, hap1⟩ kF kN
    refine wpC_any (wpAny_execs_nil ?_)
    exact hret _ _ _ _ _ _ _ _ _ _ _ _ hw hy hs hap1 kF kN
  case turn =>
    rintro i σ h tk t own hi ⟨hs, ⟨tb1, tb2, eb, hb1⟩, ⟨ta1, ta2, ea, ha1⟩, hw, hy, hap1⟩ hne kF kN
    dsimp only at kF kN
    unfold sMap at kF
    k_fold
    k_steps
    have hj := ok.j i hi
    have hjt : pa.J i < ts.length := by omega
    obtain ⟨rj, tt, tu, dv, htj, hrj, hdv⟩ := hT.at (pa.J i) hjt
    have hy1 := hy.len_eq
    have hy2 := ok.len i (Nat.le_of_lt hi)
    have hw1 : σ.wvs.length ≤ 100 := by rw [hw, List.length_map]; exact ok.wlen i (Nat.le_of_lt hi)
    refine' step_body (v := v) (fs := fs) (i := i) (j := pa.J i) B X T XB TB hd5 hu5 (fr_map sNames (by assumption) ?f1 ?f2) (news_sub (by assumption) mem_mv4) hb1 ha1 (hs _ hfr) (hP.mono hs) hj (ok.hit i hj hi) (fun k hk hlt => ok.no i hi k hk hlt) hfl (hs _ hth) (hT.length.trans htl) htj (hs _ hrj) hy ?rl hlo0 ?lj hw1 (ok.mul i hi) ?ap hwr ?dv ?lo ?hi
    case f1 => unfold sMap; walk_at "M map1"
    case f2 => unfold sMap; walk_at "M map2"
    case rl => omega
    case lj => omega
    case ap =>
      intro p hp
      rcases List.mem_cons.mp hp with rfl | hp
      · exact ⟨(hne (v.dr, lstOf σ.rvs σ.er) (.tail _ (.head _))).symm, (hne (v.dw, lstOf σ.wvs σ.ew) (.head _)).symm⟩
      · exact hap1 p hp
    case dv =>
      rcases hdv with ⟨_, h1⟩ | ⟨due, td, h1, h2⟩
      · exact .inl h1
      · have ht := htold i hi due ⟨hjt, h1⟩
        exact .inr ⟨due, td, h2, ht.1, ht.2 hy⟩
    case lo =>
      intro hc h2 tk2 t2 b dm tm1 tm2 jk2 rv2 hbv hrv F2 N2 hml
      obtain ⟨e1, e2, e3⟩ := ok.up i hi hc
      refine turnFr_next ⟨dm, σ.a, t2, some (.int i t), jk2, σ.wvs ++ [.bool b], σ.ew + 1, rv2, σ.er, (dm, lstOf [.int ((pa.P i).1.1 + (pa.P i).2.1) tm1, .int ((pa.P i).1.2 + (pa.P i).2.2) tm2] 0) :: σ.mid⟩ sNames F2 N2 ⟨fun p hp => .tail _ (hs p hp), ?_⟩ ?_ ?_ mem_mv5 ?_
      · rw [e1, e3]
        refine ⟨⟨_, _, _, .head _⟩, ⟨_, _, _, .tail _ ha1⟩, ?_, ?_, ?_⟩
        · rw [List.map_append, ← hw, hbv]; rfl
        · rcases hrv with ⟨rfl, hdn⟩ | ⟨rfl, hdn⟩
          · rw [ok.same i hjt hi (by rcases hdv with ⟨h1, _⟩ | ⟨due, td, _, h2⟩; exact h1; rw [h2] at hdn; cases hdn)]; exact hy
          · rw [ok.put i hjt hi (by rcases hdv with ⟨_, h1⟩ | ⟨due, td, h2, _⟩; exact absurd h1 hdn; rw [h2]; exact fun c => by cases c)]; exact strs_set _ _ _ hy
        · intro p hp
          rcases List.mem_cons.mp hp with rfl | hp
          · exact ⟨Nat.ne_of_gt (hml (v.dr, lstOf σ.rvs σ.er) (.tail _ (.head _))), Nat.ne_of_gt (hml (v.dw, lstOf σ.wvs σ.ew) (.head _))⟩
          · exact hap1 p hp
      · dsimp only; rw [e2]; exact fun _ _ => rfl
      · dsimp only; rw [e2]; exact fun _ _ => rfl
      · intro p hp
        rcases List.mem_cons.mp hp with rfl | hp
        · exact hne (v.dw, lstOf σ.wvs σ.ew) (.head _)
        rcases List.mem_cons.mp hp with rfl | hp
        · exact hne (v.dr, lstOf σ.rvs σ.er) (.tail _ (.head _))
        rcases List.mem_cons.mp hp with rfl | hp
        · exact Nat.ne_of_gt (hml own (.tail _ (.tail _ (.head _))))
        · exact hne p (.tail _ (.tail _ hp))
    case hi =>
      intro hc h2 tk2 b dm tm1 tm2 jk2 rv2 hbv hrv F2 N2 hml
      obtain ⟨e1, e2, e3⟩ := ok.dn i hi hc
      refine turnFr_next ⟨σ.b, dm, σ.tg, some (.int i t), jk2, σ.wvs ++ [.bool b], σ.ew + 1, rv2, σ.er, (dm, lstOf [.int ((pa.P i).1.1 + (pa.P i).2.1) tm1, .int ((pa.P i).1.2 + (pa.P i).2.2) tm2] 0) :: σ.mid⟩ sNames F2 N2 ⟨fun p hp => .tail _ (hs p hp), ?_⟩ ?_ ?_ mem_mv5 ?_
      · rw [e1, e3]
        refine ⟨⟨_, _, _, .tail _ hb1⟩, ⟨_, _, _, .head _⟩, ?_, ?_, ?_⟩
        · rw [List.map_append, ← hw, hbv]; rfl
        · rcases hrv with ⟨rfl, hdn⟩ | ⟨rfl, hdn⟩
          · rw [ok.same i hjt hi (by rcases hdv with ⟨h1, _⟩ | ⟨due, td, _, h2⟩; exact h1; rw [h2] at hdn; cases hdn)]; exact hy
          · rw [ok.put i hjt hi (by rcases hdv with ⟨_, h1⟩ | ⟨due, td, h2, _⟩; exact absurd h1 hdn; rw [h2]; exact fun c => by cases c)]; exact strs_set _ _ _ hy
        · intro p hp
          rcases List.mem_cons.mp hp with rfl | hp
          · exact ⟨Nat.ne_of_gt (hml (v.dr, lstOf σ.rvs σ.er) (.tail _ (.head _))), Nat.ne_of_gt (hml (v.dw, lstOf σ.wvs σ.ew) (.head _))⟩
          · exact hap1 p hp
      · dsimp only; rw [e2]; exact fun _ _ => rfl
      · dsimp only; rw [e2]; exact fun _ _ => rfl
      · intro p hp
        rcases List.mem_cons.mp hp with rfl | hp
        · exact hne (v.dw, lstOf σ.wvs σ.ew) (.head _)
        rcases List.mem_cons.mp hp with rfl | hp
        · exact hne (v.dr, lstOf σ.rvs σ.er) (.tail _ (.head _))
        rcases List.mem_cons.mp hp with rfl | hp
        · exact Nat.ne_of_gt (hml own (.tail _ (.tail _ (.head _))))
        · exact hne p (.tail _ (.tail _ hp))
end
end Mine
end
section
open PySem PySem.W PyProof.Rows PySem.Spec PySem.Calls
set_option Elab.async false
set_option maxRecDepth 100000
set_option maxHeartbeats 8000000
set_option linter.all false
namespace Mine
local macro_rules | `(tactic| walk_at $s:str) => `(tactic| k_extra $s)
local macro_rules | `(tactic| omega) => `(tactic| first
  | with_reducible assumption
  | (refine' room1 ?rmh ?rme; (case rmh => with_reducible assumption); (case rme => with_unfolding_all rfl))
  | (refine' room0 ?rmh ?rme; (case rmh => with_reducible assumption); (case rme => with_unfolding_all rfl))
  | (refine' room2 ?rmh ?rme; (case rmh => with_reducible assumption); (case rme => with_unfolding_all rfl))
  | (refine' room00 ?rmh; (case rmh => with_reducible assumption))
  | (refine num_le ?rme; (case rme => with_unfolding_all rfl))
  | (refine num_lt ?rme; (case rme => with_unfolding_all rfl))
  | (refine' le_num ?rmh ?rme; (case rmh => with_reducible assumption); (case rme => with_unfolding_all rfl))
  | (refine' eq_num ?rmh ?rme; (case rmh => with_reducible assumption); (case rme => with_unfolding_all rfl))
  | omega (config := {}))
theorem lines_VA_0 : True := by
  k_with_none
  k_with "execs cons" => ((refine f_execs ?_; intro qk))
  k_with "eval BinOp" => ((refine f_BinOp ?_; intro qk))
  k_with "exec Assign" => ((refine f_Assign ?_; intro qk))
  k_with "eval Subscript" => ((refine f_Subscript ?_; intro qk))
  k_with "isTrue Compare" => ((refine f_Compare ?_; intro qk))
  k_with "exec If" => ((refine f_If ?_; intro qk))
  k_with "eval Call" => (((fail_if_success (with_reducible show wpAny _ _ (eval (Expr.Call (Expr.Attribute _ _ _) _ _ _) _) _ _ _)); refine f_Call ?_; intro qk))
  k_with "spliced" => ((refine f_args ?_; intro qk))
  k_with "callWith" => ((refine f_method1 ?_; intro qk))
  k_with "exec Return some" => ((refine f_Return ?_; intro qk))
  k_with "eval Tuple" => ((refine f_Tuple ?_; intro qk))
  k_with "eval List" => ((refine f_List ?_; intro qk))
  k_with "eval IfExp" => ((refine f_IfExp ?_; intro qk))
  k_with "storeName" => ((k_here; k_dflt (refine' f_store ?F ?N ?_ ?a ?b; (case F => k_asm); (case N => k_asm); (case a => rfl); (case b => rfl); k_whole; intro m' h' F' N'; (try k_sweep))))
  k_with "M map1" => (first
    | (refine map_same ?_; with_unfolding_all rfl)
    | ((repeat' (refine List.forall_mem_cons.mpr (And.intro ?_ ?_))); (all_goals first | rfl | exact List.forall_mem_nil _)))
  k_with "M map2" => (first
    | (refine SameOut.both (b := fun _ => none) ?_ ?_ <;> (repeat (refine SameOut.upd ?_ (by with_unfolding_all rfl))) <;> exact SameOut.lookup rfl)
    | (refine' SameOut.both (b := ?kb) ?k1 ?k2; (case k1 => ((repeat (refine SameOut.upd ?_ (by with_unfolding_all rfl))); exact SameOut.refl)); (case k2 => ((repeat (refine SameOut.upd ?_ (by with_unfolding_all rfl))); exact SameOut.refl)))
    | (refine' SameOut.both (b := ?kb) ?k1 ?k2; (case k2 => ((repeat (refine SameOut.upd ?_ (by with_unfolding_all rfl))); exact SameOut.refl)); (case k1 => ((repeat (refine SameOut.skip ?_)); (repeat (refine SameOut.upd ?_ (by with_unfolding_all rfl))); exact SameOut.refl)))
    | (intro y hy; (repeat (refine (if_neg (ne_of_out hy (by with_unfolding_all rfl))).trans ?_)); (refine Eq.symm ?_); (repeat (refine (if_neg (ne_of_out hy (by with_unfolding_all rfl))).trans ?_)); first | rfl | exact lookup_out rfl hy | exact (lookup_out rfl hy).symm | exact (lookup_out rfl hy).trans (lookup_out rfl hy).symm))
  k_with "M fill" => ((
    have kk : PySem.Challenge.rw_pm0034_03 = PySem.Challenge.rw_pm0034_03 ∧ KK.heap_1 = KK.heap_1 := ⟨rfl, rfl⟩
    revert kk
    k_fill
    intro kk
    clear kk))
  k_with "subscriptTail Name Constant ref int" => ((k_here; refine item_listL (News.isList (by assumption) (by k_mem)) (by decide) (by decide) (by rfl) ?_))
  k_with "subscriptTail Name Name ref int" => ((k_here; k_dflt (refine' item_listL (News.isList ?zN ?zm) ?z0 ?zf ?zv ?_; (case zN => with_reducible assumption); (case zm => k_mem); (case z0 => omega); (case zf => omega); (case zv => simpa using (by assumption)))))
  k_with "subscriptTail Subscript Slice ref ref" => ((k_here; k_dflt (refine' slice_L ?zF ?zN ?zl ?zp ?zq ?zz ?ze ?_; (case zF => k_asm); (case zN => k_asm); (case zl => k_mem); (case zp => kmk_part); (case zq => kmk_part); (case zz => exact Nat.le_of_ble_eq_true rfl); (case ze => exact rfl)); intro D' h' F' N' l1; (try k_lt l1); (try k_sweep)))
  k_with "call type:list" => ((k_here; (with_reducible show wpAny _ _ (call (Value.type "list") [Value.ref _]) _ _ _); k_dflt (refine' list_of_L ?zF ?zN ?zb ?zz ?_; (case zF => k_asm); (case zN => k_asm); (case zb => k_mem); (case zz => omega)); intro D' c' h' F' N' l1; (try k_lt l1); (try k_sweep)))
  k_with "compareOp NotEq ref ref" => ((k_here; (with_reducible show wpAny _ _ (compareOp CmpOp.NotEq (Value.ref _) (Value.ref _)) _ _ _); k_dflt (refine' ne_strs_L ?zN ?za ?zb ?zs ?zt ?zu ?_; (case zN => k_asm); (case za => k_mem); (case zb => k_mem); (case zs => with_reducible assumption); (case zt => with_reducible assumption); (case zu => ((try dsimp only); omega)))))
  k_with "compareOp NotEq str str" => ((with_reducible refine ne_str_same ?_))
  k_with "compareOp NotEq ref ref" => ((k_here; (with_reducible show wpAny _ _ (compareOp CmpOp.NotEq (Value.ref _) (Value.ref _)) _ _ _); k_dflt (refine' ne_strs_same ?zN ?za ?zb ?zs ?zu ?_; (case zN => k_asm); (case za => k_mem); (case zb => k_mem); (case zs => with_reducible assumption); (case zu => ((try dsimp only); omega)))))
  k_with "binaryOp Mult int int" => (refine mul_int (hm := by assumption) ?_)
  k_with "compareOp NotEq ref ref" => ((k_here; (with_reducible show wpAny _ _ (compareOp CmpOp.NotEq (Value.ref _) (Value.ref _)) _ _ _); k_dflt (refine' ne_ints_same ?zN ?za ?zb ?zs ?zu ?_; (case zN => k_asm); (case za => k_mem); (case zb => k_mem); (case zs => with_reducible assumption); (case zu => ((try dsimp only); omega)))))
  k_with "call builtin:list.insert" => ((k_here; (with_reducible show wpAny _ _ (call (Value.builtin "list.insert") [Value.ref _, Value.int _ _, _]) _ _ _); k_dflt (refine' insert_L ?zF ?zN ?zU ?z0 ?z1 ?zz ?_; (case zF => k_asm); (case zN => k_asm); (case zU => exact UpdF.head (fun p hp => Nat.ne_of_lt (ktn_ltOf (by assumption) p hp))); (case z0 => omega); (case z1 => omega); (case zz => omega)); intro h' F' N'))
  k_with "binaryOp Add ref ref" => ((k_here; (with_reducible show wpAny _ _ (binaryOp Operator.Add (Value.ref _) (Value.ref _)) _ _ _); refine' add_listsN ?F ?N ?a ?b ?z ?_; (case F => with_reducible assumption); (case N => with_reducible assumption); (case a => k_mem); (case b => k_mem); (case z => (simp only [List.length_append, List.length_cons, List.length_nil]; omega)); intro D' h' F' N' l1; (try k_lt l1); (try k_sweep)))
  trivial
local macro_rules | `(tactic| k_mem) => `(tactic| first | with_reducible assumption | (refine mem_in ?_; with_reducible assumption))
theorem lines_VA_1 : True := by
  k_with "call ref" => (((with_reducible show wpAny _ _ (call (Value.ref 115) _) _ _ _); refine Hold.mk ?_))
  trivial
section
variable {w : World} {p : Program} {loose : List PStr} {mean : ExcName → Option Value} {mg mb : PStr → Option Value}
    {dp un : Nat} {gd : Option (List Code)} {a : Addr} {ccd : Value} {c1 c2 c3 : Addr} {A₀ : Around} {base h₀ : Heap} {L : Addr}
    {s : Shared} {news : Ldg}
    (B : Below A₀ base [] h₀) (X : (KK.heap_1 w.params).In h₀) (T : Top p loose mean mg mb h₀) (XB : (KK.heap_1 w.params).In base) (TB : Top p loose mean mg mb base)
include B X T XB TB

theorem turn_g0 {v : TV} {rvs pvs : List Value} {ys : List PStr} {ns : List Int} {db da dpo : Addr} {tg tsz : Tok} {er epo : Nat} {st0 : Option Value} {jk : PStr → Option Value} {Q : Flow → Shared → Prop} {E : Value → Shared → Prop} {gp : Int} {o3 : Obj}
   (hd5 : dp + 60 < recursionLimit) (hu5 : un + 500 < cLine) (hE : PassesOwn (model PySem.Challenge.rw_pm0034_03.row.prog w) (ktrTop dp un gd (PySem.Str.ofString "law") lawScope3 L a ccd (cells3 c1 c2 c3) []) (envX (PySem.Str.ofString "law") lawScope3 L a ccd (cells3 c1 c2 c3)) E)
   (F : Fr h₀ L s.heap (sMap v db da gp tg st0 jk))
   (N : News h₀ L s.heap ((v.dr, lstOf rvs er) :: news)) (hr : ∀ p ∈ news, p.1 ≠ v.dr)
   (hc3 : (c3, o3) ∈ news) (ho3 : o3.data = .cell (some (.ref dpo))) (hpo : (dpo, lstOf pvs epo) ∈ news) (hpi : IntsAre pvs ns) (hpl : ns.length ≤ 15)
   (hrs : StrsAre rvs ys) (hrl : rvs.length ≤ 100) (hlo0 : 0 ≤ v.lo) (hlo1 : v.lo ≤ 2) (hgp : 0 ≤ gp ∧ gp ≤ 15) (hwh : v.wh < 2)
   (hA : ∀ {Q' E' : Value → Shared → Prop} {s' : Shared} {m' : PStr → Option Value} {led : Ldg} (tw tl : Tok), (v.dr, lstOf rvs er) ∈ led → Fr h₀ L s'.heap m' → News h₀ L s'.heap led →
      (∀ d t h' tk, Fr h₀ L h' m' → News h₀ L h' ((d, lstOf [.int (v.lo + gp) t] 0) :: led) → (∀ p ∈ led, p.1 < d) → Q' (.ref d) { s' with heap := h', toks := tk }) →
      wpAny (model PySem.Challenge.rw_pm0034_03.row.prog w) (ktrTop dp un gd (PySem.Str.ofString "law") lawScope3 L a ccd (cells3 c1 c2 c3) []) (call (.ref 115) [.int v.wh tw, .ref v.dr, v.thv, .int v.lo tl, v.hv, .ref 108]) Q' E' s')
   (hB : ∀ {Q' E' : Value → Shared → Prop} {s' : Shared} {m' : PStr → Option Value} {led : Ldg} {dq : Addr} {ws : List Value} {eq : Nat} (tw tl tx : Tok), IntsAre ws ((List.replicate v.lo.toNat [999]).flatten ++ ns) → (dq, lstOf ws eq) ∈ led → Fr h₀ L s'.heap m' → News h₀ L s'.heap led →
      (∀ d t h' tk, Fr h₀ L h' m' → News h₀ L h' ((d, lstOf [.int (v.lo + gp) t] 0) :: led) → (∀ p ∈ led, p.1 < d) → Q' (.ref d) { s' with heap := h', toks := tk }) →
      wpAny (model PySem.Challenge.rw_pm0034_03.row.prog w) (ktrTop dp un gd (PySem.Str.ofString "law") lawScope3 L a ccd (cells3 c1 c2 c3) []) (call (.ref 115) [.int v.wh tw, .ref dq, .int v.sg tx, .int v.lo tl, v.hv, .none]) Q' E' s')
   (hret : ∀ h' tk jk' l', (∀ p ∈ news, p ∈ l') → Fr h₀ L h' (sMap v db da gp tg st0 jk') → News h₀ L h' l' → Q .next { s with heap := h', toks := tk }) :
   wpAny (model PySem.Challenge.rw_pm0034_03.row.prog w) (ktrTop dp un gd (PySem.Str.ofString "law") lawScope3 L a ccd (cells3 c1 c2 c3) []) (execs ((turn3.drop 12).take 1) (envX (PySem.Str.ofString "law") lawScope3 L a ccd (cells3 c1 c2 c3))) Q E s := by
  walk_at "M fill"
  have D : KtsDicts (([] : List Env).filterMap (·.frame)) h₀ := fun b hb => nomatch hb
  show wpAny _ (ktrTop _ _ _ _ (Scope.mk _ _ _ _ _) _ _ _ _ _) (execs (_ :: []) (envX _ (Scope.mk _ _ _ _ _) _ _ _ _)) _ _ _
  unfold sMap at F
  k_steps
  (with_reducible rename Fr _ _ _ _ => kF)
  (with_reducible rename News _ _ _ _ => kN)
  refine' iter_tupTurns rfl kF kN (by k_mem) rfl rfl (fun I hI => ItemsRest.val fun h1 tk1 F1 => AllObj.cons fun o1 ho1 => AllObj.nil fun N1 => ?_)
  dsimp only [List.cons_append, List.nil_append] at N1
  k_fold
  k_steps
  refine Hold.out ?_
  refine' hA _ _ ?tm ?tF ?tN ?_
  case tN => with_reducible assumption
  case tF => with_reducible assumption
  case tm => k_mem
  intro d t h' tk tF tN tl
  k_steps
  refine ⟨_, _, _, _, rfl, (by assumption), fun p hp => (by assumption : News _ _ _ _) p (.tail _ (.tail _ (.tail _ hp))), fun p hp q hq => by rw [List.mem_singleton.mp hq]; exact Nat.ne_of_lt (hI p hp), ⟨⟨.head _, trivial⟩, ?_⟩⟩
  refine ItemsRest.val (fun h2 tk2 F2 => AllObj.cons fun o2 ho2 => AllObj.nil fun N2 => ?_)
  dsimp only [List.cons_append, List.nil_append] at N2
  k_fold
  k_steps
  refine Hold.out ?_
  refine' hB _ _ _ ?ti ?tm ?tF ?tN ?_
  case tN => with_reducible assumption
  case tF => with_reducible assumption
  case tm => k_mem
  case ti => assumption
  intro d2 t2 h3 tk3 tF2 tN2 tl2
  k_steps
  refine ⟨_, _, _, _, rfl, (by assumption), fun p hp => (by assumption : News _ _ _ _) p (.tail _ (.tail _ (.tail _ hp))), fun p hp q hq => by rw [List.mem_singleton.mp hq]; exact Nat.ne_of_lt (hI p hp), ⟨⟨.head _, trivial⟩, ?_⟩⟩
  refine ItemsRest.zero (fun h4 tk4 F4 N4 => ?_)
  dsimp only
  refine wpAny_execs_nil ?_
  refine' hret _ _ _ news (fun p hp => hp) (fr_map sNames F4 ?m1 ?m2) (news_sub N4 (fun p hp => by repeat (first | exact hp | refine List.Mem.tail _ ?_)))
  case m1 => unfold sMap; walk_at "M map1"
  case m2 => unfold sMap; walk_at "M map2"
end
end Mine
end
section
open PySem PySem.W PyProof.Rows PySem.Spec PySem.Calls
set_option Elab.async false
set_option maxRecDepth 100000
set_option maxHeartbeats 8000000
set_option linter.all false
namespace Mine
local macro_rules | `(tactic| walk_at "M nothing") => `(tactic| skip)
local macro_rules | `(tactic| walk_at $s:str) => `(tactic| k_extra $s)
local macro_rules | `(tactic| omega) => `(tactic| first
  | with_reducible assumption
  | (refine' room1 ?rmh ?rme; (case rmh => with_reducible assumption); (case rme => with_unfolding_all rfl))
  | (refine' room0 ?rmh ?rme; (case rmh => with_reducible assumption); (case rme => with_unfolding_all rfl))
  | (refine' room2 ?rmh ?rme; (case rmh => with_reducible assumption); (case rme => with_unfolding_all rfl))
  | (refine' room00 ?rmh; (case rmh => with_reducible assumption))
  | (refine num_le ?rme; (case rme => with_unfolding_all rfl))
  | (refine num_lt ?rme; (case rme => with_unfolding_all rfl))
  | (refine' le_num ?rmh ?rme; (case rmh => with_reducible assumption); (case rme => with_unfolding_all rfl))
  | (refine' eq_num ?rmh ?rme; (case rmh => with_reducible assumption); (case rme => with_unfolding_all rfl))
  | omega (config := {}))
theorem lines_VB_0 : True := by
  k_with_none
  k_with "execs cons" => ((refine f_execs ?_; intro qk))
  k_with "eval BinOp" => ((refine f_BinOp ?_; intro qk))
  k_with "exec Assign" => ((refine f_Assign ?_; intro qk))
  k_with "eval Subscript" => ((refine f_Subscript ?_; intro qk))
  k_with "isTrue Compare" => ((refine f_Compare ?_; intro qk))
  k_with "exec If" => ((refine f_If ?_; intro qk))
  k_with "eval Call" => (((fail_if_success (with_reducible show wpAny _ _ (eval (Expr.Call (Expr.Attribute _ _ _) _ _ _) _) _ _ _)); refine f_Call ?_; intro qk))
  k_with "spliced" => ((refine f_args ?_; intro qk))
  k_with "callWith" => ((refine f_method1 ?_; intro qk))
  k_with "exec Return some" => ((refine f_Return ?_; intro qk))
  k_with "eval Tuple" => ((refine f_Tuple ?_; intro qk))
  k_with "eval List" => ((refine f_List ?_; intro qk))
  k_with "eval IfExp" => ((refine f_IfExp ?_; intro qk))
  k_with "storeName" => ((k_here; k_dflt (refine' f_store ?F ?N ?_ ?a ?b; (case F => k_asm); (case N => k_asm); (case a => rfl); (case b => rfl); k_whole; intro m' h' F' N'; (try k_sweep))))
  k_with "M map1" => (first
    | (refine map_same ?_; with_unfolding_all rfl)
    | ((repeat' (refine List.forall_mem_cons.mpr (And.intro ?_ ?_))); (all_goals first | rfl | exact List.forall_mem_nil _)))
  k_with "M map2" => (first
    | (refine SameOut.both (b := fun _ => none) ?_ ?_ <;> (repeat (refine SameOut.upd ?_ (by with_unfolding_all rfl))) <;> exact SameOut.lookup rfl)
    | (refine' SameOut.both (b := ?kb) ?k1 ?k2; (case k1 => ((repeat (refine SameOut.upd ?_ (by with_unfolding_all rfl))); exact SameOut.refl)); (case k2 => ((repeat (refine SameOut.upd ?_ (by with_unfolding_all rfl))); exact SameOut.refl)))
    | (refine' SameOut.both (b := ?kb) ?k1 ?k2; (case k2 => ((repeat (refine SameOut.upd ?_ (by with_unfolding_all rfl))); exact SameOut.refl)); (case k1 => ((repeat (refine SameOut.skip ?_)); (repeat (refine SameOut.upd ?_ (by with_unfolding_all rfl))); exact SameOut.refl)))
    | (intro y hy; (repeat (refine (if_neg (ne_of_out hy (by with_unfolding_all rfl))).trans ?_)); (refine Eq.symm ?_); (repeat (refine (if_neg (ne_of_out hy (by with_unfolding_all rfl))).trans ?_)); first | rfl | exact lookup_out rfl hy | exact (lookup_out rfl hy).symm | exact (lookup_out rfl hy).trans (lookup_out rfl hy).symm))
  k_with "M fill" => ((
    have kk : PySem.Challenge.rw_pm0034_03 = PySem.Challenge.rw_pm0034_03 ∧ KK.heap_1 = KK.heap_1 := ⟨rfl, rfl⟩
    revert kk
    k_fill
    intro kk
    clear kk))
  k_with "subscriptTail Name Constant ref int" => ((k_here; refine item_listL (News.isList (by assumption) (by k_mem)) (by decide) (by decide) (by rfl) ?_))
  k_with "subscriptTail Name Name ref int" => ((k_here; k_dflt (refine' item_listL (News.isList ?zN ?zm) ?z0 ?zf ?zv ?_; (case zN => with_reducible assumption); (case zm => k_mem); (case z0 => omega); (case zf => omega); (case zv => simpa using (by assumption)))))
  k_with "subscriptTail Subscript Slice ref ref" => ((k_here; k_dflt (refine' slice_L ?zF ?zN ?zl ?zp ?zq ?zz ?ze ?_; (case zF => k_asm); (case zN => k_asm); (case zl => k_mem); (case zp => kmk_part); (case zq => kmk_part); (case zz => exact Nat.le_of_ble_eq_true rfl); (case ze => exact rfl)); intro D' h' F' N' l1; (try k_lt l1); (try k_sweep)))
  k_with "call type:list" => ((k_here; (with_reducible show wpAny _ _ (call (Value.type "list") [Value.ref _]) _ _ _); k_dflt (refine' list_of_L ?zF ?zN ?zb ?zz ?_; (case zF => k_asm); (case zN => k_asm); (case zb => k_mem); (case zz => omega)); intro D' c' h' F' N' l1; (try k_lt l1); (try k_sweep)))
  k_with "compareOp NotEq ref ref" => ((k_here; (with_reducible show wpAny _ _ (compareOp CmpOp.NotEq (Value.ref _) (Value.ref _)) _ _ _); k_dflt (refine' ne_strs_L ?zN ?za ?zb ?zs ?zt ?zu ?_; (case zN => k_asm); (case za => k_mem); (case zb => k_mem); (case zs => with_reducible assumption); (case zt => with_reducible assumption); (case zu => ((try dsimp only); omega)))))
  k_with "compareOp NotEq str str" => ((with_reducible refine ne_str_same ?_))
  k_with "compareOp NotEq ref ref" => ((k_here; (with_reducible show wpAny _ _ (compareOp CmpOp.NotEq (Value.ref _) (Value.ref _)) _ _ _); k_dflt (refine' ne_strs_same ?zN ?za ?zb ?zs ?zu ?_; (case zN => k_asm); (case za => k_mem); (case zb => k_mem); (case zs => with_reducible assumption); (case zu => ((try dsimp only); omega)))))
  k_with "binaryOp Mult int int" => (refine mul_int (hm := by assumption) ?_)
  k_with "compareOp NotEq ref ref" => ((k_here; (with_reducible show wpAny _ _ (compareOp CmpOp.NotEq (Value.ref _) (Value.ref _)) _ _ _); k_dflt (refine' ne_ints_same ?zN ?za ?zb ?zs ?zu ?_; (case zN => k_asm); (case za => k_mem); (case zb => k_mem); (case zs => with_reducible assumption); (case zu => ((try dsimp only); omega)))))
  k_with "call builtin:list.insert" => ((k_here; (with_reducible show wpAny _ _ (call (Value.builtin "list.insert") [Value.ref _, Value.int _ _, _]) _ _ _); k_dflt (refine' insert_L ?zF ?zN ?zU ?z0 ?z1 ?zz ?_; (case zF => k_asm); (case zN => k_asm); (case zU => exact UpdF.head (fun p hp => Nat.ne_of_lt (ktn_ltOf (by assumption) p hp))); (case z0 => omega); (case z1 => omega); (case zz => omega)); intro h' F' N'))
  k_with "binaryOp Add ref ref" => ((k_here; (with_reducible show wpAny _ _ (binaryOp Operator.Add (Value.ref _) (Value.ref _)) _ _ _); refine' add_listsN ?F ?N ?a ?b ?z ?_; (case F => with_reducible assumption); (case N => with_reducible assumption); (case a => k_mem); (case b => k_mem); (case z => (simp only [List.length_append, List.length_cons, List.length_nil]; omega)); intro D' h' F' N' l1; (try k_lt l1); (try k_sweep)))
  trivial
local macro_rules | `(tactic| k_mem) => `(tactic| first | with_reducible assumption | (refine mem_in ?_; with_reducible assumption))
theorem lines_VB_1 : True := by
  k_with "call ref" => (((with_reducible show wpAny _ _ (call (Value.ref 115) _) _ _ _); refine Hold.mk ?_))
  trivial
section
variable {w : World} {p : Program} {loose : List PStr} {mean : ExcName → Option Value} {mg mb : PStr → Option Value}
    {dp un : Nat} {gd : Option (List Code)} {a : Addr} {ccd : Value} {c1 c2 c3 : Addr} {A₀ : Around} {base h₀ : Heap} {L : Addr}
    {s : Shared} {news : Ldg}
    (B : Below A₀ base [] h₀) (X : (KK.heap_1 w.params).In h₀) (T : Top p loose mean mg mb h₀) (XB : (KK.heap_1 w.params).In base) (TB : Top p loose mean mg mb base)
include B X T XB TB

theorem turn_g2 {v : TV} {rvs pvs : List Value} {ys : List PStr} {ns : List Int} {db da dpo : Addr} {tg tsz : Tok} {er epo : Nat} {st0 : Option Value} {jk : PStr → Option Value} {Q : Flow → Shared → Prop} {E : Value → Shared → Prop} {gp : Int} {o3 : Obj}
   (hd5 : dp + 60 < recursionLimit) (hu5 : un + 500 < cLine) (hE : PassesOwn (model PySem.Challenge.rw_pm0034_03.row.prog w) (ktrTop dp un gd (PySem.Str.ofString "law") lawScope3 L a ccd (cells3 c1 c2 c3) []) (envX (PySem.Str.ofString "law") lawScope3 L a ccd (cells3 c1 c2 c3)) E)
   (F : Fr h₀ L s.heap (sMap v db da gp tg st0 jk))
   (N : News h₀ L s.heap ((v.dr, lstOf rvs er) :: news)) (hr : ∀ p ∈ news, p.1 ≠ v.dr)
   (hc3 : (c3, o3) ∈ news) (ho3 : o3.data = .cell (some (.ref dpo))) (hpo : (dpo, lstOf pvs epo) ∈ news) (hpi : IntsAre pvs ns) (hpl : ns.length ≤ 15)
   (hrs : StrsAre rvs ys) (hrl : rvs.length ≤ 100) (hlo0 : 0 ≤ v.lo) (hlo1 : v.lo ≤ 2) (hgp : 0 ≤ gp ∧ gp ≤ 15) (hwh : ¬ v.wh < 2) {th : PStr} {tth : Tok} (hth : v.thv = .str th tth)
   (hA : ∀ {Q' E' : Value → Shared → Prop} {s' : Shared} {m' : PStr → Option Value} {led : Ldg} {gN : Obj → Ldg} (tw tl : Tok), Fr h₀ L s'.heap m' → News h₀ L s'.heap led → UpdF v.dr (lstOf rvs er) led gN →
      (∀ d h' tk, Fr h₀ L h' m' → News h₀ L h' ((d, lstOf [.none] 0) :: gN (lstOf (kl_ins rvs (v.lo + gp) v.thv) (er + 1))) → (∀ p ∈ gN (lstOf (kl_ins rvs (v.lo + gp) v.thv) (er + 1)), p.1 < d) → Q' (.ref d) { s' with heap := h', toks := tk }) →
      wpAny (model PySem.Challenge.rw_pm0034_03.row.prog w) (ktrTop dp un gd (PySem.Str.ofString "law") lawScope3 L a ccd (cells3 c1 c2 c3) []) (call (.ref 115) [.int v.wh tw, .ref v.dr, v.thv, .int v.lo tl, v.hv, .ref 108]) Q' E' s')
   (hB : ∀ {Q' E' : Value → Shared → Prop} {s' : Shared} {m' : PStr → Option Value} {led : Ldg} {gN : Obj → Ldg} {dq : Addr} {ws : List Value} {eq : Nat} (tw tl tx : Tok), IntsAre ws ((List.replicate v.lo.toNat [999]).flatten ++ ns) → Fr h₀ L s'.heap m' → News h₀ L s'.heap led → UpdF dq (lstOf ws eq) led gN →
      (∀ d h' tk, Fr h₀ L h' m' → News h₀ L h' ((d, lstOf [.none] 0) :: gN (lstOf (kl_ins ws (v.lo + gp) (.int v.sg tx)) (eq + 1))) → (∀ p ∈ gN (lstOf (kl_ins ws (v.lo + gp) (.int v.sg tx)) (eq + 1)), p.1 < d) → Q' (.ref d) { s' with heap := h', toks := tk }) →
      wpAny (model PySem.Challenge.rw_pm0034_03.row.prog w) (ktrTop dp un gd (PySem.Str.ofString "law") lawScope3 L a ccd (cells3 c1 c2 c3) []) (call (.ref 115) [.int v.wh tw, .ref dq, .int v.sg tx, .int v.lo tl, v.hv, .none]) Q' E' s')
   (hret : ∀ h' tk jk' l', (∀ p ∈ news, p ∈ l') → Fr h₀ L h' (sMap v db da gp tg st0 jk') → News h₀ L h' l' → Q .next { s with heap := h', toks := tk }) :
   wpAny (model PySem.Challenge.rw_pm0034_03.row.prog w) (ktrTop dp un gd (PySem.Str.ofString "law") lawScope3 L a ccd (cells3 c1 c2 c3) []) (execs ((turn3.drop 12).take 1) (envX (PySem.Str.ofString "law") lawScope3 L a ccd (cells3 c1 c2 c3))) Q E s := by
  walk_at "M fill"
  have D : KtsDicts (([] : List Env).filterMap (·.frame)) h₀ := fun b hb => nomatch hb
  show wpAny _ (ktrTop _ _ _ _ (Scope.mk _ _ _ _ _) _ _ _ _ _) (execs (_ :: []) (envX _ (Scope.mk _ _ _ _ _) _ _ _ _)) _ _ _
  unfold sMap at F
  obtain ⟨zs, hzs⟩ := strs_ins (v.lo + gp) th tth hrs
  rw [← hth] at hzs
  k_steps
  (with_reducible rename Fr _ _ _ _ => kF)
  (with_reducible rename News _ _ _ _ => kN)
  refine' iter_tupTurns rfl kF kN (by k_mem) rfl rfl (fun I hI => ItemsRest.val fun h1 tk1 F1 => AllObj.cons fun o1 ho1 => AllObj.nil fun N1 => ?_)
  dsimp only [List.cons_append, List.nil_append] at N1
  k_fold
  have hI2 := hI
  k_lt hI2
  k_steps
  refine Hold.out ?_
  refine hA _ _ (by with_reducible assumption) (by with_reducible assumption) (by (repeat' first | exact UpdF.head hr | exact UpdF.head (fun p hp => Nat.ne_of_lt (ktn_ltOf (by assumption) p hp)) | refine' UpdF.tail (by first | exact Nat.ne_of_gt (hI (v.dr, lstOf rvs er) (by k_mem)) | exact Nat.ne_of_lt (hI (v.dr, lstOf rvs er) (by k_mem)) | exact Nat.ne_of_gt (Nat.lt_trans (hI (v.dr, lstOf rvs er) (by k_mem)) (by (try dsimp only); omega)) | exact Nat.ne_of_gt (by (try dsimp only); omega)) ?_)) ?_
  intro d h' tk tF tN tl
  (try dsimp only at tN tl)
  k_steps
  refine ⟨_, _, _, _, rfl, (by assumption), fun p hp => (by assumption : News _ _ _ _) p (.tail _ (.tail _ (.tail _ hp))), fun p hp q hq => by rw [List.mem_singleton.mp hq]; exact Nat.ne_of_lt (addr_lt hI (by exact rfl) hp), ⟨⟨.head _, trivial⟩, ?_⟩⟩
  refine ItemsRest.val (fun h2 tk2 F2 => AllObj.cons fun o2 ho2 => AllObj.nil fun N2 => ?_)
  dsimp only [List.cons_append, List.nil_append] at N2
  (with_reducible rename IntsAre _ (_ ++ ns) => hwi)
  obtain ⟨zs2, hzs2⟩ := ints_ins (v.lo + gp) v.sg v.tsg hwi
  have hwl := ints_length hwi
  simp only [List.length_append] at hwl
  (with_reducible show wpAny _ _ _ _ _ _)
  k_fold
  k_steps
  refine Hold.out ?_
  refine' hB (eq := 0) _ _ _ ?ti ?tF ?tN ?tU ?_
  case tN => with_reducible assumption
  case tF => with_reducible assumption
  case ti => assumption
  case tU => (repeat' first | exact UpdF.head hr | exact UpdF.head (fun p hp => Nat.ne_of_lt (ktn_ltOf (by assumption) p hp)) | refine' UpdF.tail (by first | exact Nat.ne_of_gt (by (try dsimp only); omega) | exact Nat.ne_of_lt (by (try dsimp only); omega)) ?_)
  intro d2 h3 tk3 tF2 tN2 tl2
  (try dsimp only at tN2 tl2)
  k_steps
  refine ⟨_, _, _, _, rfl, (by assumption), fun p hp => (by assumption : News _ _ _ _) p (.tail _ (.tail _ (.tail _ hp))), fun p hp q hq => by rw [List.mem_singleton.mp hq]; exact Nat.ne_of_lt (addr_lt hI (by exact rfl) hp), ⟨⟨.head _, trivial⟩, ?_⟩⟩
  refine ItemsRest.zero (fun h4 tk4 F4 N4 => ?_)
  dsimp only
  refine wpAny_execs_nil ?_
  refine' hret _ _ _ news (fun p hp => hp) (fr_map sNames F4 ?m1 ?m2) (news_sub N4 (fun p hp => by repeat (first | exact hp | refine List.Mem.tail _ ?_)))
  case m1 => unfold sMap; walk_at "M map1"
  case m2 => unfold sMap; walk_at "M map2"
end
end Mine
end
section
open PySem PySem.W PyProof.Rows PySem.Spec PySem.Calls
set_option Elab.async false
set_option maxRecDepth 100000
set_option maxHeartbeats 4000000
set_option linter.all false
namespace Mine
theorem krv_list (vs : List Value) : (slicePick vs.toArray none none (some (-1))).toList = vs.reverse := by rw [krv_pick]
section
variable {prog : Program} {w : World} {A : Around} {E : Value → Shared → Prop} {s : Shared} {env : Env} {h₀ : Heap} {body : List Stmt} {Q : Flow → Shared → Prop} {target : PySem.Expr} {m₀ : Str → Option Value} {news : Ldg}
theorem items_listA {α ι : Type} (val : α → Value) (C : List α → ι → Prop) (M : ι → Str → Option Value) {I : Addr} {keep : Ldg} {cl : String} (hk : SubL keep news) (hne : ∀ p ∈ news, p.1 ≠ I)
    (turn : ∀ a as σ h tk o, C (a :: as) σ → Fr h₀ env.locals h (M σ) → News h₀ env.locals h ((I, o) :: news) →
      wpAny (model prog w) A (assign target env (val a)) (fun _ s₃ => wpAny (model prog w) A (execs body env) (TurnFr (C as) M (fun _ => news) (I, o) h₀ env.locals s Q) E s₃) E { s with heap := h, toks := tk })
    (done : ∀ σ h tk, C [] σ → Fr h₀ env.locals h (M σ) → News h₀ env.locals h news → Q .next { s with heap := h, toks := tk }) :
    ∀ (xs : List α) (σ : ι), C xs σ → ItemsRest prog w A E h₀ env target body Q s [(I, cl)] keep (xs.map fun a => .val (val a)) (M σ) news
  | [], σ, c => ItemsRest.zero (fun h tk F N => done σ h tk c F N)
  | a :: as, σ, c => by
    refine ItemsRest.val (fun h tk F => AllObj.cons fun o ho => AllObj.nil fun N => ?_)
    refine wpAny_mono (turn a as σ h tk o c F N) (fun _ s₃ h₃ => wpAny_mono h₃ (fun f s₄ h₄ => ?_) fun _ _ e => e) fun _ _ e => e
    cases f with
    | ret v => exact h₄
    | brk => exact h₄
    | next =>
      obtain ⟨σ', h', tk', e, c', F', N', hd⟩ := h₄
      exact ⟨h', tk', M σ', news, e, F', N', fun p hp q hq => by rw [List.mem_singleton.mp hq]; exact hne p hp, hk, items_listA val C M hk hne turn done as σ' c'⟩
    | cont =>
      obtain ⟨σ', h', tk', e, c', F', N', hd⟩ := h₄
      exact ⟨h', tk', M σ', news, e, F', N', fun p hp q hq => by rw [List.mem_singleton.mp hq]; exact hne p hp, hk, items_listA val C M hk hne turn done as σ' c'⟩
theorem pyIter_listA {α ι : Type} (val : α → Value) (C : List α → ι → Prop) (M : ι → Str → Option Value) (xs : List α) (σ₀ : ι) (names : List Str) {ax : Addr} {n : Nat} (F : Fr h₀ env.locals s.heap m₀) (N : News h₀ env.locals s.heap news) (hm : (ax, lstOf (xs.map val) n) ∈ news) (hh : A.handled = none)
    (c0 : C xs σ₀) (m1 : ∀ n ∈ names, m₀ n = M σ₀ n) (m2 : ∀ y, y ∉ names → m₀ y = M σ₀ y)
    (turn : ∀ a as σ h tk own, C (a :: as) σ → (∀ p ∈ news, p.1 ≠ own.1) → Fr h₀ env.locals h (M σ) → News h₀ env.locals h (own :: news) →
      wpAny (model prog w) A (assign target env (val a)) (fun _ s₃ => wpAny (model prog w) A (execs body env) (TurnFr (C as) M (fun _ => news) own h₀ env.locals s Q) E s₃) E { s with heap := h, toks := tk })
    (done : ∀ σ h tk, C [] σ → Fr h₀ env.locals h (M σ) → News h₀ env.locals h news → Q .next { s with heap := h, toks := tk }) :
    wpAny (model prog w) A (pyIter (.ref ax)) (fun it s₂ => TurnsAt prog w A h₀ env target body Q E it s₂) E s := by
  refine iter_listTurns hh (fr_map names F m1 m2) N hm rfl rfl (fun I hI => ?_)
  rw [List.map_map]
  have hne : ∀ p ∈ news, p.1 ≠ I := fun p hp => Nat.ne_of_lt (hI p hp)
  exact items_listA (keep := [(ax, lstOf (xs.map val) n)]) (news := news) val C M (And.intro hm trivial) hne (fun a as σ h tk o c F N => turn a as σ h tk (I, o) c hne F N) done xs σ₀ c0
end
/-- the quotes are halved along bs -/
noncomputable def hvs : List Bool → PStr → Prop
  | [], _ => True
  | b :: bs, t => Txt.mul (quo t) 2 ++ (if b = true then PySem.Str.ofString "\"" else PySem.Str.ofString "") = t ∧ hvs bs (quo t)
theorem ne_str_of {prog : Program} {w : World} {A : Around} {E : Value → Shared → Prop} {s : Shared} {x y : PStr} {t u : Tok} {Q : Value → Shared → Prop} (e : x = y) (h : Q (.bool false) s) : wpAny (model prog w) A (compareOp .NotEq (.str x t) (.str y u)) Q E s := by
  subst e
  exact ne_str_same h
end Mine
end
section
open PySem PySem.W PyProof.Rows PySem.Spec PySem.Calls
set_option Elab.async false
set_option maxRecDepth 100000
set_option maxHeartbeats 8000000
set_option linter.all false
namespace Mine
local macro_rules | `(tactic| walk_at $s:str) => `(tactic| k_extra $s)
local macro_rules | `(tactic| omega) => `(tactic| first
  | with_reducible assumption
  | (refine' room1 ?rmh ?rme; (case rmh => with_reducible assumption); (case rme => with_unfolding_all rfl))
  | (refine' room0 ?rmh ?rme; (case rmh => with_reducible assumption); (case rme => with_unfolding_all rfl))
  | (refine' room2 ?rmh ?rme; (case rmh => with_reducible assumption); (case rme => with_unfolding_all rfl))
  | (refine' room00 ?rmh; (case rmh => with_reducible assumption))
  | (refine num_le ?rme; (case rme => with_unfolding_all rfl))
  | (refine num_lt ?rme; (case rme => with_unfolding_all rfl))
  | (refine' le_num ?rmh ?rme; (case rmh => with_reducible assumption); (case rme => with_unfolding_all rfl))
  | (refine' eq_num ?rmh ?rme; (case rmh => with_reducible assumption); (case rme => with_unfolding_all rfl))
  | omega (config := {}))
theorem lines_VC_0 : True := by
  k_with_none
  k_with "execs cons" => ((refine f_execs ?_; intro qk))
  k_with "eval BinOp" => ((refine f_BinOp ?_; intro qk))
  k_with "exec Assign" => ((refine f_Assign ?_; intro qk))
  k_with "eval Subscript" => ((refine f_Subscript ?_; intro qk))
  k_with "isTrue Compare" => ((refine f_Compare ?_; intro qk))
  k_with "exec If" => ((refine f_If ?_; intro qk))
  k_with "eval Call" => (((fail_if_success (with_reducible show wpAny _ _ (eval (Expr.Call (Expr.Attribute _ _ _) _ _ _) _) _ _ _)); refine f_Call ?_; intro qk))
  k_with "spliced" => ((refine f_args ?_; intro qk))
  k_with "callWith" => ((refine f_method1 ?_; intro qk))
  k_with "exec Return some" => ((refine f_Return ?_; intro qk))
  k_with "eval Tuple" => ((refine f_Tuple ?_; intro qk))
  k_with "eval List" => ((refine f_List ?_; intro qk))
  k_with "eval IfExp" => ((refine f_IfExp ?_; intro qk))
  k_with "storeName" => ((k_here; k_dflt (refine' f_store ?F ?N ?_ ?a ?b; (case F => k_asm); (case N => k_asm); (case a => rfl); (case b => rfl); k_whole; intro m' h' F' N'; (try k_sweep))))
  k_with "M map1" => (first
    | (refine map_same ?_; with_unfolding_all rfl)
    | ((repeat' (refine List.forall_mem_cons.mpr (And.intro ?_ ?_))); (all_goals first | rfl | exact List.forall_mem_nil _)))
  k_with "M map2" => (first
    | (refine SameOut.both (b := fun _ => none) ?_ ?_ <;> (repeat (refine SameOut.upd ?_ (by with_unfolding_all rfl))) <;> exact SameOut.lookup rfl)
    | (refine' SameOut.both (b := ?kb) ?k1 ?k2; (case k1 => ((repeat (refine SameOut.upd ?_ (by with_unfolding_all rfl))); exact SameOut.refl)); (case k2 => ((repeat (refine SameOut.upd ?_ (by with_unfolding_all rfl))); exact SameOut.refl)))
    | (refine' SameOut.both (b := ?kb) ?k1 ?k2; (case k2 => ((repeat (refine SameOut.upd ?_ (by with_unfolding_all rfl))); exact SameOut.refl)); (case k1 => ((repeat (refine SameOut.skip ?_)); (repeat (refine SameOut.upd ?_ (by with_unfolding_all rfl))); exact SameOut.refl)))
    | (intro y hy; (repeat (refine (if_neg (ne_of_out hy (by with_unfolding_all rfl))).trans ?_)); (refine Eq.symm ?_); (repeat (refine (if_neg (ne_of_out hy (by with_unfolding_all rfl))).trans ?_)); first | rfl | exact lookup_out rfl hy | exact (lookup_out rfl hy).symm | exact (lookup_out rfl hy).trans (lookup_out rfl hy).symm))
  k_with "M fill" => ((
    have kk : PySem.Challenge.rw_pm0034_03 = PySem.Challenge.rw_pm0034_03 ∧ KK.heap_1 = KK.heap_1 := ⟨rfl, rfl⟩
    revert kk
    k_fill
    intro kk
    clear kk))
  k_with "subscriptTail Name Constant ref int" => ((k_here; refine item_listL (News.isList (by assumption) (by k_mem)) (by decide) (by decide) (by rfl) ?_))
  k_with "subscriptTail Name Name ref int" => ((k_here; k_dflt (refine' item_listL (News.isList ?zN ?zm) ?z0 ?zf ?zv ?_; (case zN => with_reducible assumption); (case zm => k_mem); (case z0 => omega); (case zf => omega); (case zv => simpa using (by assumption)))))
  k_with "subscriptTail Subscript Slice ref ref" => ((k_here; k_dflt (refine' slice_L ?zF ?zN ?zl ?zp ?zq ?zz ?ze ?_; (case zF => k_asm); (case zN => k_asm); (case zl => k_mem); (case zp => kmk_part); (case zq => kmk_part); (case zz => exact Nat.le_of_ble_eq_true rfl); (case ze => exact rfl)); intro D' h' F' N' l1; (try k_lt l1); (try k_sweep)))
  k_with "call type:list" => ((k_here; (with_reducible show wpAny _ _ (call (Value.type "list") [Value.ref _]) _ _ _); k_dflt (refine' list_of_L ?zF ?zN ?zb ?zz ?_; (case zF => k_asm); (case zN => k_asm); (case zb => k_mem); (case zz => omega)); intro D' c' h' F' N' l1; (try k_lt l1); (try k_sweep)))
  k_with "compareOp NotEq ref ref" => ((k_here; (with_reducible show wpAny _ _ (compareOp CmpOp.NotEq (Value.ref _) (Value.ref _)) _ _ _); k_dflt (refine' ne_strs_L ?zN ?za ?zb ?zs ?zt ?zu ?_; (case zN => k_asm); (case za => k_mem); (case zb => k_mem); (case zs => with_reducible assumption); (case zt => with_reducible assumption); (case zu => ((try dsimp only); omega)))))
  k_with "compareOp NotEq str str" => ((with_reducible refine ne_str_same ?_))
  k_with "compareOp NotEq ref ref" => ((k_here; (with_reducible show wpAny _ _ (compareOp CmpOp.NotEq (Value.ref _) (Value.ref _)) _ _ _); k_dflt (refine' ne_strs_same ?zN ?za ?zb ?zs ?zu ?_; (case zN => k_asm); (case za => k_mem); (case zb => k_mem); (case zs => with_reducible assumption); (case zu => ((try dsimp only); omega)))))
  k_with "binaryOp Mult int int" => (refine mul_int (hm := by assumption) ?_)
  k_with "compareOp NotEq ref ref" => ((k_here; (with_reducible show wpAny _ _ (compareOp CmpOp.NotEq (Value.ref _) (Value.ref _)) _ _ _); k_dflt (refine' ne_ints_same ?zN ?za ?zb ?zs ?zu ?_; (case zN => k_asm); (case za => k_mem); (case zb => k_mem); (case zs => with_reducible assumption); (case zu => ((try dsimp only); omega)))))
  k_with "call builtin:list.insert" => ((k_here; (with_reducible show wpAny _ _ (call (Value.builtin "list.insert") [Value.ref _, Value.int _ _, _]) _ _ _); k_dflt (refine' insert_L ?zF ?zN ?zU ?z0 ?z1 ?zz ?_; (case zF => k_asm); (case zN => k_asm); (case zU => exact UpdF.head (fun p hp => Nat.ne_of_lt (ktn_ltOf (by assumption) p hp))); (case z0 => omega); (case z1 => omega); (case zz => omega)); intro h' F' N'))
  k_with "call ref" => (((with_reducible show wpAny _ _ (call (Value.ref 101) _) _ _ _); refine' parse257_spec ?kB ?kX ?kT ?kXB ?kTB ?kD ?kh ?kd ?ku ?kF ?kN ?kl ?_ ?kx; (case kB => assumption); (case kX => assumption); (case kT => assumption); (case kXB => assumption); (case kTB => assumption); (case kD => assumption); (case kh => rfl); (case kd => ((try dsimp only); omega)); (case ku => ((try dsimp only); omega)); (case kF => with_reducible assumption); (case kN => with_reducible assumption); (case kl => (rw [q257_len]; omega)); (case kx => (intro k g₂ e t h' tk hk; exact (p257_no hk).elim)); intro x t h' tk hk F' N'; have hl := p257_leq hk; have e := p257_ok hk; subst e))
  trivial
local macro_rules | `(tactic| k_mem) => `(tactic| first | with_reducible assumption | (refine mem_in ?_; with_reducible assumption))
theorem lines_VC_1 : True := by
  k_with "subscriptTail Name Slice ref ref" => ((k_here; (with_reducible show wpAny _ _ (subscriptTail _ (PySem.Expr.Slice _ _ (some _) _) (Value.ref _) (Value.ref _)) _ _ _); k_dflt (refine' kmk_slice3_lit ?zF ?zN ?zl ?zp ?zq ?zk ?zo ?ze ?_ ?zs ?zt ?zz; (case zF => k_asm); (case zN => k_asm); (case zl => exact News.isList (by k_asm) (by k_mem)); (case zp => kmk_part); (case zq => kmk_part); (case zk => kmk_part); (case zo => decide); (case ze => exact krv_list _); (case zs => with_unfolding_all rfl); (case zt => kmk_pure); (case zz => (simp only [List.size_toArray, List.length_map]; exact Nat.le_trans (m := 1000) (by omega) (by decide)))); intro D' h' F' N' l1; (try k_lt l1); (try k_sweep)))
  k_with "pyIter ref" => ((refine Hold.mk ?_))
  k_with "exec For Name Subscript cons nil" => ((k_here; (with_unfolding_all refine' For_turns ?lF ?_; (case lF => k_asm); k_whole)))
  k_with "binaryOp Add str str" => ((k_here; (with_reducible show wpAny _ _ (binaryOp Operator.Add (Value.str _ _) (Value.str _ _)) _ _ _); (refine add_lb (K := 100000) (L := 100000) ?kb ?kd ?ke ?_; (case kb => omega); (case kd => (try dsimp only); first | omega | decide +kernel); (case ke => decide); intro _ _ _ hk; (try dsimp only at hk))))
  k_with "compareOp NotEq str str" => ((refine ne_str_of (by assumption) ?_))
  trivial
section
variable {w : World} {p : Program} {loose : List PStr} {mean : ExcName → Option Value} {mg mb : PStr → Option Value}
    {dp un : Nat} {gd : Option (List Code)} {a : Addr} {ccd : Value} {c1 c2 c3 : Addr} {A₀ : Around} {base h₀ : Heap} {L : Addr}
    {s : Shared} {news : Ldg}
    (B : Below A₀ base [] h₀) (X : (KK.heap_1 w.params).In h₀) (T : Top p loose mean mg mb h₀) (XB : (KK.heap_1 w.params).In base) (TB : Top p loose mean mg mb base)
include B X T XB TB

def hMap (b : PStr → Option Value) (x : PStr) (t : Tok) (pv tv : Option Value) : PStr → Option Value := fun y =>
  if y = PySem.Str.ofString "passed" then pv else if y = PySem.Str.ofString "told" then tv else if y = PySem.Str.ofString "text" then some (.str x t) else b y
theorem turn_h {v : TV} {bs : List Bool} {db da : Addr} {tg : Tok} {ew : Nat} {st0 : Option Value} {jk : PStr → Option Value} {Q : Flow → Shared → Prop} {E : Value → Shared → Prop} {gp : Int}
   (hd5 : dp + 60 < recursionLimit) (hu5 : un + 500 < cLine) (hE : PassesOwn (model PySem.Challenge.rw_pm0034_03.row.prog w) (ktrTop dp un gd (PySem.Str.ofString "law") lawScope3 L a ccd (cells3 c1 c2 c3) []) (envX (PySem.Str.ofString "law") lawScope3 L a ccd (cells3 c1 c2 c3)) E)
   (F : Fr h₀ L s.heap (sMap v db da gp tg st0 jk)) (N : News h₀ L s.heap news) (hw : (v.dw, lstOf (bs.map Value.bool) ew) ∈ news) (hbl : bs.length ≤ 100) (hgp : 0 ≤ gp ∧ gp ≤ 15)
   (hbs : hvs bs.reverse (Txt.mul (PySem.Str.ofString "\"") gp))
   (hret : ∀ h' tk jk' l', (∀ p ∈ news, p ∈ l') → Fr h₀ L h' (sMap v db da gp tg st0 jk') → News h₀ L h' l' → Q .next { s with heap := h', toks := tk }) :
   wpAny (model PySem.Challenge.rw_pm0034_03.row.prog w) (ktrTop dp un gd (PySem.Str.ofString "law") lawScope3 L a ccd (cells3 c1 c2 c3) []) (execs ((turn3.drop 13).take 2) (envX (PySem.Str.ofString "law") lawScope3 L a ccd (cells3 c1 c2 c3))) Q E s := by
  walk_at "M fill"
  have D : KtsDicts (([] : List Env).filterMap (·.frame)) h₀ := fun b hb => nomatch hb
  have lq : (PySem.Str.ofString "\"").length = 1 := by decide +kernel
  show wpAny _ (ktrTop _ _ _ _ (Scope.mk _ _ _ _ _) _ _ _ _ _) (execs (_ :: _ :: []) (envX _ (Scope.mk _ _ _ _ _) _ _ _ _)) _ _ _
  unfold sMap at F
  k_steps
  refine Hold.out ?_
  refine' pyIter_listA Value.bool (fun as (σ : PStr × Tok × Option Value × Option Value) => hvs as σ.1 ∧ σ.1.length ≤ 15) (fun σ => hMap (sMap v db da gp tg st0 jk) σ.1 σ.2.1 σ.2.2.1 σ.2.2.2) bs.reverse
    (Txt.mul (PySem.Str.ofString "\"") gp, _, jk (PySem.Str.ofString "passed"), jk (PySem.Str.ofString "told")) [PySem.Str.ofString "passed", PySem.Str.ofString "told", PySem.Str.ofString "text"] (by assumption) (by assumption) ?hm rfl ⟨hbs, by dsimp only; omega⟩ ?m1 ?m2 ?turn ?done
  case hm => rw [List.map_reverse]; k_mem
  case m1 => unfold hMap sMap; walk_at "M map1"
  case m2 => unfold hMap sMap; walk_at "M map2"
  case turn =>
    rintro b as ⟨tx, tt, pv, tv⟩ h tk own ⟨⟨hb, hc⟩, hlen⟩ hne kF1 kN1
    dsimp only at hb hc hlen hne kF1 kN1
    unfold hMap at kF1
    have ql := quo_len tx
    have ml := len_mul (quo tx) 2
    rw [if_neg (by decide)] at ml
    cases b with
    | true =>
      rw [if_pos rfl] at hb
      (with_reducible show wpAny _ _ _ _ _ _)
      k_fold
      k_steps
      refine' turnFr_next (quo tx, _, some (.bool true), some (.str (quo tx) _)) [PySem.Str.ofString "passed", PySem.Str.ofString "told", PySem.Str.ofString "text"] (by assumption) (by assumption) ⟨hc, ?l_true⟩ ?m1_true ?m2_true (fun q hq => hq) hne
      case l_true => dsimp only; omega
      case m1_true => unfold hMap; walk_at "M map1"
      case m2_true => unfold hMap; walk_at "M map2"
    | false =>
      rw [if_neg Bool.false_ne_true] at hb
      (with_reducible show wpAny _ _ _ _ _ _)
      k_fold
      k_steps
      refine' turnFr_next (quo tx, _, some (.bool false), some (.str (quo tx) _)) [PySem.Str.ofString "passed", PySem.Str.ofString "told", PySem.Str.ofString "text"] (by assumption) (by assumption) ⟨hc, ?l_false⟩ ?m1_false ?m2_false (fun q hq => hq) hne
      case l_false => dsimp only; omega
      case m1_false => unfold hMap; walk_at "M map1"
      case m2_false => unfold hMap; walk_at "M map2"
  case done =>
    rintro ⟨tx, tt, pv, tv⟩ h tk c kF1 kN1
    dsimp only at kF1 kN1
    refine wpAny_execs_nil ?_
    refine' hret _ _ (hMap jk tx tt pv tv) _ (fun p hp => .tail _ hp) (fr_map sNames kF1 ?m1_d ?m2_d) kN1
    case m1_d => unfold hMap sMap; walk_at "M map1"
    case m2_d =>
      unfold hMap sMap
      refine SameOut.both (b := fun y => if y = PySem.Str.ofString "passed" then pv else if y = PySem.Str.ofString "told" then tv else if y = PySem.Str.ofString "text" then some (.str tx tt) else jk y) ?_ ?_
      · refine SameOut.skip (SameOut.skip (SameOut.skip ?_))
        (repeat (refine SameOut.upd ?_ (by with_unfolding_all rfl)))
        exact SameOut.refl
      · (repeat (refine SameOut.upd ?_ (by with_unfolding_all rfl)))
        exact SameOut.refl
end
end Mine
end
section
open PySem PySem.W PyProof.Rows PySem.Spec PySem.Calls
set_option Elab.async false
set_option maxRecDepth 100000
set_option maxHeartbeats 4000000
set_option linter.all false
namespace Mine
section
variable {prog : Program} {w : World} {A : Around} {E : Value → Shared → Prop} {s : Shared} {h₀ : Heap} {L : Addr} {m : Str → Option Value} {news : Ldg}
theorem len_L {l : Addr} {vs : List Value} {ep : Nat} {Q : Value → Shared → Prop} (N : News h₀ L s.heap news) (hm : (l, lstOf vs ep) ∈ news) (hz : vs.length ≤ 1000)
    (h : Q (.int vs.length (s.toks + 1)) { s with toks := s.toks + 1 + 1 }) : wpAny (model prog w) A (call (.builtin "len") [.ref l]) Q E s := by
  have e : vs.toArray.size = vs.length := by simp
  refine len_list (News.isList N hm) (by rw [e]; omega) ?_
  rw [e]
  exact h
/-- a comprehension by an invariant -/
theorem comp_ind {env : Env} {elt : PySem.Expr} {x : Str} {scope : Scope} {cl : List (Str × Addr)} {S : Ldg → Prop} {P : Nat → Value → Prop} {Fin : List Value → Ldg → Prop} {n : Nat} (J : Nat → List Value → Ldg → Prop) (hJ : J 0 [] news)
    (turn : ∀ i v I oI C oC D m₂ ys nw h tk (E' : Value → Shared → Prop), i < n → P i v → J i ys nw → LCg.NsObj oC m₂ → m₂ x = some v → Fr h₀ L h m → News h₀ L h ((I, oI) :: (C, oC) :: (D, LCg.lst ys) :: nw) → LCg.Off3 I C D nw → ((@Ne Nat I C) ∧ (@Ne Nat I D) ∧ (@Ne Nat C D)) →
      wpAny (model prog w) A (eval elt (compEnvC scope cl C env)) (LCg.CompEnd h₀ L m { s with heap := h, toks := tk } I oI C oC D (LCg.lst ys) S (fun y nw' => J (i + 1) (ys ++ [y]) nw')) E' { s with heap := h, toks := tk })
    (fin : ∀ ys nw, J n ys nw → Fin ys nw) : LCg.CompRest prog w A h₀ L m env elt x scope cl s S P Fin n 0 [] news := by
  have key : ∀ (j i : Nat) (ys : List Value) (nw : Ldg), i + j = n → J i ys nw → LCg.CompRest prog w A h₀ L m env elt x scope cl s S P Fin j i ys nw := by
    intro j
    induction j with
    | zero =>
      intro i ys nw hi hy
      have e : i = n := by omega
      subst e
      exact LCg.CompRest.zero (fin ys nw hy)
    | succ j ih =>
      intro i ys nw hi hy
      refine LCg.CompRest.succ ?_
      intro v I oI C oC D m₂ h tk E' hv hC hx F N off ne
      refine wpAny_mono (turn i v I oI C oC D m₂ ys nw h tk E' (by omega) hv hy hC hx F N off ne) (fun y s₂ hq => ?_) fun _ _ e => e
      obtain ⟨h', tk', nw', e, F', N', off', hS, hj⟩ := hq
      exact ⟨h', tk', nw', e, F', N', off', hS, ih (i + 1) _ nw' (by omega) hj⟩
  exact key n 0 [] news (by omega) hJ
noncomputable def pairD (q : Int × Int) : PyData := .list [.int q.1, .int q.2]
theorem reads_pairs {h : Heap} (N : News h₀ L h news) : ∀ {vs : List Value} {fs : List (Int × Int)}, PairsAre news vs fs → ∃ as, ReadsAll h vs (fs.map pairD) as
  | _, _, .nil => ⟨_, ReadsAll.nil⟩
  | _, _, .cons a b => by
    obtain ⟨as, h2⟩ := reads_pairs N b
    exact ⟨_, ReadsAll.cons (reads_pair N a) h2⟩
theorem ne_pairs_same {x y : Addr} {vs ws : List Value} {e1 e2 : Nat} {fs : List (Int × Int)} {Q : Value → Shared → Prop} (N : News h₀ L s.heap news) (hx : (x, lstOf vs e1) ∈ news) (hy : (y, lstOf ws e2) ∈ news) (h1 : PairsAre news vs fs) (h2 : PairsAre news ws fs)
    (hs : PySem.SeqAt.shaped (.list (fs.map pairD)) = true) (hu : A.units + 64 < cLine) (h : Q (.bool false) s) : wpAny (model prog w) A (compareOp .NotEq (.ref x) (.ref y)) Q E s := by
  obtain ⟨as, r1⟩ := reads_pairs N h1
  obtain ⟨bs, r2⟩ := reads_pairs N h2
  refine ne_dataH (reads_list_at (N _ hx).1 rfl rfl r1) (reads_list_at (N _ hy).1 rfl rfl r2) hs hs hu ?_
  rw [PySem.SeqAt.eqv_refl _ (PySem.SeqAt.canLay_of_shaped hs)]
  exact h
end
end Mine
end
section
open PySem PySem.W PyProof.Rows PySem.Spec PySem.Calls
set_option Elab.async false
set_option maxRecDepth 100000
set_option maxHeartbeats 4000000
set_option synthInstance.maxHeartbeats 400000
set_option synthInstance.maxSize 1000
set_option linter.all false
namespace Mine
abbrev pS (s : String) : PStr := PySem.Str.ofString s
/-- the four dresses -/
noncomputable def dr3 : Nat → PStr → PStr
  | 0, le => pS "229 " ++ le ++ pS " " ++ pS "(|||#|)"
  | 1, le => pS "229 " ++ le ++ pS " " ++ pS "(!1!h!#!)"
  | 2, le => pS "229 " ++ le ++ pS " " ++ pS "(:::0#:)"
  | _, le => pS "229 " ++ le ++ pS " " ++ pS "(   # )"
noncomputable def gd3 (i : Nat) (po le : PStr) : PStr := Txt.replace (dr3 i le) (pS "#") po
/-- a thing: the reply, its due, the good one; of the four good texts, the port and the letter -/
noncomputable def thL : Nat → PStr × PStr × PStr × PStr × PStr × PStr → PStr × Option PStr × PStr
  | 0, (g, _) => (g, none, g)
  | 1, (_, g, _) => (g, none, g)
  | 2, (_, _, g, _) => (g, none, g)
  | 3, (_, _, _, g, _) => (g, none, g)
  | 4, (g, _) => (pS "227" ++ Txt.slice g (some 3) none, some (pS "reply " ++ (pS "227" ++ Txt.slice g (some 3) none)), g)
  | 5, (_, g, _) => (Txt.slice g none (some (-1)) ++ pS "x", some (pS "proto " ++ (Txt.slice g none (some (-1)) ++ pS "x")), g)
  | 6, (_, _, g, _) => (Txt.slice g none (some (-1)) ++ pS "x)", some (pS "proto " ++ (Txt.slice g none (some (-1)) ++ pS "x)")), g)
  | 7, (_, _, _, g, po, le) => (Txt.replace (dr3 3 le) (pS "#") (po ++ le), some (pS "value invalid literal for int() with base 10: '" ++ po ++ le ++ pS "'"), g)
  | 8, (g, _, _, _, po, le) => (Txt.slice (dr3 0 le) none (some 6) ++ pS "2" ++ po ++ pS "2)", some (pS "proto " ++ (Txt.slice (dr3 0 le) none (some 6) ++ pS "2" ++ po ++ pS "2)")), g)
  | _, (_, g, _) => (Txt.slice g none (some 8) ++ Txt.slice g (some 7) none, some (pS "proto " ++ (Txt.slice g none (some 8) ++ Txt.slice g (some 7) none)), g)
noncomputable def thg3 (sh : Nat) (po le : PStr) : PStr × Option PStr × PStr := thL sh (gd3 0 po le, gd3 1 po le, gd3 2 po le, gd3 3 po le, po, le)
noncomputable def goodChk (p : Int) (g : PStr) : Bool := (match p229 g with | .ok n => n == p | .error _ => false) && decide (g.length ≤ 640) && decide ((PySem.reprText (p229part g)).length ≤ 10000)
noncomputable def badK (k : EK) (x : PStr) : Bool :=
  (match p229 x with
    | .error (ek, _) => decide (ek = k)
    | .ok _ => false) && decide (x.length ≤ 640) && decide ((PySem.reprText (p229part x)).length ≤ 10000)
noncomputable def badV (x po le : PStr) : Bool := badK .value x && decide (p229part x = po ++ le)
noncomputable def poTxt (p : Int) : PStr := pS (toString p)
noncomputable def leTxt (k : Nat) : PStr := ⟨#[97 + k]⟩
noncomputable def fs3 (lv : Nat) : List (Int × Int) := fracs lv (0, 1) (1, 0)
noncomputable def port3 (q : Int × Int) : Int := 60 * q.1 / q.2
noncomputable def goodL3 : List (Int × PStr × PStr × PStr × PStr × PStr × PStr) := [
  (20, ⟨#[50, 50, 57, 32, 97, 32, 40, 124, 124, 124, 50, 48, 124, 41]⟩, ⟨#[50, 50, 57, 32, 97, 32, 40, 33, 49, 33, 104, 33, 50, 48, 33, 41]⟩, ⟨#[50, 50, 57, 32, 97, 32, 40, 58, 58, 58, 48, 50, 48, 58, 41]⟩, ⟨#[50, 50, 57, 32, 97, 32, 40, 32, 32, 32, 50, 48, 32, 41]⟩, ⟨#[50, 48]⟩, ⟨#[97]⟩),
  (30, ⟨#[50, 50, 57, 32, 98, 32, 40, 124, 124, 124, 51, 48, 124, 41]⟩, ⟨#[50, 50, 57, 32, 98, 32, 40, 33, 49, 33, 104, 33, 51, 48, 33, 41]⟩, ⟨#[50, 50, 57, 32, 98, 32, 40, 58, 58, 58, 48, 51, 48, 58, 41]⟩, ⟨#[50, 50, 57, 32, 98, 32, 40, 32, 32, 32, 51, 48, 32, 41]⟩, ⟨#[51, 48]⟩, ⟨#[98]⟩),
  (40, ⟨#[50, 50, 57, 32, 99, 32, 40, 124, 124, 124, 52, 48, 124, 41]⟩, ⟨#[50, 50, 57, 32, 99, 32, 40, 33, 49, 33, 104, 33, 52, 48, 33, 41]⟩, ⟨#[50, 50, 57, 32, 99, 32, 40, 58, 58, 58, 48, 52, 48, 58, 41]⟩, ⟨#[50, 50, 57, 32, 99, 32, 40, 32, 32, 32, 52, 48, 32, 41]⟩, ⟨#[52, 48]⟩, ⟨#[99]⟩),
  (60, ⟨#[50, 50, 57, 32, 100, 32, 40, 124, 124, 124, 54, 48, 124, 41]⟩, ⟨#[50, 50, 57, 32, 100, 32, 40, 33, 49, 33, 104, 33, 54, 48, 33, 41]⟩, ⟨#[50, 50, 57, 32, 100, 32, 40, 58, 58, 58, 48, 54, 48, 58, 41]⟩, ⟨#[50, 50, 57, 32, 100, 32, 40, 32, 32, 32, 54, 48, 32, 41]⟩, ⟨#[54, 48]⟩, ⟨#[100]⟩),
  (90, ⟨#[50, 50, 57, 32, 101, 32, 40, 124, 124, 124, 57, 48, 124, 41]⟩, ⟨#[50, 50, 57, 32, 101, 32, 40, 33, 49, 33, 104, 33, 57, 48, 33, 41]⟩, ⟨#[50, 50, 57, 32, 101, 32, 40, 58, 58, 58, 48, 57, 48, 58, 41]⟩, ⟨#[50, 50, 57, 32, 101, 32, 40, 32, 32, 32, 57, 48, 32, 41]⟩, ⟨#[57, 48]⟩, ⟨#[101]⟩),
  (120, ⟨#[50, 50, 57, 32, 102, 32, 40, 124, 124, 124, 49, 50, 48, 124, 41]⟩, ⟨#[50, 50, 57, 32, 102, 32, 40, 33, 49, 33, 104, 33, 49, 50, 48, 33, 41]⟩, ⟨#[50, 50, 57, 32, 102, 32, 40, 58, 58, 58, 48, 49, 50, 48, 58, 41]⟩, ⟨#[50, 50, 57, 32, 102, 32, 40, 32, 32, 32, 49, 50, 48, 32, 41]⟩, ⟨#[49, 50, 48]⟩, ⟨#[102]⟩),
  (180, ⟨#[50, 50, 57, 32, 103, 32, 40, 124, 124, 124, 49, 56, 48, 124, 41]⟩, ⟨#[50, 50, 57, 32, 103, 32, 40, 33, 49, 33, 104, 33, 49, 56, 48, 33, 41]⟩, ⟨#[50, 50, 57, 32, 103, 32, 40, 58, 58, 58, 48, 49, 56, 48, 58, 41]⟩, ⟨#[50, 50, 57, 32, 103, 32, 40, 32, 32, 32, 49, 56, 48, 32, 41]⟩, ⟨#[49, 56, 48]⟩, ⟨#[103]⟩)]
noncomputable def goodL4 : List (Int × PStr × PStr × PStr × PStr × PStr × PStr) := [
  (15, ⟨#[50, 50, 57, 32, 97, 32, 40, 124, 124, 124, 49, 53, 124, 41]⟩, ⟨#[50, 50, 57, 32, 97, 32, 40, 33, 49, 33, 104, 33, 49, 53, 33, 41]⟩, ⟨#[50, 50, 57, 32, 97, 32, 40, 58, 58, 58, 48, 49, 53, 58, 41]⟩, ⟨#[50, 50, 57, 32, 97, 32, 40, 32, 32, 32, 49, 53, 32, 41]⟩, ⟨#[49, 53]⟩, ⟨#[97]⟩),
  (20, ⟨#[50, 50, 57, 32, 98, 32, 40, 124, 124, 124, 50, 48, 124, 41]⟩, ⟨#[50, 50, 57, 32, 98, 32, 40, 33, 49, 33, 104, 33, 50, 48, 33, 41]⟩, ⟨#[50, 50, 57, 32, 98, 32, 40, 58, 58, 58, 48, 50, 48, 58, 41]⟩, ⟨#[50, 50, 57, 32, 98, 32, 40, 32, 32, 32, 50, 48, 32, 41]⟩, ⟨#[50, 48]⟩, ⟨#[98]⟩),
  (24, ⟨#[50, 50, 57, 32, 99, 32, 40, 124, 124, 124, 50, 52, 124, 41]⟩, ⟨#[50, 50, 57, 32, 99, 32, 40, 33, 49, 33, 104, 33, 50, 52, 33, 41]⟩, ⟨#[50, 50, 57, 32, 99, 32, 40, 58, 58, 58, 48, 50, 52, 58, 41]⟩, ⟨#[50, 50, 57, 32, 99, 32, 40, 32, 32, 32, 50, 52, 32, 41]⟩, ⟨#[50, 52]⟩, ⟨#[99]⟩),
  (30, ⟨#[50, 50, 57, 32, 100, 32, 40, 124, 124, 124, 51, 48, 124, 41]⟩, ⟨#[50, 50, 57, 32, 100, 32, 40, 33, 49, 33, 104, 33, 51, 48, 33, 41]⟩, ⟨#[50, 50, 57, 32, 100, 32, 40, 58, 58, 58, 48, 51, 48, 58, 41]⟩, ⟨#[50, 50, 57, 32, 100, 32, 40, 32, 32, 32, 51, 48, 32, 41]⟩, ⟨#[51, 48]⟩, ⟨#[100]⟩),
  (36, ⟨#[50, 50, 57, 32, 101, 32, 40, 124, 124, 124, 51, 54, 124, 41]⟩, ⟨#[50, 50, 57, 32, 101, 32, 40, 33, 49, 33, 104, 33, 51, 54, 33, 41]⟩, ⟨#[50, 50, 57, 32, 101, 32, 40, 58, 58, 58, 48, 51, 54, 58, 41]⟩, ⟨#[50, 50, 57, 32, 101, 32, 40, 32, 32, 32, 51, 54, 32, 41]⟩, ⟨#[51, 54]⟩, ⟨#[101]⟩),
  (40, ⟨#[50, 50, 57, 32, 102, 32, 40, 124, 124, 124, 52, 48, 124, 41]⟩, ⟨#[50, 50, 57, 32, 102, 32, 40, 33, 49, 33, 104, 33, 52, 48, 33, 41]⟩, ⟨#[50, 50, 57, 32, 102, 32, 40, 58, 58, 58, 48, 52, 48, 58, 41]⟩, ⟨#[50, 50, 57, 32, 102, 32, 40, 32, 32, 32, 52, 48, 32, 41]⟩, ⟨#[52, 48]⟩, ⟨#[102]⟩),
  (45, ⟨#[50, 50, 57, 32, 103, 32, 40, 124, 124, 124, 52, 53, 124, 41]⟩, ⟨#[50, 50, 57, 32, 103, 32, 40, 33, 49, 33, 104, 33, 52, 53, 33, 41]⟩, ⟨#[50, 50, 57, 32, 103, 32, 40, 58, 58, 58, 48, 52, 53, 58, 41]⟩, ⟨#[50, 50, 57, 32, 103, 32, 40, 32, 32, 32, 52, 53, 32, 41]⟩, ⟨#[52, 53]⟩, ⟨#[103]⟩),
  (60, ⟨#[50, 50, 57, 32, 104, 32, 40, 124, 124, 124, 54, 48, 124, 41]⟩, ⟨#[50, 50, 57, 32, 104, 32, 40, 33, 49, 33, 104, 33, 54, 48, 33, 41]⟩, ⟨#[50, 50, 57, 32, 104, 32, 40, 58, 58, 58, 48, 54, 48, 58, 41]⟩, ⟨#[50, 50, 57, 32, 104, 32, 40, 32, 32, 32, 54, 48, 32, 41]⟩, ⟨#[54, 48]⟩, ⟨#[104]⟩),
  (80, ⟨#[50, 50, 57, 32, 105, 32, 40, 124, 124, 124, 56, 48, 124, 41]⟩, ⟨#[50, 50, 57, 32, 105, 32, 40, 33, 49, 33, 104, 33, 56, 48, 33, 41]⟩, ⟨#[50, 50, 57, 32, 105, 32, 40, 58, 58, 58, 48, 56, 48, 58, 41]⟩, ⟨#[50, 50, 57, 32, 105, 32, 40, 32, 32, 32, 56, 48, 32, 41]⟩, ⟨#[56, 48]⟩, ⟨#[105]⟩),
  (90, ⟨#[50, 50, 57, 32, 106, 32, 40, 124, 124, 124, 57, 48, 124, 41]⟩, ⟨#[50, 50, 57, 32, 106, 32, 40, 33, 49, 33, 104, 33, 57, 48, 33, 41]⟩, ⟨#[50, 50, 57, 32, 106, 32, 40, 58, 58, 58, 48, 57, 48, 58, 41]⟩, ⟨#[50, 50, 57, 32, 106, 32, 40, 32, 32, 32, 57, 48, 32, 41]⟩, ⟨#[57, 48]⟩, ⟨#[106]⟩),
  (100, ⟨#[50, 50, 57, 32, 107, 32, 40, 124, 124, 124, 49, 48, 48, 124, 41]⟩, ⟨#[50, 50, 57, 32, 107, 32, 40, 33, 49, 33, 104, 33, 49, 48, 48, 33, 41]⟩, ⟨#[50, 50, 57, 32, 107, 32, 40, 58, 58, 58, 48, 49, 48, 48, 58, 41]⟩, ⟨#[50, 50, 57, 32, 107, 32, 40, 32, 32, 32, 49, 48, 48, 32, 41]⟩, ⟨#[49, 48, 48]⟩, ⟨#[107]⟩),
  (120, ⟨#[50, 50, 57, 32, 108, 32, 40, 124, 124, 124, 49, 50, 48, 124, 41]⟩, ⟨#[50, 50, 57, 32, 108, 32, 40, 33, 49, 33, 104, 33, 49, 50, 48, 33, 41]⟩, ⟨#[50, 50, 57, 32, 108, 32, 40, 58, 58, 58, 48, 49, 50, 48, 58, 41]⟩, ⟨#[50, 50, 57, 32, 108, 32, 40, 32, 32, 32, 49, 50, 48, 32, 41]⟩, ⟨#[49, 50, 48]⟩, ⟨#[108]⟩),
  (150, ⟨#[50, 50, 57, 32, 109, 32, 40, 124, 124, 124, 49, 53, 48, 124, 41]⟩, ⟨#[50, 50, 57, 32, 109, 32, 40, 33, 49, 33, 104, 33, 49, 53, 48, 33, 41]⟩, ⟨#[50, 50, 57, 32, 109, 32, 40, 58, 58, 58, 48, 49, 53, 48, 58, 41]⟩, ⟨#[50, 50, 57, 32, 109, 32, 40, 32, 32, 32, 49, 53, 48, 32, 41]⟩, ⟨#[49, 53, 48]⟩, ⟨#[109]⟩),
  (180, ⟨#[50, 50, 57, 32, 110, 32, 40, 124, 124, 124, 49, 56, 48, 124, 41]⟩, ⟨#[50, 50, 57, 32, 110, 32, 40, 33, 49, 33, 104, 33, 49, 56, 48, 33, 41]⟩, ⟨#[50, 50, 57, 32, 110, 32, 40, 58, 58, 58, 48, 49, 56, 48, 58, 41]⟩, ⟨#[50, 50, 57, 32, 110, 32, 40, 32, 32, 32, 49, 56, 48, 32, 41]⟩, ⟨#[49, 56, 48]⟩, ⟨#[110]⟩),
  (240, ⟨#[50, 50, 57, 32, 111, 32, 40, 124, 124, 124, 50, 52, 48, 124, 41]⟩, ⟨#[50, 50, 57, 32, 111, 32, 40, 33, 49, 33, 104, 33, 50, 52, 48, 33, 41]⟩, ⟨#[50, 50, 57, 32, 111, 32, 40, 58, 58, 58, 48, 50, 52, 48, 58, 41]⟩, ⟨#[50, 50, 57, 32, 111, 32, 40, 32, 32, 32, 50, 52, 48, 32, 41]⟩, ⟨#[50, 52, 48]⟩, ⟨#[111]⟩)]

noncomputable def badL3 : List (List PStr) := [
  [⟨#[50, 50, 55, 32, 97, 32, 40, 124, 124, 124, 50, 48, 124, 41]⟩, ⟨#[50, 50, 57, 32, 97, 32, 40, 33, 49, 33, 104, 33, 50, 48, 33, 120]⟩, ⟨#[50, 50, 57, 32, 97, 32, 40, 58, 58, 58, 48, 50, 48, 58, 120, 41]⟩, ⟨#[50, 50, 57, 32, 97, 32, 40, 32, 32, 32, 50, 48, 97, 32, 41]⟩, ⟨#[50, 50, 57, 32, 97, 32, 50, 50, 48, 50, 41]⟩, ⟨#[50, 50, 57, 32, 97, 32, 40, 33, 33, 49, 33, 104, 33, 50, 48, 33, 41]⟩],
  [⟨#[50, 50, 55, 32, 98, 32, 40, 124, 124, 124, 51, 48, 124, 41]⟩, ⟨#[50, 50, 57, 32, 98, 32, 40, 33, 49, 33, 104, 33, 51, 48, 33, 120]⟩, ⟨#[50, 50, 57, 32, 98, 32, 40, 58, 58, 58, 48, 51, 48, 58, 120, 41]⟩, ⟨#[50, 50, 57, 32, 98, 32, 40, 32, 32, 32, 51, 48, 98, 32, 41]⟩, ⟨#[50, 50, 57, 32, 98, 32, 50, 51, 48, 50, 41]⟩, ⟨#[50, 50, 57, 32, 98, 32, 40, 33, 33, 49, 33, 104, 33, 51, 48, 33, 41]⟩],
  [⟨#[50, 50, 55, 32, 99, 32, 40, 124, 124, 124, 52, 48, 124, 41]⟩, ⟨#[50, 50, 57, 32, 99, 32, 40, 33, 49, 33, 104, 33, 52, 48, 33, 120]⟩, ⟨#[50, 50, 57, 32, 99, 32, 40, 58, 58, 58, 48, 52, 48, 58, 120, 41]⟩, ⟨#[50, 50, 57, 32, 99, 32, 40, 32, 32, 32, 52, 48, 99, 32, 41]⟩, ⟨#[50, 50, 57, 32, 99, 32, 50, 52, 48, 50, 41]⟩, ⟨#[50, 50, 57, 32, 99, 32, 40, 33, 33, 49, 33, 104, 33, 52, 48, 33, 41]⟩],
  [⟨#[50, 50, 55, 32, 100, 32, 40, 124, 124, 124, 54, 48, 124, 41]⟩, ⟨#[50, 50, 57, 32, 100, 32, 40, 33, 49, 33, 104, 33, 54, 48, 33, 120]⟩, ⟨#[50, 50, 57, 32, 100, 32, 40, 58, 58, 58, 48, 54, 48, 58, 120, 41]⟩, ⟨#[50, 50, 57, 32, 100, 32, 40, 32, 32, 32, 54, 48, 100, 32, 41]⟩, ⟨#[50, 50, 57, 32, 100, 32, 50, 54, 48, 50, 41]⟩, ⟨#[50, 50, 57, 32, 100, 32, 40, 33, 33, 49, 33, 104, 33, 54, 48, 33, 41]⟩],
  [⟨#[50, 50, 55, 32, 101, 32, 40, 124, 124, 124, 57, 48, 124, 41]⟩, ⟨#[50, 50, 57, 32, 101, 32, 40, 33, 49, 33, 104, 33, 57, 48, 33, 120]⟩, ⟨#[50, 50, 57, 32, 101, 32, 40, 58, 58, 58, 48, 57, 48, 58, 120, 41]⟩, ⟨#[50, 50, 57, 32, 101, 32, 40, 32, 32, 32, 57, 48, 101, 32, 41]⟩, ⟨#[50, 50, 57, 32, 101, 32, 50, 57, 48, 50, 41]⟩, ⟨#[50, 50, 57, 32, 101, 32, 40, 33, 33, 49, 33, 104, 33, 57, 48, 33, 41]⟩],
  [⟨#[50, 50, 55, 32, 102, 32, 40, 124, 124, 124, 49, 50, 48, 124, 41]⟩, ⟨#[50, 50, 57, 32, 102, 32, 40, 33, 49, 33, 104, 33, 49, 50, 48, 33, 120]⟩, ⟨#[50, 50, 57, 32, 102, 32, 40, 58, 58, 58, 48, 49, 50, 48, 58, 120, 41]⟩, ⟨#[50, 50, 57, 32, 102, 32, 40, 32, 32, 32, 49, 50, 48, 102, 32, 41]⟩, ⟨#[50, 50, 57, 32, 102, 32, 50, 49, 50, 48, 50, 41]⟩, ⟨#[50, 50, 57, 32, 102, 32, 40, 33, 33, 49, 33, 104, 33, 49, 50, 48, 33, 41]⟩],
  [⟨#[50, 50, 55, 32, 103, 32, 40, 124, 124, 124, 49, 56, 48, 124, 41]⟩, ⟨#[50, 50, 57, 32, 103, 32, 40, 33, 49, 33, 104, 33, 49, 56, 48, 33, 120]⟩, ⟨#[50, 50, 57, 32, 103, 32, 40, 58, 58, 58, 48, 49, 56, 48, 58, 120, 41]⟩, ⟨#[50, 50, 57, 32, 103, 32, 40, 32, 32, 32, 49, 56, 48, 103, 32, 41]⟩, ⟨#[50, 50, 57, 32, 103, 32, 50, 49, 56, 48, 50, 41]⟩, ⟨#[50, 50, 57, 32, 103, 32, 40, 33, 33, 49, 33, 104, 33, 49, 56, 48, 33, 41]⟩]]
noncomputable def badL4 : List (List PStr) := [
  [⟨#[50, 50, 55, 32, 97, 32, 40, 124, 124, 124, 49, 53, 124, 41]⟩, ⟨#[50, 50, 57, 32, 97, 32, 40, 33, 49, 33, 104, 33, 49, 53, 33, 120]⟩, ⟨#[50, 50, 57, 32, 97, 32, 40, 58, 58, 58, 48, 49, 53, 58, 120, 41]⟩, ⟨#[50, 50, 57, 32, 97, 32, 40, 32, 32, 32, 49, 53, 97, 32, 41]⟩, ⟨#[50, 50, 57, 32, 97, 32, 50, 49, 53, 50, 41]⟩, ⟨#[50, 50, 57, 32, 97, 32, 40, 33, 33, 49, 33, 104, 33, 49, 53, 33, 41]⟩],
  [⟨#[50, 50, 55, 32, 98, 32, 40, 124, 124, 124, 50, 48, 124, 41]⟩, ⟨#[50, 50, 57, 32, 98, 32, 40, 33, 49, 33, 104, 33, 50, 48, 33, 120]⟩, ⟨#[50, 50, 57, 32, 98, 32, 40, 58, 58, 58, 48, 50, 48, 58, 120, 41]⟩, ⟨#[50, 50, 57, 32, 98, 32, 40, 32, 32, 32, 50, 48, 98, 32, 41]⟩, ⟨#[50, 50, 57, 32, 98, 32, 50, 50, 48, 50, 41]⟩, ⟨#[50, 50, 57, 32, 98, 32, 40, 33, 33, 49, 33, 104, 33, 50, 48, 33, 41]⟩],
  [⟨#[50, 50, 55, 32, 99, 32, 40, 124, 124, 124, 50, 52, 124, 41]⟩, ⟨#[50, 50, 57, 32, 99, 32, 40, 33, 49, 33, 104, 33, 50, 52, 33, 120]⟩, ⟨#[50, 50, 57, 32, 99, 32, 40, 58, 58, 58, 48, 50, 52, 58, 120, 41]⟩, ⟨#[50, 50, 57, 32, 99, 32, 40, 32, 32, 32, 50, 52, 99, 32, 41]⟩, ⟨#[50, 50, 57, 32, 99, 32, 50, 50, 52, 50, 41]⟩, ⟨#[50, 50, 57, 32, 99, 32, 40, 33, 33, 49, 33, 104, 33, 50, 52, 33, 41]⟩],
  [⟨#[50, 50, 55, 32, 100, 32, 40, 124, 124, 124, 51, 48, 124, 41]⟩, ⟨#[50, 50, 57, 32, 100, 32, 40, 33, 49, 33, 104, 33, 51, 48, 33, 120]⟩, ⟨#[50, 50, 57, 32, 100, 32, 40, 58, 58, 58, 48, 51, 48, 58, 120, 41]⟩, ⟨#[50, 50, 57, 32, 100, 32, 40, 32, 32, 32, 51, 48, 100, 32, 41]⟩, ⟨#[50, 50, 57, 32, 100, 32, 50, 51, 48, 50, 41]⟩, ⟨#[50, 50, 57, 32, 100, 32, 40, 33, 33, 49, 33, 104, 33, 51, 48, 33, 41]⟩],
  [⟨#[50, 50, 55, 32, 101, 32, 40, 124, 124, 124, 51, 54, 124, 41]⟩, ⟨#[50, 50, 57, 32, 101, 32, 40, 33, 49, 33, 104, 33, 51, 54, 33, 120]⟩, ⟨#[50, 50, 57, 32, 101, 32, 40, 58, 58, 58, 48, 51, 54, 58, 120, 41]⟩, ⟨#[50, 50, 57, 32, 101, 32, 40, 32, 32, 32, 51, 54, 101, 32, 41]⟩, ⟨#[50, 50, 57, 32, 101, 32, 50, 51, 54, 50, 41]⟩, ⟨#[50, 50, 57, 32, 101, 32, 40, 33, 33, 49, 33, 104, 33, 51, 54, 33, 41]⟩],
  [⟨#[50, 50, 55, 32, 102, 32, 40, 124, 124, 124, 52, 48, 124, 41]⟩, ⟨#[50, 50, 57, 32, 102, 32, 40, 33, 49, 33, 104, 33, 52, 48, 33, 120]⟩, ⟨#[50, 50, 57, 32, 102, 32, 40, 58, 58, 58, 48, 52, 48, 58, 120, 41]⟩, ⟨#[50, 50, 57, 32, 102, 32, 40, 32, 32, 32, 52, 48, 102, 32, 41]⟩, ⟨#[50, 50, 57, 32, 102, 32, 50, 52, 48, 50, 41]⟩, ⟨#[50, 50, 57, 32, 102, 32, 40, 33, 33, 49, 33, 104, 33, 52, 48, 33, 41]⟩],
  [⟨#[50, 50, 55, 32, 103, 32, 40, 124, 124, 124, 52, 53, 124, 41]⟩, ⟨#[50, 50, 57, 32, 103, 32, 40, 33, 49, 33, 104, 33, 52, 53, 33, 120]⟩, ⟨#[50, 50, 57, 32, 103, 32, 40, 58, 58, 58, 48, 52, 53, 58, 120, 41]⟩, ⟨#[50, 50, 57, 32, 103, 32, 40, 32, 32, 32, 52, 53, 103, 32, 41]⟩, ⟨#[50, 50, 57, 32, 103, 32, 50, 52, 53, 50, 41]⟩, ⟨#[50, 50, 57, 32, 103, 32, 40, 33, 33, 49, 33, 104, 33, 52, 53, 33, 41]⟩],
  [⟨#[50, 50, 55, 32, 104, 32, 40, 124, 124, 124, 54, 48, 124, 41]⟩, ⟨#[50, 50, 57, 32, 104, 32, 40, 33, 49, 33, 104, 33, 54, 48, 33, 120]⟩, ⟨#[50, 50, 57, 32, 104, 32, 40, 58, 58, 58, 48, 54, 48, 58, 120, 41]⟩, ⟨#[50, 50, 57, 32, 104, 32, 40, 32, 32, 32, 54, 48, 104, 32, 41]⟩, ⟨#[50, 50, 57, 32, 104, 32, 50, 54, 48, 50, 41]⟩, ⟨#[50, 50, 57, 32, 104, 32, 40, 33, 33, 49, 33, 104, 33, 54, 48, 33, 41]⟩],
  [⟨#[50, 50, 55, 32, 105, 32, 40, 124, 124, 124, 56, 48, 124, 41]⟩, ⟨#[50, 50, 57, 32, 105, 32, 40, 33, 49, 33, 104, 33, 56, 48, 33, 120]⟩, ⟨#[50, 50, 57, 32, 105, 32, 40, 58, 58, 58, 48, 56, 48, 58, 120, 41]⟩, ⟨#[50, 50, 57, 32, 105, 32, 40, 32, 32, 32, 56, 48, 105, 32, 41]⟩, ⟨#[50, 50, 57, 32, 105, 32, 50, 56, 48, 50, 41]⟩, ⟨#[50, 50, 57, 32, 105, 32, 40, 33, 33, 49, 33, 104, 33, 56, 48, 33, 41]⟩],
  [⟨#[50, 50, 55, 32, 106, 32, 40, 124, 124, 124, 57, 48, 124, 41]⟩, ⟨#[50, 50, 57, 32, 106, 32, 40, 33, 49, 33, 104, 33, 57, 48, 33, 120]⟩, ⟨#[50, 50, 57, 32, 106, 32, 40, 58, 58, 58, 48, 57, 48, 58, 120, 41]⟩, ⟨#[50, 50, 57, 32, 106, 32, 40, 32, 32, 32, 57, 48, 106, 32, 41]⟩, ⟨#[50, 50, 57, 32, 106, 32, 50, 57, 48, 50, 41]⟩, ⟨#[50, 50, 57, 32, 106, 32, 40, 33, 33, 49, 33, 104, 33, 57, 48, 33, 41]⟩],
  [⟨#[50, 50, 55, 32, 107, 32, 40, 124, 124, 124, 49, 48, 48, 124, 41]⟩, ⟨#[50, 50, 57, 32, 107, 32, 40, 33, 49, 33, 104, 33, 49, 48, 48, 33, 120]⟩, ⟨#[50, 50, 57, 32, 107, 32, 40, 58, 58, 58, 48, 49, 48, 48, 58, 120, 41]⟩, ⟨#[50, 50, 57, 32, 107, 32, 40, 32, 32, 32, 49, 48, 48, 107, 32, 41]⟩, ⟨#[50, 50, 57, 32, 107, 32, 50, 49, 48, 48, 50, 41]⟩, ⟨#[50, 50, 57, 32, 107, 32, 40, 33, 33, 49, 33, 104, 33, 49, 48, 48, 33, 41]⟩],
  [⟨#[50, 50, 55, 32, 108, 32, 40, 124, 124, 124, 49, 50, 48, 124, 41]⟩, ⟨#[50, 50, 57, 32, 108, 32, 40, 33, 49, 33, 104, 33, 49, 50, 48, 33, 120]⟩, ⟨#[50, 50, 57, 32, 108, 32, 40, 58, 58, 58, 48, 49, 50, 48, 58, 120, 41]⟩, ⟨#[50, 50, 57, 32, 108, 32, 40, 32, 32, 32, 49, 50, 48, 108, 32, 41]⟩, ⟨#[50, 50, 57, 32, 108, 32, 50, 49, 50, 48, 50, 41]⟩, ⟨#[50, 50, 57, 32, 108, 32, 40, 33, 33, 49, 33, 104, 33, 49, 50, 48, 33, 41]⟩],
  [⟨#[50, 50, 55, 32, 109, 32, 40, 124, 124, 124, 49, 53, 48, 124, 41]⟩, ⟨#[50, 50, 57, 32, 109, 32, 40, 33, 49, 33, 104, 33, 49, 53, 48, 33, 120]⟩, ⟨#[50, 50, 57, 32, 109, 32, 40, 58, 58, 58, 48, 49, 53, 48, 58, 120, 41]⟩, ⟨#[50, 50, 57, 32, 109, 32, 40, 32, 32, 32, 49, 53, 48, 109, 32, 41]⟩, ⟨#[50, 50, 57, 32, 109, 32, 50, 49, 53, 48, 50, 41]⟩, ⟨#[50, 50, 57, 32, 109, 32, 40, 33, 33, 49, 33, 104, 33, 49, 53, 48, 33, 41]⟩],
  [⟨#[50, 50, 55, 32, 110, 32, 40, 124, 124, 124, 49, 56, 48, 124, 41]⟩, ⟨#[50, 50, 57, 32, 110, 32, 40, 33, 49, 33, 104, 33, 49, 56, 48, 33, 120]⟩, ⟨#[50, 50, 57, 32, 110, 32, 40, 58, 58, 58, 48, 49, 56, 48, 58, 120, 41]⟩, ⟨#[50, 50, 57, 32, 110, 32, 40, 32, 32, 32, 49, 56, 48, 110, 32, 41]⟩, ⟨#[50, 50, 57, 32, 110, 32, 50, 49, 56, 48, 50, 41]⟩, ⟨#[50, 50, 57, 32, 110, 32, 40, 33, 33, 49, 33, 104, 33, 49, 56, 48, 33, 41]⟩],
  [⟨#[50, 50, 55, 32, 111, 32, 40, 124, 124, 124, 50, 52, 48, 124, 41]⟩, ⟨#[50, 50, 57, 32, 111, 32, 40, 33, 49, 33, 104, 33, 50, 52, 48, 33, 120]⟩, ⟨#[50, 50, 57, 32, 111, 32, 40, 58, 58, 58, 48, 50, 52, 48, 58, 120, 41]⟩, ⟨#[50, 50, 57, 32, 111, 32, 40, 32, 32, 32, 50, 52, 48, 111, 32, 41]⟩, ⟨#[50, 50, 57, 32, 111, 32, 50, 50, 52, 48, 50, 41]⟩, ⟨#[50, 50, 57, 32, 111, 32, 40, 33, 33, 49, 33, 104, 33, 50, 52, 48, 33, 41]⟩]]

noncomputable def tup3 (q : (Int × Int) × Nat) : Int × PStr × PStr × PStr × PStr × PStr × PStr :=
  (port3 q.1, gd3 0 (poTxt (port3 q.1)) (leTxt q.2), gd3 1 (poTxt (port3 q.1)) (leTxt q.2), gd3 2 (poTxt (port3 q.1)) (leTxt q.2), gd3 3 (poTxt (port3 q.1)) (leTxt q.2), poTxt (port3 q.1), leTxt q.2)
theorem tab_3 : (fs3 3).zipIdx.map tup3 = goodL3 := by decide +kernel
theorem tab_4 : (fs3 4).zipIdx.map tup3 = goodL4 := by decide +kernel
noncomputable def goodAll (q : Int × PStr × PStr × PStr × PStr × PStr × PStr) : Bool := goodChk q.1 q.2.1 && goodChk q.1 q.2.2.1 && goodChk q.1 q.2.2.2.1 && goodChk q.1 q.2.2.2.2.1
theorem good_3 : goodL3.all goodAll = true := by decide +kernel
theorem good_4 : goodL4.all goodAll = true := by decide +kernel
noncomputable def bads (q : Int × PStr × PStr × PStr × PStr × PStr × PStr) : List PStr := [4, 5, 6, 7, 8, 9].map fun sh => (thL sh q.2).1
theorem badtab_3 : goodL3.map bads = badL3 := by decide +kernel
theorem badtab_4 : goodL4.map bads = badL4 := by decide +kernel
noncomputable def badAll (l : List PStr) : Bool := match l with
  | [a, b, c, d, e, f] => badK .reply a && badK .proto b && badK .proto c && badK .value d && badK .proto e && badK .proto f
  | _ => false
theorem bad_3 : badL3.all badAll = true := by decide +kernel
theorem bad_4 : badL4.all badAll = true := by decide +kernel
noncomputable def badP (q : Int × PStr × PStr × PStr × PStr × PStr × PStr) (l : List PStr) : Bool := decide (p229part (l.getD 3 (pS "")) = q.2.2.2.2.2.1 ++ q.2.2.2.2.2.2) && decide (toldTxt .value (intRefusal (q.2.2.2.2.2.1 ++ q.2.2.2.2.2.2)) = pS "value invalid literal for int() with base 10: '" ++ q.2.2.2.2.2.1 ++ q.2.2.2.2.2.2 ++ pS "'")
theorem badp_3 : (goodL3.zipWith badP badL3).all id = true := by decide +kernel
theorem badp_4 : (goodL4.zipWith badP badL4).all id = true := by decide +kernel
noncomputable def sgTxt (sg : Int) : PStr := pS "229 z (|||" ++ pS (toString sg) ++ pS "|)"
noncomputable def sgOf (q : Nat) : Int := 10 * (q : Int) - 10
theorem sg_ok : (List.range 27).all (fun q => (match p229 (sgTxt (sgOf q)) with | .ok n => n == sgOf q | .error _ => false) && decide ((pS (toString (sgOf q))).length ≤ 100) && decide ((sgTxt (sgOf q)).length ≤ 640)) = true := by decide +kernel
theorem z227 : p229 (pS "227 z") = .error (.reply, pS "227 z") := p229_code (by decide +kernel)
theorem t227 : toldTxt .reply (pS "227 z") = pS "reply 227 z" := by decide +kernel
theorem tneg : toldTxt .value negMsg = pS "value lo must be non-negative" := by decide +kernel
/-- the places read -/
noncomputable def rdAt (lv k : Nat) : Int × Int := ((rdIter lv (Txt.mul (pS "\"") ((k + 1 : Nat) : Int) ++ pS "x", 0, 0)).2.1, (rdIter lv (Txt.mul (pS "\"") ((k + 1 : Nat) : Int) ++ pS "x", 0, 0)).2.2)
theorem rd_3 : (List.range 7).map (rdAt 3) = fs3 3 := by decide +kernel
theorem rd_4 : (List.range 15).map (rdAt 4) = fs3 4 := by decide +kernel
noncomputable def qs (n : Nat) : PStr := Txt.mul (pS "\"") (n : Int)
theorem quo_ok : (List.range 16).all (fun n => decide (quo (qs n) = qs (n / 2)) && decide (Txt.mul (qs (n / 2)) 2 ++ (if n % 2 = 1 then pS "\"" else pS "") = qs n)) = true := by decide +kernel
/-- all the windows of a search: the mediant stands in the middle -/
noncomputable def winOk (fs : List (Int × Int)) : Nat → Int × Int → Int × Int → Nat → Nat → Bool
  | 0, _, _, l, h => decide (l = h)
  | n + 1, b, a, l, h => let m := (b.1 + a.1, b.2 + a.2)
    decide (l < h) && decide (fs[(l + h) / 2]? = some m) && winOk fs n b m l ((l + h) / 2) && winOk fs n m a ((l + h) / 2 + 1) h
theorem win_3 : (List.range 4).all (fun sz => winOk (fs3 3) sz (0, 1) ((fs3 3 ++ [(1, 0)]).getD (2 ^ sz - 1) (0, 0)) 0 (2 ^ sz - 1)) = true := by decide +kernel
theorem win_4 : (List.range 5).all (fun sz => winOk (fs3 4) sz (0, 1) ((fs3 4 ++ [(1, 0)]).getD (2 ^ sz - 1) (0, 0)) 0 (2 ^ sz - 1)) = true := by decide +kernel
theorem fr_3 : (fs3 3).all (fun q => decide (0 < q.2) && decide (port3 q * q.2 = 60 * q.1) && decide (0 ≤ q.1) && decide (q.1 ≤ 100) && decide (q.2 ≤ 100) && decide (-1000 ≤ port3 q) && decide (port3 q ≤ 1000)) = true := by decide +kernel
theorem fr_4 : (fs3 4).all (fun q => decide (0 < q.2) && decide (port3 q * q.2 = 60 * q.1) && decide (0 ≤ q.1) && decide (q.1 ≤ 100) && decide (q.2 ≤ 100) && decide (-1000 ≤ port3 q) && decide (port3 q ≤ 1000)) = true := by decide +kernel
theorem nd_3 : (fs3 3).Nodup := by decide +kernel
theorem nd_4 : (fs3 4).Nodup := by decide +kernel
end Mine
end
section
open PySem PySem.W PyProof.Rows PySem.Spec PySem.Calls
set_option Elab.async false
set_option maxRecDepth 100000
set_option maxHeartbeats 4000000
set_option linter.all false
namespace Mine
theorem p229_msg {x r : PStr} {ek : EK} (h : p229 x = .error (ek, r)) : (ek = .value ∧ r = intRefusal (p229part x)) ∨ (ek ≠ .value ∧ r = x) := by
  unfold p229 at h
  split at h
  · cases h; exact .inr ⟨by decide, rfl⟩
  split at h
  · cases h; exact .inr ⟨by decide, rfl⟩
  split at h
  · cases h; exact .inr ⟨by decide, rfl⟩
  split at h
  · cases h; exact .inr ⟨by decide, rfl⟩
  dsimp only at h
  split at h
  · cases h; exact .inr ⟨by decide, rfl⟩
  split at h
  · cases h
  · cases h; exact .inl ⟨rfl, rfl⟩
structure ThOk (p : Int) (t : PStr × Option PStr × PStr) : Prop where
  good : p229 t.2.2 = .ok p
  gl : t.2.2.length ≤ 640
  gr : RepOk t.2.2
  xl : t.1.length ≤ 640
  xr : RepOk t.1
  ans : (t.2.1 = none ∧ p229 t.1 = .ok p) ∨ ∃ ek r d, t.2.1 = some d ∧ p229 t.1 = .error (ek, r) ∧ toldTxt ek r = d ∧ d.length ≤ 1000
theorem goodChk_is {p : Int} {g : PStr} (h : goodChk p g = true) : p229 g = .ok p ∧ g.length ≤ 640 ∧ RepOk g := by
  unfold goodChk at h
  simp only [Bool.and_eq_true, decide_eq_true_eq] at h
  obtain ⟨⟨h1, h2⟩, h3⟩ := h
  refine ⟨?_, h2, ⟨h3⟩⟩
  revert h1
  cases p229 g with
  | ok n => intro h1; rw [eq_of_beq h1]
  | error e => intro h1; cases h1
theorem badK_is {k : EK} {x : PStr} (h : badK k x = true) : (∃ r, p229 x = .error (k, r)) ∧ x.length ≤ 640 ∧ RepOk x := by
  unfold badK at h
  simp only [Bool.and_eq_true, decide_eq_true_eq] at h
  obtain ⟨⟨h1, h2⟩, h3⟩ := h
  refine ⟨?_, h2, ⟨h3⟩⟩
  revert h1
  cases p229 x with
  | ok n => intro h1; cases h1
  | error e => obtain ⟨ek, r⟩ := e; intro h1; exact ⟨r, by rw [of_decide_eq_true h1]⟩
theorem thOk_good {p : Int} {g : PStr} (h : goodChk p g = true) : ThOk p (g, none, g) := by
  obtain ⟨h1, h2, h3⟩ := goodChk_is h
  exact ⟨h1, h2, h3, h2, h3, .inl ⟨rfl, h1⟩⟩
theorem told_len {ek : EK} {x : PStr} (h : x.length ≤ 640) : (toldTxt ek x).length ≤ 1000 := by
  have e : (toldTxt ek x).length = 6 + x.length := by
    cases ek <;> exact (Str.length_append _ _).trans (congrArg (· + x.length) (by decide +kernel))
  omega
theorem thOk_bad {p : Int} {k : EK} {x g : PStr} (hk : k ≠ .value) (h : badK k x = true) (hg : goodChk p g = true) : ThOk p (x, some (toldTxt k x), g) := by
  obtain ⟨h1, h2, h3⟩ := goodChk_is hg
  obtain ⟨⟨r, h4⟩, h5, h6⟩ := badK_is h
  refine ⟨h1, h2, h3, h5, h6, .inr ⟨k, r, _, rfl, h4, ?_, ?_⟩⟩
  · rcases p229_msg h4 with ⟨e, _⟩ | ⟨_, e⟩
    · exact absurd e hk
    · rw [e]
  · exact told_len h5
theorem thOk_val {p : Int} {x g d part : PStr} (h : badK .value x = true) (hp : p229part x = part) (hd : toldTxt .value (intRefusal part) = d) (hg : goodChk p g = true) : ThOk p (x, some d, g) := by
  obtain ⟨h1, h2, h3⟩ := goodChk_is hg
  obtain ⟨⟨r, h4⟩, h5, h6⟩ := badK_is h
  have e : r = intRefusal part := by
    rcases p229_msg h4 with ⟨_, e⟩ | ⟨e, _⟩
    · rw [e, hp]
    · exact absurd rfl e
  refine ⟨h1, h2, h3, h5, h6, .inr ⟨.value, r, _, rfl, h4, by rw [e, hd], ?_⟩⟩
  rw [← hd]
  exact told_len (Nat.le_trans (intRefusal_len _) (by decide))
theorem lst_inj {a b : List Value} {e e' : Nat} (h : (lstOf a e).data = (lstOf b e').data) : a = b := by
  injection h with h
  exact congrArg Array.toList h
theorem thOk_of {fs : List (Int × Int)} {T : List (Int × PStr × PStr × PStr × PStr × PStr × PStr)} {Bd : List (List PStr)} (hT : fs.zipIdx.map tup3 = T) (hB : T.map bads = Bd) (hg : T.all goodAll = true) (hb : Bd.all badAll = true) (hp : (T.zipWith badP Bd).all id = true)
    {i : Nat} (hi : i < fs.length) {sh : Nat} (hs : sh < 10) : ThOk (port3 fs[i]) (thg3 sh (poTxt (port3 fs[i])) (leTxt i)) := by
  have hq : (fs[i], i) ∈ fs.zipIdx := by
    rw [List.mem_zipIdx_iff_getElem?]; simp [hi]
  have hm : tup3 (fs[i], i) ∈ T := by rw [← hT]; exact List.mem_map_of_mem hq
  have h1 := List.all_eq_true.mp hg _ hm
  have h2 := List.all_eq_true.mp hb (bads (tup3 (fs[i], i))) (by rw [← hB]; exact List.mem_map_of_mem hm)
  have h3 : badP (tup3 (fs[i], i)) (bads (tup3 (fs[i], i))) = true := by
    have e : T.zipWith badP Bd = T.map (fun t => badP t (bads t)) := by
      rw [← hB, List.zipWith_map_right]
      clear hT hB hg hb hp hm h1 h2
      induction T with
      | nil => rfl
      | cons a b ih => simp only [List.zipWith_cons_cons, List.map_cons, ih]
    rw [e] at hp
    exact List.all_eq_true.mp hp _ (List.mem_map_of_mem hm)
  unfold goodAll at h1
  simp only [Bool.and_eq_true] at h1
  obtain ⟨⟨⟨g0, g1⟩, g2⟩, g3⟩ := h1
  unfold badAll bads at h2
  simp only [List.map_cons, List.map_nil, Bool.and_eq_true] at h2
  obtain ⟨⟨⟨⟨⟨b4, b5⟩, b6⟩, b7⟩, b8⟩, b9⟩ := h2
  unfold badP bads at h3
  simp only [List.map_cons, List.map_nil, Bool.and_eq_true, decide_eq_true_eq] at h3
  obtain ⟨p1, p2⟩ := h3
  unfold tup3 at g0 g1 g2 g3 b4 b5 b6 b7 b8 b9 p1 p2
  unfold thg3
  dsimp only [thL, List.getD_cons_succ, List.getD_cons_zero] at g0 g1 g2 g3 b4 b5 b6 b7 b8 b9 p1 p2
  generalize gd3 0 (poTxt (port3 fs[i])) (leTxt i) = a0 at *
  generalize gd3 1 (poTxt (port3 fs[i])) (leTxt i) = a1 at *
  generalize gd3 2 (poTxt (port3 fs[i])) (leTxt i) = a2 at *
  generalize gd3 3 (poTxt (port3 fs[i])) (leTxt i) = a3 at *
  match sh, hs with
  | 0, _ => exact thOk_good g0
  | 1, _ => exact thOk_good g1
  | 2, _ => exact thOk_good g2
  | 3, _ => exact thOk_good g3
  | 4, _ => exact thOk_bad (by decide) b4 g0
  | 5, _ => exact thOk_bad (by decide) b5 g1
  | 6, _ => exact thOk_bad (by decide) b6 g2
  | 7, _ => exact thOk_val b7 p1 p2 g3
  | 8, _ => exact thOk_bad (by decide) b8 g0
  | 9, _ => exact thOk_bad (by decide) b9 g1
theorem thOk {lv : Nat} (hlv : lv = 3 ∨ lv = 4) {i : Nat} (hi : i < (fs3 lv).length) {sh : Nat} (hs : sh < 10) : ThOk (port3 (fs3 lv)[i]) (thg3 sh (poTxt (port3 (fs3 lv)[i])) (leTxt i)) := by
  rcases hlv with rfl | rfl
  · exact thOk_of tab_3 badtab_3 good_3 bad_3 badp_3 hi hs
  · exact thOk_of tab_4 badtab_4 good_4 bad_4 badp_4 hi hs
theorem fs3_len (lv : Nat) : (fs3 lv).length = 2 ^ lv - 1 := fracs_len ..
structure FrOk (q : Int × Int) : Prop where
  den : 0 < q.2
  ex : port3 q * q.2 = 60 * q.1
  n0 : 0 ≤ q.1
  n1 : q.1 ≤ 100
  d1 : q.2 ≤ 100
  p0 : -1000 ≤ port3 q
  p1 : port3 q ≤ 1000
theorem frOk {lv : Nat} (hlv : lv = 3 ∨ lv = 4) {q : Int × Int} (hq : q ∈ fs3 lv) : FrOk q := by
  have h : ∀ q ∈ fs3 lv, FrOk q := by
    intro q hq
    rcases hlv with rfl | rfl
    · have h := List.all_eq_true.mp fr_3 q hq
      simp only [Bool.and_eq_true, decide_eq_true_eq] at h
      obtain ⟨⟨⟨⟨⟨⟨a, b⟩, c⟩, d⟩, e⟩, f⟩, g⟩ := h
      exact ⟨a, b, c, d, e, f, g⟩
    · have h := List.all_eq_true.mp fr_4 q hq
      simp only [Bool.and_eq_true, decide_eq_true_eq] at h
      obtain ⟨⟨⟨⟨⟨⟨a, b⟩, c⟩, d⟩, e⟩, f⟩, g⟩ := h
      exact ⟨a, b, c, d, e, f, g⟩
  exact h q hq
theorem sgOk {q : Nat} (hq : q < 27) : p229 (sgTxt (sgOf q)) = .ok (sgOf q) ∧ (pS (toString (sgOf q))).length ≤ 100 ∧ (sgTxt (sgOf q)).length ≤ 640 := by
  have h := List.all_eq_true.mp sg_ok q (List.mem_range.mpr hq)
  simp only [Bool.and_eq_true, decide_eq_true_eq] at h
  obtain ⟨⟨h1, h2⟩, h3⟩ := h
  refine ⟨?_, h2, h3⟩
  revert h1
  cases p229 (sgTxt (sgOf q)) with
  | ok n => intro h1; rw [eq_of_beq h1]
  | error e => intro h1; cases h1
theorem rdOk {lv : Nat} (hlv : lv = 3 ∨ lv = 4) : (List.range (fs3 lv).length).map (rdAt lv) = fs3 lv := by
  rcases hlv with rfl | rfl
  · exact rd_3
  · exact rd_4
theorem nodup3 {lv : Nat} (hlv : lv = 3 ∨ lv = 4) : (fs3 lv).Nodup := by
  rcases hlv with rfl | rfl
  · exact nd_3
  · exact nd_4
theorem winAt {lv : Nat} (hlv : lv = 3 ∨ lv = 4) {sz : Nat} (hs : sz ≤ lv) : winOk (fs3 lv) sz (0, 1) ((fs3 lv ++ [(1, 0)]).getD (2 ^ sz - 1) (0, 0)) 0 (2 ^ sz - 1) = true := by
  rcases hlv with rfl | rfl
  · exact List.all_eq_true.mp win_3 sz (List.mem_range.mpr (by omega))
  · exact List.all_eq_true.mp win_4 sz (List.mem_range.mpr (by omega))
theorem quoOk {n : Nat} (h : n ≤ 15) : quo (qs n) = qs (n / 2) ∧ Txt.mul (qs (n / 2)) 2 ++ (if n % 2 = 1 then pS "\"" else pS "") = qs n := by
  have h := List.all_eq_true.mp quo_ok n (List.mem_range.mpr (by omega))
  simpa only [Bool.and_eq_true, decide_eq_true_eq] using h
end Mine
end
section
open PySem PySem.W PyProof.Rows PySem.Spec PySem.Calls
set_option Elab.async false
set_option maxRecDepth 100000
set_option maxHeartbeats 4000000
set_option linter.all false
namespace Mine
/-- a state of the inner loop -/
structure PS where
  b : Int × Int
  a : Int × Int
  l : Nat
  h : Nat
  W : List Bool
  Y : List PStr
noncomputable def PS.j (s : PS) : Nat := (s.l + s.h) / 2
noncomputable def PS.m (s : PS) : Int × Int := (s.b.1 + s.a.1, s.b.2 + s.a.2)
abbrev goes (sg wh : Int) (m : Int × Int) : Prop := 60 * m.1 < sg * m.2 ∨ (wh.fmod 2 = 1 ∧ 60 * m.1 = sg * m.2)
/-- the row behind a look at place j -/
noncomputable def lookY (ts : List (PStr × Option PStr × PStr)) (lo j : Nat) (Y : List PStr) : List PStr := match ts[j]? with
  | some (_, some _, g) => Y.set (lo + j) g
  | _ => Y
noncomputable def pstep (sg wh : Int) (lo : Nat) (ts : List (PStr × Option PStr × PStr)) (s : PS) : PS :=
  if goes sg wh s.m then ⟨s.m, s.a, s.j + 1, s.h, s.W ++ [true], lookY ts lo s.j s.Y⟩ else ⟨s.b, s.m, s.l, s.j, s.W ++ [false], lookY ts lo s.j s.Y⟩
noncomputable def pst (sg wh : Int) (lo : Nat) (ts : List (PStr × Option PStr × PStr)) (s : PS) : Nat → PS
  | 0 => s
  | n + 1 => pstep sg wh lo ts (pst sg wh lo ts s n)
noncomputable def pathOf (sg wh : Int) (lo : Nat) (ts : List (PStr × Option PStr × PStr)) (s : PS) : Path :=
  ⟨fun i => ((pst sg wh lo ts s i).b, (pst sg wh lo ts s i).a), fun i => (pst sg wh lo ts s i).l, fun i => (pst sg wh lo ts s i).W, fun i => (pst sg wh lo ts s i).Y, fun i => (pst sg wh lo ts s i).j⟩
theorem winOk_step {fs : List (Int × Int)} {n : Nat} {b a : Int × Int} {l h : Nat} (w : winOk fs (n + 1) b a l h = true) : l < h ∧ fs[(l + h) / 2]? = some (b.1 + a.1, b.2 + a.2) ∧ winOk fs n b (b.1 + a.1, b.2 + a.2) l ((l + h) / 2) = true ∧ winOk fs n (b.1 + a.1, b.2 + a.2) a ((l + h) / 2 + 1) h = true := by
  unfold winOk at w
  simp only [Bool.and_eq_true, decide_eq_true_eq] at w
  exact ⟨w.1.1.1, w.1.1.2, w.1.2, w.2⟩
section
variable {sg wh : Int} {lo sz : Nat} {ts : List (PStr × Option PStr × PStr)} {fs : List (Int × Int)} {s : PS}
theorem pst_win (w : winOk fs sz s.b s.a s.l s.h = true) : ∀ i, i ≤ sz → winOk fs (sz - i) (pst sg wh lo ts s i).b (pst sg wh lo ts s i).a (pst sg wh lo ts s i).l (pst sg wh lo ts s i).h = true
  | 0, _ => w
  | i + 1, hi => by
    have ih := pst_win w i (by omega)
    rw [show sz - i = (sz - (i + 1)) + 1 by omega] at ih
    obtain ⟨_, _, w1, w2⟩ := winOk_step ih
    show winOk fs (sz - (i + 1)) (pstep sg wh lo ts (pst sg wh lo ts s i)).b (pstep sg wh lo ts (pst sg wh lo ts s i)).a (pstep sg wh lo ts (pst sg wh lo ts s i)).l (pstep sg wh lo ts (pst sg wh lo ts s i)).h = true
    unfold pstep
    split
    · exact w2
    · exact w1
theorem pst_at (w : winOk fs sz s.b s.a s.l s.h = true) {i : Nat} (hi : i < sz) : (pst sg wh lo ts s i).l < (pst sg wh lo ts s i).h ∧ fs[(pst sg wh lo ts s i).j]? = some (pst sg wh lo ts s i).m := by
  have ih := pst_win (sg := sg) (wh := wh) (lo := lo) (ts := ts) w i (by omega)
  rw [show sz - i = (sz - (i + 1)) + 1 by omega] at ih
  obtain ⟨h1, h2, _, _⟩ := winOk_step ih
  exact ⟨h1, h2⟩
theorem pst_yes {i : Nat} (g : goes sg wh (pst sg wh lo ts s i).m) : pst sg wh lo ts s (i + 1) = ⟨(pst sg wh lo ts s i).m, (pst sg wh lo ts s i).a, (pst sg wh lo ts s i).j + 1, (pst sg wh lo ts s i).h, (pst sg wh lo ts s i).W ++ [true], lookY ts lo (pst sg wh lo ts s i).j (pst sg wh lo ts s i).Y⟩ := by
  show pstep sg wh lo ts (pst sg wh lo ts s i) = _
  unfold pstep
  rw [if_pos g]
theorem pst_no {i : Nat} (g : ¬ goes sg wh (pst sg wh lo ts s i).m) : pst sg wh lo ts s (i + 1) = ⟨(pst sg wh lo ts s i).b, (pst sg wh lo ts s i).m, (pst sg wh lo ts s i).l, (pst sg wh lo ts s i).j, (pst sg wh lo ts s i).W ++ [false], lookY ts lo (pst sg wh lo ts s i).j (pst sg wh lo ts s i).Y⟩ := by
  show pstep sg wh lo ts (pst sg wh lo ts s i) = _
  unfold pstep
  rw [if_neg g]
theorem pst_Y (i : Nat) : (pst sg wh lo ts s (i + 1)).Y = lookY ts lo (pst sg wh lo ts s i).j (pst sg wh lo ts s i).Y := by
  by_cases g : goes sg wh (pst sg wh lo ts s i).m
  · rw [pst_yes g]
  · rw [pst_no g]
theorem lookY_len (j : Nat) (Y : List PStr) : (lookY ts lo j Y).length = Y.length := by
  unfold lookY
  split
  · exact List.length_set
  · rfl
theorem pst_len : ∀ i, (pst sg wh lo ts s i).Y.length = s.Y.length
  | 0 => rfl
  | i + 1 => by rw [pst_Y, lookY_len, pst_len i]
theorem pst_W : ∀ i, (pst sg wh lo ts s i).W.length = s.W.length + i
  | 0 => rfl
  | i + 1 => by
    have ih := pst_W i
    by_cases g : goes sg wh (pst sg wh lo ts s i).m
    · rw [pst_yes g]; simp only [List.length_append, List.length_cons, List.length_nil]; omega
    · rw [pst_no g]; simp only [List.length_append, List.length_cons, List.length_nil]; omega
theorem path_ok {v : TV} (hlo : v.lo = lo) (hsg : v.sg = sg) (hwh : v.wh = wh) (w : winOk fs sz s.b s.a s.l s.h = true) (nd : fs.Nodup) (hsz : sz ≤ 4) (hW : s.W = []) (hm : Builtin.Int.intBits sg ≤ 64) :
    (pathOf sg wh lo ts s).Ok v sz fs ts where
  j := fun i hi => by
    have h := (pst_at (sg := sg) (wh := wh) (lo := lo) (ts := ts) w hi).2
    exact (List.getElem?_eq_some_iff.mp h).1
  hit := fun i h hi => (List.getElem?_eq_some_iff.mp (pst_at (sg := sg) (wh := wh) (lo := lo) (ts := ts) w hi).2).2
  no := fun i hi k hk hlt e => by
    obtain ⟨hj, h⟩ := List.getElem?_eq_some_iff.mp (pst_at (sg := sg) (wh := wh) (lo := lo) (ts := ts) w hi).2
    have e' : fs[k] = fs[(pst sg wh lo ts s i).j] := e.trans h.symm
    exact absurd e' (List.pairwise_iff_getElem.mp nd k _ hk hj hlt)
  up := fun i hi g => by
    have g' : goes sg wh (pst sg wh lo ts s i).m := by subst hsg hwh; exact g
    dsimp only [pathOf]
    rw [pst_yes g']
    exact ⟨rfl, by push_cast; rfl, rfl⟩
  dn := fun i hi g => by
    have g' : ¬ goes sg wh (pst sg wh lo ts s i).m := by subst hsg hwh; exact g
    dsimp only [pathOf]
    rw [pst_no g']
    exact ⟨rfl, rfl, rfl⟩
  same := fun i h hi e => by
    dsimp only [pathOf]
    rw [pst_Y]
    unfold lookY
    have h1 : ts[(pst sg wh lo ts s i).j]? = some ts[(pst sg wh lo ts s i).j] := List.getElem?_eq_getElem h
    rw [h1]
    have e' : (ts[(pst sg wh lo ts s i).j]).2.1 = none := e
    generalize ts[(pst sg wh lo ts s i).j] = q at e' ⊢
    obtain ⟨x, d, g⟩ := q
    dsimp only at e'
    subst e'
    rfl
  put := fun i h hi e => by
    dsimp only [pathOf]
    rw [pst_Y]
    unfold lookY
    have h1 : ts[(pst sg wh lo ts s i).j]? = some ts[(pst sg wh lo ts s i).j] := List.getElem?_eq_getElem h
    rw [h1]
    have e' : (ts[(pst sg wh lo ts s i).j]).2.1 ≠ none := e
    have e2 : (v.lo + ((pst sg wh lo ts s i).j : Int)).toNat = lo + (pst sg wh lo ts s i).j := by rw [hlo]; omega
    rw [e2]
    generalize ts[(pst sg wh lo ts s i).j] = q at e' ⊢
    obtain ⟨x, d, g⟩ := q
    cases d with
    | none => exact absurd rfl e'
    | some d => rfl
  len := fun i hi => (pst_len i).trans (pst_len 0).symm
  wlen := fun i hi => by
    dsimp only [pathOf]
    rw [pst_W, hW]
    simp only [List.length_nil]
    omega
  mul := fun i hi => by rw [hsg]; exact IntMulOk.of_left hm
/-- the quotes are halved along the way -/
theorem pst_hvs (h0 : s.l = 0) (h1 : s.h = 2 ^ sz - 1) (hW : s.W = []) (hsz : sz ≤ 4) : ∀ i, i ≤ sz → ∃ n, n < 2 ^ i ∧ (pst sg wh lo ts s i).l = n * 2 ^ (sz - i) ∧ (pst sg wh lo ts s i).h = n * 2 ^ (sz - i) + 2 ^ (sz - i) - 1 ∧ hvs (pst sg wh lo ts s i).W.reverse (qs n)
  | 0, _ => ⟨0, by decide, by show s.l = _; rw [h0]; simp, by show s.h = _; rw [h1]; simp, by show hvs s.W.reverse _; rw [hW]; exact trivial⟩
  | i + 1, hi => by
    obtain ⟨n, hn, hl, hh, hv⟩ := pst_hvs h0 h1 hW hsz i (by omega)
    have hp : 2 ^ (sz - i) = 2 * 2 ^ (sz - (i + 1)) := by rw [show sz - i = (sz - (i + 1)) + 1 by omega, Nat.pow_succ]; omega
    have hpos : 1 ≤ 2 ^ (sz - (i + 1)) := Nat.one_le_two_pow
    have hi4 : 2 ^ (i + 1) ≤ 2 ^ 4 := Nat.pow_le_pow_right (by decide) (by omega)
    have hn2 : 2 * n + 1 < 2 ^ (i + 1) := by rw [Nat.pow_succ]; omega
    have hj : (pst sg wh lo ts s i).j = n * 2 ^ (sz - i) + 2 ^ (sz - (i + 1)) - 1 := by
      unfold PS.j
      rw [hl, hh, hp]
      generalize n * (2 * 2 ^ (sz - (i + 1))) = z
      omega
    by_cases g : goes sg wh (pst sg wh lo ts s i).m
    · refine ⟨2 * n + 1, hn2, ?_, ?_, ?_⟩
      · rw [pst_yes g]; dsimp only; rw [hj, hp, Nat.add_mul, Nat.one_mul, Nat.mul_assoc, Nat.mul_comm 2 (n * _), Nat.mul_assoc, Nat.mul_comm _ 2]
        generalize n * (2 * 2 ^ (sz - (i + 1))) = z
        omega
      · rw [pst_yes g]; dsimp only; rw [hh, hp, Nat.add_mul, Nat.one_mul, Nat.mul_assoc, Nat.mul_comm 2 (n * _), Nat.mul_assoc, Nat.mul_comm _ 2]
        generalize n * (2 * 2 ^ (sz - (i + 1))) = z
        omega
      · rw [pst_yes g]; dsimp only
        rw [List.reverse_append]
        obtain ⟨q1, q2⟩ := quoOk (n := 2 * n + 1) (by omega)
        rw [show (2 * n + 1) / 2 = n by omega] at q1 q2
        rw [show (2 * n + 1) % 2 = 1 by omega, if_pos rfl] at q2
        refine ⟨?_, ?_⟩
        · rw [q1]; exact q2
        · rw [q1]; exact hv
    · refine ⟨2 * n, by omega, ?_, ?_, ?_⟩
      · rw [pst_no g]; dsimp only; rw [hl, hp, Nat.mul_assoc, Nat.mul_comm 2 (n * _), Nat.mul_assoc, Nat.mul_comm _ 2]
      · rw [pst_no g]; dsimp only; rw [hj, hp, Nat.mul_assoc, Nat.mul_comm 2 (n * _), Nat.mul_assoc, Nat.mul_comm _ 2]
      · rw [pst_no g]; dsimp only
        rw [List.reverse_append]
        obtain ⟨q1, q2⟩ := quoOk (n := 2 * n) (by omega)
        rw [show (2 * n) / 2 = n by omega] at q1 q2
        rw [show (2 * n) % 2 = 0 by omega, if_neg (by decide)] at q2
        refine ⟨?_, ?_⟩
        · rw [q1]; exact q2
        · rw [q1]; exact hv
theorem pst_end (h0 : s.l = 0) (h1 : s.h = 2 ^ sz - 1) (hW : s.W = []) (hsz : sz ≤ 4) : (pst sg wh lo ts s sz).l < 2 ^ sz ∧ (pst sg wh lo ts s sz).h = (pst sg wh lo ts s sz).l ∧ hvs (pst sg wh lo ts s sz).W.reverse (qs (pst sg wh lo ts s sz).l) := by
  obtain ⟨n, hn, hl, hh, hv⟩ := pst_hvs (sg := sg) (wh := wh) (lo := lo) (ts := ts) h0 h1 hW hsz sz (Nat.le_refl _)
  rw [Nat.sub_self, Nat.pow_zero, Nat.mul_one] at hl hh
  rw [hl]
  exact ⟨hn, by omega, hv⟩
end
/-- a row's texts are short and may be refused -/
noncomputable def RowTx (Y : List PStr) : Prop := ∀ y ∈ Y, y.length ≤ 640 ∧ RepOk y
theorem getD_set_eq {Y : List PStr} {n : Nat} {g e : PStr} (h : n < Y.length) : (Y.set n g).getD n e = g := by
  simp [List.getD_eq_getElem?_getD, h]
theorem getD_set_ne {Y : List PStr} {n m : Nat} {g e : PStr} (h : n ≠ m) : (Y.set n g).getD m e = Y.getD m e := by
  simp [List.getD_eq_getElem?_getD, List.getElem?_set_ne h]
section
variable {sg wh : Int} {lo sz : Nat} {ts : List (PStr × Option PStr × PStr)} {fs : List (Int × Int)} {s : PS}
/-- what holds of the row on the way -/
structure RowInv (fs : List (Int × Int)) (ts : List (PStr × Option PStr × PStr)) (lo : Nat) (J : Nat → Nat) (i : Nat) (s : PS) : Prop where
  len : s.Y.length = lo + fs.length
  good : ∀ m, m < i → ∀ h : J m < fs.length, p229 (s.Y.getD (lo + J m) PySem.Str.empty) = .ok (port3 fs[J m])
  orig : ∀ j, s.l ≤ j → j < s.h → ∀ h : j < ts.length, s.Y.getD (lo + j) PySem.Str.empty = (ts[j]).1
  tx : RowTx s.Y
theorem row_inv (w : winOk fs sz s.b s.a s.l s.h = true) (tl : ts.length = fs.length) (th : ∀ j (h : j < fs.length) (h' : j < ts.length), ThOk (port3 fs[j]) ts[j])
    (h0 : RowInv fs ts lo (fun i => (pst sg wh lo ts s i).j) 0 s) : ∀ i, i ≤ sz → RowInv fs ts lo (fun i => (pst sg wh lo ts s i).j) i (pst sg wh lo ts s i)
  | 0, _ => h0
  | i + 1, hi => by
    obtain ⟨len, good, orig, tx⟩ := row_inv w tl th h0 i (by omega)
    obtain ⟨hlh, hj?⟩ := pst_at (sg := sg) (wh := wh) (lo := lo) (ts := ts) w (show i < sz by omega)
    obtain ⟨hj, _⟩ := List.getElem?_eq_some_iff.mp hj?
    have hjt : (pst sg wh lo ts s i).j < ts.length := by omega
    have hjl : (pst sg wh lo ts s i).l ≤ (pst sg wh lo ts s i).j ∧ (pst sg wh lo ts s i).j < (pst sg wh lo ts s i).h := by unfold PS.j; omega
    have hT := th _ hj hjt
    have hO := orig _ hjl.1 hjl.2 hjt
    have hY := pst_Y (sg := sg) (wh := wh) (lo := lo) (ts := ts) (s := s) i
    unfold lookY at hY
    rw [List.getElem?_eq_getElem hjt] at hY
    have hsub : ∀ j, (pst sg wh lo ts s (i + 1)).l ≤ j → j < (pst sg wh lo ts s (i + 1)).h → (pst sg wh lo ts s i).l ≤ j ∧ j < (pst sg wh lo ts s i).h ∧ (pst sg wh lo ts s i).j ≠ j := by
      intro j h1 h2
      by_cases g : goes sg wh (pst sg wh lo ts s i).m
      · rw [pst_yes g] at h1 h2; dsimp only at h1 h2; omega
      · rw [pst_no g] at h1 h2; dsimp only at h1 h2; omega
    generalize hq : ts[(pst sg wh lo ts s i).j] = q at hY hT hO
    obtain ⟨x, d, g⟩ := q
    cases d with
    | none =>
      dsimp only at hY hO
      have hp : p229 x = .ok (port3 fs[(pst sg wh lo ts s i).j]) := by
        rcases hT.ans with ⟨_, h⟩ | ⟨_, _, _, h, _⟩
        · exact h
        · cases h
      refine ⟨by rw [hY]; exact len, fun m hm h => ?_, fun j h1 h2 h => ?_, by rw [hY]; exact tx⟩
      · rw [hY]
        by_cases e : m = i
        · subst e; rw [hO]; exact hp
        · exact good m (by omega) h
      · rw [hY]
        exact orig j (hsub j h1 h2).1 (hsub j h1 h2).2.1 h
    | some d =>
      dsimp only at hY hO
      refine ⟨by rw [hY, List.length_set]; exact len, fun m hm h => ?_, fun j h1 h2 h => ?_, ?_⟩
      · rw [hY]
        by_cases e : (pst sg wh lo ts s i).j = (pst sg wh lo ts s m).j
        · have e2 : lo + (pst sg wh lo ts s m).j = lo + (pst sg wh lo ts s i).j := by rw [e]
          rw [e2, getD_set_eq (by omega)]
          have := hT.good
          dsimp only at this
          rw [this]
          simp only [e]
        · rw [getD_set_ne (by omega)]
          have hmi : m ≠ i := fun c => e (by rw [c])
          exact good m (by omega) h
      · rw [hY]
        obtain ⟨a, b, c⟩ := hsub j h1 h2
        rw [getD_set_ne (by omega)]
        exact orig j a b h
      · rw [hY]
        intro y hy
        rcases List.mem_or_eq_of_mem_set hy with h | rfl
        · exact tx y h
        · exact ⟨hT.gl, hT.gr⟩
/-- the bisection goes the law's way -/
theorem bis_way {k : Nat → KRes} {r : Bool} (hr : r = true ↔ wh.fmod 2 = 1) (w : winOk fs sz s.b s.a s.l s.h = true) (fr : ∀ q ∈ fs, FrOk q) : ∀ i, i ≤ sz →
    (∀ m, m < i → ∀ h : (pst sg wh lo ts s m).j < fs.length, k (lo + (pst sg wh lo ts s m).j) = .ok (port3 fs[(pst sg wh lo ts s m).j])) →
    bis r k sg (lo + s.h - (lo + s.l)) (lo + s.l) (lo + s.h) = bis r k sg (lo + (pst sg wh lo ts s i).h - (lo + (pst sg wh lo ts s i).l)) (lo + (pst sg wh lo ts s i).l) (lo + (pst sg wh lo ts s i).h)
  | 0, _, _ => rfl
  | i + 1, hi, hk => by
    rw [bis_way hr w fr i (by omega) (fun m hm h => hk m (by omega) h)]
    obtain ⟨hlh, hj?⟩ := pst_at (sg := sg) (wh := wh) (lo := lo) (ts := ts) w (show i < sz by omega)
    obtain ⟨hj, hm⟩ := List.getElem?_eq_some_iff.mp hj?
    have hk' := hk i (by omega) hj
    have fo := fr _ (List.getElem_mem hj)
    have em : (lo + (pst sg wh lo ts s i).l + (lo + (pst sg wh lo ts s i).h)) / 2 = lo + (pst sg wh lo ts s i).j := by unfold PS.j; omega
    have hcmp : (if r = true then sg < port3 fs[(pst sg wh lo ts s i).j] else ¬ port3 fs[(pst sg wh lo ts s i).j] < sg) ↔ ¬ goes sg wh (pst sg wh lo ts s i).m := by
      have ex := fo.ex
      have den := fo.den
      rw [hm] at ex den
      rw [hm]
      generalize (pst sg wh lo ts s i).m = q at ex den
      generalize port3 q = P at ex
      unfold goes
      rw [← ex]
      have c1 : P * q.2 < sg * q.2 ↔ P < sg := Int.mul_lt_mul_right den
      have c2 : P * q.2 = sg * q.2 ↔ P = sg := ⟨fun h => Int.eq_of_mul_eq_mul_right (Int.ne_of_gt den) h, fun h => by rw [h]⟩
      rw [c1, c2]
      cases r with
      | true => have := hr.mp rfl; rw [if_pos rfl]; constructor <;> intro h <;> omega
      | false =>
        have : ¬ wh.fmod 2 = 1 := fun h => Bool.false_ne_true (hr.mpr h)
        rw [if_neg Bool.false_ne_true]
        constructor
        · rintro h (h2 | ⟨h2, _⟩)
          · exact h h2
          · exact this h2
        · exact fun h h2 => h (.inl h2)
    rw [bis_at (by omega), em, hk']
    dsimp only
    by_cases g : goes sg wh (pst sg wh lo ts s i).m
    · rw [if_neg (fun h => hcmp.mp h g), pst_yes g]
      rfl
    · rw [if_pos (hcmp.mpr g), pst_no g]
theorem bis_last {k : Nat → KRes} {r : Bool} (hr : r = true ↔ wh.fmod 2 = 1) (w : winOk fs sz s.b s.a s.l s.h = true) (fr : ∀ q ∈ fs, FrOk q) (he : (pst sg wh lo ts s sz).h = (pst sg wh lo ts s sz).l)
    (hk : ∀ m, m < sz → ∀ h : (pst sg wh lo ts s m).j < fs.length, k (lo + (pst sg wh lo ts s m).j) = .ok (port3 fs[(pst sg wh lo ts s m).j])) :
    bis r k sg (lo + s.h - (lo + s.l)) (lo + s.l) (lo + s.h) = .ok (lo + (pst sg wh lo ts s sz).l) := by
  rw [bis_way hr w fr sz (Nat.le_refl _) hk, he]
  exact bis_end (by omega)
theorem bis_bad {k : Nat → KRes} {r : Bool} {e : EK × PStr} (hr : r = true ↔ wh.fmod 2 = 1) (w : winOk fs sz s.b s.a s.l s.h = true) (fr : ∀ q ∈ fs, FrOk q) {i : Nat} (hi : i < sz)
    (hk : ∀ m, m < i → ∀ h : (pst sg wh lo ts s m).j < fs.length, k (lo + (pst sg wh lo ts s m).j) = .ok (port3 fs[(pst sg wh lo ts s m).j]))
    (he : k (lo + (pst sg wh lo ts s i).j) = .error e) :
    bis r k sg (lo + s.h - (lo + s.l)) (lo + s.l) (lo + s.h) = .error e := by
  rw [bis_way hr w fr i (by omega) hk]
  obtain ⟨hlh, _⟩ := pst_at (sg := sg) (wh := wh) (lo := lo) (ts := ts) w hi
  have em : (lo + (pst sg wh lo ts s i).l + (lo + (pst sg wh lo ts s i).h)) / 2 = lo + (pst sg wh lo ts s i).j := by unfold PS.j; omega
  rw [bis_at (by omega), em, he]
end
end Mine
end
section
open PySem PySem.W PyProof.Rows PySem.Spec PySem.Calls
set_option Elab.async false
set_option maxRecDepth 100000
set_option maxHeartbeats 8000000
set_option linter.all false
namespace Mine
local macro_rules | `(tactic| walk_at "M nothing") => `(tactic| skip)
local macro_rules | `(tactic| walk_at $s:str) => `(tactic| k_extra $s)
local macro_rules | `(tactic| omega) => `(tactic| first
  | with_reducible assumption
  | (refine' room1 ?rmh ?rme; (case rmh => with_reducible assumption); (case rme => with_unfolding_all rfl))
  | (refine' room0 ?rmh ?rme; (case rmh => with_reducible assumption); (case rme => with_unfolding_all rfl))
  | (refine' room2 ?rmh ?rme; (case rmh => with_reducible assumption); (case rme => with_unfolding_all rfl))
  | (refine' room00 ?rmh; (case rmh => with_reducible assumption))
  | (refine num_le ?rme; (case rme => with_unfolding_all rfl))
  | (refine num_lt ?rme; (case rme => with_unfolding_all rfl))
  | (refine' le_num ?rmh ?rme; (case rmh => with_reducible assumption); (case rme => with_unfolding_all rfl))
  | (refine' eq_num ?rmh ?rme; (case rmh => with_reducible assumption); (case rme => with_unfolding_all rfl))
  | omega (config := {}))
theorem lines_QE_0 : True := by
  k_with_none
  k_with "execs cons" => ((refine f_execs ?_; intro qk))
  k_with "eval BinOp" => ((refine f_BinOp ?_; intro qk))
  k_with "exec Assign" => ((refine f_Assign ?_; intro qk))
  k_with "eval Subscript" => ((refine f_Subscript ?_; intro qk))
  k_with "isTrue Compare" => ((refine f_Compare ?_; intro qk))
  k_with "exec If" => ((refine f_If ?_; intro qk))
  k_with "eval Call" => (((fail_if_success (with_reducible show wpAny _ _ (eval (Expr.Call (Expr.Attribute _ _ _) _ _ _) _) _ _ _)); refine f_Call ?_; intro qk))
  k_with "spliced" => ((refine f_args ?_; intro qk))
  k_with "callWith" => ((refine f_method1 ?_; intro qk))
  k_with "exec Return some" => ((refine f_Return ?_; intro qk))
  k_with "eval Tuple" => ((refine f_Tuple ?_; intro qk))
  k_with "eval List" => ((refine f_List ?_; intro qk))
  k_with "eval IfExp" => ((refine f_IfExp ?_; intro qk))
  k_with "storeName" => ((k_here; k_dflt (refine' f_store ?F ?N ?_ ?a ?b; (case F => k_asm); (case N => k_asm); (case a => rfl); (case b => rfl); k_whole; intro m' h' F' N'; (try k_sweep))))
  k_with "M map1" => (first
    | (refine map_same ?_; with_unfolding_all rfl)
    | ((repeat' (refine List.forall_mem_cons.mpr (And.intro ?_ ?_))); (all_goals first | rfl | exact List.forall_mem_nil _)))
  k_with "M map2" => (first
    | (refine SameOut.both (b := fun _ => none) ?_ ?_ <;> (repeat (refine SameOut.upd ?_ (by with_unfolding_all rfl))) <;> exact SameOut.lookup rfl)
    | (refine' SameOut.both (b := ?kb) ?k1 ?k2; (case k1 => ((repeat (refine SameOut.upd ?_ (by with_unfolding_all rfl))); exact SameOut.refl)); (case k2 => ((repeat (refine SameOut.upd ?_ (by with_unfolding_all rfl))); exact SameOut.refl)))
    | (refine' SameOut.both (b := ?kb) ?k1 ?k2; (case k2 => ((repeat (refine SameOut.upd ?_ (by with_unfolding_all rfl))); exact SameOut.refl)); (case k1 => ((repeat (refine SameOut.skip ?_)); (repeat (refine SameOut.upd ?_ (by with_unfolding_all rfl))); exact SameOut.refl)))
    | (intro y hy; (repeat (refine (if_neg (ne_of_out hy (by with_unfolding_all rfl))).trans ?_)); (refine Eq.symm ?_); (repeat (refine (if_neg (ne_of_out hy (by with_unfolding_all rfl))).trans ?_)); first | rfl | exact lookup_out rfl hy | exact (lookup_out rfl hy).symm | exact (lookup_out rfl hy).trans (lookup_out rfl hy).symm))
  trivial
theorem news_pick {h₀ h : Heap} {L d : Addr} {o : Obj} {led : Ldg} (N : News h₀ L h led) (hm : (d, o) ∈ led) :
    ∃ led', UpdF d o ((d, o) :: led') (fun o' => (d, o') :: led') ∧ News h₀ L h ((d, o) :: led') ∧ (∀ p ∈ led, p ∈ (d, o) :: led') ∧ (∀ p ∈ led', p.1 ≠ d ∧ p ∈ led) := by
  have hn : ∀ p ∈ led.filter (fun p => decide (p.1 ≠ d)), p.1 ≠ d ∧ p ∈ led := fun p hp => ⟨of_decide_eq_true (List.mem_filter.mp hp).2, (List.mem_filter.mp hp).1⟩
  refine ⟨led.filter (fun p => decide (p.1 ≠ d)), .head (fun p hp => (hn p hp).1), fun p hp => ?_, fun p hp => ?_, hn⟩
  · rcases List.mem_cons.mp hp with rfl | hp
    · exact N _ hm
    · exact N _ (List.mem_filter.mp hp).1
  · by_cases e : p.1 = d
    · have h1 := (N _ hm).1
      have h2 := (N _ hp).1
      obtain ⟨pa, po⟩ := p
      dsimp only at e h2
      subst e
      have e2 : o = po := Option.some.inj (h1.symm.trans h2)
      subst e2
      exact .head _
    · exact .tail _ (List.mem_filter.mpr ⟨hp, by simpa using e⟩)
theorem rowIs_tx {Y : List PStr} {rvs : List Value} (hS : StrsAre rvs Y) (tx : RowTx Y) : RowIs 108 (.ref 108) rvs (fun i => p229 (Y.getD i PySem.Str.empty)) Y.length := .inl ⟨Y, hS, rfl, rfl, rfl, fun y hy => (tx y hy).1⟩
theorem rowIs_in {ns : List Int} {rvs : List Value} (hS : IntsAre rvs ns) : RowIs 108 .none rvs (fun i => .ok (ns.getD i 0)) ns.length := .inr ⟨ns, hS, rfl, rfl, rfl⟩
theorem err_of {α : Type} {e e' : EK × PStr} {x : Except (EK × PStr) α} (h : x = .error e) (h' : x = .error e') : e = e' := by rw [h] at h'; cases h'; rfl
theorem ok_of {α : Type} {n n' : α} {x : Except (EK × PStr) α} (h : x = .ok n) (h' : x = .ok n') : n = n' := by rw [h] at h'; cases h'; rfl
theorem no_of {α : Type} {n : α} {e : EK × PStr} {x : Except (EK × PStr) α} (h : x = .ok n) (h' : x = .error e) : False := by rw [h] at h'; cases h'
section
variable {w : World} {p : Program} {loose : List PStr} {mean : ExcName → Option Value} {mg mb : PStr → Option Value}
    {dp un : Nat} {gd : Option (List Code)} {cn : PStr} {cs : Scope} {a : Addr} {ccd : Value} {cl : List (PStr × Addr)} {A₀ : Around} {base h₀ : Heap} {L : Addr} {m : PStr → Option Value}
    {s : Shared} {Q E : Value → Shared → Prop} {news : Ldg}
    (B : Below A₀ base [] h₀) (X : (KK.heap_1 w.params).In h₀) (T : Top p loose mean mg mb h₀) (XB : (KK.heap_1 w.params).In base) (TB : Top p loose mean mg mb base) (hck : cs.kind = .function)
include B X T XB TB hck

theorem told_err {wh sg : Int} {lo hi er : Nat} {Y : List PStr} {thv hv : Value} {ek : EK} {r : PStr} {rvs : List Value} {dr : Addr} {tw tl : Tok}
   (hd5 : dp + 60 < recursionLimit) (hu5 : un + 500 < cLine) (hwh : 0 ≤ wh ∧ wh < 4) (hth : (wh < 2 ∧ ∃ t, thv = .int sg t) ∨ (¬ wh < 2 ∧ ∃ t, thv = .str (thTxt sg) t))
   (hsg : p229 (thTxt sg) = .ok sg) (hsl : (thTxt sg).length ≤ 640) (hhv : HiIs hv hi Y.length) (hlo : lo ≤ 1000) (hyl : Y.length ≤ 1000) (tx : RowTx Y) (F : Fr h₀ L s.heap m) (N : News h₀ L s.heap news)
   (hb : bis (decide (wh.fmod 2 = 1)) (fun i => p229 (Y.getD i PySem.Str.empty)) sg (hi - lo) lo hi = .error (ek, r)) (hS : StrsAre rvs Y) (hm : (dr, lstOf rvs er) ∈ news)
   (hexc : ∀ t h' tk, Fr h₀ L h' m → News h₀ L h' news → Q (.str (toldTxt ek r) t) { s with heap := h', toks := tk }) :
   wpC (model PySem.Challenge.rw_pm0034_03.row.prog w) (ktrTop dp un gd cn cs L a ccd cl []) (call (.ref 115) [.int wh tw, .ref dr, thv, .int (lo : Int) tl, hv, .ref 108]) Q E s := by
  have h640 : ∀ y ∈ Y, y.length ≤ 640 := fun y hy => (tx y hy).1
  have hrp : ∀ y ∈ Y, RepOk y := fun y hy => (tx y hy).2
  have hz : bisZ (decide (wh.fmod 2 = 1)) (fun i => p229 (Y.getD i PySem.Str.empty)) sg (lo : Int) hi = .error (ek, r) := bisZ_nat.trans hb
  have hc : wh = 0 ∨ wh = 1 ∨ wh = 2 ∨ wh = 3 := by omega
  by_cases hv0 : ek = .value
  · subst hv0
    rcases hc with rfl | rfl | rfl | rfl
    · obtain ⟨_, t, rfl⟩ : _ ∧ ∃ t, thv = .int sg t := by rcases hth with h | h; exact h; exact absurd h.1 (by decide)
      exact told_val0 B X T XB TB hck (by omega) (by omega) F N hm hS h640 hrp hyl hhv hb hexc
    · obtain ⟨_, t, rfl⟩ : _ ∧ ∃ t, thv = .int sg t := by rcases hth with h | h; exact h; exact absurd h.1 (by decide)
      exact told_val1 B X T XB TB hck (by omega) (by omega) F N hm hS h640 hrp hyl hhv hb hexc
    · obtain ⟨_, t, rfl⟩ : _ ∧ ∃ t, thv = .str (thTxt sg) t := by rcases hth with h | h; exact absurd h.1 (by decide); exact h
      exact told_val2 B X T XB TB hck (by omega) (by omega) F N hm hS h640 hrp hyl hhv hsl hsg hb hexc
    · obtain ⟨_, t, rfl⟩ : _ ∧ ∃ t, thv = .str (thTxt sg) t := by rcases hth with h | h; exact absurd h.1 (by decide); exact h
      exact told_val3 B X T XB TB hck (by omega) (by omega) F N hm hS h640 hrp hyl hhv hsl hsg hb hexc
  · refine wpC_any ?_
    have nv : ∀ msg, bisZ (decide (wh.fmod 2 = 1)) (fun i => p229 (Y.getD i PySem.Str.empty)) sg (lo : Int) hi ≠ .error (.value, msg) := fun msg e => hv0 (congrArg (·.1) (err_of hz e))
    have hx : ∀ ek' r' t h' tk, bisZ (decide (wh.fmod 2 = 1)) (fun i => p229 (Y.getD i PySem.Str.empty)) sg (lo : Int) hi = .error (ek', r') → Fr h₀ L h' m → News h₀ L h' news → Q (.str (toldTxt ek' r') t) { s with heap := h', toks := tk } := by
      intro ek' r' t h' tk e F' N'
      have e1 := err_of hz e
      have e2 : ek = ek' := congrArg (·.1) e1
      have e3 : r = r' := congrArg (·.2) e1
      rw [← e2, ← e3]
      exact hexc t h' tk F' N'
    obtain ⟨led', U, N', hs, _⟩ := news_pick N hm
    rcases hc with rfl | rfl | rfl | rfl
    · obtain ⟨_, t, rfl⟩ : _ ∧ ∃ t, thv = .int sg t := by rcases hth with h | h; exact h; exact absurd h.1 (by decide)
      exact told_bis B X T XB TB hck (by omega) (by omega) F N (.inl rfl) hm (rowIs_tx hS tx) hyl hhv (fun _ => nv) (fun n d t h' tk e _ _ _ => (no_of e hz).elim) hx
    · obtain ⟨_, t, rfl⟩ : _ ∧ ∃ t, thv = .int sg t := by rcases hth with h | h; exact h; exact absurd h.1 (by decide)
      exact told_bis B X T XB TB hck (by omega) (by omega) F N (.inr rfl) hm (rowIs_tx hS tx) hyl hhv (fun _ => nv) (fun n d t h' tk e _ _ _ => (no_of e hz).elim) hx
    · obtain ⟨_, t, rfl⟩ : _ ∧ ∃ t, thv = .str (thTxt sg) t := by rcases hth with h | h; exact absurd h.1 (by decide); exact h
      refine told_ins B X T XB TB hck (by omega) (by omega) F N' (.inl rfl) U (rowIs_tx hS tx) (.inl ⟨_, _, rfl, rfl, rfl, hsl⟩) hyl (by omega) hhv (fun msg e => no_of hsg e) (fun x e _ => ?_) (fun n d h' tk e _ _ _ => ?_) (fun ek' r' t h' tk e F' N'' => ?_)
      · have e2 := ok_of hsg e; subst e2; exact nv
      · rw [insZ_ok hsg] at e; exact (no_of e hz).elim
      · rw [insZ_ok hsg] at e; exact hx ek' r' t h' tk e F' (news_sub N'' hs)
    · obtain ⟨_, t, rfl⟩ : _ ∧ ∃ t, thv = .str (thTxt sg) t := by rcases hth with h | h; exact absurd h.1 (by decide); exact h
      refine told_ins B X T XB TB hck (by omega) (by omega) F N' (.inr rfl) U (rowIs_tx hS tx) (.inl ⟨_, _, rfl, rfl, rfl, hsl⟩) hyl (by omega) hhv (fun msg e => no_of hsg e) (fun x e _ => ?_) (fun n d h' tk e _ _ _ => ?_) (fun ek' r' t h' tk e F' N'' => ?_)
      · have e2 := ok_of hsg e; subst e2; exact nv
      · rw [insZ_ok hsg] at e; exact (no_of e hz).elim
      · rw [insZ_ok hsg] at e; exact hx ek' r' t h' tk e F' (news_sub N'' hs)
/-- below nought -/
theorem told_neg {wh sg lo : Int} {hi er : Nat} {Y : List PStr} {thv hv : Value} {rvs : List Value} {dr : Addr} {tw tl : Tok}
   (hd5 : dp + 60 < recursionLimit) (hu5 : un + 500 < cLine) (hwh : 0 ≤ wh ∧ wh < 4) (hth : (wh < 2 ∧ ∃ t, thv = .int sg t) ∨ (¬ wh < 2 ∧ ∃ t, thv = .str (thTxt sg) t))
   (hsg : p229 (thTxt sg) = .ok sg) (hsl : (thTxt sg).length ≤ 640) (hhv : HiIs hv hi Y.length) (hlo : lo < 0) (hyl : Y.length ≤ 1000) (tx : RowTx Y) (F : Fr h₀ L s.heap m) (N : News h₀ L s.heap news)
   (hS : StrsAre rvs Y) (hm : (dr, lstOf rvs er) ∈ news)
   (hexc : ∀ t h' tk, Fr h₀ L h' m → News h₀ L h' news → Q (.str (PySem.Str.ofString "value lo must be non-negative") t) { s with heap := h', toks := tk }) :
   wpAny (model PySem.Challenge.rw_pm0034_03.row.prog w) (ktrTop dp un gd cn cs L a ccd cl []) (call (.ref 115) [.int wh tw, .ref dr, thv, .int lo tl, hv, .ref 108]) Q E s := by
  have hz : ∀ b, bisZ b (fun i => p229 (Y.getD i PySem.Str.empty)) sg lo hi = .error (.value, negMsg) := fun b => bisZ_neg hlo
  have hc : wh = 0 ∨ wh = 1 ∨ wh = 2 ∨ wh = 3 := by omega
  have hx : ∀ b ek' r' t h' tk, bisZ b (fun i => p229 (Y.getD i PySem.Str.empty)) sg lo hi = .error (ek', r') → Fr h₀ L h' m → News h₀ L h' news → Q (.str (toldTxt ek' r') t) { s with heap := h', toks := tk } := by
    intro b ek' r' t h' tk e F' N'
    have e1 := err_of (hz b) e
    have e2 : EK.value = ek' := congrArg (·.1) e1
    have e3 : negMsg = r' := congrArg (·.2) e1
    rw [← e2, ← e3, tneg]
    exact hexc t h' tk F' N'
  obtain ⟨led', U, N', hs, _⟩ := news_pick N hm
  by_cases h2 : wh < 2
  · obtain ⟨_, t, rfl⟩ : _ ∧ ∃ t, thv = .int sg t := by rcases hth with h | h; exact h; exact absurd h2 h.1
    exact told_bis B X T XB TB hck (by omega) (by omega) F N (by omega) hm (rowIs_tx hS tx) hyl hhv (fun h => absurd h (by omega)) (fun n d t h' tk e _ _ _ => (no_of e (hz _)).elim) (hx _)
  · obtain ⟨_, t, rfl⟩ : _ ∧ ∃ t, thv = .str (thTxt sg) t := by rcases hth with h | h; exact absurd h.1 h2; exact h
    refine told_ins B X T XB TB hck (by omega) (by omega) F N' (by omega) U (rowIs_tx hS tx) (.inl ⟨_, _, rfl, rfl, rfl, hsl⟩) hyl (by omega) hhv (fun msg e => no_of hsg e) (fun x e h => absurd h (by omega)) (fun n d h' tk e _ _ _ => ?_) (fun ek' r' t h' tk e F' N'' => ?_)
    · rw [insZ_ok hsg] at e; exact (no_of e (hz _)).elim
    · rw [insZ_ok hsg] at e; exact hx _ ek' r' t h' tk e F' (news_sub N'' hs)
/-- a newcomer that is no 229 -/
theorem told_227 {wh lo : Int} {hi er : Nat} {Y : List PStr} {hv : Value} {rvs : List Value} {dr : Addr} {tw tl t3 : Tok}
   (hd5 : dp + 60 < recursionLimit) (hu5 : un + 500 < cLine) (hwh : 1 < wh ∧ wh < 4) (hhv : HiIs hv hi Y.length) (hlo : lo ≤ 1000) (hyl : Y.length ≤ 1000) (tx : RowTx Y) (F : Fr h₀ L s.heap m) (N : News h₀ L s.heap news)
   (hS : StrsAre rvs Y) (hm : (dr, lstOf rvs er) ∈ news)
   (hexc : ∀ t h' tk, Fr h₀ L h' m → News h₀ L h' news → Q (.str (PySem.Str.ofString "reply 227 z") t) { s with heap := h', toks := tk }) :
   wpAny (model PySem.Challenge.rw_pm0034_03.row.prog w) (ktrTop dp un gd cn cs L a ccd cl []) (call (.ref 115) [.int wh tw, .ref dr, .str (PySem.Str.ofString "227 z") t3, .int lo tl, hv, .ref 108]) Q E s := by
  obtain ⟨led', U, N', hs, _⟩ := news_pick N hm
  refine told_ins B X T XB TB hck (by omega) (by omega) F N' (by omega) U (rowIs_tx hS tx) (.inl ⟨_, _, rfl, rfl, rfl, by decide +kernel⟩) hyl (by omega) hhv (fun msg e => ?_) (fun x e _ => (no_of e z227).elim) (fun n d h' tk e _ _ _ => ?_) (fun ek' r' t h' tk e F' N'' => ?_)
  · have := err_of z227 e; cases this
  · rw [insZ_err z227] at e; cases e
  · rw [insZ_err z227] at e
    have e1 := err_of rfl e
    have e2 : EK.reply = ek' := congrArg (·.1) e1
    have e3 : PySem.Str.ofString "227 z" = r' := congrArg (·.2) e1
    rw [← e2, ← e3, t227]
    exact hexc t h' tk F' (news_sub N'' hs)
/-- a search that is told -/
theorem told_place {wh sg : Int} {lo hi gp nn er : Nat} {kv hv : Value} {rvs : List Value} {k : Nat → KRes} {dr : Addr} {tw tx tl : Tok}
   (hd5 : dp + 60 < recursionLimit) (hu5 : un + 500 < cLine) (hwh : 0 ≤ wh ∧ wh < 2) (hrow : RowIs 108 kv rvs k nn) (hhv : HiIs hv hi nn) (hl : nn ≤ 1000) (F : Fr h₀ L s.heap m) (N : News h₀ L s.heap news)
   (hb : bis (decide (wh.fmod 2 = 1)) k sg (hi - lo) lo hi = .ok (lo + gp)) (hm : (dr, lstOf rvs er) ∈ news)
   (hret : ∀ d t h' tk, Fr h₀ L h' m → News h₀ L h' ((d, lstOf [.int ((lo : Int) + (gp : Int)) t] 0) :: news) → (∀ p ∈ news, p.1 < d) → Q (.ref d) { s with heap := h', toks := tk }) :
   wpAny (model PySem.Challenge.rw_pm0034_03.row.prog w) (ktrTop dp un gd cn cs L a ccd cl []) (call (.ref 115) [.int wh tw, .ref dr, .int sg tx, .int (lo : Int) tl, hv, kv]) Q E s := by
  have hc : wh = 0 ∨ wh = 1 := by omega
  have hz : bisZ (wh == 1) k sg (lo : Int) hi = .ok (lo + gp) := by
    refine Eq.trans ?_ hb
    rw [bisZ_nat]
    rcases hc with rfl | rfl <;> rfl
  refine told_bis B X T XB TB hck (by omega) (by omega) F N hc hm hrow hl hhv (fun _ msg e => no_of hz e) (fun n d t h' tk e F' N' l' => ?_) (fun ek r t h' tk e _ _ => (no_of hz e).elim)
  have e2 := ok_of hz e
  subst e2
  refine hret d t h' tk F' ?_ l'
  rw [show ((lo + gp : Nat) : Int) = (lo : Int) + (gp : Int) from by omega] at N'
  exact N'
theorem told_lay {wh sg : Int} {lo hi gp nn er : Nat} {kv hv xv : Value} {rvs : List Value} {k : Nat → KRes} {kx : KRes} {dr : Addr} {tw tl : Tok} {gN : Obj → Ldg}
   (hd5 : dp + 60 < recursionLimit) (hu5 : un + 500 < cLine) (hwh : 2 ≤ wh ∧ wh < 4) (hrow : RowIs 108 kv rvs k nn) (hx : ThingIs 108 kv xv kx) (hkx : kx = .ok sg) (hhv : HiIs hv hi nn) (hl : nn ≤ 1000) (hlo : lo ≤ 1000) (F : Fr h₀ L s.heap m) (N : News h₀ L s.heap news)
   (hb : bis (decide (wh.fmod 2 = 1)) k sg (hi - lo) lo hi = .ok (lo + gp)) (U : UpdF dr (lstOf rvs er) news gN)
   (hret : ∀ d h' tk, Fr h₀ L h' m → News h₀ L h' ((d, lstOf [.none] 0) :: gN (lstOf (kl_ins rvs ((lo : Int) + (gp : Int)) xv) (er + 1))) → (∀ p ∈ gN (lstOf (kl_ins rvs ((lo : Int) + (gp : Int)) xv) (er + 1)), p.1 < d) → Q (.ref d) { s with heap := h', toks := tk }) :
   wpAny (model PySem.Challenge.rw_pm0034_03.row.prog w) (ktrTop dp un gd cn cs L a ccd cl []) (call (.ref 115) [.int wh tw, .ref dr, xv, .int (lo : Int) tl, hv, kv]) Q E s := by
  have hc : wh = 2 ∨ wh = 3 := by omega
  have hz : bisZ (wh == 3) k sg (lo : Int) hi = .ok (lo + gp) := by
    refine Eq.trans ?_ hb
    rw [bisZ_nat]
    rcases hc with rfl | rfl <;> rfl
  refine told_ins B X T XB TB hck (by omega) (by omega) F N hc U hrow hx hl (by omega) hhv (fun msg e => no_of hkx e) (fun x e _ msg e2 => ?_) (fun n d h' tk e F' N' l' => ?_) (fun ek r t h' tk e _ _ => ?_)
  · have e3 := ok_of hkx e; subst e3; exact no_of hz e2
  · rw [insZ_ok hkx] at e
    have e2 := ok_of hz e
    subst e2
    have e4 : ((lo + gp : Nat) : Int) = (lo : Int) + (gp : Int) := by omega
    refine hret d h' tk F' ?_ ?_
    · rw [← e4]; exact N'
    · rw [← e4]; exact l'
  · rw [insZ_ok hkx] at e; exact (no_of hz e).elim
end
end Mine
end
section
open PySem PySem.W PyProof.Rows PySem.Spec PySem.Calls
set_option Elab.async false
set_option maxRecDepth 100000
set_option maxHeartbeats 8000000
set_option linter.all false
namespace Mine
local macro_rules | `(tactic| walk_at $s:str) => `(tactic| k_extra $s)
local macro_rules | `(tactic| omega) => `(tactic| first
  | with_reducible assumption
  | (refine' room1 ?rmh ?rme; (case rmh => with_reducible assumption); (case rme => with_unfolding_all rfl))
  | (refine' room0 ?rmh ?rme; (case rmh => with_reducible assumption); (case rme => with_unfolding_all rfl))
  | (refine' room2 ?rmh ?rme; (case rmh => with_reducible assumption); (case rme => with_unfolding_all rfl))
  | (refine' room00 ?rmh; (case rmh => with_reducible assumption))
  | (refine num_le ?rme; (case rme => with_unfolding_all rfl))
  | (refine num_lt ?rme; (case rme => with_unfolding_all rfl))
  | (refine' le_num ?rmh ?rme; (case rmh => with_reducible assumption); (case rme => with_unfolding_all rfl))
  | (refine' eq_num ?rmh ?rme; (case rmh => with_reducible assumption); (case rme => with_unfolding_all rfl))
  | omega (config := {}))
theorem lines_QF_0 : True := by
  k_with_none
  k_with "execs cons" => ((refine f_execs ?_; intro qk))
  k_with "eval BinOp" => ((refine f_BinOp ?_; intro qk))
  k_with "exec Assign" => ((refine f_Assign ?_; intro qk))
  k_with "eval Subscript" => ((refine f_Subscript ?_; intro qk))
  k_with "isTrue Compare" => ((refine f_Compare ?_; intro qk))
  k_with "exec If" => ((refine f_If ?_; intro qk))
  k_with "eval Call" => (((fail_if_success (with_reducible show wpAny _ _ (eval (Expr.Call (Expr.Attribute _ _ _) _ _ _) _) _ _ _)); refine f_Call ?_; intro qk))
  k_with "spliced" => ((refine f_args ?_; intro qk))
  k_with "callWith" => ((refine f_method1 ?_; intro qk))
  k_with "exec Return some" => ((refine f_Return ?_; intro qk))
  k_with "eval Tuple" => ((refine f_Tuple ?_; intro qk))
  k_with "eval List" => ((refine f_List ?_; intro qk))
  k_with "eval IfExp" => ((refine f_IfExp ?_; intro qk))
  k_with "storeName" => ((k_here; k_dflt (refine' f_store ?F ?N ?_ ?a ?b; (case F => k_asm); (case N => k_asm); (case a => rfl); (case b => rfl); k_whole; intro m' h' F' N'; (try k_sweep))))
  k_with "M map1" => (first
    | (refine map_same ?_; with_unfolding_all rfl)
    | ((repeat' (refine List.forall_mem_cons.mpr (And.intro ?_ ?_))); (all_goals first | rfl | exact List.forall_mem_nil _)))
  k_with "M map2" => (first
    | (refine SameOut.both (b := fun _ => none) ?_ ?_ <;> (repeat (refine SameOut.upd ?_ (by with_unfolding_all rfl))) <;> exact SameOut.lookup rfl)
    | (refine' SameOut.both (b := ?kb) ?k1 ?k2; (case k1 => ((repeat (refine SameOut.upd ?_ (by with_unfolding_all rfl))); exact SameOut.refl)); (case k2 => ((repeat (refine SameOut.upd ?_ (by with_unfolding_all rfl))); exact SameOut.refl)))
    | (refine' SameOut.both (b := ?kb) ?k1 ?k2; (case k2 => ((repeat (refine SameOut.upd ?_ (by with_unfolding_all rfl))); exact SameOut.refl)); (case k1 => ((repeat (refine SameOut.skip ?_)); (repeat (refine SameOut.upd ?_ (by with_unfolding_all rfl))); exact SameOut.refl)))
    | (intro y hy; (repeat (refine (if_neg (ne_of_out hy (by with_unfolding_all rfl))).trans ?_)); (refine Eq.symm ?_); (repeat (refine (if_neg (ne_of_out hy (by with_unfolding_all rfl))).trans ?_)); first | rfl | exact lookup_out rfl hy | exact (lookup_out rfl hy).symm | exact (lookup_out rfl hy).trans (lookup_out rfl hy).symm))
  k_with "M fill" => ((
    have kk : PySem.Challenge.rw_pm0034_03 = PySem.Challenge.rw_pm0034_03 ∧ KK.heap_1 = KK.heap_1 := ⟨rfl, rfl⟩
    revert kk
    k_fill
    intro kk
    clear kk))
  k_with "subscriptTail Name Constant ref int" => ((k_here; refine item_listL (News.isList (by assumption) (by k_mem)) (by decide) (by decide) (by rfl) ?_))
  trivial
/-- what stands in law's frame through all turns -/
structure OV where
  dfr : Addr
  dth : Addr
  dst : Addr
  lo : Nat
  tlo : Tok
  sh : Int
  tsh : Tok
noncomputable def oMap (o : OV) (jk : PStr → Option Value) : PStr → Option Value := fun y =>
  if y = PySem.Str.ofString "fractions" then some (.ref o.dfr) else if y = PySem.Str.ofString "things" then some (.ref o.dth) else if y = PySem.Str.ofString "start" then some (.ref o.dst)
  else if y = PySem.Str.ofString "low" then some (.int o.lo o.tlo) else if y = PySem.Str.ofString "shift" then some (.int o.sh o.tsh) else jk y
theorem lines_QF_1 : True := by
  k_with "M fr2" => ((intro y hy; (repeat (refine (if_neg (ne_of_out hy (by with_unfolding_all rfl))).trans ?_)); (refine Eq.symm ?_); (repeat (refine (if_neg (ne_of_out hy (by with_unfolding_all rfl))).trans ?_)); rfl))
  trivial
theorem sg_bits {q : Nat} (h : q < 27) : Builtin.Int.intBits (sgOf q) ≤ 64 :=
  of_decide_eq_true (List.all_eq_true.mp (show (List.range 27).all (fun q => decide (Builtin.Int.intBits (sgOf q) ≤ 64)) = true by decide +kernel) q (List.mem_range.mpr h))
theorem fr_ext {g h : Heap} {L : Addr} {M : PStr → Option Value} (F : Fr g L h M) : ∃ M', M' = M ∧ Fr g L h M' := ⟨M, rfl, F⟩
theorem strs_replicate {vs : List Value} {xs : List PStr} (h : StrsAre vs xs) : vs.length = xs.length := h.len_eq
theorem hi_is {i lo sz lv n : Nat} {hv : Value} (hc : ((i : Int).fmod 2 ≠ 0 ∧ ∃ t, hv = .int ((lo : Int) + 2 ^ sz - 1) t) ∨ ((i : Int).fmod 2 = 0 ∧ hv = .none)) (he : (i : Int).fmod 2 = 0 → sz = lv) (hs : sz ≤ lv) (hn : n = lo + (2 ^ lv - 1)) : HiIs hv (lo + (2 ^ sz - 1)) n := by
  have h1 : 1 ≤ 2 ^ sz := Nat.one_le_two_pow
  have h2 : 2 ^ sz ≤ 2 ^ lv := Nat.pow_le_pow_right (by decide) hs
  rcases hc with ⟨_, t, rfl⟩ | ⟨e, rfl⟩
  · refine .inr ⟨t, ?_, by omega⟩
    congr 1
    have : ((2 ^ sz : Nat) : Int) = (2 : Int) ^ sz := by push_cast; rfl
    omega
  · exact .inl ⟨rfl, by rw [he e, hn]⟩
noncomputable def no550 : PStr := pS "550 no"
theorem no550_ok : no550.length ≤ 640 ∧ RepOk no550 := ⟨by decide +kernel, ⟨by decide +kernel⟩⟩
noncomputable def start3 (lo : Nat) (ts : List (PStr × Option PStr × PStr)) : List PStr := List.replicate lo no550 ++ ts.map (·.1)
noncomputable def s03 (lv lo sz : Nat) (ts : List (PStr × Option PStr × PStr)) : PS := ⟨(0, 1), (fs3 lv ++ [(1, 0)]).getD (2 ^ sz - 1) (0, 0), 0, 2 ^ sz - 1, [], start3 lo ts⟩
theorem start3_len (lo : Nat) (ts : List (PStr × Option PStr × PStr)) : (start3 lo ts).length = lo + ts.length := by
  unfold start3; simp
theorem inv0 {lv lo sz : Nat} {ts : List (PStr × Option PStr × PStr)} {J : Nat → Nat} (tl : ts.length = (fs3 lv).length) (th : ∀ j (h : j < (fs3 lv).length) (h' : j < ts.length), ThOk (port3 (fs3 lv)[j]) ts[j]) : RowInv (fs3 lv) ts lo J 0 (s03 lv lo sz ts) where
  len := by show (start3 lo ts).length = _; rw [start3_len, tl]
  good := fun m hm => absurd hm (by omega)
  orig := fun j _ _ h => by
    show (start3 lo ts).getD (lo + j) PySem.Str.empty = _
    unfold start3
    simp [List.getD_eq_getElem?_getD, h]
  tx := fun y hy => by
    rcases List.mem_append.mp hy with h | h
    · rw [(List.mem_replicate.mp h).2]; exact no550_ok
    · obtain ⟨t, ht, rfl⟩ := List.mem_map.mp h
      obtain ⟨j, hj, rfl⟩ := List.getElem_of_mem ht
      have := th j (by omega) hj
      exact ⟨this.xl, this.xr⟩
theorem nines_flat (n : Nat) : (List.replicate n [(999 : Int)]).flatten.length = n := by simp
theorem nines_at {n j : Nat} {ps : List Int} : ((List.replicate n [(999 : Int)]).flatten ++ ps).getD (n + j) 0 = ps.getD j 0 := by
  rw [List.getD_eq_getElem?_getD, List.getElem?_append_right (by rw [nines_flat]; omega), nines_flat, Nat.add_sub_cancel_left, List.getD_eq_getElem?_getD]
section
variable {M : Model} {A : Around} {E : Value → Shared → Prop} {s : Shared} {env : Env} {Q : Flow → Shared → Prop}
theorem chunk_any {l : List Stmt} {k : Nat} (n : Nat) (h : wpAny M A (execs ((l.drop k).take n) env) (fun f s' => match f with | .next => wpC M A (execs (l.drop (k + n)) env) Q E s' | f => Q f s') E s) : wpC M A (execs (l.drop k) env) Q E s := by
  have e : l.drop k = (l.drop k).take n ++ l.drop (k + n) := by rw [← List.drop_drop, List.take_append_drop]
  rw [e]
  exact execs_pre h
theorem chunk_C {l : List Stmt} {k : Nat} (n : Nat) (h : wpC M A (execs ((l.drop k).take n) env) (fun f s' => match f with | .next => wpC M A (execs (l.drop (k + n)) env) Q E s' | f => Q f s') E s) : wpC M A (execs (l.drop k) env) Q E s := by
  have e : l.drop k = (l.drop k).take n ++ l.drop (k + n) := by rw [← List.drop_drop, List.take_append_drop]
  rw [e, execs_app]
  refine wpC_bind (wpC_mono h (fun f s' h' => ?_) fun _ _ x => x)
  cases f <;> first | exact h' | exact wpC_pure h'
end
theorem n_lv {lv : Nat} (h : lv = 3 ∨ lv = 4) : 0 < (lv : Int) ∧ ((lv : Int) = 3 ∨ (lv : Int) = 4) ∧ lv ≤ 4 ∧ 2 ^ lv ≤ 16 ∧ 8 ≤ 2 ^ lv := by
  rcases h with rfl | rfl <;> decide
theorem n_sz {i lv sz : Nat} {sh : Int} (h0 : 0 < (lv : Int)) (hsz : (if (i : Int).fmod 2 ≠ 0 then ((i : Int) / 2 + sh).fmod lv else (lv : Int)) = (sz : Int)) : sz ≤ lv ∧ ((i : Int).fmod 2 = 0 → sz = lv) := by
  refine ⟨?_, fun e => ?_⟩
  · split at hsz
    · have := Int.fmod_lt_of_pos ((i : Int) / 2 + sh) h0; omega
    · omega
  · rw [if_neg (fun c => c e)] at hsz; omega
theorem n_sg {q : Nat} (h : q < 27) : -1000 ≤ sgOf q ∧ sgOf q ≤ 1000 := by unfold sgOf; omega
theorem n_fs {n lv : Nat} (h : n = 2 ^ lv - 1) (h4 : 2 ^ lv ≤ 16) : n ≤ 15 := by omega
theorem n_gap {n lv sz : Nat} (h : n = 2 ^ lv - 1) (hp : 2 ^ sz ≤ 2 ^ lv) : 2 ^ sz - 1 ≤ n := by omega
theorem n_len {y lo t : Nat} (h : y = lo + t) (h2 : lo ≤ 2) (h15 : t ≤ 15) : y ≤ 100 ∧ y ≤ 1000 := by omega
theorem n_lo {lo : Nat} (h : lo ≤ 2) : 0 ≤ (lo : Int) ∧ (lo : Int) ≤ 2 ∧ (lo : Int) ≤ 1000 ∧ lo ≤ 1000 := by omega
theorem n_svs {a y lo t f : Nat} (h1 : a = y) (h2 : y = lo + t) (h3 : t = f) : a = (lo : Int).toNat + f := by omega
theorem n_two {a y lo t f lv : Nat} (h0 : 2 = a) (h1 : a = y) (h2 : y = lo + t) (h3 : t = f) (h4 : f = 2 ^ lv - 1) (h5 : 8 ≤ 2 ^ lv) : False := by omega
theorem n_int {l : Nat} (h : l ≤ 15) : 0 ≤ (l : Int) ∧ (l : Int) ≤ 15 := by omega
theorem n_neg (i : Nat) : -1 - (i : Int) < 0 := by omega
theorem ps_j {s : PS} (h : s.l < s.h) : s.l ≤ s.j ∧ s.j < s.h := by unfold PS.j; omega
section
variable {w : World} {p : Program} {loose : List PStr} {mean : ExcName → Option Value} {mg mb : PStr → Option Value}
    {dp un : Nat} {gd : Option (List Code)} {a : Addr} {ccd : Value} {c1 c2 c3 : Addr} {A₀ : Around} {base h₀ : Heap} {L : Addr}
    {s : Shared} {news : Ldg}
    (B : Below A₀ base [] h₀) (X : (KK.heap_1 w.params).In h₀) (T : Top p loose mean mg mb h₀) (XB : (KK.heap_1 w.params).In base) (TB : Top p loose mean mg mb base)
include B X T XB TB

theorem turn_all {o : OV} {i lv sz lo qn : Nat} {wh : Int} {ti tlv : Tok} {ns : List Int} {nvs fvs tvs svs pvs : List Value} {ts : List (PStr × Option PStr × PStr)} {dn dpo : Addr} {est epo et : Nat} {o1 o2 o3 : Obj} {jk : PStr → Option Value} {Q : Flow → Shared → Prop} {E : Value → Shared → Prop}
   (hd5 : dp + 60 < recursionLimit) (hu5 : un + 500 < cLine) (hi : i < 8) (hlv : lv = 3 ∨ lv = 4) (hlo : o.lo = lo) (hlo2 : lo ≤ 2)
   (hE : PassesOwn (model PySem.Challenge.rw_pm0034_03.row.prog w) (ktrTop dp un gd (PySem.Str.ofString "law") lawScope3 L a ccd (cells3 c1 c2 c3) []) (envX (PySem.Str.ofString "law") lawScope3 L a ccd (cells3 c1 c2 c3)) E)
   (F : Fr h₀ L s.heap (fun y => if y = PySem.Str.ofString "turn" then some (.int i ti) else oMap o jk y)) (N : News h₀ L s.heap news)
   (hc1 : (c1, o1) ∈ news) (ho1 : o1.data = .cell (some (.ref dn))) (hdn : (dn, lstOf nvs 0) ∈ news) (hns : IntsAre nvs ns) (hnl : ns.length = 15)
   (hc2 : (c2, o2) ∈ news) (ho2 : o2.data = .cell (some (.int (lv : Int) tlv)))
   (hc3 : (c3, o3) ∈ news) (ho3 : o3.data = .cell (some (.ref dpo))) (hpo : (dpo, lstOf pvs epo) ∈ news) (hpi : IntsAre pvs ((fs3 lv).map port3))
   (hfr : (o.dfr, lstOf fvs 0) ∈ news) (hP : PairsAre news fvs (fs3 lv)) (hth : (o.dth, lstOf tvs et) ∈ news) (hT : ThingsAre news tvs ts) (tl : ts.length = (fs3 lv).length)
   (th : ∀ j (h : j < (fs3 lv).length) (h' : j < ts.length), ThOk (port3 (fs3 lv)[j]) ts[j]) (hst : (o.dst, lstOf svs est) ∈ news) (hss : StrsAre svs (start3 lo ts))
   (hsz : (if (i : Int).fmod 2 ≠ 0 then ((i : Int) / 2 + o.sh).fmod lv else (lv : Int)) = (sz : Int)) (hwh : ((i : Int) + (i : Int) / 4 + o.sh).fmod 4 = wh) (hqn : qn < 27) (hsg : 10 * ((ns.getD i 0 / 10).fmod 27) - 10 = sgOf qn)
   (hret : ∀ h' tk jk', Fr h₀ L h' (oMap o jk') → News h₀ L h' news → Q .next { s with heap := h', toks := tk }) :
   wpC (model PySem.Challenge.rw_pm0034_03.row.prog w) (ktrTop dp un gd (PySem.Str.ofString "law") lawScope3 L a ccd (cells3 c1 c2 c3) []) (execs turn3 (envX (PySem.Str.ofString "law") lawScope3 L a ccd (cells3 c1 c2 c3))) Q E s := by
  subst hlo
  obtain ⟨hsg1, hsg2, hsg3⟩ := sgOk hqn
  have hsgr : -1000 ≤ sgOf qn ∧ sgOf qn ≤ 1000 := n_sg hqn
  have hsgb : Builtin.Int.intBits (sgOf qn) ≤ 64 := sg_bits hqn
  have hw4 : 0 ≤ wh ∧ wh < 4 := by rw [← hwh]; exact ⟨Int.fmod_nonneg_of_pos _ (by decide), Int.fmod_lt_of_pos _ (by decide)⟩
  obtain ⟨hlv0, hlvI, hlv4, hp4, hp3⟩ := n_lv hlv
  obtain ⟨hszlv, heven⟩ := n_sz hlv0 hsz
  have hsz4 : sz ≤ 4 := Nat.le_trans hszlv hlv4
  have hp1 : 1 ≤ 2 ^ sz := Nat.one_le_two_pow
  have hp2 : 2 ^ sz ≤ 2 ^ lv := Nat.pow_le_pow_right (by decide) hszlv
  have hfl := fs3_len lv
  have hyl := start3_len o.lo ts
  have hsv := hss.len_eq
  have hf15 : (fs3 lv).length ≤ 15 := n_fs hfl hp4
  have ht15 : ts.length ≤ 15 := Nat.le_trans (Nat.le_of_eq tl) hf15
  have hgap : 2 ^ sz - 1 ≤ (fs3 lv).length := n_gap hfl hp2
  obtain ⟨hy100, hy1000⟩ := n_len hyl hlo2 ht15
  have hs100 : svs.length ≤ 100 := Nat.le_trans (Nat.le_of_eq hsv) hy100
  obtain ⟨hl0, hl2, hl1000, hl1000'⟩ := n_lo hlo2
  have hsvl := n_svs hsv hyl tl
  have hneg := n_neg i
  have hr : (decide (wh.fmod 2 = 1) = true ↔ wh.fmod 2 = 1) := decide_eq_true_iff
  have fr : ∀ q ∈ fs3 lv, FrOk q := fun q hq => frOk hlv hq
  have W : winOk (fs3 lv) sz (s03 lv o.lo sz ts).b (s03 lv o.lo sz ts).a (s03 lv o.lo sz ts).l (s03 lv o.lo sz ts).h = true := winAt hlv hszlv
  have inv := row_inv (sg := sgOf qn) (wh := wh) W tl th (inv0 tl th)
  have pend := pst_end (sg := sgOf qn) (wh := wh) (lo := o.lo) (ts := ts) (s := s03 lv o.lo sz ts) rfl rfl rfl hsz4
  have hck : lawScope3.kind = .function := by with_unfolding_all rfl
  show wpC (model PySem.Challenge.rw_pm0034_03.row.prog w) (ktrTop dp un gd (PySem.Str.ofString "law") lawScope3 L a ccd (cells3 c1 c2 c3) []) (execs (turn3.drop 0) (envX (PySem.Str.ofString "law") lawScope3 L a ccd (cells3 c1 c2 c3))) Q E s
  -- a: size, which, sought
  obtain ⟨M0, eM0, F0⟩ := fr_ext F
  refine chunk_any 3 ?_
  refine turn_a B X T XB TB (jk := M0) (sz := (sz : Int)) (lv := (lv : Int)) (ti := ti) (sh := o.sh) (tsh := o.tsh) hd5 hu5 hi (fr_map [PySem.Str.ofString "turn", PySem.Str.ofString "shift"] F0 (by subst eM0; walk_at "M map1") (by walk_at "M fr2")) N hc2 ho2 hc1 ho1 hdn hns hnl (by omega) hsz hwh hsg ?_
  intro h1 k1 t1 t2 t3 F1 N1
  show wpC (model PySem.Challenge.rw_pm0034_03.row.prog w) (ktrTop dp un gd (PySem.Str.ofString "law") lawScope3 L a ccd (cells3 c1 c2 c3) []) (execs (turn3.drop 3) (envX (PySem.Str.ofString "law") lawScope3 L a ccd (cells3 c1 c2 c3))) Q E _
  -- b: thing
  obtain ⟨M1, eM1, F1⟩ := fr_ext F1
  refine chunk_any 1 ?_
  refine turn_b B X T XB TB (jk := M1) (wh := wh) (twh := t2) (sg := sgOf qn) (tsg := t3) (fr_map [PySem.Str.ofString "which", PySem.Str.ofString "sought"] F1 (by subst eM1; walk_at "M map1") (by walk_at "M fr2")) N1 hsgr.1 hsgr.2 hsg2 ?_
  intro h2 k2 thv hthv F2 N2
  show wpC (model PySem.Challenge.rw_pm0034_03.row.prog w) (ktrTop dp un gd (PySem.Str.ofString "law") lawScope3 L a ccd (cells3 c1 c2 c3) []) (execs (turn3.drop 4) (envX (PySem.Str.ofString "law") lawScope3 L a ccd (cells3 c1 c2 c3))) Q E _
  -- c: high
  obtain ⟨M2, eM2, F2⟩ := fr_ext F2
  refine chunk_any 1 ?_
  refine turn_c B X T XB TB (hv := .none) (jk := M2) (i := i) (ti := ti) (lo := (o.lo : Int)) (tlo := o.tlo) (sz := sz) (tsz := t1) hsz4 (fr_map [PySem.Str.ofString "turn", PySem.Str.ofString "low", PySem.Str.ofString "size"] F2 (by subst eM2 eM1 eM0; walk_at "M map1") (by walk_at "M fr2")) N2 ?_
  intro h3 k3 hv hhv F3 N3
  show wpC (model PySem.Challenge.rw_pm0034_03.row.prog w) (ktrTop dp un gd (PySem.Str.ofString "law") lawScope3 L a ccd (cells3 c1 c2 c3) []) (execs (turn3.drop 5) (envX (PySem.Str.ofString "law") lawScope3 L a ccd (cells3 c1 c2 c3))) Q E _
  have hth2 : (wh < 2 ∧ ∃ t, thv = .int (sgOf qn) t) ∨ (¬ wh < 2 ∧ ∃ t, thv = .str (thTxt (sgOf qn)) t) := by
    rcases hthv with ⟨x, y⟩ | x
    · exact .inl ⟨x, _, y⟩
    · exact .inr x
  have hHi : HiIs hv (o.lo + (2 ^ sz - 1)) (o.lo + ts.length) := hi_is hhv heven hszlv (by rw [tl, hfl])
  have tx0 : RowTx (start3 o.lo ts) := (inv0 (J := fun i => (pst (sgOf qn) wh o.lo ts (s03 lv o.lo sz ts) i).j) (sz := sz) tl th).tx
  -- d: the row, two refusals
  obtain ⟨M3, eM3, F3⟩ := fr_ext F3
  refine chunk_any 3 ?_
  refine turn_d B X T XB TB (jk := M3) (dst := o.dst) (wh := wh) (twh := t2) (thv := thv) (lo := (o.lo : Int)) (tlo := o.tlo) (hv := hv) (i := i) (ti := ti) hd5 hu5 hi (fr_map [PySem.Str.ofString "start", PySem.Str.ofString "which", PySem.Str.ofString "thing", PySem.Str.ofString "low", PySem.Str.ofString "high", PySem.Str.ofString "turn"] F3 (by subst eM3 eM2 eM1 eM0; walk_at "M map1") (by walk_at "M fr2")) N3 hst hss (by omega)
    (fun hw _ _ s' m' led dr er tw tl t3 hm F' N' k => told_227 B X T XB TB hck hd5 hu5 ⟨hw, hw4.2⟩ (hyl ▸ hHi) (by omega) (by omega) tx0 F' N' hss hm k)
    (fun tw tl hm F' N' k => told_neg B X T XB TB hck hd5 hu5 hw4 hth2 hsg1 hsg3 (hyl ▸ hHi) (by omega) (by omega) tx0 F' N' hss hm k) ?_
  intro h4 k4 dr er F4 N4 ldr
  show wpC (model PySem.Challenge.rw_pm0034_03.row.prog w) (ktrTop dp un gd (PySem.Str.ofString "law") lawScope3 L a ccd (cells3 c1 c2 c3) []) (execs (turn3.drop 8) (envX (PySem.Str.ofString "law") lawScope3 L a ccd (cells3 c1 c2 c3))) Q E _
  -- e: below, above, gap, way
  obtain ⟨M4, eM4, F4⟩ := fr_ext F4
  refine chunk_any 3 ?_
  refine turn_e B X T XB TB (jk := M4) (dfr := o.dfr) (sz := sz) (tsz := t1) hd5 hu5 hsz4 (fr_map [PySem.Str.ofString "fractions", PySem.Str.ofString "size"] F4 (by subst eM4 eM3 eM2 eM1 eM0; walk_at "M map1") (by walk_at "M fr2")) N4 (.tail _ hfr) (hP.mono fun p hp => .tail _ hp) (by omega) (by omega) ?_
  intro h5 k5 db da dw u1 u2 u3 u4 tg ea l5 hs5 hdb hda ldw F5 N5
  show wpC (model PySem.Challenge.rw_pm0034_03.row.prog w) (ktrTop dp un gd (PySem.Str.ofString "law") lawScope3 L a ccd (cells3 c1 c2 c3) []) (execs (turn3.drop 11) (envX (PySem.Str.ofString "law") lawScope3 L a ccd (cells3 c1 c2 c3))) Q E _
  obtain ⟨led, U, N5', hs6, hn6⟩ := news_pick (news_drop1 N5) (hs5 _ (.head _))
  have two : ∀ {x y : Value} {e : Nat} {d : Addr}, (d, lstOf [x, y] e) ∈ l5 → d ≠ dr := by
    intro x y e d hm c
    subst c
    have g1 := ((news_drop1 N5) _ hm).1
    have g2 := ((news_drop1 N5) _ (hs5 _ (.head _))).1
    have e1 := congrArg Obj.data (Option.some.inj (g1.symm.trans g2))
    have e2 : [x, y] = svs := lst_inj e1
    have := congrArg List.length e2
    exact n_two this hsv hyl tl hfl hp3
  have inl : ∀ {p : Addr × Obj}, p ∈ l5 → p.1 ≠ dr → p ∈ led := fun hp hne => by
    rcases List.mem_cons.mp (hs6 _ hp) with rfl | h
    · exact absurd rfl hne
    · exact h
  have inn : ∀ p ∈ news, p ∈ led := fun p hp => inl (hs5 _ (.tail _ hp)) (Nat.ne_of_lt (ldr p hp))
  -- f: the way
  obtain ⟨M5, eM5, F5⟩ := fr_ext F5
  refine chunk_C 1 ?_
  refine turn_f (v := ⟨o.dfr, o.dth, o.dst, dw, dr, wh, t2, sgOf qn, t3, (o.lo : Int), o.tlo, o.sh, o.tsh, thv, hv⟩) (pa := pathOf (sgOf qn) wh o.lo ts (s03 lv o.lo sz ts)) (jk := M5) (db := db) (da := da) (tg := tg) (st0 := M5 (PySem.Str.ofString "step")) (tsz := t1) (sz := sz) (fs := fs3 lv) (ts := ts) (er := er)
    B X T XB TB hd5 hu5 hsz4 hE (fr_map (PySem.Str.ofString "size" :: sNames) F5 (by subst eM5 eM4 eM3 eM2 eM1 eM0; walk_at "M map1") (by walk_at "M fr2")) (news_sub N5 ?n6) (inl hdb (two hdb)) (inl hda (two hda)) (inn _ hfr) (hP.mono inn) (by omega) (inn _ hth) (hT.mono inn) tl hss (by dsimp only; omega) (by dsimp only; omega) (by dsimp only; omega)
    (fun p hp => ⟨(hn6 p hp).1, Nat.ne_of_lt (ldw p (hn6 p hp).2)⟩) (Nat.ne_of_gt (ldw _ (hs5 _ (.head _)))) rfl rfl (path_ok rfl rfl rfl W (nodup3 hlv) hsz4 rfl hsgb) ?told ?_
  case n6 =>
    intro p hp
    rcases List.mem_cons.mp hp with rfl | hp
    · exact .head _
    rcases List.mem_cons.mp hp with rfl | hp
    · exact .tail _ (hs5 _ (.head _))
    · exact .tail _ (hn6 p hp).2
  case told =>
    rintro i' hi' due ⟨hj, hdue⟩
    obtain ⟨len, good, orig, tx⟩ := inv i' (Nat.le_of_lt hi')
    have hlh := (pst_at (sg := sgOf qn) (wh := wh) (lo := o.lo) (ts := ts) W hi').1
    have hjl : (pst (sgOf qn) wh o.lo ts (s03 lv o.lo sz ts) i').l ≤ (pst (sgOf qn) wh o.lo ts (s03 lv o.lo sz ts) i').j ∧ (pst (sgOf qn) wh o.lo ts (s03 lv o.lo sz ts) i').j < (pst (sgOf qn) wh o.lo ts (s03 lv o.lo sz ts) i').h := ps_j hlh
    have hO := orig _ hjl.1 hjl.2 hj
    have hylen : (pst (sgOf qn) wh o.lo ts (s03 lv o.lo sz ts) i').Y.length = o.lo + ts.length := by rw [len, tl]
    have hylen2 := (n_len hylen hlo2 ht15).2
    rcases (th _ (tl ▸ hj) hj).ans with ⟨e, _⟩ | ⟨ek, r, d, e, hp, ht, hdl⟩
    · exact absurd (e.symm.trans hdue) (fun c => by cases c)
    · have ed : d = due := Option.some.inj (e.symm.trans hdue)
      subst ed
      refine ⟨hdl, fun hS => fun tw tl' hm F' N' k => ?_⟩
      have hb := bis_bad (k := fun n => p229 ((pst (sgOf qn) wh o.lo ts (s03 lv o.lo sz ts) i').Y.getD n PySem.Str.empty)) (e := (ek, r)) hr W fr hi' (fun m hm h => good m hm h) (by rw [hO]; exact hp)
      exact told_err B X T XB TB hck hd5 hu5 hw4 hth2 hsg1 hsg3 (hylen ▸ hHi) (by omega) (by omega) tx F' N' hb hS hm (fun t h' tk F'' N'' => by rw [ht]; exact k t h' tk F'' N'')
  intro h6 k6 db' da' tg' st' jk' wvs ew rvs er' l6 hwv hSr hs7 hap6 F6 N6
  show wpC (model PySem.Challenge.rw_pm0034_03.row.prog w) (ktrTop dp un gd (PySem.Str.ofString "law") lawScope3 L a ccd (cells3 c1 c2 c3) []) (execs (turn3.drop 12) (envX (PySem.Str.ofString "law") lawScope3 L a ccd (cells3 c1 c2 c3))) Q E _
  obtain ⟨leni, goodi, origi, txi⟩ := inv sz (Nat.le_refl _)
  have hg15 : (pst (sgOf qn) wh o.lo ts (s03 lv o.lo sz ts) sz).l ≤ 15 := Nat.le_of_lt_succ (Nat.lt_of_lt_of_le pend.1 (Nat.le_trans hp2 hp4))
  have hyz : (pst (sgOf qn) wh o.lo ts (s03 lv o.lo sz ts) sz).Y.length = o.lo + ts.length := by rw [leni, tl]
  obtain ⟨hyz100, hyz1000⟩ := n_len hyz hlo2 ht15
  have hlI15 := n_int hg15
  have hSl : rvs.length = (pst (sgOf qn) wh o.lo ts (s03 lv o.lo sz ts) sz).Y.length := hSr.len_eq
  have hr100 : rvs.length ≤ 100 := Nat.le_trans (Nat.le_of_eq hSl) hyz100
  have hb := bis_last (k := fun n => p229 ((pst (sgOf qn) wh o.lo ts (s03 lv o.lo sz ts) sz).Y.getD n PySem.Str.empty)) hr W fr pend.2.1 (fun m hm h => goodi m hm h)
  have hbi := bis_last (k := fun n => .ok (((List.replicate o.lo [(999 : Int)]).flatten ++ (fs3 lv).map port3).getD n 0)) hr W fr pend.2.1 (fun m hm h => by
    rw [nines_at, List.getD_eq_getElem?_getD, List.getElem?_map, List.getElem?_eq_getElem h]
    rfl)
  have N6' : News h₀ L h6 ((dr, lstOf rvs er') :: (dw, lstOf wvs ew) :: l6) := news_sub N6 (fun p hp => by
    rcases List.mem_cons.mp hp with rfl | hp
    · exact .tail _ (.head _)
    rcases List.mem_cons.mp hp with rfl | hp
    · exact .head _
    · exact .tail _ (.tail _ hp))
  have hr6 : ∀ p ∈ (dw, lstOf wvs ew) :: l6, p.1 ≠ dr := fun p hp => by
    rcases List.mem_cons.mp hp with rfl | hp
    · exact Nat.ne_of_gt (ldw _ (hs5 _ (.head _)))
    · exact (hap6 p hp).1
  have in6 : ∀ p ∈ news, p ∈ (dw, lstOf wvs ew) :: l6 := fun p hp => .tail _ (hs7 _ (inn p hp))
  have hni : ((List.replicate o.lo [(999 : Int)]).flatten ++ (fs3 lv).map port3).length = o.lo + ts.length := by rw [List.length_append, nines_flat, List.length_map, tl]
  have hHiY : HiIs hv (o.lo + (2 ^ sz - 1)) (pst (sgOf qn) wh o.lo ts (s03 lv o.lo sz ts) sz).Y.length := by rw [hyz]; exact hHi
  have hHiI : HiIs hv (o.lo + (2 ^ sz - 1)) ((List.replicate o.lo [(999 : Int)]).flatten ++ (fs3 lv).map port3).length := by rw [hni]; exact hHi
  have hlY : (pst (sgOf qn) wh o.lo ts (s03 lv o.lo sz ts) sz).Y.length ≤ 1000 := hyz1000
  have hlI : ((List.replicate o.lo [(999 : Int)]).flatten ++ (fs3 lv).map port3).length ≤ 1000 := (n_len hni hlo2 ht15).2
  -- h: the quotes
  have fin : ∀ h' tk jk' l', (∀ p ∈ (dw, lstOf wvs ew) :: l6, p ∈ l') → Fr h₀ L h' (sMap ⟨o.dfr, o.dth, o.dst, dw, dr, wh, t2, sgOf qn, t3, (o.lo : Int), o.tlo, o.sh, o.tsh, thv, hv⟩ db' da' (pst (sgOf qn) wh o.lo ts (s03 lv o.lo sz ts) sz).l tg' st' jk') → News h₀ L h' l' →
      wpC (model PySem.Challenge.rw_pm0034_03.row.prog w) (ktrTop dp un gd (PySem.Str.ofString "law") lawScope3 L a ccd (cells3 c1 c2 c3) []) (execs (turn3.drop 13) (envX (PySem.Str.ofString "law") lawScope3 L a ccd (cells3 c1 c2 c3))) Q E { s with heap := h', toks := tk } := by
    intro h7 k7 jk7 l7 hs8 F7 N7
    refine chunk_any 2 ?_
    refine turn_h (v := ⟨o.dfr, o.dth, o.dst, dw, dr, wh, t2, sgOf qn, t3, (o.lo : Int), o.tlo, o.sh, o.tsh, thv, hv⟩) (bs := (pst (sgOf qn) wh o.lo ts (s03 lv o.lo sz ts) sz).W) (ew := ew) B X T XB TB hd5 hu5 hE F7 N7 (by rw [← (show wvs = ((pst (sgOf qn) wh o.lo ts (s03 lv o.lo sz ts) sz).W).map Value.bool from hwv)]; exact hs8 _ (.head _)) (by rw [pst_W]; show 0 + sz ≤ 100; omega) (by omega) pend.2.2 ?_
    intro h8 k8 jk8 l8 hs9 F8 N8
    have e15 : turn3.drop 15 = [] := by with_unfolding_all rfl
    show wpC (model PySem.Challenge.rw_pm0034_03.row.prog w) (ktrTop dp un gd (PySem.Str.ofString "law") lawScope3 L a ccd (cells3 c1 c2 c3) []) (execs (turn3.drop 15) (envX (PySem.Str.ofString "law") lawScope3 L a ccd (cells3 c1 c2 c3))) Q E _
    rw [e15]
    refine wpC_any (wpAny_execs_nil ?_)
    obtain ⟨M8, eM8, F8⟩ := fr_ext F8
    exact hret _ _ M8 (fr_map [PySem.Str.ofString "fractions", PySem.Str.ofString "things", PySem.Str.ofString "start", PySem.Str.ofString "low", PySem.Str.ofString "shift"] F8 (by subst eM8; walk_at "M map1") (by walk_at "M fr2")) (news_sub N8 (fun p hp => hs9 _ (hs8 _ (in6 p hp))))
  refine chunk_any 1 ?_
  by_cases h2 : wh < 2
  · obtain ⟨tth, ethv⟩ : ∃ t, thv = .int (sgOf qn) t := by
      rcases hth2 with ⟨_, x⟩ | ⟨x, _⟩
      · exact x
      · exact absurd h2 x
    refine turn_g0 (tsz := t1) (v := ⟨o.dfr, o.dth, o.dst, dw, dr, wh, t2, sgOf qn, t3, (o.lo : Int), o.tlo, o.sh, o.tsh, thv, hv⟩) (ys := (pst (sgOf qn) wh o.lo ts (s03 lv o.lo sz ts) sz).Y) (ns := (fs3 lv).map port3) (gp := ((pst (sgOf qn) wh o.lo ts (s03 lv o.lo sz ts) sz).l : Int)) B X T XB TB hd5 hu5 hE F6 N6' hr6 (in6 _ hc3) ho3 (in6 _ hpo) hpi (by rw [List.length_map]; omega) hSr (by omega) (by dsimp only; omega) (by dsimp only; omega) (by omega) h2 ?hA ?hB fin
    case hA =>
      intro Q' E' s' m' led' tw tl' hm F' N' k
      dsimp only
      rw [ethv]
      exact told_place B X T XB TB hck hd5 hu5 ⟨hw4.1, h2⟩ (rowIs_tx hSr txi) hHiY hlY F' N' hb hm k
    case hB =>
      intro Q' E' s' m' led' dq ws eq tw tl' tx' hws hm F' N' k
      dsimp only at hws ⊢
      exact told_place B X T XB TB hck hd5 hu5 ⟨hw4.1, h2⟩ (rowIs_in hws) hHiI hlI F' N' hbi hm k
  · obtain ⟨tth, ethv⟩ : ∃ t, thv = .str (thTxt (sgOf qn)) t := by
      rcases hth2 with ⟨x, _⟩ | ⟨_, x⟩
      · exact absurd x h2
      · exact x
    refine turn_g2 (tsz := t1) (v := ⟨o.dfr, o.dth, o.dst, dw, dr, wh, t2, sgOf qn, t3, (o.lo : Int), o.tlo, o.sh, o.tsh, thv, hv⟩) (ys := (pst (sgOf qn) wh o.lo ts (s03 lv o.lo sz ts) sz).Y) (ns := (fs3 lv).map port3) (gp := ((pst (sgOf qn) wh o.lo ts (s03 lv o.lo sz ts) sz).l : Int)) (th := thTxt (sgOf qn)) (tth := tth) B X T XB TB hd5 hu5 hE F6 N6' hr6 (in6 _ hc3) ho3 (in6 _ hpo) hpi (by rw [List.length_map]; omega) hSr (by omega) (by dsimp only; omega) (by dsimp only; omega) (by omega) h2 ethv ?hA2 ?hB2 fin
    case hA2 =>
      intro Q' E' s' m' led' gN tw tl' F' N' U' k
      dsimp only
      exact told_lay B X T XB TB hck hd5 hu5 ⟨Int.not_lt.mp h2, hw4.2⟩ (rowIs_tx hSr txi) (.inl ⟨_, _, ethv, rfl, rfl, hsg3⟩) hsg1 hHiY hlY (by omega) F' N' hb U' k
    case hB2 =>
      intro Q' E' s' m' led' gN dq ws eq tw tl' tx' hws F' N' U' k
      dsimp only at hws ⊢
      exact told_lay B X T XB TB hck hd5 hu5 ⟨Int.not_lt.mp h2, hw4.2⟩ (rowIs_in hws) (.inr ⟨_, _, rfl, rfl, rfl⟩) rfl hHiI hlI (by omega) F' N' hbi U' k
end
end Mine
end
section
open PySem PySem.W PyProof.Rows PySem.Spec PySem.Calls
set_option Elab.async false
set_option maxRecDepth 100000
set_option maxHeartbeats 8000000
set_option linter.all false
namespace Mine
local macro_rules | `(tactic| walk_at "M nothing") => `(tactic| skip)
local macro_rules | `(tactic| walk_at $s:str) => `(tactic| k_extra $s)
local macro_rules | `(tactic| omega) => `(tactic| first
  | with_reducible assumption
  | (refine' room1 ?rmh ?rme; (case rmh => with_reducible assumption); (case rme => with_unfolding_all rfl))
  | (refine' room0 ?rmh ?rme; (case rmh => with_reducible assumption); (case rme => with_unfolding_all rfl))
  | (refine' room2 ?rmh ?rme; (case rmh => with_reducible assumption); (case rme => with_unfolding_all rfl))
  | (refine' room00 ?rmh; (case rmh => with_reducible assumption))
  | (refine num_le ?rme; (case rme => with_unfolding_all rfl))
  | (refine num_lt ?rme; (case rme => with_unfolding_all rfl))
  | (refine' le_num ?rmh ?rme; (case rmh => with_reducible assumption); (case rme => with_unfolding_all rfl))
  | (refine' eq_num ?rmh ?rme; (case rmh => with_reducible assumption); (case rme => with_unfolding_all rfl))
  | omega (config := {}))
theorem lines_QG_0 : True := by
  k_with_none
  k_with "execs cons" => ((refine f_execs ?_; intro qk))
  k_with "eval BinOp" => ((refine f_BinOp ?_; intro qk))
  k_with "exec Assign" => ((refine f_Assign ?_; intro qk))
  k_with "eval Subscript" => ((refine f_Subscript ?_; intro qk))
  k_with "isTrue Compare" => ((refine f_Compare ?_; intro qk))
  k_with "exec If" => ((refine f_If ?_; intro qk))
  k_with "eval Call" => (((fail_if_success (with_reducible show wpAny _ _ (eval (Expr.Call (Expr.Attribute _ _ _) _ _ _) _) _ _ _)); refine f_Call ?_; intro qk))
  k_with "spliced" => ((refine f_args ?_; intro qk))
  k_with "callWith" => ((refine f_method1 ?_; intro qk))
  k_with "exec Return some" => ((refine f_Return ?_; intro qk))
  k_with "eval Tuple" => ((refine f_Tuple ?_; intro qk))
  k_with "eval List" => ((refine f_List ?_; intro qk))
  k_with "eval IfExp" => ((refine f_IfExp ?_; intro qk))
  k_with "storeName" => ((k_here; k_dflt (refine' f_store ?F ?N ?_ ?a ?b; (case F => k_asm); (case N => k_asm); (case a => rfl); (case b => rfl); k_whole; intro m' h' F' N'; (try k_sweep))))
  k_with "M map1" => (first
    | (refine map_same ?_; with_unfolding_all rfl)
    | ((repeat' (refine List.forall_mem_cons.mpr (And.intro ?_ ?_))); (all_goals first | rfl | exact List.forall_mem_nil _)))
  k_with "M map2" => (first
    | (refine SameOut.both (b := fun _ => none) ?_ ?_ <;> (repeat (refine SameOut.upd ?_ (by with_unfolding_all rfl))) <;> exact SameOut.lookup rfl)
    | (refine' SameOut.both (b := ?kb) ?k1 ?k2; (case k1 => ((repeat (refine SameOut.upd ?_ (by with_unfolding_all rfl))); exact SameOut.refl)); (case k2 => ((repeat (refine SameOut.upd ?_ (by with_unfolding_all rfl))); exact SameOut.refl)))
    | (refine' SameOut.both (b := ?kb) ?k1 ?k2; (case k2 => ((repeat (refine SameOut.upd ?_ (by with_unfolding_all rfl))); exact SameOut.refl)); (case k1 => ((repeat (refine SameOut.skip ?_)); (repeat (refine SameOut.upd ?_ (by with_unfolding_all rfl))); exact SameOut.refl)))
    | (intro y hy; (repeat (refine (if_neg (ne_of_out hy (by with_unfolding_all rfl))).trans ?_)); (refine Eq.symm ?_); (repeat (refine (if_neg (ne_of_out hy (by with_unfolding_all rfl))).trans ?_)); first | rfl | exact lookup_out rfl hy | exact (lookup_out rfl hy).symm | exact (lookup_out rfl hy).trans (lookup_out rfl hy).symm))
  k_with "M fill" => ((
    have kk : PySem.Challenge.rw_pm0034_03 = PySem.Challenge.rw_pm0034_03 ∧ KK.heap_1 = KK.heap_1 := ⟨rfl, rfl⟩
    revert kk
    k_fill
    intro kk
    clear kk))
  k_with "subscriptTail Name Constant ref int" => ((k_here; refine item_listL (News.isList (by assumption) (by k_mem)) (by decide) (by decide) (by rfl) ?_))
  k_with "subscriptTail Name Name ref int" => ((k_here; k_dflt (refine' item_listL (News.isList ?zN ?zm) ?z0 ?zf ?zv ?_; (case zN => with_reducible assumption); (case zm => k_mem); (case z0 => omega); (case zf => omega); (case zv => simpa using (by assumption)))))
  k_with "subscriptTail Subscript Slice ref ref" => ((k_here; k_dflt (refine' slice_L ?zF ?zN ?zl ?zp ?zq ?zz ?ze ?_; (case zF => k_asm); (case zN => k_asm); (case zl => k_mem); (case zp => kmk_part); (case zq => kmk_part); (case zz => exact Nat.le_of_ble_eq_true rfl); (case ze => exact rfl)); intro D' h' F' N' l1; (try k_lt l1); (try k_sweep)))
  k_with "call type:list" => ((k_here; (with_reducible show wpAny _ _ (call (Value.type "list") [Value.ref _]) _ _ _); k_dflt (refine' list_of_L ?zF ?zN ?zb ?zz ?_; (case zF => k_asm); (case zN => k_asm); (case zb => k_mem); (case zz => omega)); intro D' c' h' F' N' l1; (try k_lt l1); (try k_sweep)))
  k_with "compareOp NotEq ref ref" => ((k_here; (with_reducible show wpAny _ _ (compareOp CmpOp.NotEq (Value.ref _) (Value.ref _)) _ _ _); k_dflt (refine' ne_strs_L ?zN ?za ?zb ?zs ?zt ?zu ?_; (case zN => k_asm); (case za => k_mem); (case zb => k_mem); (case zs => with_reducible assumption); (case zt => with_reducible assumption); (case zu => ((try dsimp only); omega)))))
  k_with "compareOp NotEq str str" => ((with_reducible refine ne_str_same ?_))
  k_with "compareOp NotEq ref ref" => ((k_here; (with_reducible show wpAny _ _ (compareOp CmpOp.NotEq (Value.ref _) (Value.ref _)) _ _ _); k_dflt (refine' ne_strs_same ?zN ?za ?zb ?zs ?zu ?_; (case zN => k_asm); (case za => k_mem); (case zb => k_mem); (case zs => with_reducible assumption); (case zu => ((try dsimp only); omega)))))
  k_with "binaryOp Mult int int" => (refine mul_int (hm := by assumption) ?_)
  k_with "compareOp NotEq ref ref" => ((k_here; (with_reducible show wpAny _ _ (compareOp CmpOp.NotEq (Value.ref _) (Value.ref _)) _ _ _); k_dflt (refine' ne_ints_same ?zN ?za ?zb ?zs ?zu ?_; (case zN => k_asm); (case za => k_mem); (case zb => k_mem); (case zs => with_reducible assumption); (case zu => ((try dsimp only); omega)))))
  k_with "call builtin:list.insert" => ((k_here; (with_reducible show wpAny _ _ (call (Value.builtin "list.insert") [Value.ref _, Value.int _ _, _]) _ _ _); k_dflt (refine' insert_L ?zF ?zN ?zU ?z0 ?z1 ?zz ?_; (case zF => k_asm); (case zN => k_asm); (case zU => exact UpdF.head (fun p hp => Nat.ne_of_lt (ktn_ltOf (by assumption) p hp))); (case z0 => omega); (case z1 => omega); (case zz => omega)); intro h' F' N'))
  trivial
local macro_rules | `(tactic| k_mem) => `(tactic| first | with_reducible assumption | (refine mem_in ?_; with_reducible assumption))
theorem lines_QG_1 : True := by
  k_with "pyIter ref" => ((refine Hold.mk ?_))
  trivial
theorem sz_at {i lv : Nat} {sh : Int} (hlv : lv = 3 ∨ lv = 4) : ∃ sz : Nat, (if (i : Int).fmod 2 ≠ 0 then ((i : Int) / 2 + sh).fmod lv else (lv : Int)) = (sz : Int) := by
  split
  · have := Int.fmod_nonneg_of_pos ((i : Int) / 2 + sh) (show 0 < (lv : Int) by omega)
    exact ⟨_, (Int.toNat_of_nonneg this).symm⟩
  · exact ⟨lv, rfl⟩
theorem sg_at (z : Int) : ∃ q : Nat, q < 27 ∧ 10 * (z.fmod 27) - 10 = sgOf q := by
  have h1 := Int.fmod_nonneg_of_pos z (show (0 : Int) < 27 by decide)
  have h2 := Int.fmod_lt_of_pos z (show (0 : Int) < 27 by decide)
  refine ⟨(z.fmod 27).toNat, by omega, ?_⟩
  unfold sgOf
  omega
section
variable {w : World} {p : Program} {loose : List PStr} {mean : ExcName → Option Value} {mg mb : PStr → Option Value}
    {dp un : Nat} {gd : Option (List Code)} {a : Addr} {ccd : Value} {c1 c2 c3 : Addr} {A₀ : Around} {base h₀ : Heap} {L : Addr}
    {s : Shared} {news : Ldg}
    (B : Below A₀ base [] h₀) (X : (KK.heap_1 w.params).In h₀) (T : Top p loose mean mg mb h₀) (XB : (KK.heap_1 w.params).In base) (TB : Top p loose mean mg mb base)
include B X T XB TB

theorem law_loop {o : OV} {lv lo : Nat} {tlv : Tok} {ns : List Int} {nvs fvs tvs svs pvs : List Value} {ts : List (PStr × Option PStr × PStr)} {dn dpo : Addr} {est epo et : Nat} {o1 o2 o3 : Obj} {jk : PStr → Option Value} {Q : Flow → Shared → Prop} {E : Value → Shared → Prop}
   (hd5 : dp + 60 < recursionLimit) (hu5 : un + 500 < cLine) (hlv : lv = 3 ∨ lv = 4) (hlo : o.lo = lo) (hlo2 : lo ≤ 2)
   (hE : PassesOwn (model PySem.Challenge.rw_pm0034_03.row.prog w) (ktrTop dp un gd (PySem.Str.ofString "law") lawScope3 L a ccd (cells3 c1 c2 c3) []) (envX (PySem.Str.ofString "law") lawScope3 L a ccd (cells3 c1 c2 c3)) E)
   (F : Fr h₀ L s.heap (oMap o jk)) (N : News h₀ L s.heap news)
   (hc1 : (c1, o1) ∈ news) (ho1 : o1.data = .cell (some (.ref dn))) (hdn : (dn, lstOf nvs 0) ∈ news) (hns : IntsAre nvs ns) (hnl : ns.length = 15)
   (hc2 : (c2, o2) ∈ news) (ho2 : o2.data = .cell (some (.int (lv : Int) tlv)))
   (hc3 : (c3, o3) ∈ news) (ho3 : o3.data = .cell (some (.ref dpo))) (hpo : (dpo, lstOf pvs epo) ∈ news) (hpi : IntsAre pvs ((fs3 lv).map port3))
   (hfr : (o.dfr, lstOf fvs 0) ∈ news) (hP : PairsAre news fvs (fs3 lv)) (hth : (o.dth, lstOf tvs et) ∈ news) (hT : ThingsAre news tvs ts) (tl : ts.length = (fs3 lv).length)
   (th : ∀ j (h : j < (fs3 lv).length) (h' : j < ts.length), ThOk (port3 (fs3 lv)[j]) ts[j]) (hst : (o.dst, lstOf svs est) ∈ news) (hss : StrsAre svs (start3 lo ts))
   (hret : ∀ h' tk jk', Fr h₀ L h' (oMap o jk') → News h₀ L h' news → Q (.ret (.bool true)) { s with heap := h', toks := tk }) :
   wpC (model PySem.Challenge.rw_pm0034_03.row.prog w) (ktrTop dp un gd (PySem.Str.ofString "law") lawScope3 L a ccd (cells3 c1 c2 c3) []) (execs (lawStmts3.drop 9) (envX (PySem.Str.ofString "law") lawScope3 L a ccd (cells3 c1 c2 c3))) Q E s := by
  walk_at "M fill"
  show wpC _ (ktrTop _ _ _ _ (Scope.mk _ _ _ _ _) _ _ _ _ _) (execs (_ :: _ :: []) (envX _ (Scope.mk _ _ _ _ _) _ _ _ _)) _ _ _
  refine execs_C ?_
  refine' For_turns_C F ?_ ?hs ?hE
  case hE => exact hE
  case hs => intro x; rfl
  k_fold
  k_steps
  refine Hold.out ?_
  refine' pyIter_rangeC (fun _ (_ : PStr → Option Value) => True) (fun _ σ => oMap o σ) (fun _ _ => news) 8 jk [] (by assumption) (by assumption) (by assumption) rfl (by decide) trivial (fun _ h => nomatch h) (fun _ _ => rfl) (fun q hq => by first | exact hq | exact .tail _ hq) ?turn ?done
  case done =>
    intro σ h tk _ kF kN
    refine wpC_any ?_
    (try k_fold)
    k_steps
    exact hret _ _ _ kF kN
  case turn =>
    intro i σ h tk t own hi _ hne kF kN
    dsimp only at kF kN
    k_fold
    k_steps
    obtain ⟨sz, hsz⟩ := sz_at (i := i) (sh := o.sh) hlv
    obtain ⟨qn, hqn, hsg⟩ := sg_at (ns.getD i 0 / 10)
    have tm : ∀ p ∈ news, p ∈ own :: news := fun p hp => .tail _ hp
    refine turn_all B X T XB TB hd5 hu5 hi hlv hlo hlo2 hE (by assumption) (by assumption) (tm _ hc1) ho1 (tm _ hdn) hns hnl (tm _ hc2) ho2 (tm _ hc3) ho3 (tm _ hpo) hpi (tm _ hfr) (hP.mono tm) (tm _ hth) (hT.mono tm) tl th (tm _ hst) hss hsz rfl hqn hsg ?_
    intro h2 tk2 jk2 F2 N2
    exact turnFr_next jk2 [] F2 N2 trivial (fun _ h => nomatch h) (fun _ _ => rfl) (fun q hq => hq) hne
end
end Mine
end
section
open PySem PySem.W PyProof.Rows PySem.Spec PySem.Calls
set_option Elab.async false
set_option maxRecDepth 100000
set_option maxHeartbeats 8000000
set_option linter.all false
namespace Mine
local macro_rules | `(tactic| walk_at $s:str) => `(tactic| k_extra $s)
local macro_rules | `(tactic| omega) => `(tactic| first
  | with_reducible assumption
  | (refine' room1 ?rmh ?rme; (case rmh => with_reducible assumption); (case rme => with_unfolding_all rfl))
  | (refine' room0 ?rmh ?rme; (case rmh => with_reducible assumption); (case rme => with_unfolding_all rfl))
  | (refine' room2 ?rmh ?rme; (case rmh => with_reducible assumption); (case rme => with_unfolding_all rfl))
  | (refine' room00 ?rmh; (case rmh => with_reducible assumption))
  | (refine num_le ?rme; (case rme => with_unfolding_all rfl))
  | (refine num_lt ?rme; (case rme => with_unfolding_all rfl))
  | (refine' le_num ?rmh ?rme; (case rmh => with_reducible assumption); (case rme => with_unfolding_all rfl))
  | (refine' eq_num ?rmh ?rme; (case rmh => with_reducible assumption); (case rme => with_unfolding_all rfl))
  | omega (config := {}))
theorem lines_QH_0 : True := by
  k_with_none
  k_with "execs cons" => ((refine f_execs ?_; intro qk))
  k_with "eval BinOp" => ((refine f_BinOp ?_; intro qk))
  k_with "exec Assign" => ((refine f_Assign ?_; intro qk))
  k_with "eval Subscript" => ((refine f_Subscript ?_; intro qk))
  k_with "isTrue Compare" => ((refine f_Compare ?_; intro qk))
  k_with "exec If" => ((refine f_If ?_; intro qk))
  k_with "eval Call" => (((fail_if_success (with_reducible show wpAny _ _ (eval (Expr.Call (Expr.Attribute _ _ _) _ _ _) _) _ _ _)); refine f_Call ?_; intro qk))
  k_with "spliced" => ((refine f_args ?_; intro qk))
  k_with "callWith" => ((refine f_method1 ?_; intro qk))
  k_with "exec Return some" => ((refine f_Return ?_; intro qk))
  k_with "eval Tuple" => ((refine f_Tuple ?_; intro qk))
  k_with "eval List" => ((refine f_List ?_; intro qk))
  k_with "eval IfExp" => ((refine f_IfExp ?_; intro qk))
  k_with "storeName" => ((k_here; k_dflt (refine' f_store ?F ?N ?_ ?a ?b; (case F => k_asm); (case N => k_asm); (case a => rfl); (case b => rfl); k_whole; intro m' h' F' N'; (try k_sweep))))
  k_with "M map1" => (first
    | (refine map_same ?_; with_unfolding_all rfl)
    | ((repeat' (refine List.forall_mem_cons.mpr (And.intro ?_ ?_))); (all_goals first | rfl | exact List.forall_mem_nil _)))
  k_with "M map2" => (first
    | (refine SameOut.both (b := fun _ => none) ?_ ?_ <;> (repeat (refine SameOut.upd ?_ (by with_unfolding_all rfl))) <;> exact SameOut.lookup rfl)
    | (refine' SameOut.both (b := ?kb) ?k1 ?k2; (case k1 => ((repeat (refine SameOut.upd ?_ (by with_unfolding_all rfl))); exact SameOut.refl)); (case k2 => ((repeat (refine SameOut.upd ?_ (by with_unfolding_all rfl))); exact SameOut.refl)))
    | (refine' SameOut.both (b := ?kb) ?k1 ?k2; (case k2 => ((repeat (refine SameOut.upd ?_ (by with_unfolding_all rfl))); exact SameOut.refl)); (case k1 => ((repeat (refine SameOut.skip ?_)); (repeat (refine SameOut.upd ?_ (by with_unfolding_all rfl))); exact SameOut.refl)))
    | (intro y hy; (repeat (refine (if_neg (ne_of_out hy (by with_unfolding_all rfl))).trans ?_)); (refine Eq.symm ?_); (repeat (refine (if_neg (ne_of_out hy (by with_unfolding_all rfl))).trans ?_)); first | rfl | exact lookup_out rfl hy | exact (lookup_out rfl hy).symm | exact (lookup_out rfl hy).trans (lookup_out rfl hy).symm))
  k_with "M fill" => ((
    have kk : PySem.Challenge.rw_pm0034_03 = PySem.Challenge.rw_pm0034_03 ∧ KK.heap_1 = KK.heap_1 := ⟨rfl, rfl⟩
    revert kk
    k_fill
    intro kk
    clear kk))
  k_with "subscriptTail Name Constant ref int" => ((k_here; refine item_listL (News.isList (by assumption) (by k_mem)) (by decide) (by decide) (by rfl) ?_))
  k_with "subscriptTail Name Name ref int" => ((k_here; k_dflt (refine' item_listL (News.isList ?zN ?zm) ?z0 ?zf ?zv ?_; (case zN => with_reducible assumption); (case zm => k_mem); (case z0 => omega); (case zf => omega); (case zv => simpa using (by assumption)))))
  k_with "subscriptTail Subscript Slice ref ref" => ((k_here; k_dflt (refine' slice_L ?zF ?zN ?zl ?zp ?zq ?zz ?ze ?_; (case zF => k_asm); (case zN => k_asm); (case zl => k_mem); (case zp => kmk_part); (case zq => kmk_part); (case zz => exact Nat.le_of_ble_eq_true rfl); (case ze => exact rfl)); intro D' h' F' N' l1; (try k_lt l1); (try k_sweep)))
  k_with "call type:list" => ((k_here; (with_reducible show wpAny _ _ (call (Value.type "list") [Value.ref _]) _ _ _); k_dflt (refine' list_of_L ?zF ?zN ?zb ?zz ?_; (case zF => k_asm); (case zN => k_asm); (case zb => k_mem); (case zz => omega)); intro D' c' h' F' N' l1; (try k_lt l1); (try k_sweep)))
  k_with "compareOp NotEq ref ref" => ((k_here; (with_reducible show wpAny _ _ (compareOp CmpOp.NotEq (Value.ref _) (Value.ref _)) _ _ _); k_dflt (refine' ne_strs_L ?zN ?za ?zb ?zs ?zt ?zu ?_; (case zN => k_asm); (case za => k_mem); (case zb => k_mem); (case zs => with_reducible assumption); (case zt => with_reducible assumption); (case zu => ((try dsimp only); omega)))))
  k_with "compareOp NotEq str str" => ((with_reducible refine ne_str_same ?_))
  k_with "compareOp NotEq ref ref" => ((k_here; (with_reducible show wpAny _ _ (compareOp CmpOp.NotEq (Value.ref _) (Value.ref _)) _ _ _); k_dflt (refine' ne_strs_same ?zN ?za ?zb ?zs ?zu ?_; (case zN => k_asm); (case za => k_mem); (case zb => k_mem); (case zs => with_reducible assumption); (case zu => ((try dsimp only); omega)))))
  k_with "binaryOp Mult int int" => (refine mul_int (hm := by assumption) ?_)
  k_with "compareOp NotEq ref ref" => ((k_here; (with_reducible show wpAny _ _ (compareOp CmpOp.NotEq (Value.ref _) (Value.ref _)) _ _ _); k_dflt (refine' ne_ints_same ?zN ?za ?zb ?zs ?zu ?_; (case zN => k_asm); (case za => k_mem); (case zb => k_mem); (case zs => with_reducible assumption); (case zu => ((try dsimp only); omega)))))
  k_with "call builtin:list.insert" => ((k_here; (with_reducible show wpAny _ _ (call (Value.builtin "list.insert") [Value.ref _, Value.int _ _, _]) _ _ _); k_dflt (refine' insert_L ?zF ?zN ?zU ?z0 ?z1 ?zz ?_; (case zF => k_asm); (case zN => k_asm); (case zU => exact UpdF.head (fun p hp => Nat.ne_of_lt (ktn_ltOf (by assumption) p hp))); (case z0 => omega); (case z1 => omega); (case zz => omega)); intro h' F' N'))
  trivial
local macro_rules | `(tactic| k_mem) => `(tactic| first | with_reducible assumption | (refine mem_in ?_; with_reducible assumption))
section
variable {w : World} {p : Program} {loose : List PStr} {mean : ExcName → Option Value} {mg mb : PStr → Option Value}
    {dp un : Nat} {gd : Option (List Code)} {a : Addr} {ccd : Value} {c1 c2 c3 : Addr} {A₀ : Around} {base h₀ : Heap} {L : Addr}
    {s : Shared} {news : Ldg}
    (B : Below A₀ base [] h₀) (X : (KK.heap_1 w.params).In h₀) (T : Top p loose mean mg mb h₀) (XB : (KK.heap_1 w.params).In base) (TB : Top p loose mean mg mb base)
include B X T XB TB

theorem law_p1 {dn : Addr} {nvs : List Value} {ns : List Int} {o1 o2 o3 : Obj} {m : PStr → Option Value} {Q : Flow → Shared → Prop} {E : Value → Shared → Prop}
   (hd5 : dp + 60 < recursionLimit) (hu5 : un + 500 < cLine)
   (F : Fr h₀ L s.heap m) (N : News h₀ L s.heap [(dn, lstOf nvs 0), (c3, o3), (c2, o2), (c1, o1)]) (l12 : @LT.lt Nat _ c1 c2) (l23 : @LT.lt Nat _ c2 c3) (l3d : @LT.lt Nat _ c3 dn)
   (ho1 : o1.data = .cell (some (.ref dn))) (ho2 : o2.data = .cell none) (hns : IntsAre nvs ns) (hnl : ns.length = 15)
   (hret : ∀ h' tk t1 t2 t3 o2' (lv lo : Nat) (sh : Int), (lv = 3 ∨ lv = 4) → lo ≤ 2 → o2'.data = .cell (some (.int (lv : Int) t1)) →
      Fr h₀ L h' (fun y => if y = PySem.Str.ofString "low" then some (.int (lo : Int) t3) else if y = PySem.Str.ofString "shift" then some (.int sh t2) else m y) → News h₀ L h' [(dn, lstOf nvs 0), (c3, o3), (c2, o2'), (c1, o1)] → Q .next { s with heap := h', toks := tk }) :
   wpAny (model PySem.Challenge.rw_pm0034_03.row.prog w) (ktrTop dp un gd (PySem.Str.ofString "law") lawScope3 L a ccd (cells3 c1 c2 c3) []) (execs ((lawStmts3.drop 1).take 3) (envX (PySem.Str.ofString "law") lawScope3 L a ccd (cells3 c1 c2 c3))) Q E s := by
  walk_at "M fill"
  show wpAny _ (ktrTop _ _ _ _ (Scope.mk _ _ _ _ _) _ _ _ _ _) (execs (_ :: _ :: _ :: []) (envX _ (Scope.mk _ _ _ _ _) _ _ _ _)) _ _ _
  k_steps
  have b1 := Int.fmod_nonneg_of_pos ns.sum (show (0 : Int) < 2 by decide)
  have b2 := Int.fmod_lt_of_pos ns.sum (show (0 : Int) < 2 by decide)
  have b3 := Int.fmod_nonneg_of_pos (ns.sum.fdiv 2) (show (0 : Int) < 12 by decide)
  have b4 := Int.fmod_lt_of_pos (ns.sum.fdiv 2) (show (0 : Int) < 12 by decide)
  have b5 : ((ns.sum.fdiv 2).fmod 12).fdiv 4 = ((ns.sum.fdiv 2).fmod 12) / 4 := Int.fdiv_eq_ediv_of_nonneg _ (by decide)
  obtain ⟨lv, elv⟩ := Int.eq_ofNat_of_zero_le (show 0 ≤ 3 + ns.sum.fmod 2 by omega)
  obtain ⟨lo, elo⟩ := Int.eq_ofNat_of_zero_le (show 0 ≤ ((ns.sum.fdiv 2).fmod 12).fdiv 4 by omega)
  (with_reducible rename Fr _ _ _ _ => kF)
  (with_reducible rename News _ _ _ _ => kN)
  rename _ = Data.cell (some (Value.int _ _)) => kd
  rw [elv] at kd
  refine' hret _ _ _ _ _ _ lv lo _ (by omega) (by omega) kd ?kf kN
  case kf => rw [← elo]; exact kF
end
end Mine
end
section
open PySem PySem.W PyProof.Rows PySem.Spec PySem.Calls
set_option Elab.async false
set_option maxRecDepth 100000
set_option maxHeartbeats 8000000
set_option linter.all false
namespace Mine
local macro_rules | `(tactic| walk_at "M nothing") => `(tactic| skip)
local macro_rules | `(tactic| walk_at $s:str) => `(tactic| k_extra $s)
local macro_rules | `(tactic| omega) => `(tactic| first
  | with_reducible assumption
  | (refine' room1 ?rmh ?rme; (case rmh => with_reducible assumption); (case rme => with_unfolding_all rfl))
  | (refine' room0 ?rmh ?rme; (case rmh => with_reducible assumption); (case rme => with_unfolding_all rfl))
  | (refine' room2 ?rmh ?rme; (case rmh => with_reducible assumption); (case rme => with_unfolding_all rfl))
  | (refine' room00 ?rmh; (case rmh => with_reducible assumption))
  | (refine num_le ?rme; (case rme => with_unfolding_all rfl))
  | (refine num_lt ?rme; (case rme => with_unfolding_all rfl))
  | (refine' le_num ?rmh ?rme; (case rmh => with_reducible assumption); (case rme => with_unfolding_all rfl))
  | (refine' eq_num ?rmh ?rme; (case rmh => with_reducible assumption); (case rme => with_unfolding_all rfl))
  | omega (config := {}))
theorem lines_QI_0 : True := by
  k_with_none
  k_with "execs cons" => ((refine f_execs ?_; intro qk))
  k_with "eval BinOp" => ((refine f_BinOp ?_; intro qk))
  k_with "exec Assign" => ((refine f_Assign ?_; intro qk))
  k_with "eval Subscript" => ((refine f_Subscript ?_; intro qk))
  k_with "isTrue Compare" => ((refine f_Compare ?_; intro qk))
  k_with "exec If" => ((refine f_If ?_; intro qk))
  k_with "eval Call" => (((fail_if_success (with_reducible show wpAny _ _ (eval (Expr.Call (Expr.Attribute _ _ _) _ _ _) _) _ _ _)); refine f_Call ?_; intro qk))
  k_with "spliced" => ((refine f_args ?_; intro qk))
  k_with "callWith" => ((refine f_method1 ?_; intro qk))
  k_with "exec Return some" => ((refine f_Return ?_; intro qk))
  k_with "eval Tuple" => ((refine f_Tuple ?_; intro qk))
  k_with "eval List" => ((refine f_List ?_; intro qk))
  k_with "eval IfExp" => ((refine f_IfExp ?_; intro qk))
  k_with "storeName" => ((k_here; k_dflt (refine' f_store ?F ?N ?_ ?a ?b; (case F => k_asm); (case N => k_asm); (case a => rfl); (case b => rfl); k_whole; intro m' h' F' N'; (try k_sweep))))
  k_with "M map1" => (first
    | (refine map_same ?_; with_unfolding_all rfl)
    | ((repeat' (refine List.forall_mem_cons.mpr (And.intro ?_ ?_))); (all_goals first | rfl | exact List.forall_mem_nil _)))
  k_with "M map2" => (first
    | (refine SameOut.both (b := fun _ => none) ?_ ?_ <;> (repeat (refine SameOut.upd ?_ (by with_unfolding_all rfl))) <;> exact SameOut.lookup rfl)
    | (refine' SameOut.both (b := ?kb) ?k1 ?k2; (case k1 => ((repeat (refine SameOut.upd ?_ (by with_unfolding_all rfl))); exact SameOut.refl)); (case k2 => ((repeat (refine SameOut.upd ?_ (by with_unfolding_all rfl))); exact SameOut.refl)))
    | (refine' SameOut.both (b := ?kb) ?k1 ?k2; (case k2 => ((repeat (refine SameOut.upd ?_ (by with_unfolding_all rfl))); exact SameOut.refl)); (case k1 => ((repeat (refine SameOut.skip ?_)); (repeat (refine SameOut.upd ?_ (by with_unfolding_all rfl))); exact SameOut.refl)))
    | (intro y hy; (repeat (refine (if_neg (ne_of_out hy (by with_unfolding_all rfl))).trans ?_)); (refine Eq.symm ?_); (repeat (refine (if_neg (ne_of_out hy (by with_unfolding_all rfl))).trans ?_)); first | rfl | exact lookup_out rfl hy | exact (lookup_out rfl hy).symm | exact (lookup_out rfl hy).trans (lookup_out rfl hy).symm))
  k_with "M fill" => ((
    have kk : PySem.Challenge.rw_pm0034_03 = PySem.Challenge.rw_pm0034_03 ∧ KK.heap_1 = KK.heap_1 := ⟨rfl, rfl⟩
    revert kk
    k_fill
    intro kk
    clear kk))
  k_with "subscriptTail Name Constant ref int" => ((k_here; refine item_listL (News.isList (by assumption) (by k_mem)) (by decide) (by decide) (by rfl) ?_))
  k_with "subscriptTail Name Name ref int" => ((k_here; k_dflt (refine' item_listL (News.isList ?zN ?zm) ?z0 ?zf ?zv ?_; (case zN => with_reducible assumption); (case zm => k_mem); (case z0 => omega); (case zf => omega); (case zv => simpa using (by assumption)))))
  k_with "subscriptTail Subscript Slice ref ref" => ((k_here; k_dflt (refine' slice_L ?zF ?zN ?zl ?zp ?zq ?zz ?ze ?_; (case zF => k_asm); (case zN => k_asm); (case zl => k_mem); (case zp => kmk_part); (case zq => kmk_part); (case zz => exact Nat.le_of_ble_eq_true rfl); (case ze => exact rfl)); intro D' h' F' N' l1; (try k_lt l1); (try k_sweep)))
  k_with "call type:list" => ((k_here; (with_reducible show wpAny _ _ (call (Value.type "list") [Value.ref _]) _ _ _); k_dflt (refine' list_of_L ?zF ?zN ?zb ?zz ?_; (case zF => k_asm); (case zN => k_asm); (case zb => k_mem); (case zz => omega)); intro D' c' h' F' N' l1; (try k_lt l1); (try k_sweep)))
  k_with "compareOp NotEq ref ref" => ((k_here; (with_reducible show wpAny _ _ (compareOp CmpOp.NotEq (Value.ref _) (Value.ref _)) _ _ _); k_dflt (refine' ne_strs_L ?zN ?za ?zb ?zs ?zt ?zu ?_; (case zN => k_asm); (case za => k_mem); (case zb => k_mem); (case zs => with_reducible assumption); (case zt => with_reducible assumption); (case zu => ((try dsimp only); omega)))))
  k_with "compareOp NotEq str str" => ((with_reducible refine ne_str_same ?_))
  k_with "compareOp NotEq ref ref" => ((k_here; (with_reducible show wpAny _ _ (compareOp CmpOp.NotEq (Value.ref _) (Value.ref _)) _ _ _); k_dflt (refine' ne_strs_same ?zN ?za ?zb ?zs ?zu ?_; (case zN => k_asm); (case za => k_mem); (case zb => k_mem); (case zs => with_reducible assumption); (case zu => ((try dsimp only); omega)))))
  k_with "binaryOp Mult int int" => (refine mul_int (hm := by assumption) ?_)
  k_with "compareOp NotEq ref ref" => ((k_here; (with_reducible show wpAny _ _ (compareOp CmpOp.NotEq (Value.ref _) (Value.ref _)) _ _ _); k_dflt (refine' ne_ints_same ?zN ?za ?zb ?zs ?zu ?_; (case zN => k_asm); (case za => k_mem); (case zb => k_mem); (case zs => with_reducible assumption); (case zu => ((try dsimp only); omega)))))
  k_with "call builtin:list.insert" => ((k_here; (with_reducible show wpAny _ _ (call (Value.builtin "list.insert") [Value.ref _, Value.int _ _, _]) _ _ _); k_dflt (refine' insert_L ?zF ?zN ?zU ?z0 ?z1 ?zz ?_; (case zF => k_asm); (case zN => k_asm); (case zU => exact UpdF.head (fun p hp => Nat.ne_of_lt (ktn_ltOf (by assumption) p hp))); (case z0 => omega); (case z1 => omega); (case zz => omega)); intro h' F' N'))
  trivial
local macro_rules | `(tactic| k_mem) => `(tactic| first | with_reducible assumption | (refine mem_in ?_; with_reducible assumption))
theorem lines_QI_1 : True := by
  k_with "call ref" => (((with_reducible show wpAny _ _ (call (Value.ref 136) _) _ _ _); refine Hold.mk ?_))
  trivial
section
variable {w : World} {p : Program} {loose : List PStr} {mean : ExcName → Option Value} {mg mb : PStr → Option Value}
    {dp un : Nat} {gd : Option (List Code)} {a : Addr} {ccd : Value} {c1 c2 c3 : Addr} {A₀ : Around} {base h₀ : Heap} {L : Addr}
    {s : Shared} {news : Ldg}
    (B : Below A₀ base [] h₀) (X : (KK.heap_1 w.params).In h₀) (T : Top p loose mean mg mb h₀) (XB : (KK.heap_1 w.params).In base) (TB : Top p loose mean mg mb base)
include B X T XB TB

theorem law_p2 {lv : Nat} {o2 : Obj} {tlv : Tok} {m : PStr → Option Value} {Q : Flow → Shared → Prop} {E : Value → Shared → Prop}
   (hd5 : dp + 60 < recursionLimit) (hu5 : un + 500 < cLine) (hlv : lv = 3 ∨ lv = 4)
   (F : Fr h₀ L s.heap m) (N : News h₀ L s.heap news) (hc2 : (c2, o2) ∈ news) (ho2 : o2.data = .cell (some (.int (lv : Int) tlv)))
   (hret : ∀ h' tk d vs l, PairsAre l vs (fs3 lv) → (∀ p ∈ news, p ∈ l) → Fr h₀ L h' (fun y => if y = PySem.Str.ofString "fractions" then some (.ref d) else m y) → News h₀ L h' ((d, lstOf vs 0) :: l) → (∀ p ∈ l, p.1 < d) → Q .next { s with heap := h', toks := tk }) :
   wpAny (model PySem.Challenge.rw_pm0034_03.row.prog w) (ktrTop dp un gd (PySem.Str.ofString "law") lawScope3 L a ccd (cells3 c1 c2 c3) []) (execs ((lawStmts3.drop 4).take 1) (envX (PySem.Str.ofString "law") lawScope3 L a ccd (cells3 c1 c2 c3))) Q E s := by
  walk_at "M fill"
  have D : KtsDicts (([] : List Env).filterMap (·.frame)) h₀ := fun b hb => nomatch hb
  have hck : lawScope3.kind = .function := by with_unfolding_all rfl
  show wpAny _ (ktrTop _ _ _ _ (Scope.mk _ _ _ _ _) _ _ _ _ _) (execs (_ :: []) (envX _ (Scope.mk _ _ _ _ _) _ _ _ _)) _ _ _
  rcases hlv with rfl | rfl
  · have ho2' : o2.data = .cell (some (.int 3 tlv)) := ho2
    clear ho2
    k_steps
    refine Hold.out ?_
    refine' frac_3 ?kB ?kX ?kT ?kXB ?kTB ?kD ?kh ?kd ?ku ?kF ?kN ?ka ?kb ?_
    case kB => assumption
    case kX => assumption
    case kT => assumption
    case kXB => assumption
    case kTB => assumption
    case kD => assumption
    case kh => rfl
    case kd => ((try dsimp only); omega)
    case ku => ((try dsimp only); omega)
    case kF => with_reducible assumption
    case kN => with_reducible assumption
    case ka => k_mem
    case kb => k_mem
    intro d vs l h' tk hP hsub hF hN hlt
    k_steps
    exact hret _ _ d vs l hP (fun p hp => hsub _ (.tail _ (.tail _ hp))) (by assumption) (by assumption) hlt
  · have ho2' : o2.data = .cell (some (.int 4 tlv)) := ho2
    clear ho2
    k_steps
    refine Hold.out ?_
    refine' frac_4 ?kB ?kX ?kT ?kXB ?kTB ?kD ?kh ?kd ?ku ?kF ?kN ?ka ?kb ?_
    case kB => assumption
    case kX => assumption
    case kT => assumption
    case kXB => assumption
    case kTB => assumption
    case kD => assumption
    case kh => rfl
    case kd => ((try dsimp only); omega)
    case ku => ((try dsimp only); omega)
    case kF => with_reducible assumption
    case kN => with_reducible assumption
    case ka => k_mem
    case kb => k_mem
    intro d vs l h' tk hP hsub hF hN hlt
    k_steps
    exact hret _ _ d vs l hP (fun p hp => hsub _ (.tail _ (.tail _ hp))) (by assumption) (by assumption) hlt
end
end Mine
end
section
open PySem PySem.W PyProof.Rows PySem.Spec PySem.Calls
set_option Elab.async false
set_option maxRecDepth 100000
set_option maxHeartbeats 8000000
set_option linter.all false
namespace Mine
local macro_rules | `(tactic| walk_at $s:str) => `(tactic| k_extra $s)
local macro_rules | `(tactic| omega) => `(tactic| first
  | with_reducible assumption
  | (refine' room1 ?rmh ?rme; (case rmh => with_reducible assumption); (case rme => with_unfolding_all rfl))
  | (refine' room0 ?rmh ?rme; (case rmh => with_reducible assumption); (case rme => with_unfolding_all rfl))
  | (refine' room2 ?rmh ?rme; (case rmh => with_reducible assumption); (case rme => with_unfolding_all rfl))
  | (refine' room00 ?rmh; (case rmh => with_reducible assumption))
  | (refine num_le ?rme; (case rme => with_unfolding_all rfl))
  | (refine num_lt ?rme; (case rme => with_unfolding_all rfl))
  | (refine' le_num ?rmh ?rme; (case rmh => with_reducible assumption); (case rme => with_unfolding_all rfl))
  | (refine' eq_num ?rmh ?rme; (case rmh => with_reducible assumption); (case rme => with_unfolding_all rfl))
  | omega (config := {}))
theorem lines_QJ_0 : True := by
  k_with_none
  k_with "execs cons" => ((refine f_execs ?_; intro qk))
  k_with "eval BinOp" => ((refine f_BinOp ?_; intro qk))
  k_with "exec Assign" => ((refine f_Assign ?_; intro qk))
  k_with "eval Subscript" => ((refine f_Subscript ?_; intro qk))
  k_with "isTrue Compare" => ((refine f_Compare ?_; intro qk))
  k_with "exec If" => ((refine f_If ?_; intro qk))
  k_with "eval Call" => (((fail_if_success (with_reducible show wpAny _ _ (eval (Expr.Call (Expr.Attribute _ _ _) _ _ _) _) _ _ _)); refine f_Call ?_; intro qk))
  k_with "spliced" => ((refine f_args ?_; intro qk))
  k_with "callWith" => ((refine f_method1 ?_; intro qk))
  k_with "exec Return some" => ((refine f_Return ?_; intro qk))
  k_with "eval Tuple" => ((refine f_Tuple ?_; intro qk))
  k_with "eval List" => ((refine f_List ?_; intro qk))
  k_with "eval IfExp" => ((refine f_IfExp ?_; intro qk))
  k_with "storeName" => ((k_here; k_dflt (refine' f_store ?F ?N ?_ ?a ?b; (case F => k_asm); (case N => k_asm); (case a => rfl); (case b => rfl); k_whole; intro m' h' F' N'; (try k_sweep))))
  k_with "M map1" => (first
    | (refine map_same ?_; with_unfolding_all rfl)
    | ((repeat' (refine List.forall_mem_cons.mpr (And.intro ?_ ?_))); (all_goals first | rfl | exact List.forall_mem_nil _)))
  k_with "M map2" => (first
    | (refine SameOut.both (b := fun _ => none) ?_ ?_ <;> (repeat (refine SameOut.upd ?_ (by with_unfolding_all rfl))) <;> exact SameOut.lookup rfl)
    | (refine' SameOut.both (b := ?kb) ?k1 ?k2; (case k1 => ((repeat (refine SameOut.upd ?_ (by with_unfolding_all rfl))); exact SameOut.refl)); (case k2 => ((repeat (refine SameOut.upd ?_ (by with_unfolding_all rfl))); exact SameOut.refl)))
    | (refine' SameOut.both (b := ?kb) ?k1 ?k2; (case k2 => ((repeat (refine SameOut.upd ?_ (by with_unfolding_all rfl))); exact SameOut.refl)); (case k1 => ((repeat (refine SameOut.skip ?_)); (repeat (refine SameOut.upd ?_ (by with_unfolding_all rfl))); exact SameOut.refl)))
    | (intro y hy; (repeat (refine (if_neg (ne_of_out hy (by with_unfolding_all rfl))).trans ?_)); (refine Eq.symm ?_); (repeat (refine (if_neg (ne_of_out hy (by with_unfolding_all rfl))).trans ?_)); first | rfl | exact lookup_out rfl hy | exact (lookup_out rfl hy).symm | exact (lookup_out rfl hy).trans (lookup_out rfl hy).symm))
  k_with "M fill" => ((
    have kk : PySem.Challenge.rw_pm0034_03 = PySem.Challenge.rw_pm0034_03 ∧ KK.heap_1 = KK.heap_1 := ⟨rfl, rfl⟩
    revert kk
    k_fill
    intro kk
    clear kk))
  k_with "subscriptTail Name Constant ref int" => ((k_here; refine item_listL (News.isList (by assumption) (by k_mem)) (by decide) (by decide) (by rfl) ?_))
  k_with "subscriptTail Name Name ref int" => ((k_here; k_dflt (refine' item_listL (News.isList ?zN ?zm) ?z0 ?zf ?zv ?_; (case zN => with_reducible assumption); (case zm => k_mem); (case z0 => omega); (case zf => omega); (case zv => simpa using (by assumption)))))
  k_with "subscriptTail Subscript Slice ref ref" => ((k_here; k_dflt (refine' slice_L ?zF ?zN ?zl ?zp ?zq ?zz ?ze ?_; (case zF => k_asm); (case zN => k_asm); (case zl => k_mem); (case zp => kmk_part); (case zq => kmk_part); (case zz => exact Nat.le_of_ble_eq_true rfl); (case ze => exact rfl)); intro D' h' F' N' l1; (try k_lt l1); (try k_sweep)))
  k_with "call type:list" => ((k_here; (with_reducible show wpAny _ _ (call (Value.type "list") [Value.ref _]) _ _ _); k_dflt (refine' list_of_L ?zF ?zN ?zb ?zz ?_; (case zF => k_asm); (case zN => k_asm); (case zb => k_mem); (case zz => omega)); intro D' c' h' F' N' l1; (try k_lt l1); (try k_sweep)))
  k_with "compareOp NotEq ref ref" => ((k_here; (with_reducible show wpAny _ _ (compareOp CmpOp.NotEq (Value.ref _) (Value.ref _)) _ _ _); k_dflt (refine' ne_strs_L ?zN ?za ?zb ?zs ?zt ?zu ?_; (case zN => k_asm); (case za => k_mem); (case zb => k_mem); (case zs => with_reducible assumption); (case zt => with_reducible assumption); (case zu => ((try dsimp only); omega)))))
  k_with "compareOp NotEq str str" => ((with_reducible refine ne_str_same ?_))
  k_with "compareOp NotEq ref ref" => ((k_here; (with_reducible show wpAny _ _ (compareOp CmpOp.NotEq (Value.ref _) (Value.ref _)) _ _ _); k_dflt (refine' ne_strs_same ?zN ?za ?zb ?zs ?zu ?_; (case zN => k_asm); (case za => k_mem); (case zb => k_mem); (case zs => with_reducible assumption); (case zu => ((try dsimp only); omega)))))
  k_with "binaryOp Mult int int" => (refine mul_int (hm := by assumption) ?_)
  k_with "compareOp NotEq ref ref" => ((k_here; (with_reducible show wpAny _ _ (compareOp CmpOp.NotEq (Value.ref _) (Value.ref _)) _ _ _); k_dflt (refine' ne_ints_same ?zN ?za ?zb ?zs ?zu ?_; (case zN => k_asm); (case za => k_mem); (case zb => k_mem); (case zs => with_reducible assumption); (case zu => ((try dsimp only); omega)))))
  k_with "call builtin:list.insert" => ((k_here; (with_reducible show wpAny _ _ (call (Value.builtin "list.insert") [Value.ref _, Value.int _ _, _]) _ _ _); k_dflt (refine' insert_L ?zF ?zN ?zU ?z0 ?z1 ?zz ?_; (case zF => k_asm); (case zN => k_asm); (case zU => exact UpdF.head (fun p hp => Nat.ne_of_lt (ktn_ltOf (by assumption) p hp))); (case z0 => omega); (case z1 => omega); (case zz => omega)); intro h' F' N'))
  trivial
local macro_rules | `(tactic| k_mem) => `(tactic| first | with_reducible assumption | (refine mem_in ?_; with_reducible assumption))
theorem lines_QJ_1 : True := by
  k_with "call builtin:len" => ((k_here; (with_reducible show wpAny _ _ (call (Value.builtin "len") [Value.ref _]) _ _ _); k_dflt (refine' len_L ?kN ?kM ?kz ?_; (case kN => with_reducible assumption); (case kM => k_mem); (case kz => omega))))
  k_with "CompSrc" => ((refine Hold.mk ?_))
  k_with "call ref" => (((with_reducible show wpAny _ _ (call (Value.ref 143) _) _ _ _); refine Hold.mk ?_))
  k_with "compareOp NotEq ref ref" => ((refine Hold.mk ?_))
  trivial
theorem shaped3 {lv : Nat} (hlv : lv = 3 ∨ lv = 4) : PySem.SeqAt.shaped (.list ((fs3 lv).map pairD)) = true := by
  rcases hlv with rfl | rfl <;> decide +kernel
theorem off3_one {I C D d : Addr} {o : Obj} {l : Ldg} (h1 : I < d) (h2 : C < d) (h3 : D < d) (h : LCg.Off3 I C D l) : LCg.Off3 I C D ((d, o) :: l) := ⟨⟨Nat.ne_of_gt h1, Nat.ne_of_gt h2, Nat.ne_of_gt h3⟩, h⟩
theorem mem_roll {a b c d : Addr × Obj} {l : Ldg} : ∀ p ∈ a :: b :: c :: d :: l, p ∈ d :: a :: b :: c :: l := by
  intro p hp; simp only [List.mem_cons] at *; rcases hp with h | h | h | h | h <;> simp [h]
section
variable {w : World} {p : Program} {loose : List PStr} {mean : ExcName → Option Value} {mg mb : PStr → Option Value}
    {dp un : Nat} {gd : Option (List Code)} {a : Addr} {ccd : Value} {c1 c2 c3 : Addr} {A₀ : Around} {base h₀ : Heap} {L : Addr}
    {s : Shared} {news : Ldg}
    (B : Below A₀ base [] h₀) (X : (KK.heap_1 w.params).In h₀) (T : Top p loose mean mg mb h₀) (XB : (KK.heap_1 w.params).In base) (TB : Top p loose mean mg mb base)
include B X T XB TB

theorem law_p3 {lv : Nat} {o2 : Obj} {tlv : Tok} {d : Addr} {vs : List Value} {m : PStr → Option Value} {Q : Flow → Shared → Prop} {E : Value → Shared → Prop}
   (hd5 : dp + 60 < recursionLimit) (hu5 : un + 500 < cLine) (hlv : lv = 3 ∨ lv = 4)
   (F : Fr h₀ L s.heap (fun y => if y = PySem.Str.ofString "fractions" then some (.ref d) else m y)) (N : News h₀ L s.heap news) (hc2 : (c2, o2) ∈ news) (ho2 : o2.data = .cell (some (.int (lv : Int) tlv)))
   (hdf : (d, lstOf vs 0) ∈ news) (hP : PairsAre news vs (fs3 lv))
   (hret : ∀ h' tk l, (∀ p ∈ news, p ∈ l) → Fr h₀ L h' (fun y => if y = PySem.Str.ofString "fractions" then some (.ref d) else m y) → News h₀ L h' l → Q .next { s with heap := h', toks := tk }) :
   wpAny (model PySem.Challenge.rw_pm0034_03.row.prog w) (ktrTop dp un gd (PySem.Str.ofString "law") lawScope3 L a ccd (cells3 c1 c2 c3) []) (execs ((lawStmts3.drop 5).take 1) (envX (PySem.Str.ofString "law") lawScope3 L a ccd (cells3 c1 c2 c3))) Q E s := by
  walk_at "M fill"
  have D : KtsDicts (([] : List Env).filterMap (·.frame)) h₀ := fun b hb => nomatch hb
  have hck : lawScope3.kind = .function := by with_unfolding_all rfl
  show wpAny _ (ktrTop _ _ _ _ (Scope.mk _ _ _ _ _) _ _ _ _ _) (execs (_ :: []) (envX _ (Scope.mk _ _ _ _ _) _ _ _ _)) _ _ _
  have hvl : vs.length ≤ 15 := by rw [hP.length, fs3_len]; rcases hlv with rfl | rfl <;> decide
  k_steps
  refine Hold.out ?_
  refine LCg.CompSrc.range rfl (by assumption) (by assumption) (by assumption) (small_one (by omega) (by omega) (by omega) (by omega)) (rangeSize_one _) (Nat.le_trans (m := 1000) (by omega) (by decide)) ?_
  intro g
  refine comp_ind (fun i ys nw => (∀ p ∈ news, p ∈ nw) ∧ PairsAre nw ys ((List.range i).map (rdAt lv))) ⟨fun p hp => hp, .nil⟩ ?turn ?fin
  case turn =>
    rintro i v I oI C oC D' m₂ ys nw h tk E' hi ⟨t, rfl⟩ ⟨hsub, hP2⟩ hC hx kF kN off ne
    have hc2' := hsub _ hc2
    (with_reducible show wpAny _ _ _ _ _ _)
    k_fold
    k_steps
    refine Hold.out ?_
    rw [show (0 + (i : Int) + 1) = ((i + 1 : Nat) : Int) by omega]
    refine' read_spec ?kB ?kX ?kT ?kXB ?kTB ?kD ?kh ?kd ?ku ?kF ?kN ?kp ?kl ?_
    case kB => assumption
    case kX => assumption
    case kT => assumption
    case kXB => assumption
    case kTB => assumption
    case kD => assumption
    case kh => rfl
    case kd => ((try dsimp only); omega)
    case ku => ((try dsimp only); omega)
    case kF => with_reducible assumption
    case kN => with_reducible assumption
    case kp => omega
    case kl => omega
    intro d2 u u' h' tk' F2 N2 l2
    refine LCg.CompEnd.intro F2 N2 ((d2, _) :: nw) mem_roll (off3_one (l2 _ (.head _)) (l2 _ (.tail _ (.head _))) (l2 _ (.tail _ (.tail _ (.head _)))) off) trivial ⟨fun p hp => .tail _ (hsub p hp), ?_⟩
    rw [List.range_succ, List.map_append]
    exact (hP2.mono (fun p hp => .tail _ hp)).append (.cons (.head _) .nil)
  case fin =>
    rintro ys nw ⟨hsub, hP2⟩
    intro D' h tk kF kN off
    k_steps
    refine Hold.out ?_
    have hrd : (List.range vs.length).map (rdAt lv) = fs3 lv := by rw [hP.length]; exact rdOk hlv
    rw [hrd] at hP2
    refine ne_pairs_same kN (.head _) (.tail _ (hsub _ hdf)) (hP2.mono fun p hp => .tail _ hp) (hP.mono fun p hp => .tail _ (hsub p hp)) (shaped3 hlv) (by (try dsimp only); omega) ?_
    k_steps
    exact hret _ _ _ (fun p hp => .tail _ (hsub p hp)) (by assumption) kN
end
end Mine
end
section
open PySem PySem.W PyProof.Rows PySem.Spec PySem.Calls
set_option Elab.async false
set_option maxRecDepth 100000
set_option maxHeartbeats 8000000
set_option linter.all false
namespace Mine
local macro_rules | `(tactic| walk_at "M nothing") => `(tactic| skip)
local macro_rules | `(tactic| walk_at $s:str) => `(tactic| k_extra $s)
local macro_rules | `(tactic| omega) => `(tactic| first
  | with_reducible assumption
  | (refine' room1 ?rmh ?rme; (case rmh => with_reducible assumption); (case rme => with_unfolding_all rfl))
  | (refine' room0 ?rmh ?rme; (case rmh => with_reducible assumption); (case rme => with_unfolding_all rfl))
  | (refine' room2 ?rmh ?rme; (case rmh => with_reducible assumption); (case rme => with_unfolding_all rfl))
  | (refine' room00 ?rmh; (case rmh => with_reducible assumption))
  | (refine num_le ?rme; (case rme => with_unfolding_all rfl))
  | (refine num_lt ?rme; (case rme => with_unfolding_all rfl))
  | (refine' le_num ?rmh ?rme; (case rmh => with_reducible assumption); (case rme => with_unfolding_all rfl))
  | (refine' eq_num ?rmh ?rme; (case rmh => with_reducible assumption); (case rme => with_unfolding_all rfl))
  | omega (config := {}))
theorem lines_QK_0 : True := by
  k_with_none
  k_with "execs cons" => ((refine f_execs ?_; intro qk))
  k_with "eval BinOp" => ((refine f_BinOp ?_; intro qk))
  k_with "exec Assign" => ((refine f_Assign ?_; intro qk))
  k_with "eval Subscript" => ((refine f_Subscript ?_; intro qk))
  k_with "isTrue Compare" => ((refine f_Compare ?_; intro qk))
  k_with "exec If" => ((refine f_If ?_; intro qk))
  k_with "eval Call" => (((fail_if_success (with_reducible show wpAny _ _ (eval (Expr.Call (Expr.Attribute _ _ _) _ _ _) _) _ _ _)); refine f_Call ?_; intro qk))
  k_with "spliced" => ((refine f_args ?_; intro qk))
  k_with "callWith" => ((refine f_method1 ?_; intro qk))
  k_with "exec Return some" => ((refine f_Return ?_; intro qk))
  k_with "eval Tuple" => ((refine f_Tuple ?_; intro qk))
  k_with "eval List" => ((refine f_List ?_; intro qk))
  k_with "eval IfExp" => ((refine f_IfExp ?_; intro qk))
  k_with "storeName" => ((k_here; k_dflt (refine' f_store ?F ?N ?_ ?a ?b; (case F => k_asm); (case N => k_asm); (case a => rfl); (case b => rfl); k_whole; intro m' h' F' N'; (try k_sweep))))
  k_with "M map1" => (first
    | (refine map_same ?_; with_unfolding_all rfl)
    | ((repeat' (refine List.forall_mem_cons.mpr (And.intro ?_ ?_))); (all_goals first | rfl | exact List.forall_mem_nil _)))
  k_with "M map2" => (first
    | (refine SameOut.both (b := fun _ => none) ?_ ?_ <;> (repeat (refine SameOut.upd ?_ (by with_unfolding_all rfl))) <;> exact SameOut.lookup rfl)
    | (refine' SameOut.both (b := ?kb) ?k1 ?k2; (case k1 => ((repeat (refine SameOut.upd ?_ (by with_unfolding_all rfl))); exact SameOut.refl)); (case k2 => ((repeat (refine SameOut.upd ?_ (by with_unfolding_all rfl))); exact SameOut.refl)))
    | (refine' SameOut.both (b := ?kb) ?k1 ?k2; (case k2 => ((repeat (refine SameOut.upd ?_ (by with_unfolding_all rfl))); exact SameOut.refl)); (case k1 => ((repeat (refine SameOut.skip ?_)); (repeat (refine SameOut.upd ?_ (by with_unfolding_all rfl))); exact SameOut.refl)))
    | (intro y hy; (repeat (refine (if_neg (ne_of_out hy (by with_unfolding_all rfl))).trans ?_)); (refine Eq.symm ?_); (repeat (refine (if_neg (ne_of_out hy (by with_unfolding_all rfl))).trans ?_)); first | rfl | exact lookup_out rfl hy | exact (lookup_out rfl hy).symm | exact (lookup_out rfl hy).trans (lookup_out rfl hy).symm))
  k_with "M fill" => ((
    have kk : PySem.Challenge.rw_pm0034_03 = PySem.Challenge.rw_pm0034_03 ∧ KK.heap_1 = KK.heap_1 := ⟨rfl, rfl⟩
    revert kk
    k_fill
    intro kk
    clear kk))
  k_with "subscriptTail Name Constant ref int" => ((k_here; refine item_listL (News.isList (by assumption) (by k_mem)) (by decide) (by decide) (by rfl) ?_))
  k_with "subscriptTail Name Name ref int" => ((k_here; k_dflt (refine' item_listL (News.isList ?zN ?zm) ?z0 ?zf ?zv ?_; (case zN => with_reducible assumption); (case zm => k_mem); (case z0 => omega); (case zf => omega); (case zv => simpa using (by assumption)))))
  k_with "subscriptTail Subscript Slice ref ref" => ((k_here; k_dflt (refine' slice_L ?zF ?zN ?zl ?zp ?zq ?zz ?ze ?_; (case zF => k_asm); (case zN => k_asm); (case zl => k_mem); (case zp => kmk_part); (case zq => kmk_part); (case zz => exact Nat.le_of_ble_eq_true rfl); (case ze => exact rfl)); intro D' h' F' N' l1; (try k_lt l1); (try k_sweep)))
  k_with "call type:list" => ((k_here; (with_reducible show wpAny _ _ (call (Value.type "list") [Value.ref _]) _ _ _); k_dflt (refine' list_of_L ?zF ?zN ?zb ?zz ?_; (case zF => k_asm); (case zN => k_asm); (case zb => k_mem); (case zz => omega)); intro D' c' h' F' N' l1; (try k_lt l1); (try k_sweep)))
  k_with "compareOp NotEq ref ref" => ((k_here; (with_reducible show wpAny _ _ (compareOp CmpOp.NotEq (Value.ref _) (Value.ref _)) _ _ _); k_dflt (refine' ne_strs_L ?zN ?za ?zb ?zs ?zt ?zu ?_; (case zN => k_asm); (case za => k_mem); (case zb => k_mem); (case zs => with_reducible assumption); (case zt => with_reducible assumption); (case zu => ((try dsimp only); omega)))))
  k_with "compareOp NotEq str str" => ((with_reducible refine ne_str_same ?_))
  k_with "compareOp NotEq ref ref" => ((k_here; (with_reducible show wpAny _ _ (compareOp CmpOp.NotEq (Value.ref _) (Value.ref _)) _ _ _); k_dflt (refine' ne_strs_same ?zN ?za ?zb ?zs ?zu ?_; (case zN => k_asm); (case za => k_mem); (case zb => k_mem); (case zs => with_reducible assumption); (case zu => ((try dsimp only); omega)))))
  k_with "binaryOp Mult int int" => (refine mul_int (hm := by assumption) ?_)
  k_with "compareOp NotEq ref ref" => ((k_here; (with_reducible show wpAny _ _ (compareOp CmpOp.NotEq (Value.ref _) (Value.ref _)) _ _ _); k_dflt (refine' ne_ints_same ?zN ?za ?zb ?zs ?zu ?_; (case zN => k_asm); (case za => k_mem); (case zb => k_mem); (case zs => with_reducible assumption); (case zu => ((try dsimp only); omega)))))
  k_with "call builtin:list.insert" => ((k_here; (with_reducible show wpAny _ _ (call (Value.builtin "list.insert") [Value.ref _, Value.int _ _, _]) _ _ _); k_dflt (refine' insert_L ?zF ?zN ?zU ?z0 ?z1 ?zz ?_; (case zF => k_asm); (case zN => k_asm); (case zU => exact UpdF.head (fun p hp => Nat.ne_of_lt (ktn_ltOf (by assumption) p hp))); (case z0 => omega); (case z1 => omega); (case zz => omega)); intro h' F' N'))
  trivial
local macro_rules | `(tactic| k_mem) => `(tactic| first | with_reducible assumption | (refine mem_in ?_; with_reducible assumption))
theorem lines_QK_1 : True := by
  k_with "call builtin:len" => ((k_here; (with_reducible show wpAny _ _ (call (Value.builtin "len") [Value.ref _]) _ _ _); k_dflt (refine' len_L ?kN ?kM ?kz ?_; (case kN => with_reducible assumption); (case kM => k_mem); (case kz => omega))))
  k_with "CompSrc" => ((refine Hold.mk ?_))
  k_with "storeName" => ((refine Hold.mk ?_))
  k_with "binaryOp FloorDiv int int" => ((k_here; (with_reducible refine floordiv_pos ?kb1 ?kb2 ?_); (case kb1 => assumption); (case kb2 => assumption)))
  trivial
theorem off1_mem {D : Addr} {l : Ldg} (h : LCg.Off1 D l) : ∀ p ∈ l, p.1 ≠ D := by
  induction l with
  | nil => intro p hp; cases hp
  | cons q r ih =>
    intro p hp
    rcases List.mem_cons.mp hp with e | hp
    · rw [e]; exact h.1
    · exact ih h.2 p hp
theorem at_arr {vs : List Value} {i : Nat} {v x : Value} (h : vs.toArray[i]? = some v) (h2 : vs[i]? = some x) : v = x := by
  rw [List.getElem?_toArray, h2] at h
  exact (Option.some.inj h).symm
theorem log_small {n : Int} (h : n.natAbs ≤ 100) : n.natAbs.log2 < 9000 := Nat.lt_of_le_of_lt (Nat.log2_le_self _) (by omega)
theorem ints_snoc {vs : List Value} {ns : List Int} {n : Int} {t : Tok} (h : IntsAre vs ns) : IntsAre (vs ++ [.int n t]) (ns ++ [n]) := intsAre_append h (.cons n t .nil)
section
variable {w : World} {p : Program} {loose : List PStr} {mean : ExcName → Option Value} {mg mb : PStr → Option Value}
    {dp un : Nat} {gd : Option (List Code)} {a : Addr} {ccd : Value} {c1 c2 c3 : Addr} {A₀ : Around} {base h₀ : Heap} {L : Addr}
    {s : Shared} {news : Ldg}
    (B : Below A₀ base [] h₀) (X : (KK.heap_1 w.params).In h₀) (T : Top p loose mean mg mb h₀) (XB : (KK.heap_1 w.params).In base) (TB : Top p loose mean mg mb base)
include B X T XB TB

theorem law_p4 {lv : Nat} {o3 : Obj} {d : Addr} {vs : List Value} {m : PStr → Option Value} {Q : Flow → Shared → Prop} {E : Value → Shared → Prop}
   (hd5 : dp + 60 < recursionLimit) (hu5 : un + 500 < cLine) (hlv : lv = 3 ∨ lv = 4)
   (F : Fr h₀ L s.heap (fun y => if y = PySem.Str.ofString "fractions" then some (.ref d) else m y)) (N : News h₀ L s.heap ((c3, o3) :: news)) (hne : ∀ p ∈ news, p.1 ≠ c3) (ho3 : o3.data = .cell none)
   (hdf : (d, lstOf vs 0) ∈ news) (hP : PairsAre news vs (fs3 lv))
   (hret : ∀ h' tk D' pvs e o3', o3'.data = .cell (some (.ref D')) → IntsAre pvs ((fs3 lv).map port3) → (∀ p ∈ (c3, o3') :: news, p.1 ≠ D') → Fr h₀ L h' (fun y => if y = PySem.Str.ofString "fractions" then some (.ref d) else m y) → News h₀ L h' ((D', lstOf pvs e) :: (c3, o3') :: news) → Q .next { s with heap := h', toks := tk }) :
   wpAny (model PySem.Challenge.rw_pm0034_03.row.prog w) (ktrTop dp un gd (PySem.Str.ofString "law") lawScope3 L a ccd (cells3 c1 c2 c3) []) (execs ((lawStmts3.drop 6).take 1) (envX (PySem.Str.ofString "law") lawScope3 L a ccd (cells3 c1 c2 c3))) Q E s := by
  walk_at "M fill"
  have D : KtsDicts (([] : List Env).filterMap (·.frame)) h₀ := fun b hb => nomatch hb
  have hck : lawScope3.kind = .function := by with_unfolding_all rfl
  show wpAny _ (ktrTop _ _ _ _ (Scope.mk _ _ _ _ _) _ _ _ _ _) (execs (_ :: []) (envX _ (Scope.mk _ _ _ _ _) _ _ _ _)) _ _ _
  have hvl : vs.length ≤ 15 := by rw [hP.length, fs3_len]; rcases hlv with rfl | rfl <;> decide
  k_steps
  refine Hold.out ?_
  have hz : vs.toArray.size ≤ sizeLine := by rw [List.size_toArray]; exact Nat.le_trans (m := 1000) (by omega) (by decide)
  have hm : (d, lstOf vs 0) ∈ (c3, o3) :: news := .tail _ hdf
  refine LCg.CompSrc.ledger (its := vs.toArray) (k := 0) rfl F N hm hz ?_
  intro g
  refine comp_ind (fun i ys nw => nw = (c3, o3) :: news ∧ IntsAre ys (((fs3 lv).take i).map port3)) ⟨rfl, .nil⟩ ?turn ?fin
  case turn =>
    rintro i v I oI C oC D' m₂ ys nw h tk E' hi hv ⟨rfl, hI⟩ hC hx kF kN off ne
    have hi' : i < (fs3 lv).length := by rw [List.size_toArray] at hi; rw [← hP.length]; exact hi
    obtain ⟨r, t, u, e, hat, hr⟩ := hP.at i hi'
    have ev := at_arr hv hat
    subst ev
    have fo := frOk hlv (List.getElem_mem hi')
    have hr' : (r, lstOf [.int (fs3 lv)[i].1 t, .int (fs3 lv)[i].2 u] e) ∈ (c3, o3) :: news := .tail _ hr
    have ht : ((fs3 lv).take (i + 1)).map port3 = ((fs3 lv).take i).map port3 ++ [port3 (fs3 lv)[i]] := by
      rw [List.take_add_one, List.map_append, List.getElem?_eq_getElem hi']; rfl
    rw [show ((fs3 lv).take (i + 1)).map port3 = _ from ht]
    generalize (fs3 lv)[i] = q at hr hr' fo
    obtain ⟨q1, q2⟩ := q
    have f1 := fo.den
    have f2 := fo.n0
    have f3 := fo.n1
    have f4 := fo.d1
    dsimp only at f1 f2 f3 f4 hr hr'
    have f5 := log_small (n := q2) (by omega)
    (with_reducible show wpAny _ _ _ _ _ _)
    k_fold
    k_steps
    refine LCg.CompEnd.intro (by assumption) kN ((c3, o3) :: news) (fun p hp => hp) off (.inr ⟨_, .tail _ hdf, rfl, _, rfl⟩) ⟨rfl, ?_⟩
    exact ints_snoc hI
  case fin =>
    rintro ys nw ⟨rfl, hI⟩
    intro D' h tk kF kN off
    rw [List.take_of_length_le (by rw [List.size_toArray, hP.length]; exact Nat.le_refl _)] at hI
    have hne2 : ∀ p ∈ (c3, o3) :: news, p.1 ≠ D' := off1_mem off
    k_steps
    refine Hold.out ?_
    refine storeX_C kF kN rfl (UpdF.tail (hne2 _ (.head _)).symm (UpdF.head hne)) ho3 ?_ rfl rfl
    intro h' o' F' N' d'
    k_steps
    refine hret _ _ D' ys _ o' d' hI ?_ F' N'
    intro p hp
    rcases List.mem_cons.mp hp with e | hp
    · rw [e]; exact hne2 (c3, o3) (.head _)
    · exact hne2 _ (.tail _ hp)
end
end Mine
end
section
open PySem PySem.W PyProof.Rows PySem.Spec PySem.Calls
set_option Elab.async false
set_option maxRecDepth 100000
set_option maxHeartbeats 8000000
set_option linter.all false
namespace Mine
local macro_rules | `(tactic| walk_at $s:str) => `(tactic| k_extra $s)
local macro_rules | `(tactic| omega) => `(tactic| first
  | with_reducible assumption
  | (refine' room1 ?rmh ?rme; (case rmh => with_reducible assumption); (case rme => with_unfolding_all rfl))
  | (refine' room0 ?rmh ?rme; (case rmh => with_reducible assumption); (case rme => with_unfolding_all rfl))
  | (refine' room2 ?rmh ?rme; (case rmh => with_reducible assumption); (case rme => with_unfolding_all rfl))
  | (refine' room00 ?rmh; (case rmh => with_reducible assumption))
  | (refine num_le ?rme; (case rme => with_unfolding_all rfl))
  | (refine num_lt ?rme; (case rme => with_unfolding_all rfl))
  | (refine' le_num ?rmh ?rme; (case rmh => with_reducible assumption); (case rme => with_unfolding_all rfl))
  | (refine' eq_num ?rmh ?rme; (case rmh => with_reducible assumption); (case rme => with_unfolding_all rfl))
  | omega (config := {}))
theorem lines_QL_0 : True := by
  k_with_none
  k_with "execs cons" => ((refine f_execs ?_; intro qk))
  k_with "eval BinOp" => ((refine f_BinOp ?_; intro qk))
  k_with "exec Assign" => ((refine f_Assign ?_; intro qk))
  k_with "eval Subscript" => ((refine f_Subscript ?_; intro qk))
  k_with "isTrue Compare" => ((refine f_Compare ?_; intro qk))
  k_with "exec If" => ((refine f_If ?_; intro qk))
  k_with "eval Call" => (((fail_if_success (with_reducible show wpAny _ _ (eval (Expr.Call (Expr.Attribute _ _ _) _ _ _) _) _ _ _)); refine f_Call ?_; intro qk))
  k_with "spliced" => ((refine f_args ?_; intro qk))
  k_with "callWith" => ((refine f_method1 ?_; intro qk))
  k_with "exec Return some" => ((refine f_Return ?_; intro qk))
  k_with "eval Tuple" => ((refine f_Tuple ?_; intro qk))
  k_with "eval List" => ((refine f_List ?_; intro qk))
  k_with "eval IfExp" => ((refine f_IfExp ?_; intro qk))
  k_with "storeName" => ((k_here; k_dflt (refine' f_store ?F ?N ?_ ?a ?b; (case F => k_asm); (case N => k_asm); (case a => rfl); (case b => rfl); k_whole; intro m' h' F' N'; (try k_sweep))))
  k_with "M map1" => (first
    | (refine map_same ?_; with_unfolding_all rfl)
    | ((repeat' (refine List.forall_mem_cons.mpr (And.intro ?_ ?_))); (all_goals first | rfl | exact List.forall_mem_nil _)))
  k_with "M map2" => (first
    | (refine SameOut.both (b := fun _ => none) ?_ ?_ <;> (repeat (refine SameOut.upd ?_ (by with_unfolding_all rfl))) <;> exact SameOut.lookup rfl)
    | (refine' SameOut.both (b := ?kb) ?k1 ?k2; (case k1 => ((repeat (refine SameOut.upd ?_ (by with_unfolding_all rfl))); exact SameOut.refl)); (case k2 => ((repeat (refine SameOut.upd ?_ (by with_unfolding_all rfl))); exact SameOut.refl)))
    | (refine' SameOut.both (b := ?kb) ?k1 ?k2; (case k2 => ((repeat (refine SameOut.upd ?_ (by with_unfolding_all rfl))); exact SameOut.refl)); (case k1 => ((repeat (refine SameOut.skip ?_)); (repeat (refine SameOut.upd ?_ (by with_unfolding_all rfl))); exact SameOut.refl)))
    | (intro y hy; (repeat (refine (if_neg (ne_of_out hy (by with_unfolding_all rfl))).trans ?_)); (refine Eq.symm ?_); (repeat (refine (if_neg (ne_of_out hy (by with_unfolding_all rfl))).trans ?_)); first | rfl | exact lookup_out rfl hy | exact (lookup_out rfl hy).symm | exact (lookup_out rfl hy).trans (lookup_out rfl hy).symm))
  trivial
section
variable {w : World} {p : Program} {loose : List PStr} {mean : ExcName → Option Value} {mg mb : PStr → Option Value}
    {dp un : Nat} {gd : Option (List Code)} {cn : PStr} {cs : Scope} {a : Addr} {ccd : Value} {cl : List (PStr × Addr)} {outer : List Env} {A₀ : Around} {base h₀ : Heap} {L : Addr} {m : PStr → Option Value}
    {s : Shared} {Q E : Value → Shared → Prop} {news : Ldg}
    (B : Below A₀ base outer h₀) (X : (KK.heap_1 w.params).In h₀) (T : Top p loose mean mg mb h₀) (XB : (KK.heap_1 w.params).In base) (TB : Top p loose mean mg mb base) (D : KtsDicts (outer.filterMap (·.frame)) h₀) (hck : cs.kind = .function)
include B X T XB TB D hck

theorem lreply_any {sh : Nat} {po le : PStr} {t0 tl : Tok} {t1 : Nat} (hsh : sh < 10) (hd5 : dp + 5 < recursionLimit) (hu5 : un + 50 < cLine) (F : Fr h₀ L s.heap m) (N : News h₀ L s.heap news)
   (hpo : 1 ≤ po.length ∧ po.length ≤ 8) (hle : le.length = 1) (hne : (PySem.Str.ofString "#" == po) = false) (ht1 : 1 ≤ t1 ∧ t1 < s.toks)
   (hret : ∀ d t u h' tk dv, (((thg3 sh po le).2.1 = none ∧ dv = .none) ∨ ∃ due t2, (thg3 sh po le).2.1 = some due ∧ dv = .str due t2) → Fr h₀ L h' m → News h₀ L h' ((d, lstOf [.str (thg3 sh po le).1 t, dv, .str (thg3 sh po le).2.2 u] 0) :: news) → (∀ p ∈ news, p.1 < d) → Q (.ref d) { s with heap := h', toks := tk }) :
   wpAny (model PySem.Challenge.rw_pm0034_03.row.prog w) (ktrTop dp un gd cn cs L a ccd cl outer) (call (.ref 122) [.int (sh : Int) t0, .str po t1, .str le tl]) Q E s := by
  match sh, hsh with
  | 0, _ =>
    refine lreply3_0 B X T XB TB D hck hd5 hu5 F N hpo hle hne ht1 (fun d gg t t' h' tk e1 F' N' l' => ?_)
    subst e1
    exact hret d t t' h' tk .none (.inl ⟨rfl, rfl⟩) F' N' l'
  | 1, _ =>
    refine lreply3_1 B X T XB TB D hck hd5 hu5 F N hpo hle hne ht1 (fun d gg t t' h' tk e1 F' N' l' => ?_)
    subst e1
    exact hret d t t' h' tk .none (.inl ⟨rfl, rfl⟩) F' N' l'
  | 2, _ =>
    refine lreply3_2 B X T XB TB D hck hd5 hu5 F N hpo hle hne ht1 (fun d gg t t' h' tk e1 F' N' l' => ?_)
    subst e1
    exact hret d t t' h' tk .none (.inl ⟨rfl, rfl⟩) F' N' l'
  | 3, _ =>
    refine lreply3_3 B X T XB TB D hck hd5 hu5 F N hpo hle hne ht1 (fun d gg t t' h' tk e1 F' N' l' => ?_)
    subst e1
    exact hret d t t' h' tk .none (.inl ⟨rfl, rfl⟩) F' N' l'
  | 4, _ =>
    refine lreply3_4 B X T XB TB D hck hd5 hu5 F N hpo hle hne ht1 (fun d gg gb gd t t2 t' h' tk e1 e2 e3 F' N' l' => ?_)
    subst e1 e2 e3
    exact hret d t t' h' tk _ (.inr ⟨_, t2, rfl, rfl⟩) F' N' l'
  | 5, _ =>
    refine lreply3_5 B X T XB TB D hck hd5 hu5 F N hpo hle hne ht1 (fun d gg gb gd t t2 t' h' tk e1 e2 e3 F' N' l' => ?_)
    subst e1 e2 e3
    exact hret d t t' h' tk _ (.inr ⟨_, t2, rfl, rfl⟩) F' N' l'
  | 6, _ =>
    refine lreply3_6 B X T XB TB D hck hd5 hu5 F N hpo hle hne ht1 (fun d gg gb gd t t2 t' h' tk e1 e2 e3 F' N' l' => ?_)
    subst e1 e2 e3
    exact hret d t t' h' tk _ (.inr ⟨_, t2, rfl, rfl⟩) F' N' l'
  | 7, _ =>
    refine lreply3_7 B X T XB TB D hck hd5 hu5 F N hpo hle hne ht1 (fun d gg gb gd t t2 t' h' tk e1 e2 e3 F' N' l' => ?_)
    subst e1 e2 e3
    exact hret d t t' h' tk _ (.inr ⟨_, t2, rfl, rfl⟩) F' N' l'
  | 8, _ =>
    refine lreply3_8 B X T XB TB D hck hd5 hu5 F N hpo hle hne ht1 (fun d gg gb gd t t2 t' h' tk e1 e2 e3 F' N' l' => ?_)
    subst e1 e2 e3
    exact hret d t t' h' tk _ (.inr ⟨_, t2, rfl, rfl⟩) F' N' l'
  | 9, _ =>
    refine lreply3_9 B X T XB TB D hck hd5 hu5 F N hpo hle hne ht1 (fun d gg gb gd t t2 t' h' tk e1 e2 e3 F' N' l' => ?_)
    subst e1 e2 e3
    exact hret d t t' h' tk _ (.inr ⟨_, t2, rfl, rfl⟩) F' N' l'
end
end Mine
end
section
open PySem PySem.W PyProof.Rows PySem.Spec PySem.Calls
set_option Elab.async false
set_option maxRecDepth 100000
set_option maxHeartbeats 8000000
set_option linter.all false
namespace Mine
local macro_rules | `(tactic| walk_at "M nothing") => `(tactic| skip)
local macro_rules | `(tactic| walk_at $s:str) => `(tactic| k_extra $s)
local macro_rules | `(tactic| omega) => `(tactic| first
  | with_reducible assumption
  | (refine' room1 ?rmh ?rme; (case rmh => with_reducible assumption); (case rme => with_unfolding_all rfl))
  | (refine' room0 ?rmh ?rme; (case rmh => with_reducible assumption); (case rme => with_unfolding_all rfl))
  | (refine' room2 ?rmh ?rme; (case rmh => with_reducible assumption); (case rme => with_unfolding_all rfl))
  | (refine' room00 ?rmh; (case rmh => with_reducible assumption))
  | (refine num_le ?rme; (case rme => with_unfolding_all rfl))
  | (refine num_lt ?rme; (case rme => with_unfolding_all rfl))
  | (refine' le_num ?rmh ?rme; (case rmh => with_reducible assumption); (case rme => with_unfolding_all rfl))
  | (refine' eq_num ?rmh ?rme; (case rmh => with_reducible assumption); (case rme => with_unfolding_all rfl))
  | omega (config := {}))
theorem lines_QM_0 : True := by
  k_with_none
  k_with "execs cons" => ((refine f_execs ?_; intro qk))
  k_with "eval BinOp" => ((refine f_BinOp ?_; intro qk))
  k_with "exec Assign" => ((refine f_Assign ?_; intro qk))
  k_with "eval Subscript" => ((refine f_Subscript ?_; intro qk))
  k_with "isTrue Compare" => ((refine f_Compare ?_; intro qk))
  k_with "exec If" => ((refine f_If ?_; intro qk))
  k_with "eval Call" => (((fail_if_success (with_reducible show wpAny _ _ (eval (Expr.Call (Expr.Attribute _ _ _) _ _ _) _) _ _ _)); refine f_Call ?_; intro qk))
  k_with "spliced" => ((refine f_args ?_; intro qk))
  k_with "callWith" => ((refine f_method1 ?_; intro qk))
  k_with "exec Return some" => ((refine f_Return ?_; intro qk))
  k_with "eval Tuple" => ((refine f_Tuple ?_; intro qk))
  k_with "eval List" => ((refine f_List ?_; intro qk))
  k_with "eval IfExp" => ((refine f_IfExp ?_; intro qk))
  k_with "storeName" => ((k_here; k_dflt (refine' f_store ?F ?N ?_ ?a ?b; (case F => k_asm); (case N => k_asm); (case a => rfl); (case b => rfl); k_whole; intro m' h' F' N'; (try k_sweep))))
  k_with "M map1" => (first
    | (refine map_same ?_; with_unfolding_all rfl)
    | ((repeat' (refine List.forall_mem_cons.mpr (And.intro ?_ ?_))); (all_goals first | rfl | exact List.forall_mem_nil _)))
  k_with "M map2" => (first
    | (refine SameOut.both (b := fun _ => none) ?_ ?_ <;> (repeat (refine SameOut.upd ?_ (by with_unfolding_all rfl))) <;> exact SameOut.lookup rfl)
    | (refine' SameOut.both (b := ?kb) ?k1 ?k2; (case k1 => ((repeat (refine SameOut.upd ?_ (by with_unfolding_all rfl))); exact SameOut.refl)); (case k2 => ((repeat (refine SameOut.upd ?_ (by with_unfolding_all rfl))); exact SameOut.refl)))
    | (refine' SameOut.both (b := ?kb) ?k1 ?k2; (case k2 => ((repeat (refine SameOut.upd ?_ (by with_unfolding_all rfl))); exact SameOut.refl)); (case k1 => ((repeat (refine SameOut.skip ?_)); (repeat (refine SameOut.upd ?_ (by with_unfolding_all rfl))); exact SameOut.refl)))
    | (intro y hy; (repeat (refine (if_neg (ne_of_out hy (by with_unfolding_all rfl))).trans ?_)); (refine Eq.symm ?_); (repeat (refine (if_neg (ne_of_out hy (by with_unfolding_all rfl))).trans ?_)); first | rfl | exact lookup_out rfl hy | exact (lookup_out rfl hy).symm | exact (lookup_out rfl hy).trans (lookup_out rfl hy).symm))
  k_with "M fill" => ((
    have kk : PySem.Challenge.rw_pm0034_03 = PySem.Challenge.rw_pm0034_03 ∧ KK.heap_1 = KK.heap_1 := ⟨rfl, rfl⟩
    revert kk
    k_fill
    intro kk
    clear kk))
  k_with "subscriptTail Name Constant ref int" => ((k_here; refine item_listL (News.isList (by assumption) (by k_mem)) (by decide) (by decide) (by rfl) ?_))
  k_with "subscriptTail Name Name ref int" => ((k_here; k_dflt (refine' item_listL (News.isList ?zN ?zm) ?z0 ?zf ?zv ?_; (case zN => with_reducible assumption); (case zm => k_mem); (case z0 => omega); (case zf => omega); (case zv => simpa using (by assumption)))))
  k_with "subscriptTail Subscript Slice ref ref" => ((k_here; k_dflt (refine' slice_L ?zF ?zN ?zl ?zp ?zq ?zz ?ze ?_; (case zF => k_asm); (case zN => k_asm); (case zl => k_mem); (case zp => kmk_part); (case zq => kmk_part); (case zz => exact Nat.le_of_ble_eq_true rfl); (case ze => exact rfl)); intro D' h' F' N' l1; (try k_lt l1); (try k_sweep)))
  k_with "call type:list" => ((k_here; (with_reducible show wpAny _ _ (call (Value.type "list") [Value.ref _]) _ _ _); k_dflt (refine' list_of_L ?zF ?zN ?zb ?zz ?_; (case zF => k_asm); (case zN => k_asm); (case zb => k_mem); (case zz => omega)); intro D' c' h' F' N' l1; (try k_lt l1); (try k_sweep)))
  k_with "compareOp NotEq ref ref" => ((k_here; (with_reducible show wpAny _ _ (compareOp CmpOp.NotEq (Value.ref _) (Value.ref _)) _ _ _); k_dflt (refine' ne_strs_L ?zN ?za ?zb ?zs ?zt ?zu ?_; (case zN => k_asm); (case za => k_mem); (case zb => k_mem); (case zs => with_reducible assumption); (case zt => with_reducible assumption); (case zu => ((try dsimp only); omega)))))
  k_with "compareOp NotEq str str" => ((with_reducible refine ne_str_same ?_))
  k_with "compareOp NotEq ref ref" => ((k_here; (with_reducible show wpAny _ _ (compareOp CmpOp.NotEq (Value.ref _) (Value.ref _)) _ _ _); k_dflt (refine' ne_strs_same ?zN ?za ?zb ?zs ?zu ?_; (case zN => k_asm); (case za => k_mem); (case zb => k_mem); (case zs => with_reducible assumption); (case zu => ((try dsimp only); omega)))))
  k_with "binaryOp Mult int int" => (refine mul_int (hm := by assumption) ?_)
  k_with "compareOp NotEq ref ref" => ((k_here; (with_reducible show wpAny _ _ (compareOp CmpOp.NotEq (Value.ref _) (Value.ref _)) _ _ _); k_dflt (refine' ne_ints_same ?zN ?za ?zb ?zs ?zu ?_; (case zN => k_asm); (case za => k_mem); (case zb => k_mem); (case zs => with_reducible assumption); (case zu => ((try dsimp only); omega)))))
  k_with "call builtin:list.insert" => ((k_here; (with_reducible show wpAny _ _ (call (Value.builtin "list.insert") [Value.ref _, Value.int _ _, _]) _ _ _); k_dflt (refine' insert_L ?zF ?zN ?zU ?z0 ?z1 ?zz ?_; (case zF => k_asm); (case zN => k_asm); (case zU => exact UpdF.head (fun p hp => Nat.ne_of_lt (ktn_ltOf (by assumption) p hp))); (case z0 => omega); (case z1 => omega); (case zz => omega)); intro h' F' N'))
  trivial
local macro_rules | `(tactic| k_mem) => `(tactic| first | with_reducible assumption | (refine mem_in ?_; with_reducible assumption))
theorem lines_QM_1 : True := by
  k_with "call builtin:len" => ((k_here; (with_reducible show wpAny _ _ (call (Value.builtin "len") [Value.ref _]) _ _ _); k_dflt (refine' len_L ?kN ?kM ?kz ?_; (case kN => with_reducible assumption); (case kM => k_mem); (case kz => omega))))
  k_with "CompSrc" => ((refine Hold.mk ?_))
  k_with "subscriptTail Name Name ref int" => ((k_here; k_dflt (refine' item_intsA (News.isList ?zN ?zm) ?zi ?z0 ?zf ?zg ?_; (case zN => with_reducible assumption); (case zm => k_mem); (case zi => with_reducible assumption); (case z0 => omega); (case zf => omega); (case zg => omega)); intro t'))
  k_with "call ref" => (((with_reducible show wpAny _ _ (call (Value.ref 122) _) _ _ _); refine Hold.mk ?_))
  trivial
noncomputable def things3 (lv : Nat) (ns : List Int) : List (PStr × Option PStr × PStr) := (List.range ((fs3 lv).map port3).length).map fun j => thg3 ((ns.getD j 0).fmod 10).toNat (poTxt (((fs3 lv).map port3).getD j 0)) (leTxt j)
theorem things_snoc {l : Ldg} {r : Addr} {t u : Tok} {dv : Value} {q : PStr × Option PStr × PStr} : ∀ {vs : List Value} {ts : List (PStr × Option PStr × PStr)}, ThingsAre l vs ts → (r, lstOf [.str q.1 t, dv, .str q.2.2 u] 0) ∈ l → ((q.2.1 = none ∧ dv = .none) ∨ ∃ due td, q.2.1 = some due ∧ dv = .str due td) → ThingsAre l (vs ++ [.ref r]) (ts ++ [q])
  | _, _, .nil, h, hd => .cons h hd .nil
  | _, _, .cons a b c, h, hd => .cons a b (things_snoc c h hd)
theorem po_ok {lv : Nat} (hlv : lv = 3 ∨ lv = 4) {q : Int × Int} (hq : q ∈ fs3 lv) : 1 ≤ (poTxt (port3 q)).length ∧ (poTxt (port3 q)).length ≤ 8 ∧ (PySem.Str.ofString "#" == poTxt (port3 q)) = false := by
  have h : (fs3 lv).all (fun q => decide (1 ≤ (poTxt (port3 q)).length) && decide ((poTxt (port3 q)).length ≤ 8) && !(PySem.Str.ofString "#" == poTxt (port3 q))) = true := by rcases hlv with rfl | rfl <;> decide +kernel
  have := List.all_eq_true.mp h q hq
  simp only [Bool.and_eq_true, decide_eq_true_eq, Bool.not_eq_true'] at this
  exact ⟨this.1.1, this.1.2, this.2⟩
section
variable {w : World} {p : Program} {loose : List PStr} {mean : ExcName → Option Value} {mg mb : PStr → Option Value}
    {dp un : Nat} {gd : Option (List Code)} {a : Addr} {ccd : Value} {c1 c2 c3 : Addr} {A₀ : Around} {base h₀ : Heap} {L : Addr}
    {s : Shared} {news : Ldg}
    (B : Below A₀ base [] h₀) (X : (KK.heap_1 w.params).In h₀) (T : Top p loose mean mg mb h₀) (XB : (KK.heap_1 w.params).In base) (TB : Top p loose mean mg mb base)
include B X T XB TB

theorem law_p5 {lv : Nat} {o1 o3 : Obj} {dn dp3 : Addr} {ns : List Int} {nvs pvs : List Value} {e3 : Nat} {m : PStr → Option Value} {Q : Flow → Shared → Prop} {E : Value → Shared → Prop}
   (hd5 : dp + 60 < recursionLimit) (hu5 : un + 500 < cLine) (hlv : lv = 3 ∨ lv = 4)
   (F : Fr h₀ L s.heap m) (N : News h₀ L s.heap news)
   (hc1 : (c1, o1) ∈ news) (ho1 : o1.data = .cell (some (.ref dn))) (hdn : (dn, lstOf nvs 0) ∈ news) (hns : IntsAre nvs ns) (hnl : ns.length = 15)
   (hc3 : (c3, o3) ∈ news) (ho3 : o3.data = .cell (some (.ref dp3))) (hdp : (dp3, lstOf pvs e3) ∈ news) (hps : IntsAre pvs ((fs3 lv).map port3))
   (hret : ∀ h' tk d vs e l, ThingsAre l vs (things3 lv ns) → (∀ p ∈ news, p ∈ l) → (∀ p ∈ l, p.1 ≠ d) → Fr h₀ L h' (fun y => if y = PySem.Str.ofString "things" then some (.ref d) else m y) → News h₀ L h' ((d, lstOf vs e) :: l) → Q .next { s with heap := h', toks := tk }) :
   wpAny (model PySem.Challenge.rw_pm0034_03.row.prog w) (ktrTop dp un gd (PySem.Str.ofString "law") lawScope3 L a ccd (cells3 c1 c2 c3) []) (execs ((lawStmts3.drop 7).take 1) (envX (PySem.Str.ofString "law") lawScope3 L a ccd (cells3 c1 c2 c3))) Q E s := by
  walk_at "M fill"
  have D : KtsDicts (([] : List Env).filterMap (·.frame)) h₀ := fun b hb => nomatch hb
  have hck : lawScope3.kind = .function := by with_unfolding_all rfl
  show wpAny _ (ktrTop _ _ _ _ (Scope.mk _ _ _ _ _) _ _ _ _ _) (execs (_ :: []) (envX _ (Scope.mk _ _ _ _ _) _ _ _ _)) _ _ _
  have hpl : ((fs3 lv).map port3).length ≤ 15 := by rw [List.length_map, fs3_len]; rcases hlv with rfl | rfl <;> decide
  have hvl : pvs.length ≤ 15 := by rw [ints_length hps]; exact hpl
  k_steps
  refine Hold.out ?_
  refine LCg.CompSrc.range rfl (by assumption) (by assumption) (by assumption) (small_one (by omega) (by omega) (by omega) (by omega)) (rangeSize_one _) (Nat.le_trans (m := 1000) (by omega) (by decide)) ?_
  intro g
  refine comp_ind (fun i ys nw => (∀ p ∈ news, p ∈ nw) ∧ ThingsAre nw ys ((List.range i).map fun j => thg3 ((ns.getD j 0).fmod 10).toNat (poTxt (((fs3 lv).map port3).getD j 0)) (leTxt j))) ⟨fun p hp => hp, .nil⟩ ?turn ?fin
  case turn =>
    rintro i v I oI C oC D' m₂ ys nw h tk E' hi ⟨t, rfl⟩ ⟨hsub, hT⟩ hC hx kF kN off ne
    have q1 := hsub _ hc1
    have q2 := hsub _ hdn
    have q3 := hsub _ hc3
    have q4 := hsub _ hdp
    have hi2 : i < ((fs3 lv).map port3).length := hi
    (with_reducible show wpAny _ _ _ _ _ _)
    k_fold
    have hfi : i < (fs3 lv).length := by rw [List.length_map] at hi2; exact hi2
    have fo := frOk hlv (List.getElem_mem hfi)
    have eP : ((fs3 lv).map port3).getD i 0 = port3 (fs3 lv)[i] := by rw [List.getD_eq_getElem?_getD, List.getElem?_map, List.getElem?_eq_getElem hfi]; rfl
    have P0 := fo.p0
    have P1 := fo.p1
    rw [← eP] at P0 P1
    have e0 : (0 + (i : Int)).toNat = i := by omega
    k_steps
    rw [e0]
    k_steps
    refine Hold.out ?_
    have b1 := Int.fmod_nonneg_of_pos (ns.getD i 0) (show (0 : Int) < 10 by decide)
    have b2 := Int.fmod_lt_of_pos (ns.getD i 0) (show (0 : Int) < 10 by decide)
    obtain ⟨sh, esh⟩ := Int.eq_ofNat_of_zero_le b1
    (try dsimp only)
    (try rw [e0])
    rw [esh]
    obtain ⟨po1, po2, po3⟩ := po_ok hlv (List.getElem_mem hfi)
    rw [← eP] at po1 po2 po3
    rw [show (97 + (0 + (i : Int))).toNat = 97 + i by omega]
    refine lreply_any (sh := sh) (po := poTxt (((fs3 lv).map port3).getD i 0)) (le := leTxt i) B X T XB TB D hck (by omega) (by (try dsimp only); omega) (by (try dsimp only); omega) kF kN ⟨po1, po2⟩ rfl po3 (by constructor <;> (try dsimp only) <;> omega) ?_
    intro d t2 u h' tk' dv hdv F' N' l'
    refine LCg.CompEnd.intro F' N' ((d, _) :: nw) mem_roll (off3_one (l' _ (.head _)) (l' _ (.tail _ (.head _))) (l' _ (.tail _ (.tail _ (.head _)))) off) trivial ⟨fun p hp => .tail _ (hsub p hp), ?_⟩
    have ets : ((ns.getD i 0).fmod 10).toNat = sh := by omega
    rw [List.range_succ, List.map_append, List.map_singleton, ets]
    exact things_snoc (hT.mono fun p hp => .tail _ hp) (.head _) hdv
  case fin =>
    rintro ys nw ⟨hsub, hT⟩
    intro D' h tk kF kN off
    k_steps
    exact hret _ _ D' ys _ nw hT hsub (off1_mem off) (by assumption) (by assumption)
end
end Mine
end
section
open PySem PySem.W PyProof.Rows PySem.Spec PySem.Calls
set_option Elab.async false
set_option maxRecDepth 100000
set_option maxHeartbeats 8000000
set_option linter.all false
namespace Mine
local macro_rules | `(tactic| walk_at $s:str) => `(tactic| k_extra $s)
local macro_rules | `(tactic| omega) => `(tactic| first
  | with_reducible assumption
  | (refine' room1 ?rmh ?rme; (case rmh => with_reducible assumption); (case rme => with_unfolding_all rfl))
  | (refine' room0 ?rmh ?rme; (case rmh => with_reducible assumption); (case rme => with_unfolding_all rfl))
  | (refine' room2 ?rmh ?rme; (case rmh => with_reducible assumption); (case rme => with_unfolding_all rfl))
  | (refine' room00 ?rmh; (case rmh => with_reducible assumption))
  | (refine num_le ?rme; (case rme => with_unfolding_all rfl))
  | (refine num_lt ?rme; (case rme => with_unfolding_all rfl))
  | (refine' le_num ?rmh ?rme; (case rmh => with_reducible assumption); (case rme => with_unfolding_all rfl))
  | (refine' eq_num ?rmh ?rme; (case rmh => with_reducible assumption); (case rme => with_unfolding_all rfl))
  | omega (config := {}))
theorem lines_QN_0 : True := by
  k_with_none
  k_with "execs cons" => ((refine f_execs ?_; intro qk))
  k_with "eval BinOp" => ((refine f_BinOp ?_; intro qk))
  k_with "exec Assign" => ((refine f_Assign ?_; intro qk))
  k_with "eval Subscript" => ((refine f_Subscript ?_; intro qk))
  k_with "isTrue Compare" => ((refine f_Compare ?_; intro qk))
  k_with "exec If" => ((refine f_If ?_; intro qk))
  k_with "eval Call" => (((fail_if_success (with_reducible show wpAny _ _ (eval (Expr.Call (Expr.Attribute _ _ _) _ _ _) _) _ _ _)); refine f_Call ?_; intro qk))
  k_with "spliced" => ((refine f_args ?_; intro qk))
  k_with "callWith" => ((refine f_method1 ?_; intro qk))
  k_with "exec Return some" => ((refine f_Return ?_; intro qk))
  k_with "eval Tuple" => ((refine f_Tuple ?_; intro qk))
  k_with "eval List" => ((refine f_List ?_; intro qk))
  k_with "eval IfExp" => ((refine f_IfExp ?_; intro qk))
  k_with "storeName" => ((k_here; k_dflt (refine' f_store ?F ?N ?_ ?a ?b; (case F => k_asm); (case N => k_asm); (case a => rfl); (case b => rfl); k_whole; intro m' h' F' N'; (try k_sweep))))
  k_with "M map1" => (first
    | (refine map_same ?_; with_unfolding_all rfl)
    | ((repeat' (refine List.forall_mem_cons.mpr (And.intro ?_ ?_))); (all_goals first | rfl | exact List.forall_mem_nil _)))
  k_with "M map2" => (first
    | (refine SameOut.both (b := fun _ => none) ?_ ?_ <;> (repeat (refine SameOut.upd ?_ (by with_unfolding_all rfl))) <;> exact SameOut.lookup rfl)
    | (refine' SameOut.both (b := ?kb) ?k1 ?k2; (case k1 => ((repeat (refine SameOut.upd ?_ (by with_unfolding_all rfl))); exact SameOut.refl)); (case k2 => ((repeat (refine SameOut.upd ?_ (by with_unfolding_all rfl))); exact SameOut.refl)))
    | (refine' SameOut.both (b := ?kb) ?k1 ?k2; (case k2 => ((repeat (refine SameOut.upd ?_ (by with_unfolding_all rfl))); exact SameOut.refl)); (case k1 => ((repeat (refine SameOut.skip ?_)); (repeat (refine SameOut.upd ?_ (by with_unfolding_all rfl))); exact SameOut.refl)))
    | (intro y hy; (repeat (refine (if_neg (ne_of_out hy (by with_unfolding_all rfl))).trans ?_)); (refine Eq.symm ?_); (repeat (refine (if_neg (ne_of_out hy (by with_unfolding_all rfl))).trans ?_)); first | rfl | exact lookup_out rfl hy | exact (lookup_out rfl hy).symm | exact (lookup_out rfl hy).trans (lookup_out rfl hy).symm))
  k_with "M fill" => ((
    have kk : PySem.Challenge.rw_pm0034_03 = PySem.Challenge.rw_pm0034_03 ∧ KK.heap_1 = KK.heap_1 := ⟨rfl, rfl⟩
    revert kk
    k_fill
    intro kk
    clear kk))
  k_with "subscriptTail Name Constant ref int" => ((k_here; refine item_listL (News.isList (by assumption) (by k_mem)) (by decide) (by decide) (by rfl) ?_))
  k_with "subscriptTail Name Name ref int" => ((k_here; k_dflt (refine' item_listL (News.isList ?zN ?zm) ?z0 ?zf ?zv ?_; (case zN => with_reducible assumption); (case zm => k_mem); (case z0 => omega); (case zf => omega); (case zv => simpa using (by assumption)))))
  k_with "subscriptTail Subscript Slice ref ref" => ((k_here; k_dflt (refine' slice_L ?zF ?zN ?zl ?zp ?zq ?zz ?ze ?_; (case zF => k_asm); (case zN => k_asm); (case zl => k_mem); (case zp => kmk_part); (case zq => kmk_part); (case zz => exact Nat.le_of_ble_eq_true rfl); (case ze => exact rfl)); intro D' h' F' N' l1; (try k_lt l1); (try k_sweep)))
  k_with "call type:list" => ((k_here; (with_reducible show wpAny _ _ (call (Value.type "list") [Value.ref _]) _ _ _); k_dflt (refine' list_of_L ?zF ?zN ?zb ?zz ?_; (case zF => k_asm); (case zN => k_asm); (case zb => k_mem); (case zz => omega)); intro D' c' h' F' N' l1; (try k_lt l1); (try k_sweep)))
  k_with "compareOp NotEq ref ref" => ((k_here; (with_reducible show wpAny _ _ (compareOp CmpOp.NotEq (Value.ref _) (Value.ref _)) _ _ _); k_dflt (refine' ne_strs_L ?zN ?za ?zb ?zs ?zt ?zu ?_; (case zN => k_asm); (case za => k_mem); (case zb => k_mem); (case zs => with_reducible assumption); (case zt => with_reducible assumption); (case zu => ((try dsimp only); omega)))))
  k_with "compareOp NotEq str str" => ((with_reducible refine ne_str_same ?_))
  k_with "compareOp NotEq ref ref" => ((k_here; (with_reducible show wpAny _ _ (compareOp CmpOp.NotEq (Value.ref _) (Value.ref _)) _ _ _); k_dflt (refine' ne_strs_same ?zN ?za ?zb ?zs ?zu ?_; (case zN => k_asm); (case za => k_mem); (case zb => k_mem); (case zs => with_reducible assumption); (case zu => ((try dsimp only); omega)))))
  k_with "binaryOp Mult int int" => (refine mul_int (hm := by assumption) ?_)
  k_with "compareOp NotEq ref ref" => ((k_here; (with_reducible show wpAny _ _ (compareOp CmpOp.NotEq (Value.ref _) (Value.ref _)) _ _ _); k_dflt (refine' ne_ints_same ?zN ?za ?zb ?zs ?zu ?_; (case zN => k_asm); (case za => k_mem); (case zb => k_mem); (case zs => with_reducible assumption); (case zu => ((try dsimp only); omega)))))
  k_with "call builtin:list.insert" => ((k_here; (with_reducible show wpAny _ _ (call (Value.builtin "list.insert") [Value.ref _, Value.int _ _, _]) _ _ _); k_dflt (refine' insert_L ?zF ?zN ?zU ?z0 ?z1 ?zz ?_; (case zF => k_asm); (case zN => k_asm); (case zU => exact UpdF.head (fun p hp => Nat.ne_of_lt (ktn_ltOf (by assumption) p hp))); (case z0 => omega); (case z1 => omega); (case zz => omega)); intro h' F' N'))
  trivial
local macro_rules | `(tactic| k_mem) => `(tactic| first | with_reducible assumption | (refine mem_in ?_; with_reducible assumption))
theorem lines_QN_1 : True := by
  k_with "call builtin:len" => ((k_here; (with_reducible show wpAny _ _ (call (Value.builtin "len") [Value.ref _]) _ _ _); k_dflt (refine' len_L ?kN ?kM ?kz ?_; (case kN => with_reducible assumption); (case kM => k_mem); (case kz => omega))))
  k_with "CompSrc" => ((refine Hold.mk ?_))
  k_with "subscriptTail Name Constant ref int" => ((k_here; k_dflt (refine item_listL (News.isList (by assumption) (by (repeat (first | (refine mem_in ?_; with_reducible assumption) | refine List.Mem.tail _ ?_)))) (by decide) (by decide) (by rfl) ?_)))
  k_with "binaryOp Mult ref int" => ((k_here; (with_reducible show wpAny _ _ (binaryOp Operator.Mult (Value.ref _) (Value.int _ _)) _ _ _); k_dflt (refine' KMa.mul ?zF ?zN ?zl ?zo ?zh ?zz ?ze ?_; (case zF => k_asm); (case zN => k_asm); (case zl => exact News.isList (by k_asm) (by k_mem)); (case zo => omega); (case zh => omega); (case zz => (simp only [List.length_cons, List.length_nil]; omega)); (case ze => exact rfl)); intro D' h' F' N' l1; (try k_lt l1); (try k_sweep)))
  k_with "binaryOp Add ref ref" => ((refine Hold.mk ?_))
  k_with "eval ListComp" => ((refine Hold.mk ?_))
  trivial
theorem strs_rep {x : PStr} {t : Tok} : ∀ n : Nat, StrsAre (List.replicate n [Value.str x t]).flatten (List.replicate n x)
  | 0 => .nil
  | n + 1 => .cons x t (strs_rep n)
theorem strs_app {vs ws : List Value} {xs ys : List PStr} (h : StrsAre vs xs) (h2 : StrsAre ws ys) : StrsAre (vs ++ ws) (xs ++ ys) := by
  induction h with
  | nil => exact h2
  | cons x t r ih => exact .cons x t ih
section
variable {w : World} {p : Program} {loose : List PStr} {mean : ExcName → Option Value} {mg mb : PStr → Option Value}
    {dp un : Nat} {gd : Option (List Code)} {a : Addr} {ccd : Value} {c1 c2 c3 : Addr} {A₀ : Around} {base h₀ : Heap} {L : Addr}
    {s : Shared} {news : Ldg}
    (B : Below A₀ base [] h₀) (X : (KK.heap_1 w.params).In h₀) (T : Top p loose mean mg mb h₀) (XB : (KK.heap_1 w.params).In base) (TB : Top p loose mean mg mb base)
include B X T XB TB

theorem law_p6 {d : Addr} {vs : List Value} {ts : List (PStr × Option PStr × PStr)} {lo e : Nat} {tlo : Tok} {m : PStr → Option Value} {Q : Flow → Shared → Prop} {E : Value → Shared → Prop}
   (hd5 : dp + 60 < recursionLimit) (hu5 : un + 500 < cLine) (hlo : lo ≤ 2) (htl : ts.length ≤ 15)
   (F : Fr h₀ L s.heap (fun y => if y = PySem.Str.ofString "things" then some (.ref d) else if y = PySem.Str.ofString "low" then some (.int (lo : Int) tlo) else m y))
   (N : News h₀ L s.heap news) (hm : (d, lstOf vs e) ∈ news) (hT : ThingsAre news vs ts)
   (hret : ∀ h' tk D' svs est l, StrsAre svs (start3 lo ts) → (∀ p ∈ news, p ∈ l) → Fr h₀ L h' (fun y => if y = PySem.Str.ofString "start" then some (.ref D') else if y = PySem.Str.ofString "things" then some (.ref d) else if y = PySem.Str.ofString "low" then some (.int (lo : Int) tlo) else m y) → News h₀ L h' ((D', lstOf svs est) :: l) → Q .next { s with heap := h', toks := tk }) :
   wpAny (model PySem.Challenge.rw_pm0034_03.row.prog w) (ktrTop dp un gd (PySem.Str.ofString "law") lawScope3 L a ccd (cells3 c1 c2 c3) []) (execs ((lawStmts3.drop 8).take 1) (envX (PySem.Str.ofString "law") lawScope3 L a ccd (cells3 c1 c2 c3))) Q E s := by
  walk_at "M fill"
  have D : KtsDicts (([] : List Env).filterMap (·.frame)) h₀ := fun b hb => nomatch hb
  have hck : lawScope3.kind = .function := by with_unfolding_all rfl
  show wpAny _ (ktrTop _ _ _ _ (Scope.mk _ _ _ _ _) _ _ _ _ _) (execs (_ :: []) (envX _ (Scope.mk _ _ _ _ _) _ _ _ _)) _ _ _
  have hvl : vs.length ≤ 15 := by rw [hT.length]; exact htl
  k_steps
  refine Hold.out ?_
  refine LCg.ListComp_U (F₀ := by assumption) (by rfl) (by decide) (by rfl) (by decide) (by rfl) ?_
  k_steps
  refine Hold.out ?_
  have hz : vs.toArray.size ≤ sizeLine := by rw [List.size_toArray]; exact Nat.le_trans (m := 1000) (by omega) (by decide)
  refine LCg.CompSrc.ledger (its := vs.toArray) (k := e) rfl (by assumption) (by assumption) (by exact .tail _ (.tail _ hm)) hz ?_
  intro g
  refine comp_ind (fun i ys nw => nw = _ ∧ StrsAre ys ((ts.take i).map (·.1))) ⟨rfl, .nil⟩ ?turn ?fin
  case turn =>
    rintro i v I oI C oC D' m₂ ys nw h tk E' hi hv ⟨rfl, hI⟩ hC hx kF kN off ne
    have hi' : i < ts.length := by rw [List.size_toArray] at hi; rw [← hT.length]; exact hi
    obtain ⟨r, t, u, dv, hat, hr, _⟩ := hT.at i hi'
    have ev := at_arr hv hat
    subst ev
    have ht : (ts.take (i + 1)).map (·.1) = (ts.take i).map (·.1) ++ [ts[i].1] := by
      rw [List.take_add_one, List.map_append, List.getElem?_eq_getElem hi']; rfl
    rw [show (ts.take (i + 1)).map (·.1) = _ from ht]
    generalize ts[i] = q at hr
    obtain ⟨q1, q2, q3⟩ := q
    dsimp only at hr
    (with_reducible show wpAny _ _ _ _ _ _)
    k_fold
    k_steps
    refine LCg.CompEnd.intro (by assumption) kN _ (fun p hp => hp) off (.inr ⟨_, .tail _ (.tail _ hm), rfl, _, rfl⟩) ⟨rfl, ?_⟩
    exact strs_app hI (.cons _ _ .nil)
  case fin =>
    rintro ys nw ⟨rfl, hI⟩
    intro D' h tk kF kN off
    rw [List.take_of_length_le (by rw [List.size_toArray, hT.length]; exact Nat.le_refl _)] at hI
    have hyl := hI.len_eq
    rw [List.length_map] at hyl
    have hrl := (strs_rep (x := PySem.Str.ofString "550 no") (t := s.toks) (lo : Int).toNat).len_eq
    rw [List.length_replicate] at hrl
    k_steps
    refine Hold.out ?_
    refine add_listsN kF kN (.tail _ (.head _)) (.head _) (by first | (rw [hrl]; omega) | omega) ?_
    intro D2 h2 F2 N2 l2
    k_steps
    refine hret _ _ D2 _ _ _ ?_ ?_ (by assumption) (by assumption)
    · exact strs_app (strs_rep _) hI
    · exact fun p hp => .tail _ (.tail _ (.tail _ hp))
end
end Mine
end
section
open PySem PySem.W PyProof.Rows PySem.Spec PySem.Calls
set_option Elab.async false
set_option maxRecDepth 100000
set_option maxHeartbeats 8000000
set_option linter.all false
namespace Mine
local macro_rules | `(tactic| walk_at "M nothing") => `(tactic| skip)
local macro_rules | `(tactic| walk_at $s:str) => `(tactic| k_extra $s)
local macro_rules | `(tactic| omega) => `(tactic| first
  | with_reducible assumption
  | (refine' room1 ?rmh ?rme; (case rmh => with_reducible assumption); (case rme => with_unfolding_all rfl))
  | (refine' room0 ?rmh ?rme; (case rmh => with_reducible assumption); (case rme => with_unfolding_all rfl))
  | (refine' room2 ?rmh ?rme; (case rmh => with_reducible assumption); (case rme => with_unfolding_all rfl))
  | (refine' room00 ?rmh; (case rmh => with_reducible assumption))
  | (refine num_le ?rme; (case rme => with_unfolding_all rfl))
  | (refine num_lt ?rme; (case rme => with_unfolding_all rfl))
  | (refine' le_num ?rmh ?rme; (case rmh => with_reducible assumption); (case rme => with_unfolding_all rfl))
  | (refine' eq_num ?rmh ?rme; (case rmh => with_reducible assumption); (case rme => with_unfolding_all rfl))
  | omega (config := {}))
theorem lines_QO_0 : True := by
  k_with_none
  k_with "execs cons" => ((refine f_execs ?_; intro qk))
  k_with "eval BinOp" => ((refine f_BinOp ?_; intro qk))
  k_with "exec Assign" => ((refine f_Assign ?_; intro qk))
  k_with "eval Subscript" => ((refine f_Subscript ?_; intro qk))
  k_with "isTrue Compare" => ((refine f_Compare ?_; intro qk))
  k_with "exec If" => ((refine f_If ?_; intro qk))
  k_with "eval Call" => (((fail_if_success (with_reducible show wpAny _ _ (eval (Expr.Call (Expr.Attribute _ _ _) _ _ _) _) _ _ _)); refine f_Call ?_; intro qk))
  k_with "spliced" => ((refine f_args ?_; intro qk))
  k_with "callWith" => ((refine f_method1 ?_; intro qk))
  k_with "exec Return some" => ((refine f_Return ?_; intro qk))
  k_with "eval Tuple" => ((refine f_Tuple ?_; intro qk))
  k_with "eval List" => ((refine f_List ?_; intro qk))
  k_with "eval IfExp" => ((refine f_IfExp ?_; intro qk))
  k_with "storeName" => ((k_here; k_dflt (refine' f_store ?F ?N ?_ ?a ?b; (case F => k_asm); (case N => k_asm); (case a => rfl); (case b => rfl); k_whole; intro m' h' F' N'; (try k_sweep))))
  k_with "M map1" => (first
    | (refine map_same ?_; with_unfolding_all rfl)
    | ((repeat' (refine List.forall_mem_cons.mpr (And.intro ?_ ?_))); (all_goals first | rfl | exact List.forall_mem_nil _)))
  k_with "M map2" => (first
    | (refine SameOut.both (b := fun _ => none) ?_ ?_ <;> (repeat (refine SameOut.upd ?_ (by with_unfolding_all rfl))) <;> exact SameOut.lookup rfl)
    | (refine' SameOut.both (b := ?kb) ?k1 ?k2; (case k1 => ((repeat (refine SameOut.upd ?_ (by with_unfolding_all rfl))); exact SameOut.refl)); (case k2 => ((repeat (refine SameOut.upd ?_ (by with_unfolding_all rfl))); exact SameOut.refl)))
    | (refine' SameOut.both (b := ?kb) ?k1 ?k2; (case k2 => ((repeat (refine SameOut.upd ?_ (by with_unfolding_all rfl))); exact SameOut.refl)); (case k1 => ((repeat (refine SameOut.skip ?_)); (repeat (refine SameOut.upd ?_ (by with_unfolding_all rfl))); exact SameOut.refl)))
    | (intro y hy; (repeat (refine (if_neg (ne_of_out hy (by with_unfolding_all rfl))).trans ?_)); (refine Eq.symm ?_); (repeat (refine (if_neg (ne_of_out hy (by with_unfolding_all rfl))).trans ?_)); first | rfl | exact lookup_out rfl hy | exact (lookup_out rfl hy).symm | exact (lookup_out rfl hy).trans (lookup_out rfl hy).symm))
  k_with "M fill" => ((
    have kk : PySem.Challenge.rw_pm0034_03 = PySem.Challenge.rw_pm0034_03 ∧ KK.heap_1 = KK.heap_1 := ⟨rfl, rfl⟩
    revert kk
    k_fill
    intro kk
    clear kk))
  k_with "subscriptTail Name Constant ref int" => ((k_here; refine item_listL (News.isList (by assumption) (by k_mem)) (by decide) (by decide) (by rfl) ?_))
  k_with "M fr2" => ((intro y hy; (repeat (refine (if_neg (ne_of_out hy (by with_unfolding_all rfl))).trans ?_)); (refine Eq.symm ?_); (repeat (refine (if_neg (ne_of_out hy (by with_unfolding_all rfl))).trans ?_)); rfl))
  trivial
theorem things3_len (lv : Nat) (ns : List Int) : (things3 lv ns).length = (fs3 lv).length := by unfold things3; rw [List.length_map, List.length_range, List.length_map]
theorem things3_ok {lv : Nat} (hlv : lv = 3 ∨ lv = 4) (ns : List Int) (j : Nat) (h : j < (fs3 lv).length) (h' : j < (things3 lv ns).length) : ThOk (port3 (fs3 lv)[j]) (things3 lv ns)[j] := by
  have e? : (things3 lv ns)[j]? = some (thg3 ((ns.getD j 0).fmod 10).toNat (poTxt (port3 (fs3 lv)[j])) (leTxt j)) := by
    have eP : ((fs3 lv).map port3).getD j 0 = port3 (fs3 lv)[j] := by rw [List.getD_eq_getElem?_getD, List.getElem?_map, List.getElem?_eq_getElem h]; rfl
    unfold things3
    rw [List.getElem?_map, List.getElem?_range (by rw [List.length_map]; exact h), ← eP]
    rfl
  have e : (things3 lv ns)[j] = thg3 ((ns.getD j 0).fmod 10).toNat (poTxt (port3 (fs3 lv)[j])) (leTxt j) := (List.getElem?_eq_some_iff.mp e?).2
  rw [e]
  have b1 := Int.fmod_nonneg_of_pos (ns.getD j 0) (show (0 : Int) < 10 by decide)
  have b2 := Int.fmod_lt_of_pos (ns.getD j 0) (show (0 : Int) < 10 by decide)
  exact thOk hlv h (by omega)
theorem pairs_led {l led : Ldg} {c : Addr} (h : ∀ {p : Addr × Obj}, p ∈ l → p.1 ≠ c → p ∈ led) (hc : ∀ {r : Addr} {vs : List Value} {e : Nat}, (r, lstOf vs e) ∈ l → r ≠ c) : ∀ {vs : List Value} {fs : List (Int × Int)}, PairsAre l vs fs → PairsAre led vs fs
  | _, _, .nil => .nil
  | _, _, .cons a b => .cons (h a (hc a)) (pairs_led h hc b)
section
variable {w : World} {p : Program} {loose : List PStr} {mean : ExcName → Option Value} {mg mb : PStr → Option Value}
    {dp un : Nat} {gd : Option (List Code)} {a : Addr} {ccd : Value} {c1 c2 c3 : Addr} {A₀ : Around} {base h₀ : Heap} {L : Addr}
    {s : Shared} {news : Ldg}
    (B : Below A₀ base [] h₀) (X : (KK.heap_1 w.params).In h₀) (T : Top p loose mean mg mb h₀) (XB : (KK.heap_1 w.params).In base) (TB : Top p loose mean mg mb base)
include B X T XB TB

theorem law_rest {dn : Addr} {nvs : List Value} {ns : List Int} {o1 o2 o3 : Obj} {m : PStr → Option Value} {Q : Flow → Shared → Prop} {E : Value → Shared → Prop}
   (hd5 : dp + 60 < recursionLimit) (hu5 : un + 500 < cLine) (hE : PassesOwn (model PySem.Challenge.rw_pm0034_03.row.prog w) (ktrTop dp un gd (PySem.Str.ofString "law") lawScope3 L a ccd (cells3 c1 c2 c3) []) (envX (PySem.Str.ofString "law") lawScope3 L a ccd (cells3 c1 c2 c3)) E)
   (F : Fr h₀ L s.heap m) (N : News h₀ L s.heap [(dn, lstOf nvs 0), (c3, o3), (c2, o2), (c1, o1)]) (l12 : @LT.lt Nat _ c1 c2) (l23 : @LT.lt Nat _ c2 c3) (l3d : @LT.lt Nat _ c3 dn)
   (ho1 : o1.data = .cell (some (.ref dn))) (ho2 : o2.data = .cell none) (ho3 : o3.data = .cell none) (hns : IntsAre nvs ns) (hnl : ns.length = 15)
   (hret : ∀ h' tk m' l', Fr h₀ L h' m' → News h₀ L h' l' → Q (.ret (.bool true)) { s with heap := h', toks := tk }) :
   wpC (model PySem.Challenge.rw_pm0034_03.row.prog w) (ktrTop dp un gd (PySem.Str.ofString "law") lawScope3 L a ccd (cells3 c1 c2 c3) []) (execs (lawStmts3.drop 1) (envX (PySem.Str.ofString "law") lawScope3 L a ccd (cells3 c1 c2 c3))) Q E s := by
  refine chunk_any 3 ?_
  refine law_p1 B X T XB TB hd5 hu5 F N l12 l23 l3d ho1 ho2 hns hnl ?_
  intro h1 k1 t1 t2 t3 o2' lv lo sh hlv hlo ho2' F1 N1
  show wpC (model PySem.Challenge.rw_pm0034_03.row.prog w) (ktrTop dp un gd (PySem.Str.ofString "law") lawScope3 L a ccd (cells3 c1 c2 c3) []) (execs (lawStmts3.drop 4) (envX (PySem.Str.ofString "law") lawScope3 L a ccd (cells3 c1 c2 c3))) Q E _
  obtain ⟨M1, eM1, F1⟩ := fr_ext F1
  refine chunk_any 1 ?_
  refine law_p2 B X T XB TB hd5 hu5 hlv F1 N1 (.tail _ (.tail _ (.head _))) ho2' ?_
  intro h2 k2 d vs l2 hP hs2 F2 N2 ld
  show wpC (model PySem.Challenge.rw_pm0034_03.row.prog w) (ktrTop dp un gd (PySem.Str.ofString "law") lawScope3 L a ccd (cells3 c1 c2 c3) []) (execs (lawStmts3.drop 5) (envX (PySem.Str.ofString "law") lawScope3 L a ccd (cells3 c1 c2 c3))) Q E _
  refine chunk_any 1 ?_
  refine law_p3 B X T XB TB hd5 hu5 hlv F2 N2 (.tail _ (hs2 _ (.tail _ (.tail _ (.head _))))) ho2' (.head _) (hP.mono fun p hp => .tail _ hp) ?_
  intro h3 k3 l3 hs3 F3 N3
  show wpC (model PySem.Challenge.rw_pm0034_03.row.prog w) (ktrTop dp un gd (PySem.Str.ofString "law") lawScope3 L a ccd (cells3 c1 c2 c3) []) (execs (lawStmts3.drop 6) (envX (PySem.Str.ofString "law") lawScope3 L a ccd (cells3 c1 c2 c3))) Q E _
  have i1 : (c1, o1) ∈ l3 := hs3 _ (.tail _ (hs2 _ (.tail _ (.tail _ (.tail _ (.head _))))))
  have i2 : (c2, o2') ∈ l3 := hs3 _ (.tail _ (hs2 _ (.tail _ (.tail _ (.head _)))))
  have i3 : (c3, o3) ∈ l3 := hs3 _ (.tail _ (hs2 _ (.tail _ (.head _))))
  have i4 : (dn, lstOf nvs 0) ∈ l3 := hs3 _ (.tail _ (hs2 _ (.head _)))
  have lcd : @LT.lt Nat _ c3 d := ld _ (hs2 _ (.tail _ (.head _)))
  obtain ⟨led, U, N3', hs4, hn4⟩ := news_pick N3 i3
  have inl : ∀ {p : Addr × Obj}, p ∈ l3 → p.1 ≠ c3 → p ∈ led := fun hp hne => by
    rcases List.mem_cons.mp (hs4 _ hp) with rfl | h
    · exact absurd rfl hne
    · exact h
  have ln : @LT.lt Nat _ c3 dn := l3d
  have j1 : (c1, o1) ∈ led := inl i1 (Nat.ne_of_lt (Nat.lt_trans l12 l23))
  have j2 : (c2, o2') ∈ led := inl i2 (Nat.ne_of_lt l23)
  have j4 : (dn, lstOf nvs 0) ∈ led := inl i4 (Nat.ne_of_gt ln)
  have j5 : (d, lstOf vs 0) ∈ led := inl (hs3 _ (.head _)) (Nat.ne_of_gt lcd)
  have hP3 : PairsAre led vs (fs3 lv) := by
    have hPl : PairsAre l3 vs (fs3 lv) := hP.mono fun p hp => hs3 _ (.tail _ hp)
    refine pairs_led inl (fun hm e => ?_) hPl
    have g1 := (N3 _ hm).1
    have g2 := (N3 _ i3).1
    dsimp only at g1 g2
    rw [e] at g1
    have e1 := congrArg Obj.data (Option.some.inj (g1.symm.trans g2))
    rw [ho3] at e1
    cases e1
  -- ports
  refine chunk_any 1 ?_
  refine law_p4 B X T XB TB hd5 hu5 hlv F3 N3' (fun p hp => (hn4 p hp).1) ho3 j5 hP3 ?_
  intro h4 k4 D4 pvs e4 o3' ho3' hpi hne4 F4 N4
  show wpC (model PySem.Challenge.rw_pm0034_03.row.prog w) (ktrTop dp un gd (PySem.Str.ofString "law") lawScope3 L a ccd (cells3 c1 c2 c3) []) (execs (lawStmts3.drop 7) (envX (PySem.Str.ofString "law") lawScope3 L a ccd (cells3 c1 c2 c3))) Q E _
  -- things
  refine chunk_any 1 ?_
  refine law_p5 B X T XB TB hd5 hu5 hlv F4 N4 (.tail _ (.tail _ j1)) ho1 (.tail _ (.tail _ j4)) hns hnl (.tail _ (.head _)) ho3' (.head _) hpi ?_
  intro h5 k5 d5 vs5 e5 l5 hT hs5 hne5 F5 N5
  show wpC (model PySem.Challenge.rw_pm0034_03.row.prog w) (ktrTop dp un gd (PySem.Str.ofString "law") lawScope3 L a ccd (cells3 c1 c2 c3) []) (execs (lawStmts3.drop 8) (envX (PySem.Str.ofString "law") lawScope3 L a ccd (cells3 c1 c2 c3))) Q E _
  obtain ⟨M5, eM5, F5⟩ := fr_ext F5
  have tl5 : (things3 lv ns).length ≤ 15 := by rw [things3_len, fs3_len]; rcases hlv with rfl | rfl <;> decide
  -- start
  refine chunk_any 1 ?_
  refine law_p6 B X T XB TB (d := d5) (lo := lo) (tlo := t3) (m := M5) hd5 hu5 hlo tl5 (fr_map [PySem.Str.ofString "things", PySem.Str.ofString "low"] F5 (by subst eM5 eM1; walk_at "M map1") (by walk_at "M fr2")) N5 (.head _) (hT.mono fun p hp => .tail _ hp) ?_
  intro h6 k6 D6 svs est l6 hss hs6 F6 N6
  show wpC (model PySem.Challenge.rw_pm0034_03.row.prog w) (ktrTop dp un gd (PySem.Str.ofString "law") lawScope3 L a ccd (cells3 c1 c2 c3) []) (execs (lawStmts3.drop 9) (envX (PySem.Str.ofString "law") lawScope3 L a ccd (cells3 c1 c2 c3))) Q E _
  obtain ⟨M6, eM6, F6⟩ := fr_ext F6
  have up4 : ∀ p ∈ led, p ∈ (D6, lstOf svs est) :: l6 := fun p hp => .tail _ (hs6 _ (.tail _ (hs5 _ (.tail _ (.tail _ hp)))))
  refine law_loop (o := ⟨d, d5, D6, lo, t3, sh, t2⟩) (jk := M6) B X T XB TB hd5 hu5 hlv rfl hlo hE (fr_map [PySem.Str.ofString "fractions", PySem.Str.ofString "things", PySem.Str.ofString "start", PySem.Str.ofString "low", PySem.Str.ofString "shift"] F6 (by subst eM6 eM5 eM1; walk_at "M map1") (by walk_at "M fr2")) N6
    (up4 _ j1) ho1 (up4 _ j4) hns hnl (up4 _ j2) ho2' (.tail _ (hs6 _ (.tail _ (hs5 _ (.tail _ (.head _)))))) ho3' (.tail _ (hs6 _ (.tail _ (hs5 _ (.head _))))) hpi (up4 _ j5) (hP3.mono up4) (.tail _ (hs6 _ (.head _))) (hT.mono fun p hp => .tail _ (hs6 _ (.tail _ hp))) (things3_len lv ns) (things3_ok hlv ns) (.head _) hss ?_
  intro h7 k7 jk7 F7 N7
  exact hret _ _ _ _ F7 N7
end
end Mine
end
section
open PySem PySem.W PyProof.Rows PySem.Spec PySem.Calls
set_option Elab.async false
set_option maxRecDepth 100000
set_option maxHeartbeats 8000000
set_option linter.all false
namespace Mine
local macro_rules | `(tactic| walk_at $s:str) => `(tactic| k_extra $s)
local macro_rules | `(tactic| omega) => `(tactic| first
  | with_reducible assumption
  | (refine' room1 ?rmh ?rme; (case rmh => with_reducible assumption); (case rme => with_unfolding_all rfl))
  | (refine' room0 ?rmh ?rme; (case rmh => with_reducible assumption); (case rme => with_unfolding_all rfl))
  | (refine' room2 ?rmh ?rme; (case rmh => with_reducible assumption); (case rme => with_unfolding_all rfl))
  | (refine' room00 ?rmh; (case rmh => with_reducible assumption))
  | (refine num_le ?rme; (case rme => with_unfolding_all rfl))
  | (refine num_lt ?rme; (case rme => with_unfolding_all rfl))
  | (refine' le_num ?rmh ?rme; (case rmh => with_reducible assumption); (case rme => with_unfolding_all rfl))
  | (refine' eq_num ?rmh ?rme; (case rmh => with_reducible assumption); (case rme => with_unfolding_all rfl))
  | omega (config := {}))
theorem lines_EC_0 : True := by
  k_with_none
  k_with "execs cons" => ((refine f_execs ?_; intro qk))
  k_with "eval BinOp" => ((refine f_BinOp ?_; intro qk))
  k_with "exec Assign" => ((refine f_Assign ?_; intro qk))
  k_with "eval Subscript" => ((refine f_Subscript ?_; intro qk))
  k_with "isTrue Compare" => ((refine f_Compare ?_; intro qk))
  k_with "exec If" => ((refine f_If ?_; intro qk))
  k_with "eval Call" => (((fail_if_success (with_reducible show wpAny _ _ (eval (Expr.Call (Expr.Attribute _ _ _) _ _ _) _) _ _ _)); refine f_Call ?_; intro qk))
  k_with "spliced" => ((refine f_args ?_; intro qk))
  k_with "callWith" => ((refine f_method1 ?_; intro qk))
  k_with "exec Return some" => ((refine f_Return ?_; intro qk))
  k_with "eval Tuple" => ((refine f_Tuple ?_; intro qk))
  k_with "eval List" => ((refine f_List ?_; intro qk))
  k_with "eval IfExp" => ((refine f_IfExp ?_; intro qk))
  k_with "storeName" => ((k_here; k_dflt (refine' f_store ?F ?N ?_ ?a ?b; (case F => k_asm); (case N => k_asm); (case a => rfl); (case b => rfl); k_whole; intro m' h' F' N'; (try k_sweep))))
  k_with "M map1" => (first
    | (refine map_same ?_; with_unfolding_all rfl)
    | ((repeat' (refine List.forall_mem_cons.mpr (And.intro ?_ ?_))); (all_goals first | rfl | exact List.forall_mem_nil _)))
  k_with "M map2" => (first
    | (refine SameOut.both (b := fun _ => none) ?_ ?_ <;> (repeat (refine SameOut.upd ?_ (by with_unfolding_all rfl))) <;> exact SameOut.lookup rfl)
    | (refine' SameOut.both (b := ?kb) ?k1 ?k2; (case k1 => ((repeat (refine SameOut.upd ?_ (by with_unfolding_all rfl))); exact SameOut.refl)); (case k2 => ((repeat (refine SameOut.upd ?_ (by with_unfolding_all rfl))); exact SameOut.refl)))
    | (refine' SameOut.both (b := ?kb) ?k1 ?k2; (case k2 => ((repeat (refine SameOut.upd ?_ (by with_unfolding_all rfl))); exact SameOut.refl)); (case k1 => ((repeat (refine SameOut.skip ?_)); (repeat (refine SameOut.upd ?_ (by with_unfolding_all rfl))); exact SameOut.refl)))
    | (intro y hy; (repeat (refine (if_neg (ne_of_out hy (by with_unfolding_all rfl))).trans ?_)); (refine Eq.symm ?_); (repeat (refine (if_neg (ne_of_out hy (by with_unfolding_all rfl))).trans ?_)); first | rfl | exact lookup_out rfl hy | exact (lookup_out rfl hy).symm | exact (lookup_out rfl hy).trans (lookup_out rfl hy).symm))
  k_with "M fill" => ((
    have kk : PySem.Challenge.rw_pm0034_03 = PySem.Challenge.rw_pm0034_03 ∧ KK.heap_1 = KK.heap_1 := ⟨rfl, rfl⟩
    revert kk
    k_fill
    intro kk
    clear kk))
  k_with "M enter" => ((
    refine wpAny_call ?_
    k_dflt (refine' code_def ?k1 ?k2 ?k3 ?k4 ?k5 ?kA ?kF ?kK ?k6 ?k7 ?k8 ?k9 ?kB ?_ ?c2 ?c3 ?c4 ?c5; (case kA => exact rfl); (case kF => exact rfl); (case kK => assumption); (case k1 => k_asm); (case k2 => k_asm); (case k3 => k_asm); (case k4 => k_asm); (case k5 => k_asm); (case k6 => k_is); (case k7 => k_is); (case k8 => ((try dsimp only); omega)); (case k9 => first | exact BindsTo.of_eq rfl | (refine' kp_binds ?kx ?ke; (case kx => first | (refine' myIn ?kf ?ki; (case kf => with_reducible assumption); (case ki => with_reducible assumption)) | k_in); (case ke => exact fun _ => rfl)) | exact binds_K (by first | (refine' myIn ?kf ?ki; (case kf => with_reducible assumption); (case ki => with_reducible assumption)) | k_in) rfl (by k_is) rfl rfl rfl); (case c5 => decide); (case kB => exact locs rfl); (case c2 => exact rfl); (case c3 => exact rfl); (case c4 => exact rfl); k_whole; intro g' L' h' FG' F' N' B' X' T'; (have D' := kts_dict B' (by assumption) FG' rfl); (try dsimp only); (try k_lift B'); (refine let_AE (f := execs _) ?_; intro vk ak); (refine f_QE ?_; intro qk ek))))
  k_with "M enter0" => ((
    refine wpAny_call ?_
    k_dflt (refine' code_defS0X ?k1 ?k2 ?k3 ?k4 ?k5 ?kA ?kF ?kK ?k6 ?k7 ?k8 ?k9 ?kB ?_ ?c2 ?c3 ?c4 ?c5; (case kA => exact rfl); (case kF => exact rfl); (case kK => assumption); (case k1 => k_asm); (case k2 => k_asm); (case k3 => k_asm); (case k4 => k_asm); (case k5 => k_asm); (case k6 => k_is); (case k7 => k_is); (case k8 => ((try dsimp only); omega)); (case k9 => first | exact BindsTo.of_eq rfl | (refine' kp_binds ?kx ?ke; (case kx => first | (refine' myIn ?kf ?ki; (case kf => with_reducible assumption); (case ki => with_reducible assumption)) | k_in); (case ke => exact fun _ => rfl)) | exact binds_K (by first | (refine' myIn ?kf ?ki; (case kf => with_reducible assumption); (case ki => with_reducible assumption)) | k_in) rfl (by k_is) rfl rfl rfl); (case c5 => decide); (case kB => exact locs rfl); (case c2 => exact rfl); (case c3 => exact rfl); (case c4 => exact rfl); k_whole; intro g' L' h' FG' F' N' B' X' T' D'; (try dsimp only); (try k_lift B'); (refine let_AE (f := execs _) ?_; intro vk ak); (refine f_QE ?_; intro qk ek))))
  trivial
local macro_rules | `(tactic| k_mem) => `(tactic| first | with_reducible assumption | (refine mem_in ?_; with_reducible assumption))
theorem lines_EC_1 : True := by
  k_with "subscriptTail Name Constant ref int" => ((k_here; refine item_tupleT (News.isTup (by assumption) (by k_mem)) (by decide) (by decide) (by rfl) (by rfl) ?_))
  k_with "subscriptTail Name Constant ref int" => ((k_here; (with_reducible rename StrsAre _ _ => hSA); refine item_strsA (News.isList (by assumption) (by k_mem)) hSA (by decide) (by first | omega | (simp only [List.length_map]; omega)) (by decide) ?_; intro t'))
  k_with "call type:ValueError" => ((refine call_ValueError_made ?_; intro _ _ _))
  k_with "exec While Compare Name cons nil" => (refine Hold.mk ?_)
  k_with "exec While Compare" => (refine Hold.mk ?_)
  k_with "exec While Compare cons nil" => (refine Hold.mk ?_)
  k_with "exec While" => (refine Hold.mk ?_)
  k_with "binaryOp FloorDiv int int" => ((k_here; (with_reducible refine floordiv_pos ?kb1 ?kb2 ?_); (case kb1 => decide); (case kb2 => decide +kernel)))
  k_with "WhlIf" => ((refine whlIf_dec ?_ ?_ <;> intro _))
  k_with "subscriptTail Name Name ref int" => ((k_here; first
    | ((with_reducible rename StrsAre _ _ => hSA); refine item_strsA (News.isList (by assumption) (by k_mem)) hSA (by omega) (by omega) (by omega) ?_; intro t')
    | ((with_reducible rename IntsAre _ _ => hSA); refine item_intsA (News.isList (by assumption) (by k_mem)) hSA (by omega) (by omega) (by omega) ?_; intro t')))
  k_with "call builtin:len" => ((k_here; (with_reducible show wpAny _ _ (call (Value.builtin "len") [Value.ref _]) _ _ _); first
    | ((with_reducible rename StrsAre _ _ => hSA); refine len_strsA (News.isList (by assumption) (by k_mem)) hSA (by omega) ?_)
    | ((with_reducible rename IntsAre _ _ => hSA); refine len_intsA (News.isList (by assumption) (by k_mem)) hSA (by omega) ?_)))
  k_with "subscriptTail Name Constant ref int" => ((k_here; refine item_listL (News.isList (by assumption) (by k_mem)) (by decide) (by decide) (by rfl) ?_))
  trivial
local macro_rules | `(tactic| k_mem) => `(tactic| first | with_reducible assumption | (refine mem_in ?_; with_reducible assumption))
theorem lines_EC_2 : True := by
  k_with "call builtin:len" => ((k_here; (with_reducible show wpAny _ _ (call (Value.builtin "len") [Value.ref _]) _ _ _); k_dflt (refine' len_intsA (News.isList ?kN ?kM) ?kI ?kf ?_; (case kN => with_reducible assumption); (case kM => k_mem); (case kI => with_reducible assumption); (case kf => omega))))
  k_with "subscriptTail List cons Slice ref ref" => ((k_here; k_dflt (refine' slice_LA ?zF ?zN ?zl ?zp ?zq ?zz ?ze ?_; (case zF => k_asm); (case zN => k_asm); (case zl => k_mem); (case zp => kmk_part); (case zq => kmk_part); (case zz => exact Nat.le_of_ble_eq_true rfl); (case ze => exact kms_from (by omega))); intro D' h' F' N' l1; (try simp only [AllLt, and_true] at l1); (try k_sweep)))
  k_with "binaryOp Add ref ref" => ((k_here; (with_reducible show wpAny _ _ (binaryOp Operator.Add (Value.ref _) (Value.ref _)) _ _ _); k_dflt (refine' add_listsA ?laF ?laN ?laA ?laB ?z ?_; (case laF => with_reducible assumption); (case laN => with_reducible assumption); (case laA => k_mem); (case laB => k_mem); (case' z => try ((simp only [List.length_append, List.length_cons, List.length_nil, List.length_drop]; omega))); (rotate_left)); intro D' h' F' N' l1; (try simp only [AllLt, and_true] at l1); (try k_sweep)))
  trivial
theorem pick4 {h₀ h : Heap} {L dn c1 c2 c3 : Addr} {od o1 o2 o3 : Obj} {r : Ldg} (N : News h₀ L h ((dn, od) :: r)) (h3 : List.Mem (c3, o3) r) (h2 : List.Mem (c2, o2) r) (h1 : List.Mem (c1, o1) r) : News h₀ L h [(dn, od), (c3, o3), (c2, o2), (c1, o1)] := by
  refine news_sub N (fun p hp => ?_)
  simp only [List.mem_cons, List.not_mem_nil, or_false] at hp
  rcases hp with rfl | rfl | rfl | rfl
  · exact .head _
  · exact .tail _ h3
  · exact .tail _ h2
  · exact .tail _ h1
/- the twins that the head shall not lay: their names are taken -/
theorem ent.tw11618098669023500176 : True := trivial
theorem ent.tw2771316829565461559 : True := trivial
theorem ent.tw9302528812593556092 : True := trivial
theorem ent.tw965385637295370399 : True := trivial
theorem ent.tw4063407532730817763 : True := trivial
theorem ent.tw1516465837253012554 : True := trivial
theorem ent.tw13432968655758447626 : True := trivial
theorem ent.tw16885544382368610166 : True := trivial
theorem ent.tw6891139855123302505 : True := trivial
theorem ent.tw12252386231092461936 : True := trivial
theorem ent.tw2695968606971779601 : True := trivial
theorem ent.tw13506949055404273276 : True := trivial
theorem ent.tw4851271275485956769 : True := trivial
theorem ent.tw9489627583872016878 : True := trivial
theorem ent.tw4162229239276148266 : True := trivial
theorem ent.tw13944327399264198136 : True := trivial
theorem ent.tw921565586725828724 : True := trivial
theorem ent.tw17007612951780779675 : True := trivial
theorem ent.tw15780559988839259520 : True := trivial
theorem ent.tw15902464354496096016 : True := trivial
theorem ent.tw17446647621500494670 : True := trivial
theorem ent.tw12590180780119857450 : True := trivial
theorem ent.tw8126022878953759100 : True := trivial
theorem ent.tw2416441627814563113 : True := trivial
theorem ent.tw6937287935812079051 : True := trivial
theorem ent.tw17740047394508217023 : True := trivial
theorem ent.tw11189685292102728872 : True := trivial
theorem ent.tw10510438458574914626 : True := trivial
theorem ent.tw10295008580627740225 : True := trivial
theorem ent.tw15660893225672353441 : True := trivial
theorem ent.tw9083101432570292833 : True := trivial
theorem ent.tw17804288696469691632 : True := trivial
theorem ent.tw12985108035480580945 : True := trivial
theorem ent.tw13905818789508939664 : True := trivial
theorem ent.tw14622243764988241408 : True := trivial
theorem ent.tw6697463210497724188 : True := trivial
theorem ent.tw1093658620362908362 : True := trivial
theorem ent.tw1782018966378916780 : True := trivial
theorem ent.tw3789240652969731326 : True := trivial
theorem ent.tw9826517634475178137 : True := trivial
theorem ent.tw877696312361013255 : True := trivial
theorem ent.tw8334166801288535734 : True := trivial
theorem ent.tw7867800897534519721 : True := trivial
theorem ent.tw1001812845318439239 : True := trivial
theorem ent.tw16466561070405325201 : True := trivial
theorem ent.tw5145174064968752092 : True := trivial
theorem ent.tw11907130770946733735 : True := trivial
theorem ent.tw11257841790516057740 : True := trivial
theorem ent.tw2654965641325855343 : True := trivial
theorem ent.tw13462005219501872095 : True := trivial
theorem ent.tw8512247190054367176 : True := trivial
theorem ent.tw16124138642107745952 : True := trivial
theorem ent.tw6562632098338578410 : True := trivial
theorem ent.tw9150221764502145784 : True := trivial
theorem ent.tw1473326306436843419 : True := trivial
theorem ent.tw5615458117615260142 : True := trivial
theorem ent.tw10874421164506754273 : True := trivial
theorem ent.tw13709641985461573907 : True := trivial
theorem ent.tw11356663266649361772 : True := trivial
theorem ent.tw4424947311138813309 : True := trivial
theorem ent.tw4341923390679760871 : True := trivial
theorem ent.tw7820406090498821349 : True := trivial
theorem ent.tw14745009381108952041 : True := trivial
theorem ent.tw4602870790579085505 : True := trivial
theorem ent.tw12734911647419630985 : True := trivial
theorem ent.tw7673044618739906305 : True := trivial
theorem ent.tw268349278618165966 : True := trivial
theorem ent.tw1308998411234956552 : True := trivial
theorem ent.tw12892755558628803750 : True := trivial
theorem ent.tw5713655896999693038 : True := trivial
theorem ent.tw17489713426283772547 : True := trivial
theorem ent.tw17007370634044993865 : True := trivial
theorem ent.tw11148115983323863130 : True := trivial
theorem ent.tw10992592450313219679 : True := trivial
theorem ent.tw901652852892279037 : True := trivial
theorem ent.tw2042380392723975286 : True := trivial
theorem ent.tw17784896917641293491 : True := trivial
theorem ent.tw17563570890829398819 : True := trivial
theorem ent.tw15114520583717274073 : True := trivial
theorem ent.tw15012419659496536121 : True := trivial
theorem ent.tw14245994812190181737 : True := trivial
theorem ent.tw12388912854107882591 : True := trivial
theorem ent.tw10869375691930559665 : True := trivial
theorem ent.tw6202851732022225869 : True := trivial
theorem ent.tw1714110176373728574 : True := trivial
theorem ent.tw6428005599338154175 : True := trivial
theorem ent.tw8032228961122177110 : True := trivial
theorem ent.tw12462445518292977384 : True := trivial
theorem ent.tw10958061025027715889 : True := trivial
theorem ent.tw5724548805580408354 : True := trivial
theorem ent.tw6426901304308559227 : True := trivial
theorem ent.tw479306314723591682 : True := trivial
theorem ent.tw13199158980435300145 : True := trivial
theorem ent.tw4456649331118035084 : True := trivial
theorem ent.tw9408631248412832856 : True := trivial
theorem ent.tw189906275203427425 : True := trivial
theorem ent.tw1145989232014901681 : True := trivial
theorem ent.tw4078818987496997734 : True := trivial
theorem ent.tw2206173332334135606 : True := trivial
theorem ent.tw5823907512306456361 : True := trivial
theorem ent.tw27972703828295635 : True := trivial
set_option Elab.async true
theorem ent : PySem.Challenge.rw_pm0034_03.Holds := by
  w_on
  o_law
  o_head (kHook KK.heap_1 [2, 3, 6, 15, 16, 17, 19, 20, 22, 23, 24, 25, 26, 28, 29, 31, 32, 33, 34, 35, 37, 38, 40, 41, 42, 43, 44, 46, 47, 49, 50, 51, 58, 59, 60, 61, 64, 71, 72, 73, 76, 83, 84, 85, 88, 90, 91, 93, 94, 95, 97, 98, 100, 101, 102, 104, 105, 107, 108, 109, 111, 112, 114, 115, 116, 118, 119, 121, 122, 123, 125, 126, 128, 129, 130, 132, 133, 135, 136, 137, 139, 140, 142, 143, 144, 147, 148] (fun _ => by kernel_rfl))
  (case hw => w_witness2)
  w_top off
  k_fill
  intro w s₀ s₁ mg mb G Y a o pm cd doc dV kV ho hdat hcd hD hmg hg args vals as hpre hlay hrd hwl hlo
  have KX := kIn_of Y
  have X := (Ground.X G).1
  have V := (Ground.X G).2
  refine Ground.open G ?_
  intro T B D TE TW
  try (refine guard_noD D (by decide +kernel) ?_; clear D)
  obtain ⟨_, _, M⟩ := bmod_of_top T
  have TA := at_of_top T
  try (obtain ⟨_, _, he, B0⟩ := based_of_top T rfl hmg ho hdat; have he' : cd = _ := he; subst he'; clear he)
  clear hmg
  wrow_args hpre hlay hrd hwl hlo
  refine codeC_mono (R := fun r s' => GoodW _ _ _ _ _ r s') ?_ (fun _ _ g => GoodW.toG g)
  have he := Dflts.none hD rfl; subst he; have he := Dflts.noKw hD; subst he
  refine call_cells_C (by decide) ho (fd_plain hdat) (Top.nolimit T) hcd rfl (kinds_of (by kinds_ok)) (by decide) fun h₁ tk₁ cells F N0 X0 => ?_
  cells_open X0
  rename_i w3 w2 w1 hw3 hw2 hw1
  clear hdat
  k_drop
  have K0 := below_caller (Top.heap T)
  refine execs_pre (pre := [_]) (rest := _) ?_
  k_fold
  k_steps
  case' z => (refine len_room (by assumption) (by simp only [List.length_take, List.length_drop, List.length_cons, List.length_nil]; omega))
  (with_reducible rename Fr _ _ _ _ => kF)
  (with_reducible rename News _ _ _ _ => kN)
  rename _ = Data.cell (some (Value.ref _)) => kd
  have hn2 : w2.data = .cell none := by with_unfolding_all exact hw2
  have hn3 : w3.data = .cell none := by with_unfolding_all exact hw3
  clear hw1 hw2 hw3 X0
  refine' law_rest (o1 := _) (o2 := w2) (o3 := w3) (A₀ := callerA) (base := s₁.heap) (h₀ := s₁.heap) K0 KX T KX T ?a1 ?a2 ?a3 kF (pick4 kN ?b3 ?b2 ?b1) ?a5 ?a6 ?a7 kd hn2 hn3 (intsAre_append (by assumption) (intsAre_drop _ ?a8)) ?a9 ?a10
  case a8 => (repeat' constructor)
  case a1 => decide +kernel
  case a2 => decide +kernel
  case a3 => passes_own
  case b3 => (repeat (first | exact List.Mem.head _ | refine List.Mem.tail _ ?_))
  case b2 => (repeat (first | exact List.Mem.head _ | refine List.Mem.tail _ ?_))
  case b1 => (repeat (first | exact List.Mem.head _ | refine List.Mem.tail _ ?_))
  case a5 => omega
  case a6 => omega
  case a7 => omega
  case a9 => (simp only [List.length_append, List.length_take, List.length_drop, List.length_cons, List.length_nil]; omega)
  case a10 =>
    intro h' tk m' l' F' N'
    k_steps
set_option Elab.async false
end Mine
end
set_option maxRecDepth 100000 in
theorem PySem.Challenge.cw_pm0034_03_holds : PySem.Challenge.rw_pm0034_03.Holds :=
  Mine.ent
