import PyProof.Rows.All
import Wide.All
import OpenK.AllK
import Wide.FinOn
import Lean
import PySem.Challenge.RW_pm0034_02
set_option rowWalk.seconds 6000
set_option Elab.async false
section
open PySem PySem.W PyProof.Rows PySem.Spec PySem.Calls
set_option Elab.async false
set_option maxRecDepth 100000
set_option linter.unusedVariables false
namespace Mine
/-! contexts whose stack bears the claim's caller: there a refusal of int() books nothing -/
def Called (Γ : PySem.Ctx) : Prop := (Γ.below.any fun x => x.1.isCaller) = true
theorem Called.enter {Γ : PySem.Ctx} (h : Called Γ) (c : Code) (hd : Option Value) (p : Pos) : Called (Γ.enter c hd p) := by
  unfold Called at *
  show ((Γ.code, p) :: Γ.below).any _ = true
  rw [List.any_cons, h, Bool.or_true]
theorem Called.goto {Γ : PySem.Ctx} (h : Called Γ) (c : Code) : Called (Γ.goto c) := h
def wpC {α : Type} (M : Model) (A : Around) (t : Sem α) (Q : α → Shared → Prop) (E : Value → Shared → Prop) (s : Shared) : Prop :=
  ∀ Γ p, Γ.In A → Called Γ → Sem.wp M Γ t (fun a _ s' => Q a s') (fun e _ s' => E e s') p s
def codeC (M : Model) (A : Around) (c : Code) (R : Result → Shared → Prop) (s : Shared) : Prop :=
  ∀ Γ p, Γ.code = c → Γ.Below A → Called Γ → wpCode M Γ R p s
section
variable {α β : Type} {M : Model} {A : Around} {E : Value → Shared → Prop} {s : Shared}
theorem wpC_any {t : Sem α} {Q : α → Shared → Prop} (h : wpAny M A t Q E s) : wpC M A t Q E s := fun Γ p hΓ _ => h Γ p hΓ
theorem codeC_any {c : Code} {R : Result → Shared → Prop} (h : codeAny M A c R s) : codeC M A c R s := fun Γ p hc hΓ _ => h Γ p hc hΓ
theorem wpC_pure {a : α} {Q : α → Shared → Prop} (h : Q a s) : wpC M A (pure a) Q E s := fun _ _ _ _ => h
theorem wpC_throw {e : Value} {Q : α → Shared → Prop} (h : E e s) : wpC M A (throw e : Sem α) Q E s := fun _ _ _ _ => h
theorem wpC_mono {t : Sem α} {Q Q' : α → Shared → Prop} {E' : Value → Shared → Prop} (h : wpC M A t Q E s) (hQ : ∀ a s, Q a s → Q' a s) (hE : ∀ e s, E e s → E' e s) : wpC M A t Q' E' s :=
  fun Γ p hΓ hc => Sem.wp_mono M Γ t (fun a _ s => hQ a s) (fun e _ s => hE e s) p s (h Γ p hΓ hc)
theorem codeC_mono {c : Code} {R R' : Result → Shared → Prop} (h : codeC M A c R s) (hR : ∀ r s, R r s → R' r s) : codeC M A c R' s :=
  fun Γ p hc hΓ hk => wpCode_mono hR (h Γ p hc hΓ hk)
theorem wpC_bind {m : Sem α} {f : α → Sem β} {Q : β → Shared → Prop} (h : wpC M A m (fun a s' => wpC M A (f a) Q E s') E s) : wpC M A (m >>= f) Q E s := fun Γ p hΓ hc => by
  rw [Sem.wp_bind']
  exact Sem.wp_mono M Γ m (fun a p' s' h' => h' Γ p' hΓ hc) (fun _ _ _ h' => h') p s (h Γ p hΓ hc)
/-- the first part in any context, the rest in a called one -/
theorem wpC_then {m : Sem α} {f : α → Sem β} {Q : β → Shared → Prop} (h : wpAny M A m (fun a s' => wpC M A (f a) Q E s') E s) : wpC M A (m >>= f) Q E s := wpC_bind (wpC_any h)
theorem wpC_tryCatch {m : Sem α} {k : Value → Sem α} {Q : α → Shared → Prop} (h : wpC M A m Q (fun e s' => wpC M A (k e) Q E s') s) : wpC M A (tryCatch m k) Q E s := fun Γ p hΓ hc => by
  rw [Sem.wp_tryCatch']
  exact Sem.wp_mono M Γ m (fun _ _ _ h' => h') (fun e p' s' h' => h' Γ p' hΓ hc) p s (h Γ p hΓ hc)
theorem wpC_onRaise {m : Sem α} {k : Value → Sem Unit} {Q : α → Shared → Prop} (h : wpC M A m Q (fun e s' => wpC M A (k e) (fun _ s'' => E e s'') E s') s) : wpC M A (m.onRaise k) Q E s := fun Γ p hΓ hc => by
  rw [Sem.wp_onRaise]
  exact Sem.wp_mono M Γ m (fun _ _ _ h' => h') (fun e p' s' h' => h' Γ p' hΓ hc) p s (h Γ p hΓ hc)
theorem wpC_attempt {m : Sem α} {Q : Except Value α → Shared → Prop} (h : wpC M A m (fun a => Q (.ok a)) (fun e => Q (.error e)) s) : wpC M A m.attempt Q E s := fun Γ p hΓ hc => by
  rw [Sem.wp_attempt]; exact h Γ p hΓ hc
theorem wpC_holding {vs : List Value} {m : Sem α} {Q : α → Shared → Prop} (h : wpC M A m Q E s) : wpC M A (holding vs m) Q E s :=
  fun Γ p hΓ hc => by rw [Sem.wp_holding]; exact h Γ p hΓ hc
theorem wpC_keep {vs : List Value} {m : Sem α} {Q : α → Shared → Prop} (h : wpC M A m Q E s) : wpC M A (m.keep vs) Q E s :=
  fun Γ p hΓ hc => by rw [Sem.wp_keep]; exact h Γ p hΓ hc
theorem wpC_standAt {pos : Pos} {Q : Unit → Shared → Prop} (h : Q () s) : wpC M A (standAt pos) Q E s := fun _ _ _ _ => h
theorem wpC_run {c : Code} {h : Option Value} {Q : Flow → Shared → Prop}
    (hc : codeC M (A.mark h) c (fun r s' => match r with | .ok f => Q f s' | .error e => E e s') s) (hnb : h ≠ some byPass := by intro x; cases x) : wpC M A (run c h) Q E s :=
  fun Γ p hΓ hk => by rw [Sem.wp_run]; exact hc _ p rfl (hΓ.enter c h p hnb) (hk.enter ..)
theorem wpC_call {f : Value} {pos : List Value} {kw : List (Str × Value)} {Q : Value → Shared → Prop}
    (hc : codeC M A (.call f ⟨pos, kw⟩) (fun r s' => match r with | .ok (.ret v) => Q v s' | .ok _ => False | .error e => E e s') s) : wpC M A (call f pos kw) Q E s :=
  fun Γ p hΓ hk => by
    show Sem.wp M Γ (runValue _) _ _ p s
    rw [Sem.wp_runValue]; exact hc _ p rfl (hΓ.enter _ none p (by intro x; cases x)) (hk.enter ..)
theorem wpC_runValue {c : Code} {Q : Value → Shared → Prop}
    (hc : codeC M A c (fun r s' => match r with | .ok (.ret v) => Q v s' | .ok _ => False | .error e => E e s') s) : wpC M A (runValue c) Q E s :=
  fun Γ p hΓ hk => by rw [Sem.wp_runValue]; exact hc _ p rfl (hΓ.enter _ none p (by intro x; cases x)) (hk.enter ..)
theorem codeC_of_tree {c : Code} {R : Result → Shared → Prop}
    (h : wpC M (A.under c) (M.den c) (fun fin s' => match fin with | .done f => R (.ok f) s' | .again c' => c'.quiet = true ∧ codeC M A c' R s') (fun e s' => R (.error e) s') s) : codeC M A c R s := fun Γ p hc hΓ hk => by
  rw [wpCode_iff_wp, hc]
  refine Sem.wp_mono M Γ _ (fun fin p' s' h' => ?_) (fun _ _ _ h' => h') p s (h Γ p (hc ▸ hΓ.in) hk)
  cases fin with
  | done f => exact h'
  | again c' => exact ⟨h'.1, h'.2 (Γ.goto c') p' rfl (hΓ.goto c') hk⟩
theorem wpC_ite {c : Prop} [Decidable c] {a b : Sem α} {Q : α → Shared → Prop} (h : if c then wpC M A a Q E s else wpC M A b Q E s) : wpC M A (if c then a else b) Q E s := by split <;> simp_all
/-- the mark of a refusal: nothing, where the caller is below -/
theorem wpC_markTheRefusal {own : List String} {e : Value} {Q : Unit → Shared → Prop} (h : Q () s) : wpC M A (markTheRefusal own e) Q E s := by
  intro Γ p hΓ hc
  unfold markTheRefusal
  rw [Sem.wp_bind']
  unfold stack
  rw [Sem.wp_stack, Sem.wp_pure]
  have hf : pythonCodeMadeTheCall own ((((Γ.code, p) :: Γ.below)).map (·.1)) = false := by
    have h1 : ((((Γ.code, p) :: Γ.below)).map (·.1)).any Code.isCaller = true := by
      rw [List.map_cons, List.any_cons, List.any_map]
      have h2 : (Γ.below.any (Code.isCaller ∘ fun x => x.1)) = true := hc
      rw [h2, Bool.or_true]
    have h3 : ∀ L : List Code, L.any Code.isCaller = true → pythonCodeMadeTheCall own L = false := by
      intro L hL
      unfold pythonCodeMadeTheCall
      rw [Bool.and_assoc]
      exact Bool.and_eq_false_iff.mpr (Or.inl (by
        have e : (L.any fun c => match c with | Code.builtin "claim.caller" _ => true | _ => false) = L.any Code.isCaller := rfl
        first | (rw [Bool.not_eq_false']; exact hL) | (simp only [Bool.not_eq_false']; exact hL)))
    exact h3 _ h1
  rw [hf]
  exact h
end
section
variable {prog : Program} {w : World} {A : Around} {s : Shared} {R : Result → Shared → Prop}
theorem codeC_builtin {id : String} {args : Args} {b : Builtin} (hb : entryFor table id = some b)
    (h : wpC (model prog w) (A.under (.builtin id args)) (b args) (fun fin s' => match fin with | .done f => R (.ok f) s' | .again c' => c'.quiet = true ∧ codeC (model prog w) A c' R s') (fun e s' => R (.error e) s') s) :
    codeC (model prog w) A (.builtin id args) R s := by
  refine codeC_of_tree ?_
  show wpC _ _ (match entryFor table id with | some b => b args | none => unsupported ((withoutEnding? id "#data").getD id)) _ _ s
  rw [hb]; exact h
theorem codeC_call_builtin {id : String} {args : Args} {b : Builtin} (hq : plainId id = true) (hb : entryFor table id = some b) (hk : checkBuiltinCall id args = pure ())
    (h : wpC (model prog w) A.in1 (b args) (fun fin s' => match fin with | .done f => R (.ok f) s' | .again c' => c'.quiet = true ∧ codeC (model prog w) A c' R s') (fun e s' => R (.error e) s') s) :
    codeC (model prog w) A (.call (.builtin id) args) R s := by
  refine codeC_of_tree ?_
  show wpC _ A.in1 (do checkBuiltinCall id args; again (.builtin id args)) _ _ s
  rw [hk]
  refine wpC_pure (And.intro (plainId_quiet hq args) (codeC_builtin hb ?_))
  rw [Around.under_plainId hq]
  exact h
end
end Mine
end
section
open PySem PySem.W PyProof.Rows PySem.Spec PySem.Calls
set_option Elab.async false
set_option maxRecDepth 100000
set_option maxHeartbeats 4000000
set_option linter.unusedVariables false
namespace Mine
section
variable {prog : Program} {w : World} {A : Around} {E : Value → Shared → Prop} {s : Shared}
/-- what int() makes of a text that is no number: from the new's tree on -/
theorem callInt_C {v : Value} {Q : Value → Shared → Prop} (h : codeC (model prog w) A.in1 (.call (.builtin "int.__new__") ⟨[.type "int", v], []⟩) (fun r s' => match r with | .ok _ => False | .error e => E e s') s) :
    wpC (model prog w) A (call (.type "int") [v]) Q E s := by
  obtain ⟨c, tl, hmro⟩ := F.called_int.mro
  have hmade := F.called_int.made
  have hsub := F.called_int.sub
  refine wpC_call (codeC_of_tree ?_)
  show wpC _ _ (callAny (.type "int") _) _ _ _
  refine wpC_pure ⟨Code.quiet_builtin _ (by decide +kernel), codeC_builtin F.entry_type_call ?_⟩
  rw [Around.under_plain (weight_type_call_type "int" [v] []) (units_type_call_type "int" [v] [])]
  have h1 := F.called_int.notType
  have h2 := F.called_int.canCreate
  unfold Builtin.«type.__call__»
  simp only [h1, h2, Bool.false_eq_true, if_false, hmro, hmade, F.typeCall_int_1, pure_bind, List.isEmpty_cons]
  refine wpC_bind (wpC_holding (wpC_call (codeC_mono h fun r s' hr => ?_)))
  cases r with
  | ok f => exact hr.elim
  | error e => exact hr
theorem intNew_C {x : Str} {t : Tok} {Q : Fin → Shared → Prop}
    (h : wpC (model prog w) A ((int_private% "intFromText") (.str x t) (numTextOf x) 10) (fun _ _ => False) E s) :
    wpC (model prog w) A (Builtin.«int.__new__» ⟨[.type "int", .str x t], []⟩) Q E s := by
  have f1 := F.conv_sub_int
  have f2 := F.madeHere_int
  have f3 := KIN.str_int
  have f4 := KIN.str_idx
  have f5 := KIN.str_trunc
  have f6 : typeOf (.str x t) = pure (.type "str") := rfl
  unfold Builtin.«int.__new__»
  have g1 : isType (.type "int") = pure true := rfl
  have g2 : ((.type "int" : Value) == .type "int") = true := by decide
  simp only [g1, f1, f2, g2, pure_bind, Bool.not_true, Bool.false_eq_true, if_false, if_true, List.isEmpty_nil, List.length_cons, List.length_nil, Bool.true_and, List.head?_cons, List.forIn_nil, Nat.zero_add, Nat.reduceAdd, Nat.reduceLT, gt_iff_lt, decide_false, List.getElem?_cons_succ, List.getElem?_nil, List.head?_nil, Option.map_none]
  show wpC _ _ (((int_private% "intFromObject") (.str x t)) >>= fun v => ret v) _ _ _
  refine wpC_bind ?_
  obtain ⟨hp, g, d, tk, os⟩ := s
  refine wpC_mono (Q := fun _ _ => False) ?_ (fun _ _ q => q.elim) fun _ _ q => q
  (with_unfolding_all refine wpC_then ?_)
  repeat (first | assumption | wp_step)
def intRefusal (x : Str) : Str := Str.ofString "invalid literal for int() with base 10: " ++ ⟨(reprText x).cps.extract 0 200⟩
theorem intText_C {x : Str} {t : Tok} (hl : x.length ≤ 640) (hz : (reprText x).length ≤ 10000) (hn : PySem.intText? x = none) (hh : A.handled = none)
    (h : ∀ h' tk tk' e, Heap.MadeExc s.heap h' e "ValueError" [.str (intRefusal x) tk'] → E (.ref e) { s with heap := h', toks := tk }) :
    wpC (model prog w) A ((int_private% "intFromText") (.str x t) (numTextOf x) 10) (fun _ _ => False) E s := by
  have hs : (numSeenOf x).length ≤ 640 := Nat.le_trans (seen_length x) hl
  have hr : (int_private% "readNumeral") 0 10 (numSeenOf x) = int_private% "Numeral.invalid" ∨
      ∃ i, (int_private% "readNumeral") 0 10 (numSeenOf x) = (int_private% "Numeral.value") i ∧ ¬ ((numSeenOf x).length == (numTextOf x).length) = true := by
    rcases read0 x hs with ⟨m, h1, h2, h3⟩ | ⟨h1, h2⟩
    · rw [hn] at h1
      cases h1
    · exact h2
  show wpC _ _ (if (numSeenOf x).length ≤ 640 then _ else _) _ _ _
  rw [if_pos hs]
  refine wpC_then (wpAny_pure ?_)
  have fin : wpC (model prog w) A (do
      rule "int.__new__.invalid-literal"
      let shown ← pyRepr (.str x t)
      let refusal ← newExc (.type "ValueError") [← mkStr (((s!"invalid literal for int() with base {10}: " : String) ++ ⟨shown.cps.extract 0 200⟩ : Str))]
      markTheRefusal ["int.__new__"] refusal
      raiseNew refusal : Sem Value) (fun _ _ => False) E s := by
    refine wpC_then (wpAny_rule ?_)
    refine wpC_then (wpAny_pyRepr_str ?_ (Nat.le_trans hz (by decide)))
    refine wpC_then (wpAny_mkStr ?_ ?_)
    · refine wpC_then (wpAny_newExc_plain plainExc_ValueError fun h' e hm => ?_)
      refine wpC_bind (wpC_markTheRefusal ?_)
      refine wpC_any (wpAny_raiseNew_none hh ?_)
      exact h h' _ _ e hm
    · show (Str.append (Str.ofString _) _).length ≤ sizeLine
      have e1 : (Str.ofString (toString "invalid literal for int() with base " ++ toString 10 ++ toString ": ")).length = 40 := by decide +kernel
      have e2 : (⟨(reprText x).cps.extract 0 200⟩ : Str).length ≤ 200 := by
        show ((reprText x).cps.extract 0 200).size ≤ 200
        rw [Array.size_extract]; omega
      have e3 := Str.length_append (Str.ofString (toString "invalid literal for int() with base " ++ toString 10 ++ toString ": ")) (⟨(reprText x).cps.extract 0 200⟩ : Str)
      have e4 : (240 : Nat) ≤ sizeLine := by decide
      exact Nat.le_trans (Nat.le_of_eq e3) (by omega)
  have hb : (int_private% "bytesOf?") (.str x t) = pure none := rfl
  dsimp only
  rcases hr with hr | ⟨i, hr, hall⟩
  · rw [hr]
    dsimp only
    rw [hb]
    refine wpC_then (wpAny_pure ?_)
    exact fin
  · rw [hr]
    dsimp only
    rw [if_neg hall]
    exact fin
theorem call_int_refused {x : Str} {t : Tok} {Q : Value → Shared → Prop} (hl : x.length ≤ 640) (hz : (reprText x).length ≤ 10000) (hn : PySem.intText? x = none) (hh : A.handled = none)
    (h : ∀ h' tk tk' e, Heap.MadeExcOf s.heap h' e (.type "ValueError") [.str (intRefusal x) tk'] → E (.ref e) { s with heap := h', toks := tk }) :
    wpC (model prog w) A (call (.type "int") [.str x t]) Q E s :=
  callInt_C (codeC_call_builtin (by decide +kernel) F.entry_int_new (F.newCall_int_1 _) (wpC_mono (Q := fun _ _ => False)
    (intNew_C (intText_C hl hz hn hh fun h' tk tk' e hm => h h' tk tk' e ⟨hm.keeps, hm.new, hm.there⟩)) (fun _ _ q => q.elim) fun _ _ q => q))
end
end Mine
end
section
open PySem PySem.W PyProof.Rows PySem.Spec PySem.Calls
set_option Elab.async false
set_option maxRecDepth 100000
set_option maxHeartbeats 4000000
set_option linter.unusedVariables false
namespace Mine
section
variable {α : Type} {M : Model} {A : Around} {E : Value → Shared → Prop} {s : Shared} {env : Env}
theorem execs_C {st : Stmt} {rest : List Stmt} {Q : Flow → Shared → Prop} (h : wpC M A (exec st env) (fun f s' => match f with | .next => wpC M A (execs rest env) Q E s' | f => Q f s') E s) :
    wpC M A (execs (st :: rest) env) Q E s := fun Γ p hΓ hc => by
  rw [execs_cons, Sem.wp_bind']
  refine Sem.wp_mono M Γ _ (fun f p' s' h' => ?_) (fun _ _ _ h' => h') _ _ (h Γ p hΓ hc)
  cases f <;> first | exact h' Γ p' hΓ hc | exact h'
theorem execs_app (rest : List Stmt) : ∀ pre : List Stmt, execs (pre ++ rest) env = (do match ← execs pre env with | .next => execs rest env | f => pure f)
  | [] => rfl
  | st :: pre => by
    have ih := execs_app rest pre
    rw [List.cons_append, execs_cons, execs_cons, ih, bind_assoc]
    congr 1
    funext f
    cases f <;> rfl
/-- the first statements in any context -/
theorem execs_pre {pre rest : List Stmt} {Q : Flow → Shared → Prop} (h : wpAny M A (execs pre env) (fun f s' => match f with | .next => wpC M A (execs rest env) Q E s' | f => Q f s') E s) :
    wpC M A (execs (pre ++ rest) env) Q E s := by
  rw [execs_app]
  refine wpC_then (wpAny_mono h (fun f s' h' => ?_) fun _ _ x => x)
  cases f <;> first | exact h' | exact wpC_pure h'
theorem return_C {e : Expr} {pos : Pos} {Q : Flow → Shared → Prop} (h : wpC M A (eval e env) (fun v => Q (.ret v)) E s) : wpC M A (exec (.Return (some e) pos) env) Q E s := by
  rw [exec_Return_some]
  exact wpC_bind (wpC_standAt (wpC_bind (wpC_mono h (fun v s' hv => wpC_pure hv) fun _ _ x => x)))
theorem if_C {test : Expr} {body orelse : List Stmt} {pos : Pos} {Q : Flow → Shared → Prop}
    (h : wpC M A (isTrue test env (eval test env)) (fun b s₂ => if b then wpC M A (execs body env) Q E s₂ else wpC M A (execs orelse env) Q E s₂) E s) :
    wpC M A (exec (.If test body orelse pos) env) Q E s := by
  rw [exec_If]
  refine wpC_bind (wpC_standAt (wpC_bind (wpC_mono h (fun b s' hb => ?_) fun _ _ x => x)))
  cases b <;> exact hb
theorem ifExp_C {test body orelse : Expr} {pos : Pos} {Q : Value → Shared → Prop}
    (h : wpC M A (isTrue test env (eval test env)) (fun b s₂ => if b then wpC M A (eval body env) Q E s₂ else wpC M A (eval orelse env) Q E s₂) E s) :
    wpC M A (eval (.IfExp test body orelse pos) env) Q E s := by
  rw [arm_eval_IfExp]
  refine wpC_bind (wpC_mono h (fun b s' hb => ?_) fun _ _ x => x)
  cases b <;> exact hb
/-- a value that raises: its assignment -/
theorem assign_raises_C {x : Str} {pos' pos : Pos} {value : Expr} {Q : Flow → Shared → Prop} (h : wpC M A (eval value env) (fun _ _ => False) E s)
    (hs : swapsWith value (some (.Name x pos')) pos.line env = pure false := by rfl) : wpC M A (exec (.Assign [.Name x pos'] value pos) env) Q E s := by
  rw [exec_Assign_Name env x pos' value pos hs]
  exact wpC_bind (wpC_standAt (wpC_bind (wpC_mono h (fun _ _ x => x.elim) fun _ _ x => x)))
theorem subscript_raises_C {v i : Expr} {pos : Pos} {Q : Value → Shared → Prop} {k : Value → Sem Value} (h : wpC M A (eval v env) (fun _ _ => False) E s) (he : eval (.Subscript v i pos) env = (eval v env >>= k) := by rfl) :
    wpC M A (eval (.Subscript v i pos) env) Q E s := by
  rw [he]
  exact wpC_bind (wpC_mono h (fun _ _ x => x.elim) fun _ _ x => x)
/-- a test whose left side is walked in a called context -/
theorem isTrue_compare_C {l r : Expr} {op : CmpOp} {pos : Pos} {whole : Sem Value} {Q : Bool → Shared → Prop}
    (h : wpC M A (eval l env) (fun a s₁ => wpAny M A (eval r env) (fun b s₂ => wpAny M A (compareOp op a b) (fun c s₃ => wpAny M A (truthy c) Q E s₃) E s₂) E s₁) E s)
    (hm : behindInMarks op r = false := by with_unfolding_all rfl) : wpC M A (isTrue (.Compare l [op] [r] pos) env whole) Q E s := fun Γ p hΓ hc => by
  simp only [isTrue_Compare1, markedBehindIn_of_false hm, Sem.wp_bind', Sem.wp_holding, Sem.wp_cmd_standAt, Sem.wp_operate]
  exact Sem.wp_mono M Γ _ (fun a p₁ s₁ h₁ => Sem.wp_mono M Γ _ (fun b _ s₂ h₂ => Sem.wp_mono M Γ _ (fun c p₃ s₃ h₃ => h₃ Γ p₃ hΓ)
    (fun _ _ _ h' => h') _ _ (h₂ Γ _ hΓ)) (fun _ _ _ h' => h') _ _ (h₁ Γ p₁ hΓ)) (fun _ _ _ h' => h') _ _ (h Γ p hΓ hc)
/-- the left side stands, the right one raises -/
theorem isTrue_compare_raises_C {l r : Expr} {op : CmpOp} {pos : Pos} {whole : Sem Value} {Q : Bool → Shared → Prop}
    (h : wpAny M A (eval l env) (fun a s₁ => wpC M A (eval r env) (fun _ _ => False) E s₁) E s)
    (hm : behindInMarks op r = false := by with_unfolding_all rfl) : wpC M A (isTrue (.Compare l [op] [r] pos) env whole) Q E s := by
  rw [isTrue_Compare1, markedBehindIn_of_false hm]
  exact wpC_then (wpAny_mono h (fun a s₁ h₁ => wpC_bind (wpC_holding (wpC_mono h₁ (fun _ _ x => x.elim) fun _ _ x => x))) fun _ _ x => x)
theorem isTrue_compare_left_raises_C {l r : Expr} {op : CmpOp} {pos : Pos} {whole : Sem Value} {Q : Bool → Shared → Prop}
    (h : wpC M A (eval l env) (fun _ _ => False) E s) (hm : behindInMarks op r = false := by with_unfolding_all rfl) : wpC M A (isTrue (.Compare l [op] [r] pos) env whole) Q E s := by
  rw [isTrue_Compare1, markedBehindIn_of_false hm]
  exact wpC_bind (wpC_mono h (fun _ _ x => x.elim) fun _ _ x => x)
theorem isTrue_or_C {x : Expr} {rest : List Expr} {pos : Pos} {whole : Sem Value} {Q : Bool → Shared → Prop}
    (h : wpC M A (isTrue x env (eval x env)) (fun b s₁ => if b then Q true s₁ else wpC M A (allTrue .Or rest env) Q E s₁) E s) : wpC M A (isTrue (.BoolOp .Or (x :: rest) pos) env whole) Q E s := by
  rw [arm_isTrue_BoolOp, arm_allTrue_cons]
  refine wpC_bind (wpC_mono h (fun b s₁ h₁ => ?_) fun _ _ x => x)
  cases b with
  | true => exact wpC_pure h₁
  | false => exact h₁
theorem or_C {x : Expr} {rest : List Expr} {Q : Bool → Shared → Prop}
    (h : wpC M A (isTrue x env (eval x env)) (fun b s₁ => if b then Q true s₁ else wpC M A (allTrue .Or rest env) Q E s₁) E s) : wpC M A (allTrue .Or (x :: rest) env) Q E s := by
  rw [arm_allTrue_cons]
  refine wpC_bind (wpC_mono h (fun b s₁ h₁ => ?_) fun _ _ x => x)
  cases b with
  | true => exact wpC_pure h₁
  | false => exact h₁
theorem spliced_C {x : Sem Value} {rest : List (Bool × Sem Value)} {Q : List Value → Shared → Prop}
    (h : wpC M A x (fun v s₁ => wpC M A (spliced rest) (fun vs s₂ => Q (v :: vs) s₂) E s₁) E s) : wpC M A (spliced ((false, x) :: rest)) Q E s := by
  rw [spliced]
  refine wpC_bind (wpC_mono h (fun v s₁ h₁ => ?_) fun _ _ x => x)
  simp only [Bool.false_eq_true, if_false]
  exact wpC_bind (wpC_pure (wpC_bind (wpC_holding (wpC_mono h₁ (fun vs s₂ h₂ => wpC_pure h₂) fun _ _ x => x))))
theorem evalArgs_raises_C {f : Value} {x : Bool × Sem Value} {rest : List (Bool × Sem Value)} {keywords : List (Option Str × Sem Value)} {Q : Args → Shared → Prop}
    (h : wpC M A (spliced ((false, x.2) :: rest)) (fun _ _ => False) E s) (hx : x.1 = false) : wpC M A (evalArgs f true (x :: rest) keywords) Q E s := by
  obtain ⟨b, t⟩ := x
  cases hx
  unfold evalArgs
  show wpC M A (spliced ((false, t) :: rest) >>= _) Q E s
  exact wpC_bind (wpC_mono h (fun _ _ x => x.elim) fun _ _ x => x)
/-- a call: the function and its arguments in any context, the call itself in a called one -/
theorem callWith_C {P : Heap → Prop} {pos : Pos} {f : Value} {first : List Value} {args : List (Bool × Sem Value)} {keywords : List (Option Str × Sem Value)} {Q : Value → Shared → Prop}
    (hplain : (args.any (·.1) || keywords.any (·.1.isNone)) = false) (hk : ∀ h, P h → ∃ k, (k = Keeper.frame ∨ k = Keeper.machine ∨ k = Keeper.boundFrame) ∧ Looks M h (keeperOf f) k)
    (h : wpC M A (evalArgs f true args keywords) (fun a s₁ => P s₁.heap ∧ wpC M A (call f (first ++ a.pos) a.kw) Q E s₁) E s) : wpC M A (callWith pos f first args keywords) Q E s := by
  unfold callWith
  refine wpC_bind (wpC_holding (wpC_mono h (fun a s₁ h₁ => wpC_bind (wpC_standAt ?_)) fun _ _ x => x))
  obtain ⟨k, hk', L⟩ := hk _ h₁.1
  simp only [hplain]
  refine wpC_then (L.here ?_)
  have tail : ∀ {t : Sem Value}, wpC M A t Q E s₁ → wpC M A (t >>= fun r => holding [r] point >>= fun _ => pure r) Q E s₁ := fun ht =>
    wpC_bind (wpC_mono ht (fun r s₂ hr => wpC_then (wpAny_holding (wpAny_point (wpC_pure hr)))) fun _ _ x => x)
  have marked (mk : Value) : wpC M A (callMarked mk f (first ++ a.pos) a.kw) Q E s₁ := by unfold callMarked; exact wpC_keep h₁.2
  rcases hk' with rfl | rfl | rfl <;> dsimp only <;> first | exact tail h₁.2 | (split <;> first | exact tail h₁.2 | exact tail (marked _))
theorem callWith_raises_C {pos : Pos} {f : Value} {first : List Value} {args : List (Bool × Sem Value)} {keywords : List (Option Str × Sem Value)} {Q : Value → Shared → Prop}
    (h : wpC M A (evalArgs f true args keywords) (fun _ _ => False) E s) : wpC M A (callWith pos f first args keywords) Q E s := by
  unfold callWith
  exact wpC_bind (wpC_holding (wpC_mono h (fun _ _ x => x.elim) fun _ _ x => x))
theorem evalCall_C {func : Expr} {args : List Expr} {kws : List Keyword} {pos : Pos} {Q : Value → Shared → Prop}
    (h : wpAny M A (eval func env) (fun f s₁ => wpC M A (callWith pos f [] (backTo pos (starEach args env)) (backToKw pos (keywordEach kws env))) Q E s₁) E s)
    (he : eval (.Call func args kws pos) env = (do callWith pos (← eval func env) [] (backTo pos (starEach args env)) (backToKw pos (keywordEach kws env))) := by rfl) :
    wpC M A (eval (.Call func args kws pos) env) Q E s := by
  rw [he]; exact wpC_then h
end
section
variable {prog : Program} {w : World} {A : Around} {E : Value → Shared → Prop} {R : Result → Shared → Prop} {s : Shared} {env : Env}
theorem try_C {body orelse : List Stmt} {h₀ : ExceptHandler} {hs : List ExceptHandler} {pos : Pos} {Q : Flow → Shared → Prop}
    (h : wpC (model prog w) A (execs body env) (fun f s₁ => match f with | .next => wpAny (model prog w) A (execs orelse env) Q E s₁ | f => Q f s₁)
      (fun e s₁ => wpAny (model prog w) A (noteFrame e env) (fun _ s₂ => wpAny (model prog w) A (setFlight e none) (fun _ s₃ => wpAny (model prog w) A (handleBy e env (h₀ :: hs)) Q E s₃) E s₂) E s₁) s) :
    wpC (model prog w) A (exec (.Try body (h₀ :: hs) orelse [] pos) env) Q E s := by
  rw [arm_exec_Try]
  refine wpC_bind (wpC_standAt ?_)
  unfold tryStmt
  simp only [List.isEmpty_nil, if_true, List.isEmpty_cons, Bool.false_and, Bool.false_eq_true, if_false]
  refine wpC_bind (wpC_attempt (wpC_mono h (fun f s₁ h₁ => ?_) fun e s₁ h₁ => ?_))
  · cases f <;> first | exact wpC_any h₁ | exact wpC_pure h₁
  · exact wpC_then (wpAny_mono h₁ (fun _ _ h₂ => wpC_any (wpAny_bind h₂)) fun _ _ x => x)
theorem codeC_func {body : List Stmt}
    (h : wpC (model prog w) (A.deeper env) (execs body env) (fun f s' => R (.ok (.ret (match f with | .ret v => v | _ => .none))) s')
      (fun e s' => wpAny (model prog w) (A.deeper env) (leaving env e) (fun _ s'' => R (.error e) s'') (fun e' s'' => R (.error e') s'') s') s) :
    codeC (model prog w) A (.func body env) R s := by
  refine codeC_of_tree ?_
  show wpC _ (A.deeper env) (do point; match ← (execs body env).onRaise (leaving env) with | .ret v => ret v | _ => ret .none) _ _ s
  refine wpC_then (wpAny_point (wpC_bind (wpC_onRaise (wpC_mono h (fun f s' h' => ?_) fun _ _ h' => wpC_any h'))))
  cases f <;> exact wpC_pure h'
theorem codeC_call_function {a : Addr} {args : Args} {o : Obj} {fd : FuncData} {body : List Stmt} (hroom : A.depth < recursionLimit) (ho : s.heap.get? a = some o)
    (hd' : o.data = .func fd) (hco : fd.scope.isCoroutine = false) (hgen : fd.scope.isGenerator = false) (hbody : fd.body = .stmts body) (hcd : s.heap.CodeRec fd.code fd.qualname)
    (h : wpAny (model prog w) A.in1 (bindArgs fd args) (fun binds s₁ =>
      wpAny (model prog w) A.in1 (newFunctionEnv fd.scope fd.globals fd.closure binds (fd.qualname ++ ".<locals>.") (some a) fd.code none fd.builtins)
        (fun env s₂ => s₂.heap.NoLimit ∧ codeC (model prog w) A (.func body env) R s₂) (fun e s' => R (.error e) s') s₁) (fun e s' => R (.error e) s') s) :
    codeC (model prog w) A (.call (.ref a) args) R s := by
  refine codeC_of_tree ?_
  show wpC _ A.in1 (callAny (.ref a) args) _ _ s
  simp only [callAny]
  refine wpC_then (wpAny_load ho ?_)
  obtain ⟨c, oc, vs, tq, hc, hoc, hdc, hq⟩ := hcd
  simp only [hd', callFunction, hco, hgen, hbody, hc]
  rw [hc] at h
  refine wpC_then (m := field (.ref c) 1) (wpAny_field hoc hdc hq ?_)
  refine wpC_then (wpAny_pure ?_)
  refine wpC_then (wpAny_mono h (fun binds s₁ h₁ => wpC_then (wpAny_mono h₁ (fun env s₂ h₂ => wpC_then (wpAny_enterFrame h₂.1 hroom (wpC_pure (And.intro rfl h₂.2)))) fun _ _ h' => h')) fun _ _ h' => h')
theorem codeC_call_def {a : Addr} {o : Obj} {fd : FuncData} {body : List Stmt} {args : Args} {binds : List (Str × Value)}
    (hroom : A.depth < recursionLimit) (ho : s.heap.get? a = some o) (hdata : o.data = .func fd) (hlim : s.heap.NoLimit) (hcd : s.heap.CodeRec fd.code fd.qualname)
    (hbody : fd.body = .stmts body) (hbind : BindsTo s fd args binds)
    (hcell : ∀ x ∈ fd.scope.names, x.2 ≠ .cell) (hloc : ∀ x ∈ binds, fd.scope.names.lookup x.1 = some .local)
    (h : ∀ h₀, h₀.Ns s.heap.objs.size (fun x => binds.reverse.lookup x) → (∀ b o, s.heap.get? b = some o → h₀.get? b = some o) →
      wpC (model prog w) (A.deeper (callEnv fd s.heap.objs.size a)) (execs body (callEnv fd s.heap.objs.size a)) (fun f s' => R (.ok (.ret (match f with | .ret v => v | _ => .none))) s')
        (fun e s' => wpAny (model prog w) (A.deeper (callEnv fd s.heap.objs.size a)) (leaving (callEnv fd s.heap.objs.size a) e) (fun _ s'' => R (.error e) s'') (fun e' s'' => R (.error e') s'') s')
        { s with heap := h₀, toks := s.toks + binds.length })
    (hco : fd.scope.isCoroutine = false := by rfl) (hgen : fd.scope.isGenerator = false := by rfl) (hk : fd.scope.kind = .function := by rfl) :
    codeC (model prog w) A (.call (.ref a) args) R s := by
  refine codeC_call_function hroom ho hdata hco hgen hbody hcd (hbind _ _ _ _ ?_)
  refine wpAny_newFunctionEnv hcell hloc (fun h₀ hns₀ hsb₀ => ⟨hlim.fresh _ hsb₀, codeC_func (h h₀ hns₀ fun b o e => ?_)⟩) hk
  exact hsb₀.extBut b o (Nat.ne_of_lt (Heap.lt_size e)) (Heap.get?_push_of_some _ e)
end
section
variable {prog : Program} {w : World} {A A₀ : Around} {E : Value → Shared → Prop} {s : Shared} {K : Frag} {L : Addr} {h₀ base : Heap} {m mg mb : Str → Option Value} {news : List (Addr × Obj)} {p : Program} {loose : List Str} {mean : ExcName → Option Value} {Q : Value → Shared → Prop}
/-- a def of the text is called: as code_def, in a called context -/
theorem code_def_C {env : Env} {outer : List Env} {R : Result → Shared → Prop} {name qual : Str} {params : Arguments} {body : List Stmt} {scope : Scope} {dV kV doc pm cdv ct oc : Value} {an od : Option Addr} {osl : Array (Option Value)} {f : Addr} {args : Args} {binds : List (Str × Value)}
    (B : Below A₀ base outer h₀) (F : Fr h₀ L s.heap m) (X₀ : K.In h₀) (N : News h₀ L s.heap news) (T : Top p loose mean mg mb h₀) (hA : A.frames = some (env :: outer)) (hf : env.frame = some L) (hke : env.scope.kind = .function)
    (ho : K.lookup f = some ⟨oc, od, .func (fnOf name qual params body scope dV kV doc pm an cdv ct), osl⟩) (hcd : codeIn K cdv qual = true) (hroom : A.depth < recursionLimit)
    (hbind : BindsTo s (fnOf name qual params body scope dV kV doc pm an cdv ct) args binds) (hloc : ∀ y ∈ binds, scope.names.lookup y.1 = some .local)
    (h : ∀ g L' h₁, Fr h₀ L g m → Fr g L' h₁ (fun y => binds.reverse.lookup y) → News g L' h₁ news → Below A base (env :: outer) g → K.In g → Top p loose mean mg mb g →
      wpC (model prog w) (A.deeper (envOf qual scope L' f cdv)) (execs body (envOf qual scope L' f cdv))
        (fun fl s' => LeaveK h₀ L m g R (match fl with | .ret v => v | _ => .none) s')
        (fun e s' => wpAny (model prog w) (A.deeper (envOf qual scope L' f cdv)) (leaving (envOf qual scope L' f cdv) e) (fun _ s'' => R (.error e) s'') (fun e' s'' => R (.error e') s'') s')
        { s with heap := h₁, toks := s.toks + binds.length })
    (hco : scope.isCoroutine = false) (hgen : scope.isGenerator = false) (hk : scope.kind = .function) (hcell : ∀ x ∈ scope.names, x.2 ≠ .cell) : codeC (model prog w) A (.call (.ref f) args) R s := by
  obtain ⟨FG, BG, st, lv⟩ := groundX (R := R) B F N hA hf hke
  refine codeC_call_def (fd := fnOf name qual params body scope dV kV doc pm an cdv ct) (body := body) (binds := binds) hroom ((X₀.keeps F.keep) _ _ ho) rfl (T.nolimit.keeps F.keep) (codeRec_of (X₀.keeps F.keep) hcd) rfl hbind hcell hloc (fun h₁ hns hk₁ => ?_) hco hgen hk
  exact wpC_mono (h _ s.heap.objs.size h₁ FG ⟨hns, fun b o e => hk₁ b o (of_hideAll _ e), Nat.le_of_eq (hideAll_size _ _)⟩
    (fun p hp => ⟨hk₁ _ _ (N p hp).1, Nat.ne_of_lt (Heap.lt_size (N p hp).1), hideAll_none _ (List.mem_map_of_mem hp)⟩) BG (X₀.keeps st) (T.keeps st)) (fun fl s' hl => lv _ _ hl) fun _ _ y => y
end
end Mine
end
section
open PySem PySem.W PyProof.Rows PySem.Spec PySem.Calls
set_option Elab.async false
set_option maxRecDepth 100000
set_option maxHeartbeats 4000000
set_option linter.unusedVariables false
namespace Mine
/-- the claim's own context -/
abbrev callerCtx : PySem.Ctx := ⟨.builtin "claim.caller" {}, none, none, [], none⟩
theorem call_at_caller {prog : Program} {w : World} {f : Value} {vs : List Value} {s : Shared} {Q E : Value → Shared → Prop}
    (h : codeC (model prog w) callerA (.call f ⟨vs, []⟩) (fun r s' => match r with | .ok (.ret v) => Q v s' | .ok _ => False | .error e => E e s') s) (p : Pos) :
    Sem.wp (model prog w) callerCtx (PySem.call f vs) (fun a _ s' => Q a s') (fun e _ s' => E e s') p s := by
  show Sem.wp (model prog w) callerCtx (runValue _) _ _ p s
  rw [Sem.wp_runValue]
  exact h _ p rfl (Ctx.In.enter caller_in _ none p (by intro x; cases x)) rfl
theorem thread_ends_C {prog : Program} {w : World} {t : Sem Fin} {s : Shared} {R : Result → Shared → Prop} (hreg : s.asleep)
    (h : Sem.wp (model prog w) callerCtx t (fun fin _ s' => ∃ f, fin = .done f ∧ (R (.ok f) s' ∧ leftWithCleanup s'.gens = false)) (fun e _ s' => R (.error e) s' ∧ leftWithCleanup s'.gens = false) default s) :
    ∃ n r s' s'', runN (denote table) prog w n s ⟨t, .builtin "claim.caller" {}, default, []⟩ = .halted (outcomeOf r) s' ∧
      schedN (denote table) prog w n (.single s ⟨t, .builtin "claim.caller" {}, default, []⟩) = .halted (outcomeOf r) s' ∧ s'.forget = s''.forget ∧ R r s'' := by
  have h' : Sem.wp (model prog w) callerCtx t (Sem.finPost (model prog w) callerCtx fun r s' => R r s' ∧ leftWithCleanup s'.gens = false)
      (fun e _ s' => R (.error e) s' ∧ leftWithCleanup s'.gens = false) default s := by
    refine Sem.wp_mono _ _ t (fun fin p' s' q => ?_) (fun _ _ _ q => q) _ _ h
    obtain ⟨f, rfl, hf⟩ := q
    exact hf
  obtain ⟨n, r, s₁, s₂, hs, hn, hfo, hR⟩ := wp_halts_full (M := model prog w) (R := R) hreg h'
  exact ⟨n, r, s₂, s₁, hn, hs, hfo, hR⟩
theorem callFrom_C {c : ClaimW} {tree : List Value → Sem Fin} {w : World} {s : Shared} {free : Addr → Prop} {gens : Prop} {kept : Heap → Prop} (hz : s.asleep) (hgens : s.gens = #[])
    (hspec : ∀ args, c.pre args = true → WData.layableAll args = true →
      ∀ ord : List DictEntry → List DictEntry, (∀ l, (ord l).Perm l) →
      ∃ vs s₁, layAllW c.records (classAt s.heap) w.params ord args s = some (vs, s₁) ∧
        Sem.wp (model c.prog w) callerCtx (tree vs) (fun fin _ s' => ∃ f, fin = .done f ∧ (c.Ends s args vs s₁ (.ok f) s' ∧ s'.os = s.os ∧ AllBare s'.gens ∧ kept s'.heap))
          (fun e _ s' => c.Ends s args vs s₁ (.error e) s' ∧ s'.os = s.os ∧ AllBare s'.gens ∧ kept s'.heap) default s₁) :
    c.CallFrom (fun vs => ⟨tree vs, .builtin "claim.caller" {}, default, []⟩) w free gens kept s := by
  intro args hpre hlay ord hord
  obtain ⟨vs, s₁, hlaid, hcode⟩ := hspec args hpre hlay ord hord
  have hal := layAllW_rest _ _ _ hlaid
  have hcode' := Sem.wp_mono _ _ _ (post' := fun fin _ s' => ∃ f, fin = PySem.Fin.done f ∧ ((c.Ends s args vs s₁ (.ok f) s' ∧ s'.os = s.os ∧ kept s'.heap) ∧ leftWithCleanup s'.gens = false))
    (exc' := fun e _ s' => (c.Ends s args vs s₁ (.error e) s' ∧ s'.os = s.os ∧ kept s'.heap) ∧ leftWithCleanup s'.gens = false)
    (fun fin _ s' ⟨f, e, h1, h2, h3, h4⟩ => ⟨f, e, ⟨h1, h2, h4⟩, leftWithCleanup_false_of_bare h3⟩)
    (fun e _ s' ⟨h1, h2, h3, h4⟩ => ⟨⟨h1, h2, h4⟩, leftWithCleanup_false_of_bare h3⟩) _ _ hcode
  obtain ⟨k, r, s', s'', hrun, hsched, hfo, hcase, hos, hkp⟩ := thread_ends_C (prog := c.prog) (w := w) (t := tree vs) (s := s₁)
    (R := fun r s' => c.Ends s args vs s₁ r s' ∧ s'.os = s.os ∧ kept s'.heap) (Shared.asleep_of_life hal.2.2.2 hz) hcode'
  obtain ⟨eh, _, _, eo, _⟩ := Shared.forget_eq hfo
  have hcase := hcase.congr eh
  rw [← eh] at hkp
  rw [← eo] at hos
  have hlife : s'.heap.life = s.heap.life := (runN_life _ _ _ hrun).trans hal.2.2.2
  refine ⟨vs, s₁, hlaid, k, _, s', hsched, ?_, (fun _ i x hx => by rw [hgens] at hx; simp at hx), hkp, by rw [hlife], Shared.rest_eq hos⟩
  rcases hcase with ⟨v, rfl, d1, d2, d3, d4, d5⟩ | ⟨e, ob, cls, rfl, d1, d2, d3, d4, d5⟩
  · exact .inl ⟨v, rfl, d1, d2, d3, fun b o y _ => d4 b o y, d5⟩
  · exact .inr ⟨e, ob, cls, rfl, d1, d2, d3, d4, fun b o y _ => d5 b o y⟩
/-- the walk that is asked, in called contexts alone -/
abbrev WalkC (q : Program) (loose : List Str) (XP : (Str → Option Value) → Heap → Prop) (YP : World → Heap → Prop) (r : RowW) (d : DefRec) (kwd : List (Str × Expr)) : Prop :=
  ∀ (w : World) (s₀ s₁ : Shared) (mg mb : Str → Option Value), Ground q loose r.records XP w s₀ mg mb s₁.heap → YP w s₁.heap → ∀ (a : Addr) (o : Obj) (pm cd doc dV kV : Value), s₁.heap.get? a = some o →
    o.data = .func { docDef d.name d.params d.body d.scope pm cd doc with defaults := dV, kwdefaults := kV } → s₁.heap.CodeRec cd d.name → Dflts mg s₁.heap d.params kwd dV kV → mg d.name = some (.ref a) → s₁.gens = #[] →
    ∀ (args : List WData) (vals : List Value) (as : List Addr), r.claim.pre args = true → WData.layableAll args = true → ReadsAllW r.records (classAt s₀.heap) s₁.heap vals args as → WellAll w.params s₁.heap vals args → (∀ a ∈ as, (a == sysModules) = false) →
      codeC (model r.prog w) callerA (.call (.ref a) ⟨vals, []⟩) (GoodWG r.claim (classAt s₀.heap) (ExcName.means s₀.heap) args s₁) s₁
theorem PySem.W.holds_open {r : OpenRow} {q : Program} {loose : List Str} {Xt : Shared → Bool} {XP : (Str → Option Value) → Heap → Prop} {α : Type} {Yf : Shared → α} {Ya : World → α} {YP : World → Heap → Prop} {d : DefRec} {kwd : List (Str × Expr)} {N : Nat}
    (left : LeftO r.prog q loose Xt Yf Ya N) (hY : ∀ w s, Yf s = Ya w → YP w s.heap) (hYk : ∀ w h h', YP w h → (∀ b o, h.get? b = some o → h'.get? b = some o) → YP w h')
    (hX : ∀ s, Xt s = true → XP (s.heap.nsMap mainGlobals) s.heap) (hXk : ∀ mg h h', XP mg h → (∀ b o, h.get? b = some o → h'.get? b = some o) → XP mg h')
    (hdef : defOf q r.name = some (d, kwd)) (hp : r.prog.theDef r.name = some (d.params, d.body, d.scope)) (hk : kwWritten? d.params.kwonlyargs d.params.kw_defaults = some kwd) (hRf : ∀ s, Xt s = true → RecFacts r.records s.heap) (hwr : (!r.writes || r.records.isEmpty) = true)
    (k1 : r.wellSaid = true) (ok : (chainsOk q && opensWell r.prog && (frees r.toRowW && r.within.isEmpty)) = true) (hb : r.prog.bare) (hw : r.toRowW.promised)
    (call : WalkC q loose XP YP r.toRowW d kwd) : r.Holds := by
  obtain ⟨ok, k5⟩ := Bool.and_eq_true_iff.mp ok
  obtain ⟨hch, o1⟩ := Bool.and_eq_true_iff.mp ok
  obtain ⟨k5, k6⟩ := Bool.and_eq_true_iff.mp k5
  obtain ⟨hsame, hu, ha, hap, hm⟩ := frees_parts k5
  refine ⟨k1, hw, ⟨hb, o1, by show r.toRowW.makers.map _ = []; rw [hm]; rfl⟩, hw.witness, fun w => ⟨(left.behind hX hch w).1, fun s' hs' => ?_⟩⟩
  obtain ⟨s₀, hf, hg0, s, hT, hz, hgens, hg, G00, y⟩ := (left.behind (XP := fun mg h => XP mg h ∧ RecFacts r.records h) (fun s hs => ⟨hX s hs, hRf s hs⟩) hch w).2 s' hs'
  have G0 : Ground q loose [] XP w s (s.heap.nsMap mainGlobals) (s.heap.nsMap builtinsNs) s.heap := ⟨G00.T, G00.B, G00.D, G00.TE, G00.TD, G00.W, G00.X.1, G00.cls, G00.has, G00.apart, G00.once, G00.K⟩
  have RF := G00.X.2
  have hT' := hT
  refine ⟨s₀, hf, hg0, s, hT, fun n hn => ?_, RF.1, RF.2.1, ?_⟩
  · obtain rfl : n = r.name := by split at hn <;> simp_all
    exact pinned_of_view hg G0 hdef hp hk
  have hgens : s.gens = #[] := Array.eq_empty_of_size_eq_zero (beq_iff_eq.mp hgens)
  have G : Ground q loose r.records XP w s _ _ s.heap := RF.ground G0
  refine callFrom_C (c := r.toRowW.claim) hz hgens fun args hpre hlay ord hord => ?_
  obtain ⟨⟨vs, s₁⟩, hlaid⟩ := Option.isSome_iff_exists.mp (layAllW_isSome (P := w.params) (ord := ord) G.has args r.args s (pre_splitW hpre).1)
  have keeps := layAllW_keeps _ _ _ hlaid
  have hal := layAllW_rest _ _ _ hlaid
  obtain ⟨as, hrd, hin, hold⟩ := reads_layAllW hord _ _ _ hlaid hlay s₁.heap (fun _ _ e => e)
  have L : Laid r.records w s s₁ args vs as := ⟨⟨ord, hord, hlaid⟩, hrd, hin, hold, keeps, hal.1.trans hgens, hal.2.2.1⟩
  have G₁ := G.keeps hXk keeps
  obtain ⟨a, o, pm, cd, doc, dV, kV, h1, h2, h3, h4, h5⟩ := G₁.fn hdef
  have h := call w s s₁ _ _ G₁ (hYk _ _ _ (hY w s y) keeps) a o pm cd doc dV kV h2 h3 h4 h5 (defOf_name hdef ▸ h1) L.gens args vs as hpre hlay L.reads L.well (L.low G.low)
  have hi := ident_freeW hu ha hap
  have hwi : r.toRowW.claim.within = [] := List.isEmpty_iff.mp k6
  refine ⟨vs, s₁, hlaid, ?_⟩
  show Sem.wp (model r.prog w) callerCtx (do match ← nsGet mainNs r.name with
      | some f => do ret (← PySem.call f vs)
      | none => unsupported "claim.caller:no-such-global") _ _ default s₁
  rw [Sem.wp_bind']
  refine (Sem.wp_nsGet _ _ _ _ _ G₁.T.g _ _).mpr ?_
  rw [show s.heap.nsMap mainGlobals r.name = some (.ref a) from h1]
  show Sem.wp (model r.prog w) callerCtx (PySem.call (.ref a) vs >>= fun v => ret v) _ _ default s₁
  rw [Sem.wp_bind']
  refine Sem.wp_mono _ _ _ (fun v _ s' g => ?_) (fun e _ s' g => ?_) _ _ (call_at_caller (Q := fun v s' => GoodWG r.toRowW.claim (classAt s.heap) (ExcName.means s.heap) args s₁ (.ok (.ret v)) s')
    (E := fun e s' => GoodWG r.toRowW.claim (classAt s.heap) (ExcName.means s.heap) args s₁ (.error e) s') (codeC_mono h fun res s' g => ?_) default)
  · exact ⟨_, rfl, have z := g.laid (c := r.toRowW.claim) hsame hwi hi L; ⟨z.1, z.2.1, z.2.2, fun q => ⟨namesKept_of hT' hg _ keeps g.2.1.old, noTable hwr q⟩⟩⟩
  · exact have z := g.laid (c := r.toRowW.claim) hsame hwi hi L; ⟨z.1, z.2.1, z.2.2, fun q => ⟨namesKept_of hT' hg _ keeps g.2.1.old, noTable hwr q⟩⟩
  · rcases g.1 with ⟨v, _, _, rfl, _⟩ | ⟨e, _, _, rfl, _⟩ <;> exact g
end Mine
end
section
open PySem PySem.W PyProof.Rows PySem.Spec PySem.Calls
set_option Elab.async false
set_option maxRecDepth 100000
set_option maxHeartbeats 4000000
set_option linter.unusedVariables false
namespace Mine
/-- what codeAny_mono was fed -/
theorem of_codeAny_mono {R R' : Result → Shared → Prop} (h : ∀ (M : Model) (A : Around) (cd : Code) (s : Shared), codeAny M A cd R s → codeAny M A cd R' s) (r : Result) (s : Shared) (hr : R r s) : R' r s := by
  let t : Sem Fin := match r with | .ok f => pure (.done f) | .error e => throw e
  let M : Model := ⟨fun _ => t, default, ⟨fun _ _ => 0, ⟨fun _ => 0, fun _ => 0, id, fun _ => 0, fun _ _ => 0, fun _ => false, fun _ => 0, .refcount, .text, fun _ => 0, fun _ => none, fun _ => false, fun _ _ _ => true, fun _ y a => a ≥ y, true, fun _ => false, fun _ => none, fun _ => none, fun _ _ _ => 0, fun _ _ => none, fun _ => none, fun _ => (0, false, "UTC"), fun _ => none, fun d => d, fun _ => false⟩⟩⟩
  let A : Around := { handled := none, depth := 1000, frames := none, guards := none, units := 1000 }
  let Γ : PySem.Ctx := ⟨.builtin "x" {}, none, none, [], none⟩
  have hΓ : Γ.Below A := ⟨rfl, (show frameCount [] ≤ 1000 by decide), (fun l hl => nomatch hl), (fun g hg => nomatch hg), (show unitsOf [] ≤ 1000 by decide)⟩
  have h1 : codeAny M A (.builtin "x" {}) R s := by
    refine codeAny_of_tree ?_
    show wpAny M _ t _ _ s
    cases r with
    | ok f => exact wpAny_pure hr
    | error e => exact wpAny_throw hr
  have h2 := h M A _ s h1 Γ default rfl hΓ
  rw [wpCode_iff_wp] at h2
  have h3 : Sem.wp M Γ t (Sem.finPost M Γ R') (fun e _ s' => R' (.error e) s') default s := h2
  cases r with
  | ok f => exact h3
  | error e => exact h3
section
variable {prog : Program} {w : World} {A : Around} {s : Shared}
theorem call_cells_C {R : Result → Shared → Prop} {name : Str} {params : Arguments} {body : List Stmt} {scope : Scope}
    {pm cd doc : Value} {a : Addr} {o : Obj} {args : List Value} {binds : List (Str × Value)}
    (hroom : A.depth < recursionLimit) (ho : s.heap.get? a = some o) (hdata : o.data = .func (Calls.docDef name params body scope pm cd doc)) (hlim : s.heap.NoLimit) (hcd : s.heap.CodeRec cd name)
    (hbind : bindArgs (Calls.docDef name params body scope pm cd doc) ⟨args, []⟩ = pure binds)
    (hkind : ∀ x ∈ binds, scope.names.lookup x.1 = some .local ∨ (scope.names.lookup x.1 = some .cell ∧ ((cellsFrom (s.heap.objs.size + 1) scope.names []).lookup x.1).isSome = true))
    (hnd : ((cellsFrom 0 scope.names []).map (·.1)).Nodup)
    (h : ∀ h₁ tk cells, Fr s.heap s.heap.objs.size h₁ (bindL (envOfC name scope s.heap.objs.size a cd).kindOf binds fun _ => none) → News s.heap s.heap.objs.size h₁ cells →
      CellsAre (bindC (envOfC name scope s.heap.objs.size a cd).kindOf binds fun _ => none) (cellsFrom (s.heap.objs.size + 1) scope.names []) cells →
      wpC (model prog w) (A.deeper (envOfC name scope s.heap.objs.size a cd)) (execs body (envOfC name scope s.heap.objs.size a cd))
        (fun f s' => R (.ok (.ret (match f with | .ret v => v | _ => .none))) s')
        (fun e s' => wpAny (model prog w) (A.deeper (envOfC name scope s.heap.objs.size a cd)) (leaving (envOfC name scope s.heap.objs.size a cd) e)
          (fun _ s'' => R (.error e) s'') (fun e' s'' => R (.error e') s'') s')
        { s with heap := h₁, toks := tk })
    (hco : scope.isCoroutine = false := by rfl) (hgen : scope.isGenerator = false := by rfl) (hk : scope.kind = .function := by rfl) :
    codeC (model prog w) A (.call (.ref a) ⟨args, []⟩) R s := by
  refine codeC_call_function (fd := Calls.docDef name params body scope pm cd doc) hroom ho hdata hco hgen rfl hcd ?_
  rw [hbind]
  refine wpAny_pure (wpAny_newFunctionEnv_cells hk hkind fun env he s' X => ?_)
  subst he
  refine ⟨hlim.keeps X.toInCall.keep, codeC_func ?_⟩
  obtain ⟨h₁, tk, rfl, _⟩ := X.done
  have F : Fr s.heap s.heap.objs.size h₁ _ := ⟨X.toInCall.ns, X.toInCall.keep, X.toInCall.fresh⟩
  obtain ⟨cells, N, Y⟩ := Cl.news (h₀ := s.heap) (Nat.le_refl _) fun n c hm => ⟨X.cell n c (lookup_of_mem_nodup (cellsFrom_names scope.names 0 (s.heap.objs.size + 1) [] [] rfl ▸ hnd) hm), X.above n c hm⟩
  exact h h₁ tk cells F N Y
end
end Mine
end
section
open PySem PySem.W PyProof.Rows PySem.Spec PySem.Calls
set_option Elab.async false
set_option maxRecDepth 100000
set_option maxHeartbeats 8000000
namespace Mine
section
/-- the head stops once its heap is written out -/
local macro_rules | `(tactic| o_head $_) => `(tactic| assumption)
theorem KK (hh : PySem.Challenge.rw_pm0034_02.row.Holds) : PySem.Challenge.rw_pm0034_02.row.Holds := by
  k_head
end
end Mine
end
section
open PySem PySem.W PyProof.Rows PySem.Spec PySem.Calls PyProof.V
set_option Elab.async false
set_option maxRecDepth 100000
set_option maxHeartbeats 4000000
set_option linter.all false
namespace Mine
theorem fr_to {g h : Heap} {L : Addr} {M M' : Str → Option Value} (F : Fr g L h M) (e : ∀ y, M y = M' y) : Fr g L h M' := (funext e : M = M') ▸ F
/-- the end of a turn of a while under a measure -/
def WhlEnd {ι : Type} (μ : ι → Nat) (P : ι → Heap → Nat → Prop) (i : ι) (s : Shared) (Q : Flow → Shared → Prop) (f : Flow) (s' : Shared) : Prop :=
  match f with
  | .next | .cont => ∃ i' h' tk', s' = { s with heap := h', toks := tk' } ∧ μ i' < μ i ∧ P i' h' tk'
  | .brk => Q .next s'
  | .ret v => Q (.ret v) s'
section
variable {prog : Program} {w : World} {A : Around} {E : Value → Shared → Prop} {s : Shared} {env : Env} {test : PySem.Expr} {body orelse : List Stmt} {Q : Flow → Shared → Prop}
theorem while_my {ι : Type} (μ : ι → Nat) (P : ι → Heap → Nat → Prop) (i₀ : ι) {pos : Pos} (start : P i₀ s.heap s.toks)
    (step : ∀ i h tk, P i h tk → wpAny (model prog w) A (isTrue test env (eval test env)) (fun b s₂ => WhlIf b (wpAny (model prog w) A (execs body env) (WhlEnd μ P i s Q) E s₂) (wpAny (model prog w) A (execs orelse env) Q E s₂)) E { s with heap := h, toks := tk })
    (hE : PassesOwn (model prog w) A env E) :
    wpAny (model prog w) A (exec (.While test body orelse pos) env) Q E s := by
  refine whl_start 0 ?_
  have go : ∀ n i h tk, μ i < n → P i h tk → WhlRest prog w A E env test body orelse Q (0 + 1) { s with heap := h, toks := tk } := by
    intro n
    induction n with
    | zero => exact fun i h tk hi _ => absurd hi (Nat.not_lt_zero _)
    | succ n ih =>
      intro i h tk hi hP
      refine whl_turn hE (wpAny_mono (step i h tk hP) (fun b s₂ h₂ => ?_) fun _ _ x => x)
      cases b with
      | false => exact WhlIf.no rfl h₂
      | true =>
        refine WhlIf.yes rfl (wpAny_mono (show wpAny _ _ _ (WhlEnd μ P i s Q) E s₂ from h₂) (fun f s₃ h₃ => ?_) fun _ _ x => x)
        cases f with
        | ret v => exact h₃
        | brk => exact h₃
        | next =>
          obtain ⟨i', h', tk', rfl, hm, hP'⟩ := h₃
          exact ih i' h' tk' (Nat.lt_of_lt_of_le hm (Nat.le_of_lt_succ hi)) hP'
        | cont =>
          obtain ⟨i', h', tk', rfl, hm, hP'⟩ := h₃
          exact ih i' h' tk' (Nat.lt_of_lt_of_le hm (Nat.le_of_lt_succ hi)) hP'
  exact go _ i₀ s.heap s.toks (Nat.lt_succ_self _) start
/-! in called contexts -/
theorem wpC_runOwn {c : Code} {h : Option Value} {Q : Flow → Shared → Prop}
    (hc : codeC (model prog w) (A.mark h) c (fun r s' => match r with | .ok f => Q f s' | .error e => cameBackBy (model prog w) A env E e s') s) (hnb : h ≠ some byPass := by intro x; cases x) :
    wpC (model prog w) A (runOwn c env h) Q E s := by
  unfold runOwn
  exact wpC_onRaise (wpC_mono (wpC_run hc hnb) (fun _ _ x => x) fun e s' x => wpC_any x)
theorem wpC_noted {α : Type} {m : Sem α} {Q : α → Shared → Prop} (h : wpC (model prog w) A m Q (notedBy (model prog w) A env E) s) : wpC (model prog w) A (m.onRaise fun x => do noteFrame x env; theTreesLotGoes x) Q E s :=
  wpC_onRaise (wpC_mono h (fun _ _ q => q) fun _ _ hx => wpC_any (wpAny_bind (wpAny_mono hx (fun _ _ e => wpAny_theTreesLotGoes e) fun _ _ e => e)))
/-- a while in a called context: `body` may be walked there -/
theorem while_C {ι : Type} (μ : ι → Nat) (P : ι → Heap → Nat → Prop) (i₀ : ι) {pos : Pos} (start : P i₀ s.heap s.toks)
    (step : ∀ i h tk, P i h tk → wpAny (model prog w) A (isTrue test env (eval test env)) (fun b s₂ => WhlIf b (wpC (model prog w) A (execs body env) (WhlEnd μ P i s Q) E s₂) (wpAny (model prog w) A (execs orelse env) Q E s₂)) E { s with heap := h, toks := tk })
    (hE : PassesOwn (model prog w) A env E) :
    wpC (model prog w) A (exec (.While test body orelse pos) env) Q E s := by
  rw [exec_While]
  refine wpC_bind (wpC_standAt (wpC_runOwn ?_))
  have go : ∀ n i h tk, μ i < n → P i h tk → codeC (model prog w) A (.whileLoop test body orelse env) (fun r s' => match r with | .ok f => Q f s' | .error e => cameBackBy (model prog w) A env E e s') { s with heap := h, toks := tk } := by
    intro n
    induction n with
    | zero => exact fun i h tk hi _ => absurd hi (Nat.not_lt_zero _)
    | succ n ih =>
      intro i h tk hi hP
      refine codeC_of_tree ?_
      show wpC _ A ((whileTurn test body orelse env).onRaise (fun x => do noteFrame x env; theTreesLotGoes x)) _ _ _
      refine wpC_noted ?_
      simp only [whileTurn]
      refine wpC_then (wpAny_mono (step i h tk hP) (fun b s₂ h₂ => ?_) hE)
      cases b with
      | false =>
        have h₃ : wpAny (model prog w) A (execs orelse env) Q E s₂ := by
          unfold WhlIf at h₂
          rw [if_neg Bool.false_ne_true] at h₂
          exact h₂
        simp only [Bool.false_eq_true, if_false]
        exact wpC_any (wpAny_bind (wpAny_mono h₃ (fun f s₃ h₄ => wpAny_pure h₄) hE))
      | true =>
        have h₃ : wpC (model prog w) A (execs body env) (WhlEnd μ P i s Q) E s₂ := by
          unfold WhlIf at h₂
          rw [if_pos rfl] at h₂
          exact h₂
        simp only [if_true]
        refine wpC_bind (wpC_mono h₃ (fun f s₃ h₄ => ?_) hE)
        cases f with
        | ret v => exact wpC_pure h₄
        | brk => exact wpC_pure h₄
        | next =>
          obtain ⟨i', h', tk', rfl, hm, hP'⟩ := h₄
          exact wpC_pure ⟨rfl, ih i' h' tk' (Nat.lt_of_lt_of_le hm (Nat.le_of_lt_succ hi)) hP'⟩
        | cont =>
          obtain ⟨i', h', tk', rfl, hm, hP'⟩ := h₄
          exact wpC_pure ⟨rfl, ih i' h' tk' (Nat.lt_of_lt_of_le hm (Nat.le_of_lt_succ hi)) hP'⟩
  exact go _ i₀ s.heap s.toks (Nat.lt_succ_self _) start
theorem codeC_loop' {c : Code} {R : Result → Shared → Prop} (hq : c.quiet = true) (I : Nat → Shared → Prop)
    (turn : ∀ n s, I n s → wpC (model prog w) (A.under c) ((model prog w).den c)
      (fun fin s' => match fin with
        | .done f => R (.ok f) s'
        | .again c' => (c' = c ∧ ∃ m, m < n ∧ I m s') ∨ (c'.quiet = true ∧ codeC (model prog w) A c' R s')) (fun e s' => R (.error e) s') s)
    (n : Nat) (h : I n s) : codeC (model prog w) A c R s := by
  induction n using Nat.strongRecOn generalizing s with
  | ind n ih =>
    refine codeC_of_tree (wpC_mono (turn n s h) (fun fin s' hf => ?_) fun _ _ h' => h')
    cases fin with
    | done f => exact hf
    | again c' =>
      rcases hf with ⟨rfl, m, hm, hI⟩ | hf
      · exact ⟨hq, ih m hm hI⟩
      · exact hf
theorem codeC_forLoop_any {R : Result → Shared → Prop} {target : PySem.Expr} {it : Value} (I : Nat → Shared → Prop)
    (turn : ∀ n s, I n s → wpAny (model prog w) A (pyNext it) (fun r s₁ => match r with
      | none => wpAny (model prog w) A (execs orelse env) (fun f s₃ => R (.ok f) s₃) (notedBy (model prog w) A env fun e s' => R (.error e) s') s₁
      | some v => wpAny (model prog w) A (letOwnedTupleGo target it v) (fun _ s₁' =>
          wpAny (model prog w) A (assign target env v) (fun _ s₂ => wpC (model prog w) A (execs body env) (fun f s₃ => match f with
            | .next | .cont => ∃ m, m < n ∧ I m s₃
            | .brk => R (.ok .next) s₃
            | .ret v => R (.ok (.ret v)) s₃) (notedBy (model prog w) A env fun e s' => R (.error e) s') s₂) (notedBy (model prog w) A env fun e s' => R (.error e) s') s₁') (notedBy (model prog w) A env fun e s' => R (.error e) s') s₁) (notedBy (model prog w) A env fun e s' => R (.error e) s') s)
    (n : Nat) (h : I n s) : codeC (model prog w) A (.forLoop target it body orelse env) R s := by
  refine codeC_loop' rfl I (fun n s hI => ?_) n h
  show wpC _ A ((forTurn target it body orelse env).onRaise (fun x => do noteFrame x env; theTreesLotGoes x)) _ _ s
  refine wpC_noted ?_
  simp only [forTurn]
  refine wpC_bind (wpC_standAt (wpC_bind (wpC_onRaise (wpC_mono (wpC_any (turn n s hI)) (fun r s₁ h₁ => ?_) fun _ _ h' => wpC_standAt h'))))
  cases r with
  | none => exact wpC_pure (.inr ⟨rfl, codeC_any (codeAny_block h₁)⟩)
  | some v =>
    refine wpC_then (wpAny_mono h₁ (fun _ s₁' h₁' => ?_) fun _ _ h' => h')
    refine wpC_then (wpAny_mono h₁' (fun _ s₂ h₂ => wpC_bind (wpC_mono h₂ (fun f s₃ h₃ => ?_) fun _ _ h' => h')) fun _ _ h' => h')
    cases f with
    | next => exact wpC_pure (.inl ⟨rfl, h₃⟩)
    | cont => exact wpC_pure (.inl ⟨rfl, h₃⟩)
    | brk => exact wpC_pure h₃
    | ret v => exact wpC_pure h₃
end
section
variable {prog : Program} {w : World} {A : Around} {E : Value → Shared → Prop} {s : Shared} {env : Env} {h₀ : Heap} {target : PySem.Expr} {body : List Stmt} {Q : Flow → Shared → Prop}
theorem ktu_loop_C {R : Result → Shared → Prop} {I : Addr} {fp wr : List Addr} {n : Nat} {P Md : Nat → Value → Heap → Prop} {St : Nat → Heap → Prop} {m : Str → Option Value} {news : List (Addr × Obj)} (W : KTurns prog w A target I fp wr n P Md St)
    (hLf : env.locals ∉ fp) (hwr : ∀ b ∈ wr, h₀.get? b = none) (hnw : ∀ p ∈ news, p.1 ∉ wr) (hst : St 0 s.heap) (F : Fr h₀ env.locals s.heap m) (N : News h₀ env.locals s.heap news)
    (J : Nat → (Str → Option Value) → List (Addr × Obj) → Prop) (h0 : J 0 m news)
    (step : ∀ i v m₁ news₁ h₁ tk₁ own, i < n → P i v h₁ → J i m₁ news₁ → (∀ p ∈ news₁, p.1 ∉ wr) → (∀ p ∈ own, p.1 ∈ fp) → (∀ p ∈ own, h₁.get? p.1 = some p.2) → (∀ b ∈ fp, h₀.get? b = none → ∀ o, h₁.get? b = some o → (b, o) ∈ own) → St (i + 1) h₁ →
      Fr h₀ env.locals h₁ m₁ → News h₀ env.locals h₁ (own ++ news₁) →
      wpAny (model prog w) A (assign target env v) (fun _ s₂ => wpC (model prog w) A (execs body env)
        (LoopStepV h₀ env.locals wr own (J (i + 1)) { s with heap := h₁, toks := tk₁ } (fun v s' => R (.ok (.ret v)) s') fun s' => R (.ok .next) s') (notedBy (model prog w) A env fun e s' => R (.error e) s') s₂) (notedBy (model prog w) A env fun e s' => R (.error e) s') { s with heap := h₁, toks := tk₁ })
    (hR : ∀ h' tk m' news', Fr h₀ env.locals h' m' → News h₀ env.locals h' news' → (∀ p ∈ news', p.1 ∉ wr) → J n m' news' → R (.ok .next) { s with heap := h', toks := tk }) :
    codeC (model prog w) A (.forLoop target (.ref I) body [] env) R s := by
  have hLw : env.locals ∉ wr := fun h => hLf (W.sub _ h)
  have old : ∀ b o, h₀.get? b = some o → b ∉ wr := fun b o e hb => by rw [hwr b hb] at e; cases e
  refine codeC_forLoop_any
    (fun k s' => ∃ h' tk m' news' i, s' = { s with heap := h', toks := tk } ∧ St i h' ∧ Fr h₀ env.locals h' m' ∧ News h₀ env.locals h' news' ∧ (∀ p ∈ news', p.1 ∉ wr) ∧ J i m' news' ∧ i ≤ n ∧ k = n + 1 - i) ?_ (n + 1)
    ⟨s.heap, s.toks, m, news, 0, rfl, hst, F, N, hnw, h0, Nat.zero_le _, rfl⟩
  rintro k s' ⟨h', tk, m', news', i, rfl, hst', F', N', hnw', hJ, hi, rfl⟩
  have next : ∀ h₁ : Heap, (∀ b o, b ∉ wr → h'.get? b = some o → h₁.get? b = some o) → Fr h₀ env.locals h₁ m' ∧ News h₀ env.locals h₁ news' := fun h₁ hk₁ =>
    ⟨⟨F'.ns.at' fun o e => hk₁ _ o hLw e, fun b o e => hk₁ b o (old b o e) (F'.keep b o e), F'.above⟩, fun p hp => ⟨hk₁ _ _ (hnw' p hp) (N' p hp).1, (N' p hp).2⟩⟩
  by_cases hlt : i < n
  · refine W.item i _ _ _ hlt hst' fun v h₁ tk₁ hMd hk₁ => ?_
    refine W.go i v _ _ _ hMd fun h₂ hP hst₂ hk₂ => ?_
    obtain ⟨F₂, N₂⟩ := next h₂ fun b o hb x => hk₂ b o hb (hk₁ b o hb x)
    have Nown : News h₀ env.locals h₂ (PyProof.Rows.ownOf h₀ fp h₂) := news_ownOf hLf
    refine wpAny_mono (step i v m' news' h₂ tk₁ (PyProof.Rows.ownOf h₀ fp h₂) hlt hP hJ hnw' ownOf_sub (fun p hp => (Nown p hp).1) (fun b hb hn o e => mem_ownOf hb hn e) hst₂ F₂ (Nown.append N₂)) (fun _ s₂ h₂' => wpC_mono h₂' (fun f s₃ h₃ => ?_) fun _ _ e => e) fun _ _ e => e
    cases f with
    | ret v => exact h₃
    | brk => exact h₃
    | cont =>
      obtain ⟨_, h₃', tk₃, m₂, news₂, rfl, F₃, N₃, ha₃, hJ₃⟩ := h₃
      refine ⟨n + 1 - (i + 1), by omega, h₃', tk₃, m₂, news₂, i + 1, rfl, ?_, F₃, N₃.right, ha₃, hJ₃, hlt, rfl⟩
      refine W.frame _ _ _ hst₂ fun b hb o e => ?_
      cases hn : h₀.get? b with
      | some o₀ =>
        have : o₀ = o := by have q := F₂.keep b o₀ hn; rw [e] at q; exact (Option.some.inj q).symm
        exact this ▸ F₃.keep b o₀ hn
      | none => exact (N₃ _ (List.mem_append_left _ (mem_ownOf hb hn e))).1
    | next =>
      obtain ⟨_, h₃', tk₃, m₂, news₂, rfl, F₃, N₃, ha₃, hJ₃⟩ := h₃
      refine ⟨n + 1 - (i + 1), by omega, h₃', tk₃, m₂, news₂, i + 1, rfl, ?_, F₃, N₃.right, ha₃, hJ₃, hlt, rfl⟩
      refine W.frame _ _ _ hst₂ fun b hb o e => ?_
      cases hn : h₀.get? b with
      | some o₀ =>
        have : o₀ = o := by have q := F₂.keep b o₀ hn; rw [e] at q; exact (Option.some.inj q).symm
        exact this ▸ F₃.keep b o₀ hn
      | none => exact (N₃ _ (List.mem_append_left _ (mem_ownOf hb hn e))).1
  · have hin : i = n := by omega
    subst hin
    refine W.done _ _ _ hst' fun h₁ tk₁ hk₁ => wpAny_execs_nil ?_
    obtain ⟨F₁, N₁⟩ := next h₁ hk₁
    exact hR h₁ tk₁ m' news' F₁ N₁ hnw' hJ
/-- as TurnsAt, the body walked in a called context -/
def TurnsAtC (prog : Program) (w : World) (A : Around) (h₀ : Heap) (env : Env) (target : PySem.Expr) (body : List Stmt) (Q : Flow → Shared → Prop) (E : Value → Shared → Prop) (it : Value) (s₂ : Shared) : Prop :=
  ∃ (I : Addr) (fp wr : List Addr) (n : Nat) (P Md : Nat → Value → Heap → Prop) (St : Nat → Heap → Prop) (m : Str → Option Value) (news : List (Addr × Obj)) (J : Nat → (Str → Option Value) → List (Addr × Obj) → Prop),
    it = .ref I ∧ KTurns prog w A target I fp wr n P Md St ∧ env.locals ∉ fp ∧ (∀ b ∈ wr, h₀.get? b = none) ∧ (∀ p ∈ news, p.1 ∉ wr) ∧ St 0 s₂.heap ∧ Fr h₀ env.locals s₂.heap m ∧ News h₀ env.locals s₂.heap news ∧ J 0 m news ∧
    (∀ i v m₁ news₁ h₁ tk₁ own, i < n → P i v h₁ → J i m₁ news₁ → (∀ p ∈ news₁, p.1 ∉ wr) → (∀ p ∈ own, p.1 ∈ fp) → (∀ p ∈ own, h₁.get? p.1 = some p.2) → (∀ b ∈ fp, h₀.get? b = none → ∀ o, h₁.get? b = some o → (b, o) ∈ own) → St (i + 1) h₁ →
      Fr h₀ env.locals h₁ m₁ → News h₀ env.locals h₁ (own ++ news₁) →
      wpAny (model prog w) A (assign target env v) (fun _ s₃ => wpC (model prog w) A (execs body env)
        (LoopStepV h₀ env.locals wr own (J (i + 1)) { s₂ with heap := h₁, toks := tk₁ } (fun v s' => Q (.ret v) s') fun s' => Q .next s') E s₃) E { s₂ with heap := h₁, toks := tk₁ }) ∧
    ∀ h' tk m' news', Fr h₀ env.locals h' m' → News h₀ env.locals h' news' → (∀ p ∈ news', p.1 ∉ wr) → J n m' news' → Q .next { s₂ with heap := h', toks := tk }
theorem For_turns_C {iter : PySem.Expr} {pos : Pos} {m : Str → Option Value} (_F : Fr h₀ env.locals s.heap m)
    (h : wpAny (model prog w) A (eval iter env) (fun xv s₁ => wpAny (model prog w) A (pyIter xv) (fun it s₂ => TurnsAtC prog w A h₀ env target body Q E it s₂) E s₁) E s)
    (hs : ∀ x, foldedSetIterable iter env x = pure x := by intro _; rfl)
    (hE : PassesOwn (model prog w) A env E := by passes_own) :
    wpC (model prog w) A (exec (.For target iter body [] pos) env) Q E s := by
  rw [exec_For]
  refine wpC_bind (wpC_standAt (wpC_then (wpAny_mono h (fun x s₁ h₁ => wpC_then (wpAny_of_eq (hs x) (wpC_bind (wpC_standAt (wpC_then (wpAny_holding
    (wpAny_mono h₁ (fun it s₂ h₂ => wpC_runOwn ?_) fun _ _ h' => h'))))))) fun _ _ h' => h')))
  obtain ⟨I, fp, wr, n, P, Md, St, m, news, J, rfl, W, hLf, hwr, hnw, hst, F, N, h0, step, hQ⟩ := h₂
  exact ktu_loop_C (R := fun r s' => match r with | .ok f => Q f s' | .error e => cameBackBy (model prog w) A env E e s') W hLf hwr hnw hst F N J h0
    (fun i v m₁ news₁ h₁ tk₁ own a b c d e f g st F₁ N₁ => wpAny_mono (step i v m₁ news₁ h₁ tk₁ own a b c d e f g st F₁ N₁) (fun _ _ x => wpC_mono x (fun _ _ y => y) hE) hE) hQ
end
end Mine
end
section
open PySem PySem.W PyProof.Rows PySem.Spec PySem.Calls
set_option Elab.async false
set_option maxRecDepth 100000
set_option maxHeartbeats 4000000
set_option linter.all false
namespace Mine
section
variable {prog : Program} {w : World} {A₀ A : Around} {s : Shared} {base h₀ g₀ : Heap} {outer : List Env} {env : Env} {L : Addr} {m : Str → Option Value} {news : List (Addr × Obj)} {K : Frag} {p : Program} {loose : List Str} {mean : ExcName → Option Value} {mg mb : Str → Option Value}
    {R : Result → Shared → Prop} {name qual : Str} {params : Arguments} {body : List Stmt} {scope : Scope} {dV kV doc pm cdv ct oc : Value} {an od : Option Addr} {osl : Array (Option Value)} {f : Addr} {args : Args} {binds : List (Str × Value)}
theorem kts_enterX (B : Below A₀ base outer h₀) (F : Fr h₀ L s.heap m) (N : News h₀ L s.heap news) (hA : A.frames = some (env :: outer)) (hfr : env.frame = some L) (hke : env.scope.kind = .function) :
    ∃ oL es ep, (hideAll s.heap (news.map (·.1))).get? L = some oL ∧ oL.data = .dict es ep ∧ (∀ h', h'.get? L = some oL → Heap.Ns h' L m) ∧ (∀ (sl : Array (Option Value)) h', h'.get? L = some { oL with slots := sl } → Heap.Ns h' L m) ∧
      h₀.StaysIn (hideAll s.heap (news.map (·.1))) ∧ Below A base (env :: outer) (hideAll s.heap (news.map (·.1))) := by
  have nm : ∀ b o, h₀.get? b = some o → b ∉ news.map (·.1) := fun b o e q => by
    obtain ⟨p, hp, rfl⟩ := List.mem_map.mp q
    rw [(N p hp).2.2] at e; cases e
  have st : h₀.StaysIn (hideAll s.heap (news.map (·.1))) := fun b o e => hideAll_get _ (F.keep b o e) (nm b o e)
  obtain ⟨oL, es, ep, hL, hLd, hLk, hLf⟩ := F.ns
  have nL : L ∉ news.map (·.1) := fun q => by
    obtain ⟨p, hp, e⟩ := List.mem_map.mp q
    exact (N p hp).2.1 e
  have hLg := hideAll_get (news.map (·.1)) hL nL
  have B₁ := pushX B F hfr hke
  exact ⟨oL, es, ep, hLg, hLd, fun h' e => ⟨oL, es, ep, e, hLd, hLk, hLf⟩, fun sl h' e => ⟨_, es, ep, e, hLd, hLk, hLf⟩, st, ⟨hA, fun b o e => st b o (B.stays b o e), funFrames_hideAll B₁.frames fun env' he b hb hf => by
    cases he with
    | head => exact nL ((Option.some.inj (hfr.symm.trans hf) : L = b) ▸ hb)
    | tail _ he =>
      obtain ⟨L₁, o₁, hf₁, ho₁⟩ := funFrames_in B.frames env' he
      rw [hf₁] at hf
      exact nm L₁ o₁ ho₁ ((Option.some.inj hf : L₁ = b) ▸ hb)⟩⟩
theorem memX {b : Addr} (hfr : env.frame = some L) (hm : b ∈ ([env] : List Env).filterMap (·.frame)) : b = L := by
  rw [List.filterMap_cons, hfr] at hm
  simpa using hm
theorem leaveS0X (hfr : env.frame = some L) (B : Below A₀ base [] h₀) (F : Fr h₀ L s.heap m) (N : News h₀ L s.heap news) {oL : Obj} {es : Array DictEntry} {ep : Nat}
    (hLg : (hideAll s.heap (news.map (·.1))).get? L = some oL) (hNs : ∀ (sl : Array (Option Value)) h', h'.get? L = some { oL with slots := sl } → Heap.Ns h' L m) (st : h₀.StaysIn (hideAll s.heap (news.map (·.1))))
    {v : Value} {s' : Shared} (hl : LeaveS0 (([env] : List Env).filterMap (·.frame)) h₀ L m (hideAll s.heap (news.map (·.1))) R v s') : R (.ok (.ret v)) s' := by
  obtain ⟨g', L', m', news', T', F', N', k⟩ := hl
  have nL₀ : h₀.get? L = none := kts_self F
  obtain ⟨sl, hs⟩ := T'.up hLg
  refine k ⟨hNs sl _ (F'.keep _ _ hs), fun b o e => F'.keep b o (T'.other b o (st b o e) (fun q => by
    rw [memX hfr q, nL₀] at e
    cases e)), F.above⟩ fun p hp => ⟨(N' p hp).1, fun q => ?_, ?_⟩
  · have := (N' p hp).2.2; rw [q, hs] at this; cases this
  · cases q : h₀.get? p.1 with
    | none => rfl
    | some o =>
      obtain ⟨sl', hs'⟩ := T'.up (st _ _ q)
      have := (N' p hp).2.2
      rw [hs'] at this
      cases this
/-- a def that catches, called by a frame with cells, nothing below -/
theorem code_defS0X (B : Below A₀ base [] h₀) (F : Fr h₀ L s.heap m) (X₀ : K.In h₀) (N : News h₀ L s.heap news) (T : Top p loose mean mg mb h₀) (hA : A.frames = some [env]) (hfr : env.frame = some L) (hke : env.scope.kind = .function)
    (ho : K.lookup f = some ⟨oc, od, .func (fnOf name qual params body scope dV kV doc pm an cdv ct), osl⟩) (hcd : codeIn K cdv qual = true) (hroom : A.depth < recursionLimit)
    (hbind : BindsTo s (fnOf name qual params body scope dV kV doc pm an cdv ct) args binds) (hloc : ∀ y ∈ binds, scope.names.lookup y.1 = some .local)
    (h : ∀ g L' h₁, Fr h₀ L g m → Fr g L' h₁ (fun y => binds.reverse.lookup y) → News g L' h₁ news → Below A base [env] g → K.In g → Top p loose mean mg mb g → KtsDicts (([env] : List Env).filterMap (·.frame)) g →
      wpAny (model prog w) (A.deeper (envOf qual scope L' f cdv)) (execs body (envOf qual scope L' f cdv))
        (fun fl s' => LeaveS0 (([env] : List Env).filterMap (·.frame)) h₀ L m g R (match fl with | .ret v => v | _ => .none) s')
        (fun e s' => wpAny (model prog w) (A.deeper (envOf qual scope L' f cdv)) (leaving (envOf qual scope L' f cdv) e) (fun _ s'' => R (.error e) s'') (fun e' s'' => R (.error e') s'') s')
        { s with heap := h₁, toks := s.toks + binds.length })
    (hco : scope.isCoroutine = false) (hgen : scope.isGenerator = false) (hk : scope.kind = .function)
    (hcell : ∀ x ∈ scope.names, x.2 ≠ .cell) : codeAny (model prog w) A (.call (.ref f) args) R s := by
  have X := X₀.keeps F.keep
  refine codeAny_call_def (fd := fnOf name qual params body scope dV kV doc pm an cdv ct) (body := body) (binds := binds) hroom (X _ _ ho) rfl (T.nolimit.keeps F.keep) (codeRec_of X hcd) rfl hbind hcell hloc (fun h₁ hns hk₁ => ?_) hco hgen hk
  obtain ⟨oL, es, ep, hLg, hLd, hN, hNs, st, B₂⟩ := kts_enterX B F N hA hfr hke
  exact wpAny_mono (h _ s.heap.objs.size h₁ ⟨hN _ hLg, st, F.above⟩ ⟨hns, fun b o e => hk₁ b o (of_hideAll _ e), Nat.le_of_eq (hideAll_size _ _)⟩
    (fun p hp => ⟨hk₁ _ _ (N p hp).1, Nat.ne_of_lt (Heap.lt_size (N p hp).1), hideAll_none _ (List.mem_map_of_mem hp)⟩) B₂ (X₀.keeps st) (T.keeps st) (fun b hb => by
      rw [memX hfr hb]; exact ⟨oL, es, ep, hLg, hLd⟩)) (fun fl s' hl => leaveS0X (es := es) (ep := ep) hfr B F N hLg hNs st hl) fun _ _ y => y
theorem code_defS0_C (B : Below A₀ base [] h₀) (F : Fr h₀ L s.heap m) (X₀ : K.In h₀) (N : News h₀ L s.heap news) (T : Top p loose mean mg mb h₀) (hA : A.frames = some [env]) (hfr : env.frame = some L) (hke : env.scope.kind = .function)
    (ho : K.lookup f = some ⟨oc, od, .func (fnOf name qual params body scope dV kV doc pm an cdv ct), osl⟩) (hcd : codeIn K cdv qual = true) (hroom : A.depth < recursionLimit)
    (hbind : BindsTo s (fnOf name qual params body scope dV kV doc pm an cdv ct) args binds) (hloc : ∀ y ∈ binds, scope.names.lookup y.1 = some .local)
    (h : ∀ g L' h₁, Fr h₀ L g m → Fr g L' h₁ (fun y => binds.reverse.lookup y) → News g L' h₁ news → Below A base [env] g → K.In g → Top p loose mean mg mb g → KtsDicts (([env] : List Env).filterMap (·.frame)) g →
      wpC (model prog w) (A.deeper (envOf qual scope L' f cdv)) (execs body (envOf qual scope L' f cdv))
        (fun fl s' => LeaveS0 (([env] : List Env).filterMap (·.frame)) h₀ L m g R (match fl with | .ret v => v | _ => .none) s')
        (fun e s' => wpAny (model prog w) (A.deeper (envOf qual scope L' f cdv)) (leaving (envOf qual scope L' f cdv) e) (fun _ s'' => R (.error e) s'') (fun e' s'' => R (.error e') s'') s')
        { s with heap := h₁, toks := s.toks + binds.length })
    (hco : scope.isCoroutine = false) (hgen : scope.isGenerator = false) (hk : scope.kind = .function)
    (hcell : ∀ x ∈ scope.names, x.2 ≠ .cell) : codeC (model prog w) A (.call (.ref f) args) R s := by
  have X := X₀.keeps F.keep
  refine codeC_call_def (fd := fnOf name qual params body scope dV kV doc pm an cdv ct) (body := body) (binds := binds) hroom (X _ _ ho) rfl (T.nolimit.keeps F.keep) (codeRec_of X hcd) rfl hbind hcell hloc (fun h₁ hns hk₁ => ?_) hco hgen hk
  obtain ⟨oL, es, ep, hLg, hLd, hN, hNs, st, B₂⟩ := kts_enterX B F N hA hfr hke
  exact wpC_mono (h _ s.heap.objs.size h₁ ⟨hN _ hLg, st, F.above⟩ ⟨hns, fun b o e => hk₁ b o (of_hideAll _ e), Nat.le_of_eq (hideAll_size _ _)⟩
    (fun p hp => ⟨hk₁ _ _ (N p hp).1, Nat.ne_of_lt (Heap.lt_size (N p hp).1), hideAll_none _ (List.mem_map_of_mem hp)⟩) B₂ (X₀.keeps st) (T.keeps st) (fun b hb => by
      rw [memX hfr hb]; exact ⟨oL, es, ep, hLg, hLd⟩)) (fun fl s' hl => leaveS0X (es := es) (ep := ep) hfr B F N hLg hNs st hl) fun _ _ y => y
end
end Mine
end
section
open PySem PySem.W PyProof.Rows PySem.Spec PySem.Calls
open Builtin Builtin.Str Builtin.BaseException Builtin.Exceptions
set_option Elab.async false
set_option maxRecDepth 100000
set_option maxHeartbeats 4000000
set_option linter.all false
namespace Mine
theorem bs_kind : builtinKind "BaseException.__str__" = some .slot := by decide +kernel
theorem bs_split : splitId "BaseException.__str__" = some ("BaseException", "__str__") := by decide +kernel
theorem bs_plain : plainId "BaseException.__str__" = true := by decide +kernel
section
variable {prog : Program} {w : World} {A : Around} {E : Value → Shared → Prop} {s : Shared} {e t C L : Addr} {h₀ : Heap} {news : List (Addr × Obj)} {K : Frag} {m : PySem.Str} {u : Tok}
theorem bexcArgs_got {M : Model} {items : List Value} {Q : Value × List Value → Shared → Prop} (N : News h₀ L s.heap news) (G : Got news e t (.ref C) items) (hq : Q (.ref t, items) s) :
    wpAny M A (bexcArgs (.ref e)) Q E s := by
  obtain ⟨oe, ot, ws, nt, h1, h2, _, hd, h0, _, htd⟩ := G
  unfold bexcArgs
  refine wpAny_bind (wpAny_field (N _ h1).1 hd h0 (wpAny_bind (wpAny_seqItems (N _ h2).1 htd ?_)))
  have : items.toArray.toList = items := by simp
  show wpAny M A (pure (Value.ref t, items.toArray.toList)) Q E s
  rw [this]; exact wpAny_pure hq
theorem bexcStr_got {Q : Fin → Shared → Prop} (N : News h₀ L s.heap news) (G : Got news e t (.ref C) [.str m u]) (hq : Q (.done (.ret (.str m u))) s) :
    wpAny (model prog w) A (Builtin.«BaseException.__str__» ⟨[.ref e], []⟩) Q E s := by
  unfold Builtin.«BaseException.__str__»
  repeat (first | with_reducible refine bexcArgs_got N G ?_ | wp_step)
  exact hq
theorem own_strOf {Q : Value → Shared → Prop} (hu : A.units < cLine) (X : K.In s.heap) (N : News h₀ L s.heap news) (G : Got news e t (.ref C) [.str m u])
    (hs : findIn K (.ref C) "__str__" = some (some (.builtin "BaseException.__str__"))) (hm : mroIn K C (.type "BaseException") = some true) (hq : Q (.str m u) s) :
    wpAny (model prog w) A (PySem.Builtin.Str.strOf (.ref e)) Q E s := by
  have G' := G
  obtain ⟨oe, ot, ws, nt, h1, h2, hc, _⟩ := G'
  have t1 : Looks (model prog w) s.heap (typeOf (.ref e)) (.ref C) := by
    rw [← hc]; exact (Looks.ld (N _ h1).1).andThen .now
  have t2 : Looks (model prog w) s.heap (isInstance (.ref e) (.type "BaseException")) true := t1.andThen (looks_mroIn X hm)
  unfold PySem.Builtin.Str.strOf
  rw [show isExactStr (.ref e) = false from rfl]
  refine wpAny_bind (m := cRoomFor _ _) (wpAny_cRoomFor hu ?_)
  refine wpAny_bind (m := callSpecial? (.ref e) (Str.ofString "__str__")) ?_
  refine wpAny_bind (wpAny_bind (t1.here ((looks_findIn X hs).here (wpAny_holding (wpAny_bind ?_)))))
  rw [PySem.F.excStr_ValueError.str.bind]
  refine wpAny_pure (wpAny_bind ?_)
  refine wpAny_call (codeAny_call_builtin bs_plain F.entry_bexc_str (@check_slot (model prog w) _ _ _ "BaseException.__str__" "BaseException" "__str__" (.ref e) [] [] _ bs_kind bs_split t2 (F.args_bexc_str (.ref e)) ?_))
  refine bexcStr_got N G ?_
  exact wpAny_pure (wpAny_pure hq)
theorem str_own {Q : Value → Shared → Prop} (hu : A.in1.in1.units < cLine) (X : K.In s.heap) (N : News h₀ L s.heap news) (G : Got news e t (.ref C) [.str m u])
    (hs : findIn K (.ref C) "__str__" = some (some (.builtin "BaseException.__str__"))) (hm : mroIn K C (.type "BaseException") = some true) (hq : Q (.str m u) s) :
    wpAny (model prog w) A (call (.type "str") [.ref e]) Q E s := by
  refine callType_codes (T := "str") (Bi := Builtin.«object.__init__») (Q₁ := fun r s₁ => ∃ y u, r = .str y u ∧ Q r s₁) PySem.F.called_str (PySem.F.typeCall_str_1 _) PySem.F.entry_object_init ?_ ?_
  · refine codeAny_of_tree ?_
    show wpAny _ A.in1.in1 (do checkBuiltinCall "str.__new__" ⟨[.type "str", .ref e], []⟩; again (.builtin "str.__new__" ⟨[.type "str", .ref e], []⟩)) _ _ s
    refine wpAny_bind (wpAny_of_eq (PySem.F.newCall_str_1 _) (wpAny_pure ⟨plainId_quiet (by decide +kernel) _, codeAny_builtin PySem.F.entry_str_new ?_⟩))
    rw [Around.under_plainId (by decide +kernel) _]
    rw [str_new_tree]
    refine wpAny_bind (wpAny_pure ?_)
    refine wpAny_bind (wpAny_of_eq isSubtype_str_str ?_)
    exact wpAny_bind (own_strOf hu X N G hs hm (wpAny_pure ⟨_, _, rfl, hq⟩))
  · rintro obj s₁ ⟨y, u, rfl, hq⟩
    exact ⟨typeIs_str _ _ _, PySem.F.args_object_init_2 _ _, object_init_meets PySem.F.called_str.init.lookup PySem.F.called_str.made (by decide) prog w A.in1 _ s₁ ⟨typeIs_str _ _ _, rfl, hq⟩⟩
end
end Mine
end
section
open PySem PySem.W PyProof.Rows PySem.Spec PySem.Calls
set_option Elab.async false
set_option maxRecDepth 100000
set_option maxHeartbeats 4000000
set_option linter.unusedVariables false
namespace Mine
abbrev PStr := PySem.Str
abbrev Ldg := List (Addr × Obj)
abbrev tupOf (vs : List Value) : Obj := { cls := .type "tuple", data := .seq vs.toArray }
theorem mem_in {x : Addr × Obj} {l : Ldg} (h : x ∈ l) : List.Mem x l := h
inductive EK where
  | reply | proto | value
  deriving DecidableEq
/-- parse229: the port, or what it raises and its text -/
def p229 (r : PStr) : Except (EK × PStr) Int :=
  if (Txt.slice r none (some 3) != Str.ofString "229") = true then .error (.reply, r) else
  if Txt.find r (Str.ofString "(") < 0 then .error (.proto, r) else
  if Txt.find3 r (Str.ofString ")") (Txt.find r (Str.ofString "(") + 1) < 0 then .error (.proto, r) else
  if (Txt.item r (Txt.find r (Str.ofString "(") + 1) != Txt.item r (Txt.find3 r (Str.ofString ")") (Txt.find r (Str.ofString "(") + 1) - 1)) = true then .error (.proto, r) else
  let ps := Txt.split (Txt.slice r (some (Txt.find r (Str.ofString "(") + 1)) (some (Txt.find3 r (Str.ofString ")") (Txt.find r (Str.ofString "(") + 1)))) (Txt.item r (Txt.find r (Str.ofString "(") + 1))
  if ps.length ≠ 5 then .error (.proto, r) else
  match PySem.intText? (ps.getD 3 Str.empty) with
  | some n => .ok n
  | none => .error (.value, intRefusal (ps.getD 3 Str.empty))
section
variable {prog : Program} {w : World} {A : Around} {E : Value → Shared → Prop} {s : Shared} {x : PStr} {t : Tok} {Q : Value → Shared → Prop}
/-- int() of a text that reads -/
theorem call_int_reads (hl : x.length ≤ 640) (hn : PySem.intText? x ≠ none) (h : ∀ n, PySem.intText? x = some n → Q (.int n s.toks) { s with toks := s.toks + 1 }) : wpAny (model prog w) A (call (.type "int") [.str x t]) Q E s := by
  cases e : PySem.intText? x with
  | none => exact absurd e hn
  | some n => exact KIN.call_text e hl (h n e)
end
theorem p229_parts {r : PStr} (h1 : (Txt.slice r none (some 3) != Str.ofString "229") = false) (h2 : ¬ Txt.find r (Str.ofString "(") < 0)
    (h3 : ¬ Txt.find3 r (Str.ofString ")") (Txt.find r (Str.ofString "(") + 1) < 0)
    (h4 : (Txt.item r (Txt.find r (Str.ofString "(") + 1) != Txt.item r (Txt.find3 r (Str.ofString ")") (Txt.find r (Str.ofString "(") + 1) - 1)) = false) {ps : List PStr}
    (hp : ps = Txt.split (Txt.slice r (some (Txt.find r (Str.ofString "(") + 1)) (some (Txt.find3 r (Str.ofString ")") (Txt.find r (Str.ofString "(") + 1)))) (Txt.item r (Txt.find r (Str.ofString "(") + 1))) :
    p229 r = if ps.length ≠ 5 then .error (.proto, r) else match PySem.intText? (ps.getD 3 Str.empty) with
      | some n => .ok n
      | none => .error (.value, intRefusal (ps.getD 3 Str.empty)) := by
  subst hp
  unfold p229
  rw [if_neg (Bool.eq_false_iff.mp h1), if_neg h2, if_neg h3, if_neg (Bool.eq_false_iff.mp h4)]
theorem getD_len {ys : List PStr} {n k : Nat} (h : ∀ a ∈ ys, a.length ≤ n) : (ys.getD k Str.empty).length ≤ n := by
  rw [List.getD_eq_getElem?_getD]
  cases e : ys[k]? with
  | none => exact Nat.zero_le _
  | some y => exact h y (List.mem_of_getElem? e)
/-- what stands between the brackets -/
abbrev p229in (r : PStr) : PStr := Txt.slice r (some (Txt.find r (Str.ofString "(") + 1)) (some (Txt.find3 r (Str.ofString ")") (Txt.find r (Str.ofString "(") + 1)))
theorem p229_last {r : PStr} (h1 : (Txt.slice r none (some 3) != Str.ofString "229") = false) (h2 : ¬ Txt.find r (Str.ofString "(") < 0)
    (h3 : ¬ Txt.find3 r (Str.ofString ")") (Txt.find r (Str.ofString "(") + 1) < 0)
    (h4 : (Txt.item r (Txt.find r (Str.ofString "(") + 1) != Txt.item r (Txt.find3 r (Str.ofString ")") (Txt.find r (Str.ofString "(") + 1) - 1)) = false) {l : List (PStr × Tok)}
    (hp : l.map (·.1) = Txt.split (p229in r) (Txt.item r (Txt.find r (Str.ofString "(") + 1))) (h5 : (l.length : Int) = 5) :
    p229 r = match PySem.intText? ((l.map (·.1)).getD (Int.toNat 3) Str.empty) with
      | some n => .ok n
      | none => .error (.value, intRefusal ((l.map (·.1)).getD (Int.toNat 3) Str.empty)) := by
  rw [p229_parts h1 h2 h3 h4 hp, if_neg (by rw [List.length_map]; omega)]
  rfl
theorem p229_five {r : PStr} (h1 : (Txt.slice r none (some 3) != Str.ofString "229") = false) (h2 : ¬ Txt.find r (Str.ofString "(") < 0)
    (h3 : ¬ Txt.find3 r (Str.ofString ")") (Txt.find r (Str.ofString "(") + 1) < 0)
    (h4 : (Txt.item r (Txt.find r (Str.ofString "(") + 1) != Txt.item r (Txt.find3 r (Str.ofString ")") (Txt.find r (Str.ofString "(") + 1) - 1)) = false) {l : List (PStr × Tok)}
    (hp : l.map (·.1) = Txt.split (p229in r) (Txt.item r (Txt.find r (Str.ofString "(") + 1))) (h5 : ¬ (l.length : Int) = 5) : p229 r = .error (.proto, r) := by
  rw [p229_parts h1 h2 h3 h4 hp, if_pos (by rw [List.length_map]; omega)]
theorem p229_sep {r : PStr} (h1 : (Txt.slice r none (some 3) != Str.ofString "229") = false) (h2 : ¬ Txt.find r (Str.ofString "(") < 0)
    (h3 : ¬ Txt.find3 r (Str.ofString ")") (Txt.find r (Str.ofString "(") + 1) < 0)
    (h4 : (Txt.item r (Txt.find r (Str.ofString "(") + 1) != Txt.item r (Txt.find3 r (Str.ofString ")") (Txt.find r (Str.ofString "(") + 1) - 1)) = true) : p229 r = .error (.proto, r) := by
  unfold p229
  rw [if_neg (Bool.eq_false_iff.mp h1), if_neg h2, if_neg h3, if_pos h4]
theorem p229_close {r : PStr} (h1 : (Txt.slice r none (some 3) != Str.ofString "229") = false) (h2 : ¬ Txt.find r (Str.ofString "(") < 0)
    (h3 : Txt.find3 r (Str.ofString ")") (Txt.find r (Str.ofString "(") + 1) < 0) : p229 r = .error (.proto, r) := by
  unfold p229
  rw [if_neg (Bool.eq_false_iff.mp h1), if_neg h2, if_pos h3]
theorem p229_open {r : PStr} (h1 : (Txt.slice r none (some 3) != Str.ofString "229") = false) (h2 : Txt.find r (Str.ofString "(") < 0) : p229 r = .error (.proto, r) := by
  unfold p229
  rw [if_neg (Bool.eq_false_iff.mp h1), if_pos h2]
theorem p229_code {r : PStr} (h1 : (Txt.slice r none (some 3) != Str.ofString "229") = true) : p229 r = .error (.reply, r) := by
  unfold p229
  rw [if_pos h1]
theorem raisedS_sub {base G : Heap} {l : List Env} {e t : Addr} {cls : Value} {vs : List Value} {news news' : Ldg} {h : Heap} (R : RaisedS base G l e cls t vs news' h) (hs : ∀ p ∈ news, p ∈ news') : RaisedS base G l e cls t vs news h := by
  obtain ⟨⟨B, hB, hBG, hl, hfl, hnew⟩, htup⟩ := R
  exact ⟨⟨B, hB, hBG, fun q hq => hl q (hs q hq), hfl, hnew⟩, htup⟩
theorem raisedK_sub {base : Heap} {l : List Env} {e t : Addr} {cls : Value} {vs : List Value} {news news' : Ldg} {h : Heap} (R : RaisedK base l e cls t vs news' h) (hs : ∀ p ∈ news, p ∈ news') : RaisedK base l e cls t vs news h := by
  obtain ⟨⟨B, hB, hl, hfl, hnew⟩, htup⟩ := R
  exact ⟨⟨B, hB, fun q hq => hl q (hs q hq), hfl, hnew⟩, htup⟩
theorem news_d2 {h₀ h : Heap} {L : Addr} {x y : Addr × Obj} {news : Ldg} (N : News h₀ L h (x :: y :: news)) : News h₀ L h (x :: news) := fun p hp => N p ((List.mem_cons.mp hp).elim (fun e => e ▸ .head _) fun h => .tail _ (.tail _ h))
theorem sub_refl {news : Ldg} : ∀ p ∈ news, p ∈ news := fun _ h => h
theorem sub_tail {news : Ldg} {x : Addr × Obj} : ∀ p ∈ news, p ∈ x :: news := fun _ h => .tail _ h
theorem sub_tail2 {news : Ldg} {x y : Addr × Obj} : ∀ p ∈ news, p ∈ x :: y :: news := fun _ h => .tail _ (.tail _ h)
theorem fact_find1 (x : PStr) (c : Nat) : Txt.find x ⟨#[c]⟩ = -1 ∨ (0 ≤ Txt.find x ⟨#[c]⟩ ∧ Txt.find x ⟨#[c]⟩ < x.length) := by
  rw [PyProof.Rows.find_is_find3]
  rcases StrLaws.find3_spec x c 0 with ⟨h, _⟩ | ⟨k, h, _, h2, _⟩
  · exact .inl h
  · exact .inr (by rw [h]; omega)
theorem fact_find31 (x : PStr) (c : Nat) (i : Int) (hi : 0 ≤ i) : Txt.find3 x ⟨#[c]⟩ i = -1 ∨ (i ≤ Txt.find3 x ⟨#[c]⟩ i ∧ Txt.find3 x ⟨#[c]⟩ i < x.length) := by
  rcases StrLaws.find3_spec x c i with ⟨h, _⟩ | ⟨k, h, h1, h2, _⟩
  · exact .inl h
  · refine .inr ?_
    rw [h]
    unfold fromIndex at h1
    split at h1 <;> omega
theorem open_is : Str.ofString "(" = ⟨#[40]⟩ := by decide
theorem close_is : Str.ofString ")" = ⟨#[41]⟩ := by decide
theorem fact_open (r : PStr) : Txt.find r (Str.ofString "(") = -1 ∨ (0 ≤ Txt.find r (Str.ofString "(") ∧ Txt.find r (Str.ofString "(") < r.length) := by
  rw [open_is]; exact fact_find1 r 40
theorem fact_close (r : PStr) (i : Int) (hi : 0 ≤ i) : Txt.find3 r (Str.ofString ")") i = -1 ∨ (i ≤ Txt.find3 r (Str.ofString ")") i ∧ Txt.find3 r (Str.ofString ")") i < r.length) := by
  rw [close_is]; exact fact_find31 r 41 i hi
theorem kts_dict {A : Around} {base : Heap} {outer : List Env} {h₀ g : Heap} {L : Addr} {m : PStr → Option Value} {env : Env} (B : Below A base (env :: outer) g) (D : KtsDicts (outer.filterMap (·.frame)) h₀) (F : Fr h₀ L g m) (hf : env.frame = some L) : KtsDicts ((env :: outer).filterMap (·.frame)) g := by
  intro b hb
  rw [List.filterMap_cons, hf] at hb
  rcases List.mem_cons.mp hb with rfl | hb
  · obtain ⟨o, es, n, ho, hd, _⟩ := F.ns
    exact ⟨o, es, n, ho, hd⟩
  · obtain ⟨o, es, n, ho, hd⟩ := D b hb
    exact ⟨o, es, n, F.keep b o ho, hd⟩
end Mine
end
section
open PySem PySem.W PyProof.Rows PySem.Spec PySem.Calls
set_option Elab.async false
set_option maxRecDepth 100000
set_option maxHeartbeats 4000000
set_option linter.all false
namespace Mine
theorem news_drop1 {h₀ h : Heap} {L : Addr} {x : Addr × Obj} {news : Ldg} (N : News h₀ L h (x :: news)) : News h₀ L h news := fun p hp => N p (.tail _ hp)
theorem news_drop2 {h₀ h : Heap} {L : Addr} {x y : Addr × Obj} {news : Ldg} (N : News h₀ L h (x :: y :: news)) : News h₀ L h news := fun p hp => N p (.tail _ (.tail _ hp))
theorem news_drop3 {h₀ h : Heap} {L : Addr} {x y z : Addr × Obj} {news : Ldg} (N : News h₀ L h (x :: y :: z :: news)) : News h₀ L h news := fun p hp => N p (.tail _ (.tail _ (.tail _ hp)))
abbrev lstOf (vs : List Value) (n : Nat) : Obj := { cls := .type "list", data := .seq vs.toArray n }
theorem myIn {K : Frag} {h₀ h : Heap} {L : Addr} {m : Str → Option Value} (F : Fr h₀ L h m) (X : K.In h₀) : K.In h := X.keeps F.keep
theorem call_ValueError_made {prog : Program} {w : World} {A : Around} {E : Value → Shared → Prop} {s : Shared} {rest : List Value}
    (h : ∀ h' e, Heap.MadeExc s.heap h' e "ValueError" rest → E (.ref e) { s with heap := h' }) (hrest : rest.length ≤ sizeLine := by size_fits) :
    wpAny (model prog w) A (call (.type "ValueError") rest) (Raisable E) E s := by
  obtain ⟨hp, g, d, tk, os⟩ := s
  refine wpAny_call_exc PySem.F.excCall_ValueError (fun h' e hx => ?_) hrest
  obtain ⟨ob, t, he, hcls, hd⟩ := hx.newExc.there
  exact ⟨e, ob, _, "ValueError", _, _, excClass_ValueError, rfl, he, hcls, hd, rfl, h h' e hx⟩
theorem floordiv_pos {prog : Program} {w : World} {A : Around} {E : Value → Shared → Prop} {s : Shared} {a b : Int} {t u : Tok} {Q : Value → Shared → Prop} (hb : 0 < b) (hl : b.natAbs.log2 < 9000) (h : Q (.int (a / b) s.toks) { s with toks := s.toks + 1 }) :
    wpAny (model prog w) A (binaryOp .FloorDiv (.int a t) (.int b u)) Q E s := by
  rw [← fdiv_eq a hb] at h
  exact floordiv_int (by omega) h (Or.inl (PyProof.noPylong_of_log2 hl))
theorem whlIf_dec {p : Prop} [Decidable p] {T F : Prop} (t : p → T) (f : ¬ p → F) : WhlIf (decide p) T F := by
  by_cases h : p
  · exact WhlIf.yes (decide_eq_true h) (t h)
  · exact WhlIf.no (decide_eq_false h) (f h)
theorem lookup_if {y k : Str} {v : Value} {l : List (Str × Value)} : List.lookup y ((k, v) :: l) = if y = k then some v else List.lookup y l := by
  rw [List.lookup_cons]
  by_cases h : y = k
  · rw [if_pos h, h]; simp
  · have : (y == k) = false := by simpa using h
    rw [this, if_neg h]
theorem lookup_out {l : List (Str × Value)} {names : List Str} {y : Str} (ha : (l.map (·.1)).all (fun k => names.contains k) = true) (hy : y ∉ names) : List.lookup y l = none := by
  induction l with
  | nil => rfl
  | cons p l ih =>
    obtain ⟨k, v⟩ := p
    rw [List.map_cons, List.all_cons, Bool.and_eq_true] at ha
    rw [lookup_if, if_neg (fun e => hy (by rw [e]; exact List.contains_iff_mem.mp ha.1))]
    exact ih ha.2
theorem ne_of_out {y k : Str} {names : List Str} (hy : y ∉ names) (h : names.contains k = true) : ¬ y = k := fun e => hy (e ▸ by simpa using h)
theorem fr_map (names : List Str) {g h : Heap} {L : Addr} {M M' : Str → Option Value} (F : Fr g L h M) (h1 : ∀ n ∈ names, M n = M' n) (h2 : ∀ y, y ∉ names → M y = M' y) : Fr g L h M' :=
  fr_to F fun y => if hy : y ∈ names then h1 y hy else h2 y hy
/-- the walker stops here -/
def Hold (P : Prop) : Prop := P
theorem Hold.mk {P : Prop} (h : Hold P) : P := h
theorem Hold.out {P : Prop} (h : P) : Hold P := h
abbrev KRes := Except (EK × PStr) Int
/-- the bisection's turns: right or left, the keys, what is sought, the fuel, the bounds -/
def bis (right : Bool) (k : Nat → KRes) (x : Int) : Nat → Nat → Nat → Except (EK × PStr) Nat
  | 0, lo, _ => .ok lo
  | f + 1, lo, hi => if lo < hi then
      match k ((lo + hi) / 2) with
      | .error e => .error e
      | .ok y => if (if right then x < y else ¬ y < x) then bis right k x f lo ((lo + hi) / 2) else bis right k x f ((lo + hi) / 2 + 1) hi
    else .ok lo
/-- a while under a measure, the frame and the ledger of a turn given by its state -/
def WhlFr {ι : Type} (μ : ι → Nat) (C : ι → Prop) (M : ι → Str → Option Value) (Nw : ι → Ldg) (g : Heap) (L : Addr) (i : ι) (s : Shared) (Q : Flow → Shared → Prop) (f : Flow) (s' : Shared) : Prop :=
  match f with
  | .next | .cont => ∃ i' h' tk', s' = { s with heap := h', toks := tk' } ∧ μ i' < μ i ∧ C i' ∧ Fr g L h' (M i') ∧ News g L h' (Nw i')
  | .brk => Q .next s'
  | .ret v => Q (.ret v) s'
section
variable {prog : Program} {w : World} {A : Around} {E : Value → Shared → Prop} {s : Shared} {env : Env} {test : PySem.Expr} {body orelse : List Stmt} {Q : Flow → Shared → Prop} {g : Heap} {L : Addr} {M0 : Str → Option Value} {news0 : Ldg}
theorem while_fr {ι : Type} (μ : ι → Nat) (C : ι → Prop) (M : ι → Str → Option Value) (Nw : ι → Ldg) (i₀ : ι) (names : List Str) {pos : Pos} (F : Fr g L s.heap M0) (N : News g L s.heap news0)
    (c0 : C i₀) (m1 : ∀ n ∈ names, M0 n = M i₀ n) (m2 : ∀ y, y ∉ names → M0 y = M i₀ y) (n0 : ∀ q ∈ Nw i₀, q ∈ news0)
    (step : ∀ i h tk, C i → Fr g L h (M i) → News g L h (Nw i) → wpAny (model prog w) A (isTrue test env (eval test env)) (fun b s₂ => WhlIf b (wpAny (model prog w) A (execs body env) (WhlFr μ C M Nw g L i s Q) E s₂) (wpAny (model prog w) A (execs orelse env) Q E s₂)) E { s with heap := h, toks := tk })
    (hE : PassesOwn (model prog w) A env E) : wpAny (model prog w) A (exec (.While test body orelse pos) env) Q E s :=
  while_my μ (fun i h _ => C i ∧ Fr g L h (M i) ∧ News g L h (Nw i)) i₀ ⟨c0, fr_map names F m1 m2, fun q hq => N q (n0 q hq)⟩
    (fun i h tk hP => wpAny_mono (step i h tk hP.1 hP.2.1 hP.2.2) (fun b s₂ hb => by
      cases b with
      | false => exact WhlIf.no rfl hb
      | true => exact WhlIf.yes rfl (wpAny_mono (show wpAny _ _ _ (WhlFr μ C M Nw g L i s Q) E s₂ from hb) (fun f s₃ h₃ => by cases f <;> exact h₃) fun _ _ x => x)) fun _ _ x => x) hE
theorem while_frC {ι : Type} (μ : ι → Nat) (C : ι → Prop) (M : ι → Str → Option Value) (Nw : ι → Ldg) (i₀ : ι) (names : List Str) {pos : Pos} (F : Fr g L s.heap M0) (N : News g L s.heap news0)
    (c0 : C i₀) (m1 : ∀ n ∈ names, M0 n = M i₀ n) (m2 : ∀ y, y ∉ names → M0 y = M i₀ y) (n0 : ∀ q ∈ Nw i₀, q ∈ news0)
    (step : ∀ i h tk, C i → Fr g L h (M i) → News g L h (Nw i) → wpAny (model prog w) A (isTrue test env (eval test env)) (fun b s₂ => WhlIf b (wpC (model prog w) A (execs body env) (WhlFr μ C M Nw g L i s Q) E s₂) (wpAny (model prog w) A (execs orelse env) Q E s₂)) E { s with heap := h, toks := tk })
    (hE : PassesOwn (model prog w) A env E) : wpC (model prog w) A (exec (.While test body orelse pos) env) Q E s :=
  while_C μ (fun i h _ => C i ∧ Fr g L h (M i) ∧ News g L h (Nw i)) i₀ ⟨c0, fr_map names F m1 m2, fun q hq => N q (n0 q hq)⟩
    (fun i h tk hP => wpAny_mono (step i h tk hP.1 hP.2.1 hP.2.2) (fun b s₂ hb => by
      cases b with
      | false => exact WhlIf.no rfl hb
      | true => exact WhlIf.yes rfl (wpC_mono (show wpC _ _ _ (WhlFr μ C M Nw g L i s Q) E s₂ from hb) (fun f s₃ h₃ => by cases f <;> exact h₃) fun _ _ x => x)) fun _ _ x => x) hE
theorem whlFr_next {ι : Type} {μ : ι → Nat} {C : ι → Prop} {M : ι → Str → Option Value} {Nw : ι → Ldg} {i : ι} {h' : Heap} {tk : Nat} (i' : ι) (names : List Str) (F : Fr g L h' M0) (N : News g L h' news0) (hμ : μ i' < μ i) (hc : C i')
    (m1 : ∀ n ∈ names, M0 n = M i' n) (m2 : ∀ y, y ∉ names → M0 y = M i' y) (n0 : ∀ q ∈ Nw i', q ∈ news0) : WhlFr μ C M Nw g L i s Q .next { s with heap := h', toks := tk } :=
  ⟨i', h', tk, rfl, hμ, hc, fr_map names F m1 m2, fun q hq => N q (n0 q hq)⟩
end
theorem bis_fuel {r : Bool} {k : Nat → KRes} {x : Int} : ∀ (f f' lo hi : Nat), hi - lo ≤ f → hi - lo ≤ f' → bis r k x f lo hi = bis r k x f' lo hi
  | 0, 0, _, _, _, _ => rfl
  | 0, f' + 1, lo, hi, h, _ => by simp only [bis]; rw [if_neg (by omega)]
  | f + 1, 0, lo, hi, _, h => by simp only [bis]; rw [if_neg (by omega)]
  | f + 1, f' + 1, lo, hi, h, h' => by
    simp only [bis]
    by_cases hlt : lo < hi
    · rw [if_pos hlt, if_pos hlt]
      cases k ((lo + hi) / 2) with
      | error e => rfl
      | ok y =>
        dsimp only
        rw [bis_fuel f f' lo ((lo + hi) / 2) (by omega) (by omega), bis_fuel f f' ((lo + hi) / 2 + 1) hi (by omega) (by omega)]
    · rw [if_neg hlt, if_neg hlt]
theorem bis_at {r : Bool} {k : Nat → KRes} {x : Int} {l h : Nat} (hl : l < h) : bis r k x (h - l) l h = match k ((l + h) / 2) with
      | .error e => .error e
      | .ok y => if (if r then x < y else ¬ y < x) then bis r k x ((l + h) / 2 - l) l ((l + h) / 2) else bis r k x (h - ((l + h) / 2 + 1)) ((l + h) / 2 + 1) h := by
  obtain ⟨f, hf⟩ : ∃ f, h - l = f + 1 := ⟨h - l - 1, by omega⟩
  rw [hf]
  simp only [bis]
  rw [if_pos hl]
  cases k ((l + h) / 2) with
  | error e => rfl
  | ok y =>
    dsimp only
    rw [bis_fuel f ((l + h) / 2 - l) l ((l + h) / 2) (by omega) (by omega), bis_fuel f (h - ((l + h) / 2 + 1)) ((l + h) / 2 + 1) h (by omega) (by omega)]
theorem half_toNat (l h : Nat) : (((l : Int) + (h : Int)) / 2).toNat = (l + h) / 2 := by omega
section
variable {ys : List PStr} {x n : Int} {l h : Nat} {k : Nat → KRes}
theorem bisR_hi (hl : (l : Int) < h) (hk : k ((((l : Int) + (h : Int)) / 2).toNat) = .ok n) (hx : x < n) : bis true k x (h - l) l h = bis true k x ((l + h) / 2 - l) l ((l + h) / 2) := by
  rw [half_toNat] at hk
  rw [bis_at (by omega), hk]; dsimp only; rw [if_pos (by simpa using hx)]
theorem bisR_lo (hl : (l : Int) < h) (hk : k ((((l : Int) + (h : Int)) / 2).toNat) = .ok n) (hx : ¬ x < n) : bis true k x (h - l) l h = bis true k x (h - ((l + h) / 2 + 1)) ((l + h) / 2 + 1) h := by
  rw [half_toNat] at hk
  rw [bis_at (by omega), hk]; dsimp only; rw [if_neg (by simpa using hx)]
theorem bisL_lo (hl : (l : Int) < h) (hk : k ((((l : Int) + (h : Int)) / 2).toNat) = .ok n) (hx : n < x) : bis false k x (h - l) l h = bis false k x (h - ((l + h) / 2 + 1)) ((l + h) / 2 + 1) h := by
  rw [half_toNat] at hk
  rw [bis_at (by omega), hk]; dsimp only; rw [if_neg (by simpa using hx)]
theorem bisL_hi (hl : (l : Int) < h) (hk : k ((((l : Int) + (h : Int)) / 2).toNat) = .ok n) (hx : ¬ n < x) : bis false k x (h - l) l h = bis false k x ((l + h) / 2 - l) l ((l + h) / 2) := by
  rw [half_toNat] at hk
  rw [bis_at (by omega), hk]; dsimp only; rw [if_pos (by simpa using hx)]
theorem bis_err {r : Bool} {e : EK × PStr} (hl : (l : Int) < h) (hk : k ((((l : Int) + (h : Int)) / 2).toNat) = .error e) : bis r k x (h - l) l h = .error e := by
  rw [half_toNat] at hk
  rw [bis_at (by omega), hk]
theorem bis_end {r : Bool} (hl : ¬ (l : Int) < h) : bis r k x (h - l) l h = .ok l := by
  rw [show h - l = 0 by omega]; rfl
end
/-- a row and its key: texts under the law's key, or ints under none -/
def RowIs (P : Addr) (kv : Value) (vs : List Value) (k : Nat → KRes) (n : Nat) : Prop :=
  (∃ ys, StrsAre vs ys ∧ kv = .ref P ∧ k = (fun i => p229 (ys.getD i Str.empty)) ∧ n = ys.length ∧ (∀ y ∈ ys, y.length ≤ 640)) ∨
  (∃ ns, IntsAre vs ns ∧ kv = .none ∧ k = (fun i => .ok (ns.getD i 0)) ∧ n = ns.length)
def HiIs (hv : Value) (hi n : Nat) : Prop := (hv = .none ∧ hi = n) ∨ (∃ t, hv = .int hi t ∧ hi ≤ n)
theorem ints_length : ∀ {vs : List Value} {ns : List Int}, IntsAre vs ns → vs.length = ns.length
  | _, _, .nil => rfl
  | _, _, .cons _ _ h => congrArg (· + 1) (ints_length h)
theorem RowIs.length {P : Addr} {kv : Value} {vs : List Value} {k : Nat → KRes} {n : Nat} (h : RowIs P kv vs k n) : vs.length = n := by
  rcases h with ⟨ys, h, _, _, e, _⟩ | ⟨ns, h, _, _, e⟩
  · rw [h.len_eq, e]
  · rw [ints_length h, e]
section
variable {prog : Program} {w : World} {A : Around} {E : Value → Shared → Prop} {s : Shared}
theorem len_intsA {a : Addr} {l : List Value} {ns : List Int} {Q : Value → Shared → Prop} (hl : s.heap.IsList a l.toArray) (hi : IntsAre l ns) (hfit : (ns.length : Int) < 9223372036854775808)
    (h : Q (.int ns.length (s.toks + 1)) { s with toks := s.toks + 1 + 1 }) : wpAny (model prog w) A (call (.builtin "len") [.ref a]) Q E s := by
  have e : l.toArray.size = ns.length := by rw [List.size_toArray]; exact ints_length hi
  refine len_list hl (by rw [e]; omega) ?_
  rw [e]
  exact h
theorem item_intsA {value slice : PySem.Expr} {a : Addr} {l : List Value} {ns : List Int} {k : Int} {u : Tok} {Q : Value → Shared → Prop} (hl : s.heap.IsList a l.toArray) (hi : IntsAre l ns)
    (h0 : 0 ≤ k) (hk : k < ns.length) (hfit : k < 2 ^ 63) (h : ∀ t', Q (.int (ns.getD k.toNat 0) t') s)
    (hs : subscripted slice false (.ref a) (.int k u) = operate [.ref a, .int k u] (getItem (.ref a) (.int k u)) := by with_unfolding_all rfl) (hg : ∀ r, letTemporaryGo value (.ref a) r = pure () := by intro _; with_unfolding_all rfl) :
    wpAny (model prog w) A (subscriptTail value slice (.ref a) (.int k u)) Q E s := by
  have hlt : k.toNat < l.length := by rw [ints_length hi]; omega
  have e : l[k.toNat]? = some l[k.toNat] := List.getElem?_eq_getElem hlt
  obtain ⟨t, ht⟩ := hi.int_at _ _ e
  exact item_listL hl h0 hfit (e.trans (congrArg some ht)) (h t) hs hg
end
theorem bis_nv {r : Bool} {k : Nat → KRes} {x : Int} {l h : Nat} {R : Except (EK × PStr) Nat} (hv : ∀ msg, R ≠ .error (.value, msg)) (e : R = bis r k x (h - l) l h) (hl : (l : Int) < h) : ∀ msg, k ((((l : Int) + (h : Int)) / 2).toNat) ≠ .error (.value, msg) :=
  fun msg q => hv msg (e.trans (bis_err hl q))
def negMsg : PStr := Str.ofString "lo must be non-negative"
def bisZ (r : Bool) (k : Nat → KRes) (x lo : Int) (hi : Nat) : Except (EK × PStr) Nat := if lo < 0 then .error (.value, negMsg) else bis r k x (hi - lo.toNat) lo.toNat hi
theorem bisZ_neg {r : Bool} {k : Nat → KRes} {x lo : Int} {hi : Nat} (h : lo < 0) : bisZ r k x lo hi = .error (.value, negMsg) := if_pos h
theorem bisZ_nat {r : Bool} {k : Nat → KRes} {x : Int} {lo hi : Nat} : bisZ r k x (lo : Int) hi = bis r k x (hi - lo) lo hi := if_neg (by omega)
theorem nat_of {z : Int} (h : ¬ z < 0) : ∃ l : Nat, z = (l : Int) := ⟨z.toNat, by omega⟩
/-- what the thing's key answers -/
def ThingIs (P : Addr) (kv xv : Value) (kx : KRes) : Prop := (∃ r t, xv = .str r t ∧ kv = .ref P ∧ kx = p229 r ∧ r.length ≤ 640) ∨ (∃ n t, xv = .int n t ∧ kv = .none ∧ kx = .ok n)
def insZ (r : Bool) (k : Nat → KRes) (kx : KRes) (lo : Int) (hi : Nat) : Except (EK × PStr) Nat := match kx with
  | .error e => .error e
  | .ok x => bisZ r k x lo hi
theorem upd_of {d : Addr} {o o' : Obj} : ∀ {l : Ldg} {g : Obj → Ldg}, UpdF d o l g → Upd d o o' l (g o')
  | _, _, .head h => .head h
  | _, _, .tail h r => .tail h (upd_of r)
theorem updF_mem {d : Addr} {o : Obj} : ∀ {l : Ldg} {g : Obj → Ldg}, UpdF d o l g → (d, o) ∈ l
  | _, _, .head _ => .head _
  | _, _, .tail _ r => .tail _ (updF_mem r)
theorem hv_app {kx : KRes} {P : Int → Prop} (h : ∀ x, kx = .ok x → P x) {n : Int} (e : kx = .ok n) : P n := h n e
theorem insZ_ok {r : Bool} {k : Nat → KRes} {kx : KRes} {x lo : Int} {hi : Nat} (h : kx = .ok x) : insZ r k kx lo hi = bisZ r k x lo hi := by rw [h]; rfl
theorem insZ_err {r : Bool} {k : Nat → KRes} {kx : KRes} {e : EK × PStr} {lo : Int} {hi : Nat} (h : kx = .error e) : insZ r k kx lo hi = .error e := by rw [h]; rfl
theorem bis_le {r : Bool} {k : Nat → KRes} {x : Int} : ∀ (f lo hi n : Nat), bis r k x f lo hi = .ok n → lo ≤ n ∧ (n ≤ hi ∨ n = lo)
  | 0, lo, hi, n, h => by simp only [bis] at h; cases h; exact ⟨Nat.le_refl _, .inr rfl⟩
  | f + 1, lo, hi, n, h => by
    simp only [bis] at h
    by_cases hl : lo < hi
    · rw [if_pos hl] at h
      cases hk : k ((lo + hi) / 2) with
      | error e => rw [hk] at h; cases h
      | ok y =>
        rw [hk] at h
        dsimp only at h
        by_cases hc : (if r = true then x < y else ¬ y < x)
        · rw [if_pos hc] at h
          have := bis_le f _ _ n h
          omega
        · rw [if_neg hc] at h
          have := bis_le f _ _ n h
          omega
    · rw [if_neg hl] at h; cases h; exact ⟨Nat.le_refl _, .inr rfl⟩
theorem bisZ_le {r : Bool} {k : Nat → KRes} {x lo : Int} {hi n : Nat} (h : bisZ r k x lo hi = .ok n) (hh : hi ≤ 1000) (hl : lo ≤ 1000) : n ≤ 1000 := by
  unfold bisZ at h
  split at h
  · cases h
  · have := bis_le _ _ _ n h
    omega
theorem HiIs.le {hv : Value} {hi n : Nat} (h : HiIs hv hi n) : hi ≤ n := by
  rcases h with ⟨_, rfl⟩ | ⟨_, _, h⟩
  · exact Nat.le_refl _
  · exact h
theorem fits_bis {r : Bool} {k : Nat → KRes} {x lo : Int} {hi n nn : Nat} {hv : Value} (h : bisZ r k x lo hi = .ok n) (hh : HiIs hv hi nn) (hn : nn ≤ 1000) (hl : lo ≤ 1000) : Builtin.List.listFitsIndex (n : Int) = true := by
  have h1 := bisZ_le h (Nat.le_trans hh.le hn) hl
  unfold Builtin.List.listFitsIndex
  simp only [Bool.and_eq_true, decide_eq_true_eq]
  omega
theorem room_vs {vs : List Value} {n : Nat} (h : vs.length = n) (hn : n ≤ 1000) : vs.toArray.toList.length ≤ sizeLine := by
  have e : (1000 : Nat) ≤ sizeLine := by decide
  show vs.length ≤ sizeLine
  omega
def toldTxt : EK → PStr → PStr
  | .reply, r => PySem.Str.append (Str.ofString "reply ") r
  | .proto, r => PySem.Str.append (Str.ofString "proto ") r
  | .value, r => PySem.Str.append (Str.ofString "value ") r
theorem intRefusal_len (x : PStr) : (intRefusal x).length ≤ 240 := by
  have e1 : (Str.ofString "invalid literal for int() with base 10: ").length = 40 := by decide +kernel
  have e2 : (⟨(PySem.reprText x).cps.extract 0 200⟩ : PySem.Str).length ≤ 200 := by
    show ((PySem.reprText x).cps.extract 0 200).size ≤ 200
    rw [Array.size_extract]; omega
  unfold intRefusal
  have e3 := PySem.Str.length_append (Str.ofString "invalid literal for int() with base 10: ") (⟨(PySem.reprText x).cps.extract 0 200⟩ : PySem.Str)
  exact Nat.le_trans (Nat.le_of_eq e3) (by omega)
theorem p229_err_len {r t : PStr} {k : EK} (h : p229 r = .error (k, t)) (hr : r.length ≤ 640) : t.length ≤ 700 := by
  unfold p229 at h
  repeat' split at h
  all_goals first | (cases h; omega) | skip
  dsimp only at h
  repeat' split at h
  all_goals first | (cases h; omega) | (cases h; exact Nat.le_trans (intRefusal_len _) (by decide)) | cases h
theorem bis_err_at {r : Bool} {k : Nat → KRes} {x : Int} {e : EK × PStr} : ∀ (f lo hi : Nat), bis r k x f lo hi = .error e → ∃ i, lo ≤ i ∧ i < hi ∧ k i = .error e
  | 0, lo, hi, h => by simp only [bis] at h; cases h
  | f + 1, lo, hi, h => by
    simp only [bis] at h
    by_cases hl : lo < hi
    · rw [if_pos hl] at h
      cases hk : k ((lo + hi) / 2) with
      | error e' => rw [hk] at h; cases h; exact ⟨_, by omega, by omega, hk⟩
      | ok y =>
        rw [hk] at h
        dsimp only at h
        by_cases hc : (if r = true then x < y else ¬ y < x)
        · rw [if_pos hc] at h
          obtain ⟨i, h1, h2, h3⟩ := bis_err_at f _ _ h
          exact ⟨i, h1, by omega, h3⟩
        · rw [if_neg hc] at h
          obtain ⟨i, h1, h2, h3⟩ := bis_err_at f _ _ h
          exact ⟨i, by omega, h2, h3⟩
    · rw [if_neg hl] at h; cases h
theorem negMsg_len : negMsg.length = 23 := by decide +kernel
theorem row_err_len {P : Addr} {kv : Value} {vs : List Value} {k : Nat → KRes} {n i : Nat} {ek : EK} {t : PStr} (hrow : RowIs P kv vs k n) (h : k i = .error (ek, t)) : t.length ≤ 700 := by
  rcases hrow with ⟨ys, _, _, rfl, _, h640⟩ | ⟨ns, _, _, rfl, _⟩
  · exact p229_err_len h (getD_len h640)
  · cases h
theorem bisZ_err_len {r : Bool} {P : Addr} {kv : Value} {vs : List Value} {k : Nat → KRes} {n hi : Nat} {x lo : Int} {ek : EK} {t : PStr} (hrow : RowIs P kv vs k n) (h : bisZ r k x lo hi = .error (ek, t)) : t.length ≤ 700 := by
  unfold bisZ at h
  split at h
  · cases h; rw [negMsg_len]; decide
  · obtain ⟨i, _, _, h3⟩ := bis_err_at _ _ _ h
    exact row_err_len hrow h3
theorem insZ_err_len {r : Bool} {P : Addr} {kv xv : Value} {vs : List Value} {k : Nat → KRes} {kx : KRes} {n hi : Nat} {lo : Int} {ek : EK} {t : PStr} (hrow : RowIs P kv vs k n) (hx : ThingIs P kv xv kx) (h : insZ r k kx lo hi = .error (ek, t)) : t.length ≤ 700 := by
  unfold insZ at h
  split at h
  · rename_i e
    cases h
    rcases hx with ⟨r', t', _, _, e', h640⟩ | ⟨n', t', _, _, e'⟩
    · exact p229_err_len e'.symm h640
    · cases e'
  · exact bisZ_err_len hrow h
theorem p229in_len (r : PStr) : (p229in r).length ≤ r.length := Txt.slice_le ..
theorem getD_640 {ys : List PStr} (h : ∀ y ∈ ys, y.length ≤ 640) (k : Nat) : (ys.getD k Str.empty).length ≤ 640 := getD_len h
theorem p229_empty : p229 Str.empty = .error (.reply, Str.empty) := p229_code (by decide +kernel)
theorem getD_hv {ys : List PStr} (h : ∀ y ∈ ys, ∀ msg, p229 y ≠ .error (.value, msg)) (k : Nat) : ∀ msg, p229 (ys.getD k Str.empty) ≠ .error (.value, msg) := by
  rw [List.getD_eq_getElem?_getD]
  cases e : ys[k]? with
  | none => intro msg; show p229 Str.empty ≠ _; rw [p229_empty]; intro c; cases c
  | some y => exact h y (List.mem_of_getElem? e)
end Mine
end
section
open PySem PySem.W PyProof.Rows PySem.Spec PySem.Calls
set_option Elab.async false
set_option maxRecDepth 100000
set_option maxHeartbeats 4000000
set_option linter.all false
namespace Mine
section
variable {prog : Program} {w : World} {A : Around} {E : Value → Shared → Prop} {s : Shared}
/-- what is known of the tokens when a value comes back -/
def TokGe {α : Type} (n : Nat) (Q : α → Shared → Prop) (a : α) (s' : Shared) : Prop := n ≤ s'.toks → Q a s'
theorem tok_wrap {α : Type} {t : Sem α} {Q : α → Shared → Prop} {n : Nat} (hn : n ≤ s.toks) (h : wpAny (model prog w) A t (TokGe n Q) E s) : wpAny (model prog w) A t Q E s :=
  wpAny_with_toks hn (wpAny_mono h (fun _ _ x => x) fun _ _ x _ => x)
/-- a sum of two texts that are not empty: a fresh token -/
theorem add_fresh {x y : PStr} {t u : Tok} {Q : Value → Shared → Prop} {K L : Nat} (hx : 1 ≤ x.length ∧ x.length ≤ K) (hy : 1 ≤ y.length ∧ y.length ≤ L) (hs : K + L ≤ 16777216)
    (h : x.length + y.length ≤ (x ++ y).length ∧ (x ++ y).length ≤ x.length + y.length → Q (.str (x ++ y) s.toks) { s with toks := s.toks + 1 }) : wpAny (model prog w) A (binaryOp .Add (.str x t) (.str y u)) Q E s := by
  have hl : x.length + y.length ≤ (x ++ y).length ∧ (x ++ y).length ≤ x.length + y.length := by
    rw [PySem.Str.length_append]
    omega
  refine PySem.P.add_str ?_
  rw [if_neg (by simp only [beq_iff_eq]; omega), if_neg (by simp only [beq_iff_eq]; omega)]
  exact ⟨by rw [PySem.Str.length_append, sizeLine_eq]; omega, h hl⟩
end
theorem add_lb {prog : Program} {w : World} {A : Around} {E : Value → Shared → Prop} {s : Shared} {x y : PStr} {t u : Tok} {Q : Value → Shared → Prop} {K L : Nat} (hx : x.length ≤ K) (hy : y.length ≤ L) (hs : K + L ≤ 16777216)
    (h : ∀ t' k, s.toks ≤ k → x.length + y.length ≤ (x ++ y).length ∧ (x ++ y).length ≤ x.length + y.length → Q (.str (x ++ y) t') { s with toks := k }) : wpAny (model prog w) A (binaryOp .Add (.str x t) (.str y u)) Q E s :=
  wpAny_with_toks (Nat.le_refl _) (wpAny_mono (KXadd.add (t := t) (u := u) (Q := fun v s' => s.toks ≤ s'.toks → Q v s') (E := E) hx hy hs fun t' k hl hk => h t' k hk hl) (fun _ _ x => x) fun _ _ x _ => x)
theorem replace_len (x y z : PStr) : (Txt.replace x y z).length ≤ x.length + (x.length + 1) * z.length := by
  have h1 := StrLaws.occ_length_le x y 0 x.length (x.length + 1)
  have hy : (Builtin.Str.glued y (Builtin.Str.partsBetween x (Builtin.Str.occurrences x y 0 x.length (x.length + 1)) y.length)).length = x.length := by rw [StrLaws.glued_between_self]
  rw [size_glued, length_partsBetween, Nat.add_sub_cancel] at hy
  have h2 : (Builtin.Str.occurrences x y 0 x.length (x.length + 1)).length * z.length ≤ (x.length + 1) * z.length := Nat.mul_le_mul_right _ h1
  unfold Txt.replace
  split
  · omega
  · rw [size_glued, length_partsBetween, Nat.add_sub_cancel]
    omega
theorem replace_small {prog : Program} {w : World} {A : Around} {E : Value → Shared → Prop} {s : Shared} {x y z : PStr} {t u v : Tok} {Q : Value → Shared → Prop} (hu : u ≠ 0) (hv : v ≠ 0) (huv : u ≠ v) (hyz : (y == z) = false) (hx : x.length ≤ 40) (hz : z.length ≤ 10)
    (hq : ∀ t' k, (Txt.replace x y z).length ≤ 450 → Q (.str (Txt.replace x y z) t') { s with toks := k }) : wpAny (model prog w) A (call (.builtin "str.replace") [.str x t, .str y u, .str z v]) Q E s :=
  SC.replaceW hu hv huv hyz (by omega) (by omega) fun t' k => hq t' k (by
    have h1 := replace_len x y z
    have h2 : (x.length + 1) * z.length ≤ 41 * 10 := Nat.mul_le_mul (by omega) hz
    omega)
theorem news_d3 {h₀ h : Heap} {L : Addr} {x y z : Addr × Obj} {news : Ldg} (N : News h₀ L h (x :: y :: z :: news)) : News h₀ L h (x :: news) := fun p hp => N p ((List.mem_cons.mp hp).elim (fun e => e ▸ .head _) fun h => .tail _ (.tail _ (.tail _ h)))
theorem ne_by_len {x y : PStr} (h : x.length ≠ y.length) : (x == y) = false := by
  rw [beq_eq_false_iff_ne]
  exact fun e => h (by rw [e])
/-- a text with a name -/
def IsTxt (g e : PStr) : Prop := g = e
theorem IsTxt.eq {g e : PStr} (h : IsTxt g e) : g = e := h
section
variable {prog : Program} {w : World} {A : Around} {E : Value → Shared → Prop} {s : Shared} {x y z : PStr} {t u v : Tok}
theorem add_named {Q : Value → Shared → Prop} {K L : Nat} (hx : x.length ≤ K) (hy : y.length ≤ L) (hs : K + L ≤ 16777216)
    (h : ∀ g t' k, IsTxt g (x ++ y) → s.toks ≤ k → g.length = x.length + y.length → Q (.str g t') { s with toks := k }) : wpAny (model prog w) A (binaryOp .Add (.str x t) (.str y u)) Q E s :=
  add_lb hx hy hs fun t' k hk hl => h _ t' k rfl hk (by omega)
theorem add_named_fresh {Q : Value → Shared → Prop} {K L : Nat} (hx : 1 ≤ x.length ∧ x.length ≤ K) (hy : 1 ≤ y.length ∧ y.length ≤ L) (hs : K + L ≤ 16777216)
    (h : ∀ g, IsTxt g (x ++ y) → g.length = x.length + y.length → Q (.str g s.toks) { s with toks := s.toks + 1 }) : wpAny (model prog w) A (binaryOp .Add (.str x t) (.str y u)) Q E s :=
  add_fresh hx hy hs fun hl => h _ rfl (by omega)
theorem rep_named {Q : Value → Shared → Prop} (hu : u ≠ 0) (hv : v ≠ 0) (huv : u ≠ v) (hyz : (y == z) = false) (hx : x.length ≤ 40) (hz : z.length ≤ 10)
    (h : ∀ g t' k, IsTxt g (Txt.replace x y z) → s.toks ≤ k → g.length ≤ 450 → Q (.str g t') { s with toks := k }) : wpAny (model prog w) A (call (.builtin "str.replace") [.str x t, .str y u, .str z v]) Q E s :=
  wpAny_with_toks (Nat.le_refl _) (wpAny_mono (replace_small (t := t) (Q := fun v s' => s.toks ≤ s'.toks → Q v s') (E := E) hu hv huv hyz hx hz fun t' k hl hk => h _ t' k rfl hk hl) (fun _ _ x => x) fun _ _ x _ => x)
end
section
variable {prog : Program} {w : World} {A : Around} {E : Value → Shared → Prop} {s : Shared} {x : PStr} {t : Tok} {Q : Value → Shared → Prop} {value slice : PySem.Expr} {h₀ : Heap} {L : Addr} {m : Str → Option Value} {news : Ldg}
theorem slice_named_ns {j : Int} {uj : Tok} (hF : Fr h₀ L s.heap m) (hN : News h₀ L s.heap news) (hsz : x.length ≤ 1000000) (h : ∀ g h' t' k, IsTxt g (Txt.slice x none (some j)) → g.length ≤ x.length → Fr h₀ L h' m → News h₀ L h' news → Q (.str g t') { s with heap := h', toks := k })
    (hs : subscripted slice false (.str x t) (.ref s.heap.objs.size) = operate [.ref s.heap.objs.size, .str x t] (getItem (.str x t) (.ref s.heap.objs.size)) := by with_unfolding_all rfl)
    (ht : ∀ r, letTemporaryGo value (.str x t) r = pure () := by intro _; with_unfolding_all rfl) :
    wpAny (model prog w) A (subscriptTail value slice (.str x t) (.ref s.heap.objs.size)) Q E { s with heap := s.heap.push { cls := .type "slice", data := .fields #[.none, .int j uj, .none] } } :=
  slice_strN_ns hF hN (fun h' t' k a b => h _ h' t' k rfl (Txt.slice_le ..) a b) hs ht (Nat.le_trans hsz (by decide))
theorem slice_named_sn {i : Int} {ui : Tok} (hF : Fr h₀ L s.heap m) (hN : News h₀ L s.heap news) (hsz : x.length ≤ 1000000) (h : ∀ g h' t' k, IsTxt g (Txt.slice x (some i) none) → g.length ≤ x.length → Fr h₀ L h' m → News h₀ L h' news → Q (.str g t') { s with heap := h', toks := k })
    (hs : subscripted slice false (.str x t) (.ref s.heap.objs.size) = operate [.ref s.heap.objs.size, .str x t] (getItem (.str x t) (.ref s.heap.objs.size)) := by with_unfolding_all rfl)
    (ht : ∀ r, letTemporaryGo value (.str x t) r = pure () := by intro _; with_unfolding_all rfl) :
    wpAny (model prog w) A (subscriptTail value slice (.str x t) (.ref s.heap.objs.size)) Q E { s with heap := s.heap.push { cls := .type "slice", data := .fields #[.int i ui, .none, .none] } } :=
  slice_strN_sn hF hN (fun h' t' k a b => h _ h' t' k rfl (Txt.slice_le ..) a b) hs ht (Nat.le_trans hsz (by decide))
theorem slice_named_ss {i j : Int} {ui uj : Tok} (hF : Fr h₀ L s.heap m) (hN : News h₀ L s.heap news) (hsz : x.length ≤ 1000000) (h : ∀ g h' t' k, IsTxt g (Txt.slice x (some i) (some j)) → g.length ≤ x.length → Fr h₀ L h' m → News h₀ L h' news → Q (.str g t') { s with heap := h', toks := k })
    (hs : subscripted slice false (.str x t) (.ref s.heap.objs.size) = operate [.ref s.heap.objs.size, .str x t] (getItem (.str x t) (.ref s.heap.objs.size)) := by with_unfolding_all rfl)
    (ht : ∀ r, letTemporaryGo value (.str x t) r = pure () := by intro _; with_unfolding_all rfl) :
    wpAny (model prog w) A (subscriptTail value slice (.str x t) (.ref s.heap.objs.size)) Q E { s with heap := s.heap.push { cls := .type "slice", data := .fields #[.int i ui, .int j uj, .none] } } :=
  slice_strN_ss hF hN (fun h' t' k a b => h _ h' t' k rfl (Txt.slice_le ..) a b) hs ht (Nat.le_trans hsz (by decide))
end
/-- parse257's loop: fuel, place, what was read -/
def go257 (r : PStr) : Nat → Nat → PStr → PStr
  | 0, _, d => d
  | f + 1, i, d => if i < r.length then
      if (Txt.item r i == Str.ofString "\"") = true then
        if i + 1 < r.length then
          if (Txt.item r ((i : Int) + 1) != Str.ofString "\"") = true then d else go257 r f (i + 2) (d ++ Txt.item r i)
        else d
      else go257 r f (i + 1) (d ++ Txt.item r i)
    else d
theorem go_fuel {r : PStr} : ∀ (f f' i : Nat) (d : PStr), r.length - i ≤ f → r.length - i ≤ f' → go257 r f i d = go257 r f' i d
  | 0, 0, _, _, _, _ => rfl
  | 0, f' + 1, i, d, h, _ => by simp only [go257]; rw [if_neg (by omega)]
  | f + 1, 0, i, d, _, h => by simp only [go257]; rw [if_neg (by omega)]
  | f + 1, f' + 1, i, d, h, h' => by
    simp only [go257]
    rw [go_fuel f f' (i + 2) _ (by omega) (by omega), go_fuel f f' (i + 1) _ (by omega) (by omega)]
section
variable {r d : PStr} {i : Nat}
theorem go_at (h : i < r.length) : go257 r (r.length - i) i d = if (Txt.item r i == Str.ofString "\"") = true then
        if i + 1 < r.length then
          if (Txt.item r ((i : Int) + 1) != Str.ofString "\"") = true then d else go257 r (r.length - (i + 2)) (i + 2) (d ++ Txt.item r i)
        else d
      else go257 r (r.length - (i + 1)) (i + 1) (d ++ Txt.item r i) := by
  obtain ⟨f, hf⟩ : ∃ f, r.length - i = f + 1 := ⟨r.length - i - 1, by omega⟩
  rw [hf]
  simp only [go257]
  rw [if_pos h, go_fuel f (r.length - (i + 2)) (i + 2) _ (by omega) (by omega), go_fuel f (r.length - (i + 1)) (i + 1) _ (by omega) (by omega)]
theorem go_stop1 (h : (i : Int) < r.length) (q : (Txt.item r i == Str.ofString "\"") = true) (h2 : (r.length : Int) ≤ (i : Int) + 1) : go257 r (r.length - i) i d = d := by
  rw [go_at (by omega), if_pos q, if_neg (by omega)]
theorem go_stop2 (h : (i : Int) < r.length) (q : (Txt.item r i == Str.ofString "\"") = true) (h2 : ¬ (r.length : Int) ≤ (i : Int) + 1) (q2 : (Txt.item r ((i : Int) + 1) != Str.ofString "\"") = true) : go257 r (r.length - i) i d = d := by
  rw [go_at (by omega), if_pos q, if_pos (by omega), if_pos q2]
theorem go_pair (h : (i : Int) < r.length) (q : (Txt.item r i == Str.ofString "\"") = true) (h2 : ¬ (r.length : Int) ≤ (i : Int) + 1) (q2 : (Txt.item r ((i : Int) + 1) != Str.ofString "\"") = false) :
    go257 r (r.length - i) i d = go257 r (r.length - (i + 2)) (i + 2) (d ++ Txt.item r i) := by
  rw [go_at (by omega), if_pos q, if_pos (by omega), if_neg (Bool.eq_false_iff.mp q2)]
theorem go_plain (h : (i : Int) < r.length) (q : (Txt.item r i == Str.ofString "\"") = false) : go257 r (r.length - i) i d = go257 r (r.length - (i + 1)) (i + 1) (d ++ Txt.item r i) := by
  rw [go_at (by omega), if_neg (Bool.eq_false_iff.mp q)]
theorem go_end (h : ¬ (i : Int) < r.length) : go257 r (r.length - i) i d = d := by rw [show r.length - i = 0 by omega]; rfl
end
theorem whlFr_brk {ι : Type} {μ : ι → Nat} {C : ι → Prop} {M : ι → Str → Option Value} {Nw : ι → Ldg} {g : Heap} {L : Addr} {i : ι} {s s' : Shared} {Q : Flow → Shared → Prop} (h : Q .next s') : WhlFr μ C M Nw g L i s Q .brk s' := h
def p257 (r : PStr) : Except (EK × PStr) PStr :=
  if (Txt.slice r none (some 3) != Str.ofString "257") = true then .error (.reply, r) else
  if (Txt.slice r (some 3) (some 5) != Str.ofString " \"") = true then .ok Str.empty else
  .ok (go257 r (r.length - 5) 5 Str.empty)
end Mine
end
section
open PySem PySem.W PyProof.Rows PySem.Spec PySem.Calls
set_option Elab.async false
set_option maxRecDepth 100000
set_option linter.all false
namespace Mine
/-! the walk's rules with what is wanted behind them named: a name costs one node where it is met again -/
section
variable {M : Model} {A : Around} {E : Value → Shared → Prop} {s : Shared} {env : Env}
theorem let_AE {α : Type} {f : Env → Sem α} {Q : α → Shared → Prop} (h : let vk := env; let ak := A; wpAny M ak (f vk) Q E s) : wpAny M A (f env) Q E s := h
theorem f_QE {α : Type} {t : Sem α} {Q : α → Shared → Prop} (h : let q := Q; let e := E; wpAny M A t q e s) : wpAny M A t Q E s := h
theorem f_execs {st : Stmt} {rest : List Stmt} {Q : Flow → Shared → Prop}
    (h : let q := Q; wpAny M A (exec st env) (fun f s' => match f with | .next => wpAny M A (execs rest env) q E s' | f => q f s') E s) : wpAny M A (execs (st :: rest) env) Q E s := wpAny_execs_cons h
theorem f_BinOp {l r : PySem.Expr} {op : Operator} {pos : Pos} {Q : Value → Shared → Prop}
    (h : let q := Q; wpAny M A (eval l env) (fun a s₁ => wpAny M A (eval r env) (fun b s₂ => wpAny M A (binaryOp op a b) q E s₂) E s₁) E s) : wpAny M A (eval (.BinOp l op r pos) env) Q E s := wpAny_BinOp h
theorem f_Assign {x : Str} {pos' pos : Pos} {value : PySem.Expr} {Q : Flow → Shared → Prop}
    (h : let q := Q; wpAny M A (eval value env) (fun v s₁ => wpAny M A (storeName env x v) (fun _ => q .next) E s₁) E s)
    (hs : swapsWith value (some (.Name x pos')) pos.line env = pure false := by rfl) : wpAny M A (exec (.Assign [.Name x pos'] value pos) env) Q E s := wpAny_Assign_Name h hs
theorem f_Subscript {value slice : PySem.Expr} {pos : Pos} {Q : Value → Shared → Prop}
    (h : let q := Q; wpAny M A (eval value env) (fun o s₁ => wpAny M A (eval slice env) (fun i s₂ => wpAny M A (subscriptTail value slice o i) q E s₂) E s₁) E s) : wpAny M A (eval (.Subscript value slice pos) env) Q E s := Subscript_ h
theorem f_Compare {l r : PySem.Expr} {op : CmpOp} {pos : Pos} {whole : Sem Value} {Q : Bool → Shared → Prop}
    (h : let q := Q; wpAny M A (eval l env) (fun a s₁ => wpAny M A (eval r env) (fun b s₂ => wpAny M A (compareOp op a b) (fun c s₃ => wpAny M A (truthy c) q E s₃) E s₂) E s₁) E s)
    (hm : behindInMarks op r = false := by with_unfolding_all rfl) : wpAny M A (isTrue (.Compare l [op] [r] pos) env whole) Q E s := wpAny_isTrue_Compare1 h hm
theorem f_If {test : PySem.Expr} {body orelse : List Stmt} {pos : Pos} {Q : Flow → Shared → Prop}
    (h : let q := Q; wpAny M A (isTrue test env (eval test env)) (fun b s₂ => if b then wpAny M A (execs body env) q E s₂ else wpAny M A (execs orelse env) q E s₂) E s) : wpAny M A (exec (.If test body orelse pos) env) Q E s := wpAny_If h
theorem f_Call {func : PySem.Expr} {args : List PySem.Expr} {pos : Pos} {Q : Value → Shared → Prop}
    (h : let q := Q; wpAny M A (eval func env) (fun f s₁ => wpAny M A (callWith pos f [] (backTo pos (starEach args env)) []) q E s₁) E s)
    (he : eval (.Call func args [] pos) env = (do callWith pos (← eval func env) [] (backTo pos (starEach args env)) (backToKw pos (keywordEach [] env))) := by rfl) : wpAny M A (eval (.Call func args [] pos) env) Q E s := Call_ h he
theorem f_args {e : PySem.Expr} {rest : List PySem.Expr} {pos : Pos} {Q : List Value → Shared → Prop}
    (h : let q := Q; wpAny M A (eval e env) (fun v s₁ => wpAny M A (spliced (backTo pos (starEach rest env))) (fun vs s₂ => q (v :: vs) s₂) E s₁) E s)
    (he : starEach (e :: rest) env = (false, eval e env) :: starEach rest env := by rfl) : wpAny M A (spliced (backTo pos (starEach (e :: rest) env))) Q E s := args_cons h he
theorem f_method1 {pos : Pos} {id : String} {o : Value} {e : PySem.Expr} {rest : List PySem.Expr} {Q : Value → Shared → Prop}
    (h : let q := Q; wpAny M A (spliced (backTo pos (starEach (e :: rest) env))) (fun vs s₁ => wpAny M A (call (.builtin id) (o :: vs)) q E s₁) E s)
    (he : starEach (e :: rest) env = (false, eval e env) :: starEach rest env := by rfl) (hplain : (backTo pos (starEach rest env)).any (·.1) = false := by rfl) :
    wpAny M A (callWith pos (.builtin id) [o] (backTo pos (starEach (e :: rest) env)) []) Q E s := callWith_method1 (first := [o]) h he hplain
theorem f_Return {e : PySem.Expr} {pos : Pos} {Q : Flow → Shared → Prop} (h : let q := Q; wpAny M A (eval e env) (fun v => q (.ret v)) E s) : wpAny M A (exec (.Return (some e) pos) env) Q E s := wpAny_Return_some h
theorem f_Slice {lower upper step : Option PySem.Expr} {p : Pos} {Q : Value → Shared → Prop}
    (h : let q := Q; wpAny M A (evalPart lower env) (fun l s₁ => wpAny M A (evalPart upper env) (fun u s₂ => wpAny M A (evalPart step env) (fun st s₃ =>
      q (.ref s₃.heap.objs.size) { s₃ with heap := s₃.heap.push { cls := .type "slice", data := .fields #[l, u, st] } }) E s₂) E s₁) E s) : wpAny M A (eval (.Slice lower upper step p) env) Q E s := wpAny_Slice h
theorem f_Tuple {elts : List PySem.Expr} {k : Nat} {pos : Pos} {Q : Value → Shared → Prop}
    (h : let q := Q; wpAny M A (spliced (backTo pos (starEach elts env))) (fun vs s₁ => wpAny M A (newTuple vs) q E s₁) E s) : wpAny M A (eval (.Tuple elts k pos) env) Q E s := Tuple_ h
theorem f_List {elts : List PySem.Expr} {pos : Pos} {Q : Value → Shared → Prop}
    (h : let q := Q; wpAny M A (spliced (backTo pos (starEach elts env))) (fun vs s₁ => wpAny M A (newList vs) q E s₁) E s) : wpAny M A (eval (.List elts pos) env) Q E s := List_ h
theorem f_IfExp {test body orelse : PySem.Expr} {pos : Pos} {Q : Value → Shared → Prop}
    (h : let q := Q; wpAny M A (isTrue test env (eval test env)) (fun c s₂ => if c then wpAny M A (eval body env) q E s₂ else wpAny M A (eval orelse env) q E s₂) E s) : wpAny M A (eval (.IfExp test body orelse pos) env) Q E s := IfExp_ h
theorem f_UnaryOp {op : UnaryOp} {x : PySem.Expr} {pos : Pos} {Q : Value → Shared → Prop} (h : let q := Q; wpAny M A (eval x env) (fun v s₁ => wpAny M A (unaryOp op v) q E s₁) E s) : wpAny M A (eval (.UnaryOp op x pos) env) Q E s := UnaryOp_ h
end
section
variable {M : Model} {A : Around} {E : Value → Shared → Prop} {s : Shared} {h₀ : Heap} {L a : Addr} {m : Str → Option Value} {cn : Str} {cs : Scope} {ccd : Value} {cl : List (Str × Addr)} {x : Str} {v : Value} {news : Ldg} {Q : Unit → Shared → Prop}
theorem f_store (F : Fr h₀ L s.heap m) (N : News h₀ L s.heap news)
    (h : let m' := fun y => if y = x then some v else m y; ∀ h', Fr h₀ L h' m' → News h₀ L h' news → Q () { s with heap := h', toks := s.toks + 1 })
    (hk : cs.kind = .function := by rfl) (hx : (envX cn cs L a ccd cl).kindOf x = some .local := by rfl) : wpAny M A (storeName (envX cn cs L a ccd cl) x v) Q E s :=
  storeX_L F N h hk hx
end
/-! room and bounds by short proofs: an omega costs some thousand nodes -/
theorem room00 {a c l : Nat} (h : a + c < l) : a < l := Nat.lt_of_le_of_lt (Nat.le_add_right a c) h
theorem room0 {a b c l : Nat} (h : a + c < l) (hb : Nat.ble b c = true) : a + b < l := Nat.lt_of_le_of_lt (Nat.add_le_add_left (Nat.le_of_ble_eq_true hb) a) h
theorem room1 {a b c k l : Nat} (h : a + c < l) (hb : Nat.ble (k + b) c = true) : a + k + b < l := Nat.add_assoc a k b ▸ room0 h hb
theorem room2 {a b c k e l : Nat} (h : a + c < l) (hb : Nat.ble (k + b + e) c = true) : a + k + b + e < l := by
  have := room1 (k := k + b) (b := e) h hb
  rwa [← Nat.add_assoc] at this
theorem le_num {x c k : Nat} (h : x ≤ c) (hb : Nat.ble c k = true) : x ≤ k := Nat.le_trans h (Nat.le_of_ble_eq_true hb)
theorem eq_num {x c k : Nat} (h : x = c) (hb : Nat.ble c k = true) : x ≤ k := h ▸ Nat.le_of_ble_eq_true hb
theorem ge_num {x c k : Nat} (h : x = c) (hb : Nat.ble k c = true) : k ≤ x := h ▸ Nat.le_of_ble_eq_true hb
theorem num_le {c k : Nat} (hb : Nat.ble c k = true) : c ≤ k := Nat.le_of_ble_eq_true hb
theorem num_lt {c k : Nat} (hb : Nat.ble (c + 1) k = true) : c < k := Nat.le_of_ble_eq_true hb
/-! two maps of a frame, name by name -/
theorem map_same {m m' : Str → Option Value} : ∀ {names : List Str}, names.map m = names.map m' → ∀ n ∈ names, m n = m' n
  | [], _, _, h => nomatch h
  | n :: names, e, k, h => by
    simp only [List.map_cons, List.cons.injEq] at e
    rcases List.mem_cons.mp h with rfl | h
    · exact e.1
    · exact map_same e.2 k h
def SameOut (names : List Str) (m b : Str → Option Value) : Prop := ∀ y, y ∉ names → m y = b y
theorem SameOut.both {names : List Str} {m m' b : Str → Option Value} (h : SameOut names m b) (h' : SameOut names m' b) : ∀ y, y ∉ names → m y = m' y := fun y hy => (h y hy).trans (h' y hy).symm
theorem SameOut.upd {names : List Str} {m b : Str → Option Value} {k : Str} {v : Option Value} (h : SameOut names m b) (hk : names.contains k = true) : SameOut names (fun y => if y = k then v else m y) b :=
  fun y hy => (if_neg (ne_of_out hy hk)).trans (h y hy)
theorem SameOut.lookup {names : List Str} {l : List (Str × Value)} (ha : (l.map (·.1)).all (fun k => names.contains k) = true) : SameOut names (fun y => List.lookup y l) (fun _ => none) :=
  fun _ hy => lookup_out ha hy
theorem SameOut.skip {names : List Str} {m b : Str → Option Value} {k : Str} {v : Option Value} (h : SameOut names m b) : SameOut names (fun y => if y = k then v else m y) (fun y => if y = k then v else b y) :=
  fun y hy => by by_cases e : y = k <;> simp [e] <;> first | exact h y hy | skip
theorem SameOut.refl {names : List Str} {m : Str → Option Value} : SameOut names m m := fun _ _ => rfl
end Mine
end
section
open PySem PySem.W PyProof.Rows PySem.Spec PySem.Calls
set_option Elab.async false
set_option maxRecDepth 100000
set_option maxHeartbeats 4000000
set_option linter.all false
namespace Mine
section
variable {M : Model} {prog : Program} {w : World} {A : Around} {E : Value → Shared → Prop} {s : Shared} {K : Frag} {env : Env} {pos p : Pos} {f : Value} {first : List Value} {Q : Value → Shared → Prop} {h₀ : Heap} {e : PySem.Expr} {rest : List PySem.Expr}
theorem callWith_K_C (_X : K.In h₀) (hk : keepIn K f = true) (h : wpAny M A (spliced (backTo pos (starEach (e :: rest) env))) (fun vs s₁ => K.In s₁.heap ∧ wpC M A (call f (first ++ vs)) Q E s₁) E s)
    (he : starEach (e :: rest) env = (false, eval e env) :: starEach rest env := by rfl) (hplain : (backTo pos (starEach rest env)).any (·.1) = false := by rfl) :
    wpC M A (callWith pos f first (backTo pos (starEach (e :: rest) env)) []) Q E s := by
  rw [he] at h ⊢
  exact callWith_C (by show ((false || (backTo pos (starEach rest env)).any (·.1)) || false) = false; rw [hplain]; rfl) (keeps_K hk) (wpC_any (evalArgs_plain h))
theorem callWith_KW_C {kws : List Keyword} (_X : K.In h₀) (hk : keepIn K f = true) (hall : (backToKw pos (keywordEach kws env)).all (·.1.isSome) = true)
    (h : wpAny M A (spliced (backTo pos (starEach (e :: rest) env))) (fun vs s₁ => wpAny M A (evalAll ((backToKw pos (keywordEach kws env)).map (·.2)))
      (fun ks s₂ => K.In s₂.heap ∧ wpC M A (call f (first ++ vs) (((backToKw pos (keywordEach kws env)).filterMap (·.1)).zip ks)) Q E s₂) E s₁) E s)
    (hplain : ((backTo pos (starEach (e :: rest) env)).any (·.1) || (backToKw pos (keywordEach kws env)).any (·.1.isNone)) = false := by rfl) (he : starEach (e :: rest) env = (false, eval e env) :: starEach rest env := by rfl) :
    wpC M A (callWith pos f first (backTo pos (starEach (e :: rest) env)) (backToKw pos (keywordEach kws env))) Q E s :=
  callWith_C hplain (keeps_K hk) (wpC_any (evalArgs_kw2 hall h he))
theorem looks_type {h : Heap} {T : String} : ∃ k, (k = Keeper.frame ∨ k = Keeper.machine ∨ k = Keeper.boundFrame) ∧ Looks M h (keeperOf (.type T)) k := ⟨.machine, .inr (.inl rfl), .now⟩
theorem callWith_type1_C {T : String}
    (h : wpAny M A (spliced (backTo pos (starEach (e :: rest) env))) (fun vs s₁ => wpC M A (call (.type T) (first ++ vs)) Q E s₁) E s)
    (he : starEach (e :: rest) env = (false, eval e env) :: starEach rest env := by rfl) (hplain : (backTo pos (starEach rest env)).any (·.1) = false := by rfl) :
    wpC M A (callWith pos (.type T) first (backTo pos (starEach (e :: rest) env)) []) Q E s := by
  rw [he] at h ⊢
  exact callWith_C (P := fun _ => True) (by show ((false || (backTo pos (starEach rest env)).any (·.1)) || false) = false; rw [hplain]; rfl) (fun _ _ => looks_type)
    (wpC_any (evalArgs_plain (wpAny_mono h (fun vs s₁ h₁ => ⟨True.intro, h₁⟩) fun _ _ x => x)))
/-- a call of a name -/
theorem call_name_C {x : PStr} {args : List PySem.Expr} (h : wpAny M A (eval (.Name x p) env) (fun f s₁ => wpC M A (callWith pos f [] (backTo pos (starEach args env)) []) Q E s₁) E s) :
    wpC M A (eval (.Call (.Name x p) args [] pos) env) Q E s := evalCall_C h
theorem call_name_KW_C {x : PStr} {args : List PySem.Expr} {kws : List Keyword} (h : wpAny M A (eval (.Name x p) env) (fun f s₁ => wpC M A (callWith pos f [] (backTo pos (starEach args env)) (backToKw pos (keywordEach kws env))) Q E s₁) E s) :
    wpC M A (eval (.Call (.Name x p) args kws pos) env) Q E s := evalCall_C h
end
theorem p229_val {r msg x : PStr} (hval : p229 r = .error (.value, msg)) (e : p229 r = match PySem.intText? x with | some n => .ok n | none => .error (.value, intRefusal x)) : PySem.intText? x = none ∧ msg = intRefusal x := by
  rw [e] at hval
  cases q : PySem.intText? x with
  | some n => rw [q] at hval; cases hval
  | none => rw [q] at hval; cases hval; exact ⟨rfl, rfl⟩
theorem val_not {r msg : PStr} {k : EK} {t : PStr} (hval : p229 r = .error (.value, msg)) (e : p229 r = .error (k, t)) (hk : k ≠ .value) : False := by
  rw [e] at hval; cases hval; exact hk rfl
/-- the part that parse229 reads -/
def p229part (r : PStr) : PStr := (Txt.split (p229in r) (Txt.item r (Txt.find r (Str.ofString "(") + 1))).getD 3 Str.empty
structure RepOk (r : PStr) : Prop where
  len : (PySem.reprText (p229part r)).length ≤ 10000
theorem RepOk.part {r : PStr} (h : RepOk r) {l : List (PStr × Tok)} (hp : l.map (·.1) = Txt.split (p229in r) (Txt.item r (Txt.find r (Str.ofString "(") + 1))) : (PySem.reprText ((l.map (·.1)).getD (Int.toNat 3) Str.empty)).length ≤ 10000 := by
  rw [hp]; exact h.len
theorem kres_cases (R : KRes) : (∃ n, R = .ok n) ∨ ∃ e, R = .error e := by cases R with | ok n => exact .inl ⟨n, rfl⟩ | error e => exact .inr ⟨e, rfl⟩
theorem err_inj {α : Type} {a b : EK × PStr} (h : (Except.error a : Except (EK × PStr) α) = .error b) : a = b := by cases h; rfl
theorem ok_err {R : KRes} {n : Int} {e : EK × PStr} {P : Prop} (h1 : R = .ok n) (h2 : R = .error e) : P := by rw [h1] at h2; cases h2
theorem txt_add {g a b a' b' : PStr} (h : IsTxt g (a ++ b)) (ha : a = a') (hb : b = b') : g = a' ++ b' := by rw [h.eq, ha, hb]
theorem txt_slice {g a a' : PStr} {i j : Option Int} (h : IsTxt g (Txt.slice a i j)) (ha : a = a') : g = Txt.slice a' i j := by rw [h.eq, ha]
theorem txt_rep {g a b c a' b' c' : PStr} (h : IsTxt g (Txt.replace a b c)) (ha : a = a') (hb : b = b') (hc : c = c') : g = Txt.replace a' b' c' := by rw [h.eq, ha, hb, hc]
theorem bis_val_at {r : Bool} {k : Nat → KRes} {x : Int} {l h : Nat} {e e' : EK × PStr} (hb : bis r k x (h - l) l h = .error e') (hl : (l : Int) < h) (hk : k ((((l : Int) + (h : Int)) / 2).toNat) = .error e) : k ((((l : Int) + (h : Int)) / 2).toNat) = .error e' := by
  rw [hk, err_inj ((bis_err hl hk).symm.trans hb)]
theorem txt_sl {a a' : PStr} {i j : Option Int} (ha : a = a') : Txt.slice a i j = Txt.slice a' i j := by rw [ha]
theorem repOk_empty : RepOk Str.empty := ⟨by decide +kernel⟩
theorem getD_rep {ys : List PStr} (h : ∀ y ∈ ys, RepOk y) (k : Nat) : RepOk (ys.getD k Str.empty) := by
  rw [List.getD_eq_getElem?_getD]
  cases e : ys[k]? with
  | none => exact repOk_empty
  | some y => exact h y (List.mem_of_getElem? e)
end Mine
end
section
open PySem PySem.W PyProof.Rows PySem.Spec PySem.Calls
set_option Elab.async false
set_option maxRecDepth 100000
set_option maxHeartbeats 4000000
set_option linter.all false
namespace Mine
theorem ok_inj {α : Type} {a b : α} (h : (Except.ok a : Except (EK × PStr) α) = .ok b) : a = b := by cases h; rfl
section
variable {M : Model} {A : Around} {E : Value → Shared → Prop} {s : Shared} {env : Env} {pos p : Pos} {f : Value} {first : List Value} {Q : Value → Shared → Prop} {e e2 : PySem.Expr} {rest : List PySem.Expr}
/-- the first argument stands, the second one raises -/
theorem callWith_args_C {kws : List (Option Str × Sem Value)} (h : wpAny M A (eval e env) (fun _ s₁ => wpC M A (eval e2 env) (fun _ _ => False) E s₁) E s)
    (he : starEach (e :: e2 :: rest) env = (false, eval e env) :: (false, eval e2 env) :: starEach rest env := by rfl) :
    wpC M A (callWith pos f first (backTo pos (starEach (e :: e2 :: rest) env)) kws) Q E s := by
  rw [he]
  show wpC M A (callWith pos f first ((false, eval e env) :: (false, eval e2 env) :: backTo pos (starEach rest env)) kws) Q E s
  refine callWith_raises_C (evalArgs_raises_C ?_ rfl)
  refine spliced_C ?_
  exact wpC_any (wpAny_mono h (fun v s₁ h₁ => spliced_C (wpC_mono h₁ (fun _ _ x => x.elim) fun _ _ x => x)) fun _ _ x => x)
theorem list_raises_C {Q : Value → Shared → Prop} (h : wpC M A (eval e env) (fun _ _ => False) E s) (he : starEach (e :: rest) env = (false, eval e env) :: starEach rest env := by rfl) : wpC M A (eval (.List (e :: rest) pos) env) Q E s := by
  rw [arm_eval_List, he]
  show wpC M A (do standAt pos; newList (← spliced ((false, eval e env) :: backTo pos (starEach rest env)))) Q E s
  exact wpC_bind (wpC_standAt (wpC_bind (spliced_C (wpC_mono h (fun _ _ x => x.elim) fun _ _ x => x))))
end
theorem bis_err_len {r : Bool} {ys : List PStr} {x : Int} {f lo hi : Nat} {ek : EK} {msg : PStr} (h : bis r (fun i => p229 (ys.getD i Str.empty)) x f lo hi = .error (ek, msg)) (h640 : ∀ y ∈ ys, y.length ≤ 640) : msg.length ≤ 700 := by
  obtain ⟨i, _, _, h3⟩ := bis_err_at _ _ _ h
  exact p229_err_len h3 (getD_len h640)
end Mine
end
section
open PySem PySem.W PyProof.Rows PySem.Spec PySem.Calls
set_option Elab.async false
set_option maxRecDepth 100000
set_option maxHeartbeats 4000000
set_option linter.all false
namespace Mine
/-- refs of lists of two ints -/
inductive PairsAre (l : Ldg) : List Value → List (Int × Int) → Prop where
  | nil : PairsAre l [] []
  | cons {r : Addr} {a b : Int} {t u : Tok} {e : Nat} {vs : List Value} {fs : List (Int × Int)} (h : (r, lstOf [.int a t, .int b u] e) ∈ l) (hs : PairsAre l vs fs) : PairsAre l (.ref r :: vs) ((a, b) :: fs)
theorem PairsAre.mono {l l' : Ldg} (h : ∀ p ∈ l, p ∈ l') : ∀ {vs : List Value} {fs : List (Int × Int)}, PairsAre l vs fs → PairsAre l' vs fs
  | _, _, .nil => .nil
  | _, _, .cons a b => .cons (h _ a) (b.mono h)
theorem PairsAre.append {l : Ldg} : ∀ {vs vs' : List Value} {fs fs' : List (Int × Int)}, PairsAre l vs fs → PairsAre l vs' fs' → PairsAre l (vs ++ vs') (fs ++ fs')
  | _, _, _, _, .nil, h => h
  | _, _, _, _, .cons a b, h => .cons a (b.append h)
theorem PairsAre.length {l : Ldg} : ∀ {vs : List Value} {fs : List (Int × Int)}, PairsAre l vs fs → vs.length = fs.length
  | _, _, .nil => rfl
  | _, _, .cons _ b => congrArg (· + 1) b.length
theorem PairsAre.at {l : Ldg} : ∀ {vs : List Value} {fs : List (Int × Int)}, PairsAre l vs fs → ∀ (i : Nat) (h : i < fs.length), ∃ r t u e, vs[i]? = some (.ref r) ∧ (r, lstOf [.int (fs[i]).1 t, .int (fs[i]).2 u] e) ∈ l
  | _, _, .cons (r := r) (t := t) (u := u) (e := e) a b, 0, _ => ⟨r, t, u, e, rfl, a⟩
  | _, _, .cons a b, i + 1, h => b.at i (Nat.lt_of_succ_lt_succ h)
/-- the fractions -/
noncomputable def fracs : Nat → Int × Int → Int × Int → List (Int × Int)
  | 0, _, _ => []
  | n + 1, a, b => fracs n a (a.1 + b.1, a.2 + b.2) ++ [(a.1 + b.1, a.2 + b.2)] ++ fracs n (a.1 + b.1, a.2 + b.2) b
theorem fracs_len : ∀ (n : Nat) (a b : Int × Int), (fracs n a b).length = 2 ^ n - 1
  | 0, _, _ => rfl
  | n + 1, a, b => by
    have h : 1 ≤ 2 ^ n := Nat.one_le_two_pow
    simp only [fracs, List.length_append, List.length_cons, List.length_nil, fracs_len n]
    rw [Nat.pow_succ]; omega
section
variable {prog : Program} {w : World} {A : Around} {E : Value → Shared → Prop} {s : Shared} {h₀ : Heap} {L a b : Addr} {m : Str → Option Value} {news : Ldg} {vs ws : List Value} {e1 e2 : Nat} {Q : Value → Shared → Prop}
theorem add_listsN (F : Fr h₀ L s.heap m) (N : News h₀ L s.heap news) (ha : (a, lstOf vs e1) ∈ news) (hb : (b, lstOf ws e2) ∈ news) (hz : vs.length + ws.length ≤ 1000)
    (h : ∀ D h', Fr h₀ L h' m → News h₀ L h' ((D, lstOf (vs ++ ws) 0) :: news) → (∀ p ∈ news, p.1 < D) → Q (.ref D) { s with heap := h' }) : wpAny (model prog w) A (binaryOp .Add (.ref a) (.ref b)) Q E s :=
  add_lists F N (News.isList N ha) (News.isList N hb) (fun h' F' N' => h _ h' F' N' fun p hp => Heap.lt_size (N p hp).1) (Nat.le_trans (by simpa using hz) (by decide))
theorem add_listsA (F : Fr h₀ L s.heap m) (N : News h₀ L s.heap news) (ha : (a, lstOf vs e1) ∈ news) (hb : (b, lstOf ws e2) ∈ news) (hz : vs.length + ws.length ≤ 1000)
    (h : ∀ D h', Fr h₀ L h' m → News h₀ L h' ((D, lstOf (vs ++ ws) 0) :: news) → AllLt D news → Q (.ref D) { s with heap := h' }) : wpAny (model prog w) A (binaryOp .Add (.ref a) (.ref b)) Q E s :=
  add_listsN F N ha hb hz (fun D h' F' N' l1 => h D h' F' N' (allLt_of l1))
end
end Mine
end
section
open PySem PySem.W PyProof.Rows PySem.Spec PySem.Calls
set_option Elab.async false
set_option maxRecDepth 100000
set_option maxHeartbeats 4000000
set_option linter.all false
namespace Mine
/-- a turn's end of a for over numbers -/
noncomputable def TurnFr {ι : Type} (C : ι → Prop) (M : ι → Str → Option Value) (Nw : ι → Ldg) (own : Addr × Obj) (g : Heap) (L : Addr) (s : Shared) (Q : Flow → Shared → Prop) (f : Flow) (s' : Shared) : Prop :=
  match f with
  | .next | .cont => ∃ σ h' tk', s' = { s with heap := h', toks := tk' } ∧ C σ ∧ Fr g L h' (M σ) ∧ News g L h' (own :: Nw σ) ∧ ∀ p ∈ Nw σ, p.1 ≠ own.1
  | .brk => Q .next s'
  | .ret v => Q (.ret v) s'
theorem turnFr_next {ι : Type} {C : ι → Prop} {M : ι → Str → Option Value} {Nw : ι → Ldg} {own : Addr × Obj} {g h' : Heap} {L : Addr} {s : Shared} {Q : Flow → Shared → Prop} {tk : Nat} {M0 : Str → Option Value} {news0 : Ldg} (σ : ι) (names : List Str) (F : Fr g L h' M0) (N : News g L h' news0) (hc : C σ)
    (m1 : ∀ n ∈ names, M0 n = M σ n) (m2 : ∀ y, y ∉ names → M0 y = M σ y) (n0 : ∀ q ∈ own :: Nw σ, q ∈ news0) (hd : ∀ p ∈ Nw σ, p.1 ≠ own.1) : TurnFr C M Nw own g L s Q .next { s with heap := h', toks := tk } :=
  ⟨σ, h', tk, rfl, hc, fr_map names F m1 m2, fun q hq => N q (n0 q hq), hd⟩
theorem rangeSize_one (n : Nat) : Builtin.Range.rangeSize 0 (n : Int) 1 = (n : Int) := by
  unfold Builtin.Range.rangeSize
  split
  · split <;> omega
  · omega
section
variable {prog : Program} {w : World} {A : Around} {E : Value → Shared → Prop} {s : Shared} {env : Env} {h₀ : Heap} {body : List Stmt} {Q : Flow → Shared → Prop} {x : Str} {px : Pos} {m₀ : Str → Option Value} {news : Ldg}
theorem pyIter_rangeC {ι : Type} (C : Nat → ι → Prop) (M : Nat → ι → Str → Option Value) (Nw : Nat → ι → Ldg) (n : Nat) (σ₀ : ι) (names : List Str) {r : Addr} {t₀ u₀ v₀ : Tok} (F : Fr h₀ env.locals s.heap m₀) (N : News h₀ env.locals s.heap news)
    (hr : IsRange s.heap r 0 (n : Int) 1 t₀ u₀ v₀) (hh : A.handled = none) (hn : n ≤ 1000) (c0 : C 0 σ₀) (m1 : ∀ n ∈ names, m₀ n = M 0 σ₀ n) (m2 : ∀ y, y ∉ names → m₀ y = M 0 σ₀ y) (n0 : ∀ q ∈ Nw 0 σ₀, q ∈ news)
    (turn : ∀ i σ h tk t own, i < n → C i σ → (∀ p ∈ Nw i σ, p.1 ≠ own.1) → Fr h₀ env.locals h (M i σ) → News h₀ env.locals h (own :: Nw i σ) →
      wpAny (model prog w) A (assign (.Name x px) env (.int i t)) (fun _ s₃ => wpC (model prog w) A (execs body env) (TurnFr (C (i + 1)) (M (i + 1)) (Nw (i + 1)) own h₀ env.locals s Q) E s₃) E { s with heap := h, toks := tk })
    (done : ∀ σ h tk, C n σ → Fr h₀ env.locals h (M n σ) → News h₀ env.locals h (Nw n σ) → Q .next { s with heap := h, toks := tk }) :
    wpAny (model prog w) A (pyIter (.ref r)) (fun it s₂ => TurnsAtC prog w A h₀ env (.Name x px) body Q E it s₂) E s := by
  refine wpAny_pyIter_range hr (small_one (by omega) (by omega) (by omega) (by omega)) ?_
  rw [rangeSize_one]
  have hI := next_is_new F
  have hne : ∀ p ∈ Nw 0 σ₀, p.1 ≠ s.heap.objs.size := fun p hp => Nat.ne_of_lt (Heap.lt_size (N p (n0 p hp)).1)
  refine ⟨s.heap.objs.size, [s.heap.objs.size], [s.heap.objs.size], n, _, _, _, M 0 σ₀, Nw 0 σ₀, fun i m nx => ∃ σ, C i σ ∧ m = M i σ ∧ nx = Nw i σ, rfl, KTurns.ofWalks (LCg.range_walks hh 0 n) (fun i v s Q E _ h => wpAny_pure h), ?_, ?_, ?_, ?_, fr_map names (F.push _) m1 m2, ?_, ⟨σ₀, c0, rfl, rfl⟩, ?_, ?_⟩
  · intro hm
    exact absurd F.ns.lt ((List.mem_singleton.mp hm) ▸ Nat.lt_irrefl _)
  · intro b hb
    rw [List.mem_singleton.mp hb]; exact hI
  · intro p hp hq
    exact hne p hp (List.mem_singleton.mp hq)
  · show IsRangeIter _ _ _ _ _
    simpa using Heap.get?_push_size _ rfl
  · exact fun p hp => ⟨Heap.get?_push_of_some _ (N p (n0 p hp)).1, (N p (n0 p hp)).2⟩
  · rintro i v m₁ news₁ h₁ tk₁ own hi ⟨t, rfl⟩ ⟨σ, hc, rfl, rfl⟩ hw hfp hget hown hst F₁ N₁
    obtain ⟨oI, hIo⟩ : ∃ o, h₁.get? s.heap.objs.size = some o := ⟨_, hst⟩
    have hmem := hown s.heap.objs.size (List.mem_singleton.mpr rfl) hI _ hIo
    rw [Int.zero_add]
    refine wpAny_mono (turn i σ h₁ tk₁ t (s.heap.objs.size, oI) hi hc (fun p hp e => hw p hp (List.mem_singleton.mpr e)) F₁ (fun p hp => N₁ p (List.mem_append.mpr ?_))) (fun _ s₃ h₃ => wpC_mono h₃ (fun f s₄ h₄ => ?_) fun _ _ e => e) fun _ _ e => e
    · rcases List.mem_cons.mp hp with rfl | hp
      · exact .inl hmem
      · exact .inr hp
    · have fin : (∃ σ h' tk', s₄ = { s with heap := h', toks := tk' } ∧ C (i + 1) σ ∧ Fr h₀ env.locals h' (M (i + 1) σ) ∧ News h₀ env.locals h' ((s.heap.objs.size, oI) :: Nw (i + 1) σ) ∧ ∀ p ∈ Nw (i + 1) σ, p.1 ≠ s.heap.objs.size) → _ := fun ⟨σ', h', tk', e, c', F', N', hd⟩ =>
        (⟨rfl, h', tk', M (i + 1) σ', Nw (i + 1) σ', e, F', fun p hp => by
          rcases List.mem_append.mp hp with hp | hp
          · have e1 := List.mem_singleton.mp (hfp p hp)
            have e2 := hget p hp
            rw [e1, hIo] at e2
            have e3 : p = (s.heap.objs.size, p.2) := by rw [← e1]
            rw [e3, ← Option.some.inj e2]
            exact N' _ (.head _)
          · exact N' _ (.tail _ hp), fun p hp hq => hd p hp (List.mem_singleton.mp hq), σ', c', rfl, rfl⟩ : LoopStepU h₀ env.locals [s.heap.objs.size] own (fun m nx => ∃ σ, C (i + 1) σ ∧ m = M (i + 1) σ ∧ nx = Nw (i + 1) σ) { s with heap := h₁, toks := tk₁ } .next s₄)
      cases f with
      | ret v => exact h₄
      | brk => exact h₄
      | next => exact .next (fin h₄)
      | cont => exact .cont (fin h₄)
  · rintro h' tk m' news' F' N' _ ⟨σ, hc, rfl, rfl⟩
    exact done σ h' tk hc F' N'
theorem pyIter_rangeA {ι : Type} (C : Nat → ι → Prop) (M : Nat → ι → Str → Option Value) (Nw : Nat → ι → Ldg) (n : Nat) (σ₀ : ι) (names : List Str) {r : Addr} {t₀ u₀ v₀ : Tok} (F : Fr h₀ env.locals s.heap m₀) (N : News h₀ env.locals s.heap news)
    (hr : IsRange s.heap r 0 (n : Int) 1 t₀ u₀ v₀) (hh : A.handled = none) (hn : n ≤ 1000) (c0 : C 0 σ₀) (m1 : ∀ n ∈ names, m₀ n = M 0 σ₀ n) (m2 : ∀ y, y ∉ names → m₀ y = M 0 σ₀ y) (n0 : ∀ q ∈ Nw 0 σ₀, q ∈ news)
    (turn : ∀ i σ h tk t own, i < n → C i σ → (∀ p ∈ Nw i σ, p.1 ≠ own.1) → Fr h₀ env.locals h (M i σ) → News h₀ env.locals h (own :: Nw i σ) →
      wpAny (model prog w) A (assign (.Name x px) env (.int i t)) (fun _ s₃ => wpAny (model prog w) A (execs body env) (TurnFr (C (i + 1)) (M (i + 1)) (Nw (i + 1)) own h₀ env.locals s Q) E s₃) E { s with heap := h, toks := tk })
    (done : ∀ σ h tk, C n σ → Fr h₀ env.locals h (M n σ) → News h₀ env.locals h (Nw n σ) → Q .next { s with heap := h, toks := tk }) :
    wpAny (model prog w) A (pyIter (.ref r)) (fun it s₂ => TurnsAt prog w A h₀ env (.Name x px) body Q E it s₂) E s := by
  refine wpAny_pyIter_range hr (small_one (by omega) (by omega) (by omega) (by omega)) ?_
  rw [rangeSize_one]
  have hI := next_is_new F
  have hne : ∀ p ∈ Nw 0 σ₀, p.1 ≠ s.heap.objs.size := fun p hp => Nat.ne_of_lt (Heap.lt_size (N p (n0 p hp)).1)
  refine ⟨s.heap.objs.size, [s.heap.objs.size], [s.heap.objs.size], n, _, _, _, M 0 σ₀, Nw 0 σ₀, fun i m nx => ∃ σ, C i σ ∧ m = M i σ ∧ nx = Nw i σ, rfl, KTurns.ofWalks (LCg.range_walks hh 0 n) (fun i v s Q E _ h => wpAny_pure h), ?_, ?_, ?_, ?_, fr_map names (F.push _) m1 m2, ?_, ⟨σ₀, c0, rfl, rfl⟩, ?_, ?_⟩
  · intro hm
    exact absurd F.ns.lt ((List.mem_singleton.mp hm) ▸ Nat.lt_irrefl _)
  · intro b hb
    rw [List.mem_singleton.mp hb]; exact hI
  · intro p hp hq
    exact hne p hp (List.mem_singleton.mp hq)
  · show IsRangeIter _ _ _ _ _
    simpa using Heap.get?_push_size _ rfl
  · exact fun p hp => ⟨Heap.get?_push_of_some _ (N p (n0 p hp)).1, (N p (n0 p hp)).2⟩
  · rintro i v m₁ news₁ h₁ tk₁ own hi ⟨t, rfl⟩ ⟨σ, hc, rfl, rfl⟩ hw hfp hget hown hst F₁ N₁
    obtain ⟨oI, hIo⟩ : ∃ o, h₁.get? s.heap.objs.size = some o := ⟨_, hst⟩
    have hmem := hown s.heap.objs.size (List.mem_singleton.mpr rfl) hI _ hIo
    rw [Int.zero_add]
    refine wpAny_mono (turn i σ h₁ tk₁ t (s.heap.objs.size, oI) hi hc (fun p hp e => hw p hp (List.mem_singleton.mpr e)) F₁ (fun p hp => N₁ p (List.mem_append.mpr ?_))) (fun _ s₃ h₃ => wpAny_mono h₃ (fun f s₄ h₄ => ?_) fun _ _ e => e) fun _ _ e => e
    · rcases List.mem_cons.mp hp with rfl | hp
      · exact .inl hmem
      · exact .inr hp
    · have fin : (∃ σ h' tk', s₄ = { s with heap := h', toks := tk' } ∧ C (i + 1) σ ∧ Fr h₀ env.locals h' (M (i + 1) σ) ∧ News h₀ env.locals h' ((s.heap.objs.size, oI) :: Nw (i + 1) σ) ∧ ∀ p ∈ Nw (i + 1) σ, p.1 ≠ s.heap.objs.size) → _ := fun ⟨σ', h', tk', e, c', F', N', hd⟩ =>
        (⟨rfl, h', tk', M (i + 1) σ', Nw (i + 1) σ', e, F', fun p hp => by
          rcases List.mem_append.mp hp with hp | hp
          · have e1 := List.mem_singleton.mp (hfp p hp)
            have e2 := hget p hp
            rw [e1, hIo] at e2
            have e3 : p = (s.heap.objs.size, p.2) := by rw [← e1]
            rw [e3, ← Option.some.inj e2]
            exact N' _ (.head _)
          · exact N' _ (.tail _ hp), fun p hp hq => hd p hp (List.mem_singleton.mp hq), σ', c', rfl, rfl⟩ : LoopStepU h₀ env.locals [s.heap.objs.size] own (fun m nx => ∃ σ, C (i + 1) σ ∧ m = M (i + 1) σ ∧ nx = Nw (i + 1) σ) { s with heap := h₁, toks := tk₁ } .next s₄)
      cases f with
      | ret v => exact h₄
      | brk => exact h₄
      | next => exact .next (fin h₄)
      | cont => exact .cont (fin h₄)
  · rintro h' tk m' news' F' N' _ ⟨σ, hc, rfl, rfl⟩
    exact done σ h' tk hc F' N'
end
end Mine
end
section
open PySem PySem.W PyProof.Rows PySem.Spec PySem.Calls
set_option Elab.async false
set_option maxRecDepth 100000
set_option maxHeartbeats 4000000
set_option linter.all false
namespace Mine
theorem item_len (x : PStr) (i : Int) : (Txt.item x i).length = 1 := rfl
theorem go257_len {r : PStr} : ∀ (f i : Nat) (d : PStr), (go257 r f i d).length ≤ d.length + (r.length - i)
  | 0, i, d => by simp only [go257]; omega
  | f + 1, i, d => by
    simp only [go257]
    have h1 := go257_len (r := r) f (i + 2) (d ++ Txt.item r i)
    have h2 := go257_len (r := r) f (i + 1) (d ++ Txt.item r i)
    have h3 := PySem.Str.length_append d (Txt.item r i)
    have h4 := item_len r i
    split
    · split
      · split
        · split <;> omega
        · omega
      · omega
    · omega
theorem str_toList (a b : PStr) : (a ++ b).cps.toList = a.cps.toList ++ b.cps.toList := by
  show (a.cps ++ b.cps).toList = _
  rw [Array.toList_append]
abbrev q257 : PStr := Str.ofString "257 \""
theorem q257_list : q257.cps.toList = [50, 53, 55, 32, 34] := by decide +kernel
theorem q257_take {t : PStr} : Txt.slice (q257 ++ t) none (some 3) = Str.ofString "257" := by
  have h := StrLaws.sliceText_to (x := q257 ++ t) (j := 3) ⟨by decide, by rw [str_toList, q257_list]; simp only [List.length_append, List.length_cons, List.length_nil]; omega⟩
  refine (show Txt.slice (q257 ++ t) none (some 3) = _ from h).trans ?_
  rw [str_toList, q257_list]
  show (⟨([50, 53, 55] : List Nat).toArray⟩ : PStr) = _
  decide +kernel
theorem q257_mid {t : PStr} : Txt.slice (q257 ++ t) (some 3) (some 5) = Str.ofString " \"" := by
  have h := StrLaws.sliceText_plain (x := q257 ++ t) (i := 3) (j := 5) ⟨by decide, by decide, by rw [str_toList, q257_list]; simp only [List.length_append, List.length_cons, List.length_nil]; omega⟩
  refine (show Txt.slice (q257 ++ t) (some 3) (some 5) = _ from h).trans ?_
  rw [str_toList, q257_list]
  show (⟨([32, 34] : List Nat).toArray⟩ : PStr) = _
  decide +kernel
/-- what parse257 tells of a text between quotes -/
noncomputable def quo (t : PStr) : PStr := go257 (q257 ++ t) t.length 5 Str.empty
theorem q257_len (t : PStr) : (q257 ++ t).length = 5 + t.length := (PySem.Str.length_append _ _).trans (by rw [show q257.length = 5 by decide +kernel])
theorem p257_quo (t : PStr) : p257 (q257 ++ t) = .ok (quo t) := by
  unfold p257
  rw [q257_take, q257_mid, if_neg (by simp), if_neg (by simp), q257_len, Nat.add_sub_cancel_left]
  rfl
theorem quo_len (t : PStr) : (quo t).length ≤ t.length := by
  have h := go257_len (r := q257 ++ t) t.length 5 Str.empty
  have h2 := q257_len t
  have h3 : Str.empty.length = 0 := rfl
  unfold quo
  omega
theorem p257_ok {t x : PStr} (h : p257 (q257 ++ t) = .ok x) : x = quo t := by
  rw [p257_quo] at h; cases h; rfl
theorem p257_leq {t x : PStr} (h : p257 (q257 ++ t) = .ok x) : x.length ≤ t.length := by rw [p257_ok h]; exact quo_len t
theorem p257_no {t : PStr} {e : EK × PStr} (h : p257 (q257 ++ t) = .error e) : False := by
  rw [p257_quo] at h; cases h
/-- _law_read: a reading -/
noncomputable def rdOdd (t : PStr) : Bool := Txt.slice (quo t) (some (-1)) none != Str.ofString "x"
noncomputable def rdStep (q : PStr × Int × Int) : PStr × Int × Int :=
  (if rdOdd q.1 = true then quo q.1 ++ Str.ofString "x" else quo q.1,
   if q.2.1 = 0 then (if rdOdd q.1 = true then 1 else 0) else if rdOdd q.1 = true then q.2.1 + q.2.2 else q.2.1,
   if q.2.1 = 0 then (if rdOdd q.1 = true then 1 else 0) else if rdOdd q.1 = true then q.2.2 else q.2.1 + q.2.2)
noncomputable def rdIter : Nat → PStr × Int × Int → PStr × Int × Int
  | 0, q => q
  | n + 1, q => rdStep (rdIter n q)
section
variable {t : PStr} {f g : Int} {n : Nat} {q : PStr × Int × Int}
theorem rd_a (hc : (t, f, g) = rdIter n q) (ho : (Txt.slice (quo t) (some (-1)) none != Str.ofString "x") = true) (h0 : f = 0) : (quo t ++ Str.ofString "x", (1 : Int), (1 : Int)) = rdIter (n + 1) q := by
  show _ = rdStep (rdIter n q)
  rw [← hc]; unfold rdStep rdOdd; simp only [ho, h0, if_true]
theorem rd_b (hc : (t, f, g) = rdIter n q) (ho : (Txt.slice (quo t) (some (-1)) none != Str.ofString "x") = true) (h0 : f ≠ 0) : (quo t ++ Str.ofString "x", f + g, g) = rdIter (n + 1) q := by
  show _ = rdStep (rdIter n q)
  rw [← hc]; unfold rdStep rdOdd; simp only [ho, h0, if_true, if_false]
theorem rd_c (hc : (t, f, g) = rdIter n q) (ho : (Txt.slice (quo t) (some (-1)) none != Str.ofString "x") = false) (h0 : f = 0) : (quo t, (0 : Int), (0 : Int)) = rdIter (n + 1) q := by
  show _ = rdStep (rdIter n q)
  rw [← hc]; unfold rdStep rdOdd; simp only [ho, h0, if_true, Bool.false_eq_true, if_false]
theorem rd_d (hc : (t, f, g) = rdIter n q) (ho : (Txt.slice (quo t) (some (-1)) none != Str.ofString "x") = false) (h0 : f ≠ 0) : (quo t, f, f + g) = rdIter (n + 1) q := by
  show _ = rdStep (rdIter n q)
  rw [← hc]; unfold rdStep rdOdd; simp only [ho, h0, Bool.false_eq_true, if_false]
end
end Mine
end
section
open PySem PySem.W PyProof.Rows PySem.Spec PySem.Calls
set_option Elab.async false
set_option maxRecDepth 100000
set_option maxHeartbeats 4000000
set_option linter.all false
namespace Mine
theorem intsAre_append : ∀ {vs ws : List Value} {ns ms : List Int}, IntsAre vs ns → IntsAre ws ms → IntsAre (vs ++ ws) (ns ++ ms)
  | _, _, _, _, .nil, h => h
  | _, _, _, _, .cons a t r, h => .cons a t (intsAre_append r h)
theorem intsAre_drop : ∀ {vs : List Value} {ns : List Int} (k : Nat), IntsAre vs ns → IntsAre (vs.drop k) (ns.drop k)
  | _, _, 0, h => h
  | _, _, _ + 1, .nil => .nil
  | _, _, k + 1, .cons _ _ r => intsAre_drop k r
theorem kms_from {vs : List Value} {x : Int} (h : 0 ≤ x) : kms_pick vs (some x) none = vs.drop x.toNat := by
  unfold kms_pick kms_lo kms_hi
  simp only [if_neg (show ¬ x < 0 by omega)]
  by_cases hl : x.toNat ≤ vs.length
  · rw [Nat.min_eq_left hl, List.take_of_length_le (by rw [List.length_drop]; exact Nat.le_refl _)]
  · rw [Nat.min_eq_right (by omega), List.drop_eq_nil_of_le (Nat.le_refl _), List.drop_eq_nil_of_le (by omega), List.take_nil]
theorem len_room {vs ws : List Value} {ns : List Int} (h : IntsAre vs ns) (h2 : ns.length + ws.length ≤ 1000) : vs.length + ws.length ≤ 1000 := by rw [ints_length h]; exact h2
section
variable {prog : Program} {w : World} {A : Around} {E : Value → Shared → Prop} {s : Shared} {h₀ : Heap} {L l : Addr} {m : Str → Option Value} {news : Ldg} {vs zs : List Value} {ep : Nat} {Q : Value → Shared → Prop} {value slice : PySem.Expr} {vl vu : Value} {lo hi : Option Int}
theorem slice_L (F : Fr h₀ L s.heap m) (N : News h₀ L s.heap news) (hl : (l, lstOf vs ep) ∈ news) (pl : IsPart vl lo) (pu : IsPart vu hi) (hz : vs.length ≤ 1000) (e : kms_pick vs lo hi = zs)
    (h : ∀ D h', Fr h₀ L h' m → News h₀ L h' ((D, lstOf zs 0) :: news) → (∀ p ∈ news, p.1 < D) → Q (.ref D) { s with heap := h' })
    (hs : subscripted slice false (.ref l) (.ref s.heap.objs.size) = operate [.ref s.heap.objs.size, .ref l] (getItem (.ref l) (.ref s.heap.objs.size)) := by with_unfolding_all rfl) :
    wpAny (model prog w) A (subscriptTail value slice (.ref l) (.ref s.heap.objs.size)) Q E { s with heap := s.heap.push { cls := .type "slice", data := .fields #[vl, vu, .none] } } :=
  kba_turn (value' := PySem.Expr.Name (Str.ofString "_") ⟨0, 0, 0, 0⟩) (fun _ => rfl) (kms_slice_lit F N (News.isList N hl) pl pu (by simpa using e) h hs (fun _ => rfl) (Nat.le_trans (by simpa using hz) (by decide)))
theorem slice_LA (F : Fr h₀ L s.heap m) (N : News h₀ L s.heap news) (hl : (l, lstOf vs ep) ∈ news) (pl : IsPart vl lo) (pu : IsPart vu hi) (hz : vs.length ≤ 1000) (e : kms_pick vs lo hi = zs)
    (h : ∀ D h', Fr h₀ L h' m → News h₀ L h' ((D, lstOf zs 0) :: news) → AllLt D news → Q (.ref D) { s with heap := h' })
    (hs : subscripted slice false (.ref l) (.ref s.heap.objs.size) = operate [.ref s.heap.objs.size, .ref l] (getItem (.ref l) (.ref s.heap.objs.size)) := by with_unfolding_all rfl) :
    wpAny (model prog w) A (subscriptTail value slice (.ref l) (.ref s.heap.objs.size)) Q E { s with heap := s.heap.push { cls := .type "slice", data := .fields #[vl, vu, .none] } } :=
  slice_L F N hl pl pu hz e (fun D h' F' N' l1 => h D h' F' N' (allLt_of l1)) hs
end
end Mine
end
section
open PySem PySem.W PyProof.Rows PySem.Spec PySem.Calls
set_option Elab.async false
set_option maxRecDepth 100000
set_option maxHeartbeats 4000000
set_option linter.all false
namespace Mine
theorem reads_pair {h₀ h : Heap} {L r : Addr} {news : Ldg} {a b : Int} {t u : Tok} {e : Nat} (N : News h₀ L h news) (hm : (r, lstOf [.int a t, .int b u] e) ∈ news) : Reads h (.ref r) (.list [.int a, .int b]) [r] :=
  reads_list_at (N _ hm).1 rfl rfl (readsAll_cons_val (Reads.int _ _) (readsAll_cons_val (Reads.int _ _) ReadsAll.nil))
/-- a ref of a list of the two ints a b -/
noncomputable def isPair (h : Heap) (a b : Int) : Value → Bool
  | .ref r => match h.get? r with
    | some o => match o.data with
      | .seq its _ => match its.toList with
        | [.int x _, .int y _] => decide (x = a) && decide (y = b)
        | _ => false
      | _ => false
    | none => false
  | _ => false
theorem isPair_is {h₀ h : Heap} {L r : Addr} {news : Ldg} {a b x y : Int} {t u : Tok} {e : Nat} (N : News h₀ L h news) (hm : (r, lstOf [.int x t, .int y u] e) ∈ news) : isPair h a b (.ref r) = (decide (x = a) && decide (y = b)) := by
  have hg := (N _ hm).1
  simp only [isPair, hg]
theorem PairsAre.mem {l : Ldg} {y : Value} : ∀ {vs : List Value} {fs : List (Int × Int)}, PairsAre l vs fs → y ∈ vs → ∃ r a b t u e, y = .ref r ∧ (r, lstOf [.int a t, .int b u] e) ∈ l
  | _, _, .cons a b, h => by
    rcases List.mem_cons.mp h with rfl | h
    · exact ⟨_, _, _, _, _, _, rfl, a⟩
    · exact b.mem h
theorem eqv_pair (a b x y : Int) : PyData.eqv (.list [.int x, .int y]) (.list [.int a, .int b]) = (decide (x = a) && decide (y = b)) := by
  have h := ked_eqvAll [x, y] [a, b]
  show PyData.eqvAll [.int x, .int y] [.int a, .int b] = _
  refine h.trans ?_
  by_cases h1 : x = a <;> by_cases h2 : y = b <;> simp [h1, h2]
theorem mem_mv1 {m a b o : Addr × Obj} {n : Ldg} : ∀ p ∈ a :: b :: o :: m :: n, p ∈ m :: a :: b :: o :: n := by
  intro p hp; simp only [List.mem_cons] at *; rcases hp with h | h | h | h | h <;> simp [h]
theorem mem_mv2 {m a b o : Addr × Obj} {n : Ldg} : ∀ p ∈ a :: b :: o :: m :: n, p ∈ b :: m :: a :: o :: n := by
  intro p hp; simp only [List.mem_cons] at *; rcases hp with h | h | h | h | h <;> simp [h]
theorem mem_mv3 {x m a b o : Addr × Obj} {n : Ldg} : ∀ p ∈ b :: m :: a :: o :: n, p ∈ x :: m :: a :: b :: o :: n := by
  intro p hp; simp only [List.mem_cons] at *; rcases hp with h | h | h | h | h <;> simp [h]
theorem mem_mv4 {a b o : Addr × Obj} {n : Ldg} : ∀ p ∈ a :: b :: o :: n, p ∈ o :: a :: b :: n := by
  intro p hp; simp only [List.mem_cons] at *; rcases hp with h | h | h | h <;> simp [h]
theorem mem_mv5 {a b o m : Addr × Obj} {n : Ldg} : ∀ p ∈ o :: a :: b :: m :: n, p ∈ a :: b :: o :: m :: n := by
  intro p hp; simp only [List.mem_cons] at *; rcases hp with h | h | h | h | h <;> simp [h]
theorem news_sub {h₀ h : Heap} {L : Addr} {l l' : Ldg} (N : News h₀ L h l) (s : ∀ p ∈ l', p ∈ l) : News h₀ L h l' := fun p hp => N p (s p hp)
theorem addr_lt {I : Addr} {l l' : Ldg} (h : ∀ p ∈ l, p.1 < I) (e : l'.map (·.1) = l.map (·.1)) {p : Addr × Obj} (hp : p ∈ l') : p.1 < I := by
  have h1 : p.1 ∈ l'.map (·.1) := List.mem_map_of_mem hp
  rw [e] at h1
  obtain ⟨q, hq, e2⟩ := List.mem_map.mp h1
  rw [← e2]; exact h q hq
theorem updF_addr {d : Addr} {o : Obj} : ∀ {l : Ldg} {g : Obj → Ldg}, UpdF d o l g → ∀ o' p, p ∈ g o' → ∃ q ∈ l, q.1 = p.1
  | _, _, .head _, o', p, hp => by
    rcases List.mem_cons.mp hp with rfl | hp
    · exact ⟨_, .head _, rfl⟩
    · exact ⟨p, .tail _ hp, rfl⟩
  | _, _, .tail _ r, o', p, hp => by
    rcases List.mem_cons.mp hp with rfl | hp
    · exact ⟨_, .head _, rfl⟩
    · obtain ⟨q, hq, e⟩ := updF_addr r o' p hp
      exact ⟨q, .tail _ hq, e⟩
theorem updF_keep {d : Addr} {o : Obj} : ∀ {l : Ldg} {g : Obj → Ldg}, UpdF d o l g → ∀ o' p, p ∈ l → p.1 ≠ d → p ∈ g o'
  | _, _, .head _, o', p, hp, hne => by
    rcases List.mem_cons.mp hp with rfl | hp
    · exact absurd rfl hne
    · exact .tail _ hp
  | _, _, .tail _ r, o', p, hp, hne => by
    rcases List.mem_cons.mp hp with rfl | hp
    · exact .head _
    · exact .tail _ (updF_keep r o' p hp hne)
theorem updF_new {d : Addr} {o : Obj} : ∀ {l : Ldg} {g : Obj → Ldg}, UpdF d o l g → ∀ o', (d, o') ∈ g o'
  | _, _, .head _, o' => .head _
  | _, _, .tail _ r, o' => .tail _ (updF_new r o')
theorem strs_ins {vs : List Value} {xs : List PStr} (n : Int) (x : PStr) (t : Tok) (h : StrsAre vs xs) : ∃ zs, StrsAre (kl_ins vs n (.str x t)) zs := by
  have ap : ∀ {a b : List Value} {p q : List PStr}, StrsAre a p → StrsAre b q → StrsAre (a ++ b) (p ++ q) := by
    intro a b p q ha hb
    induction ha with
    | nil => exact hb
    | cons x t r ih => exact .cons x t ih
  have tk : ∀ (k : Nat) {a : List Value} {p : List PStr}, StrsAre a p → StrsAre (a.take k) (p.take k) ∧ StrsAre (a.drop k) (p.drop k) := by
    intro k a p ha
    induction ha generalizing k with
    | nil => simp only [List.take_nil, List.drop_nil]; exact ⟨.nil, .nil⟩
    | cons x t r ih =>
      cases k with
      | zero => exact ⟨.nil, .cons x t r⟩
      | succ k => exact ⟨.cons x t (ih k).1, (ih k).2⟩
  unfold kl_ins
  exact ⟨_, ap (tk _ h).1 (.cons x t (tk _ h).2)⟩
theorem ints_ins {vs : List Value} {xs : List Int} (n : Int) (x : Int) (t : Tok) (h : IntsAre vs xs) : ∃ zs, IntsAre (kl_ins vs n (.int x t)) zs := by
  have tk : ∀ (k : Nat) {a : List Value} {p : List Int}, IntsAre a p → IntsAre (a.take k) (p.take k) ∧ IntsAre (a.drop k) (p.drop k) := by
    intro k a p ha
    induction ha generalizing k with
    | nil => simp only [List.take_nil, List.drop_nil]; exact ⟨.nil, .nil⟩
    | cons x t r ih =>
      cases k with
      | zero => exact ⟨.nil, .cons x t r⟩
      | succ k => exact ⟨.cons x t (ih k).1, (ih k).2⟩
  unfold kl_ins
  exact ⟨_, intsAre_append (tk _ h).1 (.cons x t (tk _ h).2)⟩
section
variable {prog : Program} {w : World} {A : Around} {E : Value → Shared → Prop} {s : Shared} {h₀ : Heap} {L : Addr} {m : Str → Option Value} {news : Ldg} {vs : List Value} {fs : List (Int × Int)} {ep : Nat} {Q : Value → Shared → Prop}
theorem idx_pairs {D q : Addr} {a b : Int} {t u : Tok} {eq j : Nat} (N : News h₀ L s.heap news) (hD : (D, lstOf vs ep) ∈ news) (hq : (q, lstOf [.int a t, .int b u] eq) ∈ news) (hP : PairsAre news vs fs)
    (hj : j < fs.length) (hit : fs[j] = (a, b)) (hno : ∀ i (h : i < fs.length), i < j → fs[i] ≠ (a, b)) (hz : fs.length ≤ 1000) (hu : A.units + 64 < cLine)
    (h : Q (.int j s.toks) { s with toks := s.toks + 1 }) : wpAny (model prog w) A (call (.builtin "list.index") [.ref D, .ref q]) Q E s := by
  have hl := hP.length
  have at' : ∀ i (hi : i < fs.length), isPair s.heap a b (vs.toArray[i]'(by simp; omega)) = (decide ((fs[i]).1 = a) && decide ((fs[i]).2 = b)) := by
    intro i hi
    obtain ⟨r, t', u', e', h1, h2⟩ := hP.at i hi
    have hv : vs.toArray[i]'(by simp; omega) = .ref r := by
      have := List.getElem_of_getElem? h1
      obtain ⟨_, h3⟩ := this
      simpa using h3
    rw [hv]
    exact isPair_is N h2
  refine call_meets PySem.F.slot_list_index ⟨_, (N _ hD).1, rfl⟩ PySem.F.entry_list_index (PySem.F.args_list_index_2 _ _)
    (PySem.SeqAt.list_indexAt D vs.toArray ep none #[] (.ref q) (isPair s.heap a b) j (by simp; omega) (by omega) ?_ ?_) ⟨(N _ hD).1, ?_, h⟩
  · rw [at' j hj, hit]; simp
  · intro i hi hlt
    have hi' : i < fs.length := by simp at hi; omega
    rw [at' i hi']
    have := hno i hi' hlt
    cases hd : (decide ((fs[i]).1 = a) && decide ((fs[i]).2 = b)) with
    | false => rfl
    | true =>
      simp only [Bool.and_eq_true, decide_eq_true_eq] at hd
      exact absurd (Prod.ext hd.1 hd.2) this
  · intro y hy
    obtain ⟨r, x, y', t', u', e', rfl, hm⟩ := hP.mem (by simpa using hy)
    have := PySem.SeqAt.eqAt_reads _ _ A.in1 s _ _ _ _ (reads_pair N hm) (reads_pair N hq) rfl rfl (by
      show A.in1.units + min (PyData.depth _) (PyData.depth _) < cLine
      have h1 : A.in1.units ≤ A.units + 1 := by first | exact Nat.le_refl _ | simp [Around.in1]
      have h2 : (PyData.list [.int x, .int y']).depth ≤ 2 := by simp [PyData.depth, PyData.depthAll]
      omega)
    rw [eqv_pair] at this
    rw [isPair_is N hm]
    exact this
theorem set_L {D : Addr} {k : Int} {t : Tok} {v : Value} {gN : Obj → Ldg} {Q : Unit → Shared → Prop} (F : Fr h₀ L s.heap m) (N : News h₀ L s.heap news) (U : UpdF D (lstOf vs ep) news gN) (h0 : 0 ≤ k) (hk : k < vs.length) (hz : vs.length ≤ 1000)
    (h : ∀ h', Fr h₀ L h' m → News h₀ L h' (gN (lstOf (vs.set k.toNat v) ep)) → Q () { s with heap := h' }) : wpAny (model prog w) A (setItem (.ref D) (.int k t) v) Q E s := by
  have e : ki_setL vs k.toNat v = some (vs.set k.toNat v) := by
    have : ∀ (l : List Value) (k : Nat), k < l.length → ki_setL l k v = some (l.set k v) := by
      intro l
      induction l with
      | nil => intro k h; exact absurd h (Nat.not_lt_zero _)
      | cons x r ih =>
        intro k h
        cases k with
        | zero => rfl
        | succ k => unfold ki_setL; rw [ih k (Nat.lt_of_succ_lt_succ h)]; rfl
    exact this vs k.toNat (by omega)
  exact ki_set F N h0 (by omega) (by simpa using e) (upd_of U) h
theorem append_L {D : Addr} {v : Value} {gN : Obj → Ldg} (F : Fr h₀ L s.heap m) (N : News h₀ L s.heap news) (U : UpdF D (lstOf vs ep) news gN) (hz : vs.length ≤ 1000)
    (h : ∀ h', Fr h₀ L h' m → News h₀ L h' (gN (lstOf (vs ++ [v]) (ep + 1))) → Q .none { s with heap := h' }) : wpAny (model prog w) A (call (.builtin "list.append") [.ref D, v]) Q E s := by
  refine append_K (its := vs.toArray) (n := ep) F N (news' := gN (lstOf (vs ++ [v]) (ep + 1))) ?_ h (Nat.le_trans (by simpa using hz) (by decide))
  have := upd_of (o' := lstOf (vs ++ [v]) (ep + 1)) U
  rw [List.push_toArray]
  exact this
theorem list_of_L {b : Addr} (F : Fr h₀ L s.heap m) (N : News h₀ L s.heap news) (hb : (b, lstOf vs ep) ∈ news) (hz : vs.length ≤ 1000)
    (h : ∀ D c h', Fr h₀ L h' m → News h₀ L h' ((D, lstOf vs c) :: news) → (∀ p ∈ news, p.1 < D) → Q (.ref D) { s with heap := h' }) : wpAny (model prog w) A (call (.type "list") [.ref b]) Q E s :=
  kup_listOf (its2 := vs.toArray) (n2 := ep) F N hb (show vs.toArray.toList = vs from rfl) h (Nat.le_trans (by simpa using hz) (by decide))
theorem ne_str_same {x : PStr} {t u : Tok} (h : Q (.bool false) s) : wpAny (model prog w) A (compareOp .NotEq (.str x t) (.str x u)) Q E s := PyProof.Rows.ne_str (by rw [bne_self_eq_false]; exact h)
/-- texts -/
theorem strs_at : ∀ {vs : List Value} {xs : List PStr}, StrsAre vs xs → ∀ (j : Nat) (h : j < vs.length), ∃ t, vs[j] = .str (xs.getD j Str.empty) t
  | _, _, .cons _ t r, 0, _ => ⟨t, rfl⟩
  | _, _, .cons _ t r, j + 1, h => strs_at r j (Nat.lt_of_succ_lt_succ h)
theorem all_getD : ∀ (xs ys : List PStr), xs.length = ys.length → (List.range xs.length).all (fun j => xs.getD j Str.empty == ys.getD j Str.empty) = decide (xs = ys) := by
  intro xs ys hl
  rw [Bool.eq_iff_iff, List.all_eq_true, decide_eq_true_iff]
  constructor
  · intro h
    apply List.ext_getElem hl
    intro j h1 h2
    have := h j (List.mem_range.mpr h1)
    rw [List.getD_eq_getElem?_getD, List.getD_eq_getElem?_getD, List.getElem?_eq_getElem h1, List.getElem?_eq_getElem h2] at this
    exact eq_of_beq this
  · rintro rfl j _
    exact beq_self_eq_true _
theorem ne_strs_L {x y : Addr} {ws : List Value} {xs ys : List PStr} {e2 : Nat} (N : News h₀ L s.heap news) (hx : (x, lstOf vs ep) ∈ news) (hy : (y, lstOf ws e2) ∈ news) (h1 : StrsAre vs xs) (h2 : StrsAre ws ys) (hu : A.units + 64 < cLine)
    (h : Q (.bool (!decide (xs = ys))) s) : wpAny (model prog w) A (compareOp .NotEq (.ref x) (.ref y)) Q E s := by
  have l1 := h1.len_eq
  have l2 := h2.len_eq
  by_cases hl : xs.length = ys.length
  · refine PySem.SeqAt.RcNeAt.lists (e := fun j => xs.getD j Str.empty == ys.getD j Str.empty) (News.isList N hx) (News.isList N hy) (by simp; omega) (by omega) (fun j j1 j2 => ?_) prog w E Q ?_
    · obtain ⟨t, e1⟩ := strs_at h1 j (by simpa using j1)
      obtain ⟨u, e2⟩ := strs_at h2 j (by simpa using j2)
      simp only [List.getElem_toArray, e1, e2]
      exact PySem.SeqAt.EqAt.str_str _ _ _ _
    · have : vs.toArray.size = xs.length := by simp; omega
      rw [this, all_getD xs ys hl]
      exact h
  · refine PySem.SeqAt.RcNeAt.lists_lengths (News.isList N hx) (News.isList N hy) (by simp; omega) (by omega) prog w E Q ?_
    have : (!decide (xs = ys)) = true := by
      simp only [Bool.not_eq_true', decide_eq_false_iff_not]
      exact fun e => hl (by rw [e])
    rw [this] at h
    exact h
theorem ne_strs_same {x y : Addr} {e2 : Nat} {xs : List PStr} (N : News h₀ L s.heap news) (hx : (x, lstOf vs ep) ∈ news) (hy : (y, lstOf vs e2) ∈ news) (h1 : StrsAre vs xs) (hu : A.units + 64 < cLine)
    (h : Q (.bool false) s) : wpAny (model prog w) A (compareOp .NotEq (.ref x) (.ref y)) Q E s := by
  exact ne_strs_L N hx hy h1 h1 hu (by rw [decide_eq_true rfl]; exact h)
theorem last_L {l : Addr} {k : Int} {u : Tok} {v : Value} {value slice : PySem.Expr} (N : News h₀ L s.heap news) (hm : (l, lstOf (vs ++ [v]) ep) ∈ news) (hk : k = -1) (hz : vs.length ≤ 1000) (h : Q v s)
    (hs : subscripted slice false (.ref l) (.int k u) = operate [.ref l, .int k u] (getItem (.ref l) (.int k u)) := by with_unfolding_all rfl) :
    wpAny (model prog w) A (subscriptTail value slice (.ref l) (.int k u)) Q E s := by
  subst hk
  exact kde_neg (j := vs.length) (News.isList N hm) (by decide) (by decide) (by rw [StrLaws.seqIndex_neg (by decide) (by rw [List.length_append]; simp only [List.length_cons, List.length_nil]; omega), List.length_append]; simp only [List.length_cons, List.length_nil]; exact congrArg some (by omega)) (by simp) h hs
theorem two_pow4 : ∀ k : Nat, k ≤ 4 → ((2 : Int) ^ ((k : Int)).toNat - 1).toNat = 2 ^ k - 1 ∧ 0 ≤ (2 : Int) ^ ((k : Int)).toNat - 1 ∧ (2 : Int) ^ ((k : Int)).toNat - 1 < 2 ^ 63 := by
  intro k hk
  rcases k with _ | _ | _ | _ | _ | k
  all_goals first | decide | omega
theorem idx_ext {D d : Addr} {t u tk : Tok} {x y : Addr × Obj} {sz : Nat} {value slice : PySem.Expr} {fvs : List Value} (N : News h₀ L s.heap ((D, lstOf (fvs ++ [.ref d]) 0) :: x :: (d, lstOf [.int 1 t, .int 0 u] 0) :: y :: news)) (hP : PairsAre news fvs fs) (hsz : sz ≤ 4) (hix : 2 ^ sz - 1 ≤ fs.length)
    (h : ∀ r t' u' e, (r, lstOf [.int ((fs ++ [(1, 0)]).getD (2 ^ sz - 1) (0, 0)).1 t', .int ((fs ++ [(1, 0)]).getD (2 ^ sz - 1) (0, 0)).2 u'] e) ∈ (D, lstOf (fvs ++ [.ref d]) 0) :: x :: (d, lstOf [.int 1 t, .int 0 u] 0) :: y :: news → Q (.ref r) s)
    (hs : subscripted slice false (.ref D) (.int (2 ^ ((sz : Int)).toNat - 1) tk) = operate [.ref D, .int (2 ^ ((sz : Int)).toNat - 1) tk] (getItem (.ref D) (.int (2 ^ ((sz : Int)).toNat - 1) tk)) := by with_unfolding_all rfl) (hg : ∀ r, letTemporaryGo value (.ref D) r = pure () := by intro _; with_unfolding_all rfl) :
    wpAny (model prog w) A (subscriptTail value slice (.ref D) (.int (2 ^ ((sz : Int)).toNat - 1) tk)) Q E s := by
  have hP2 : PairsAre ((D, lstOf (fvs ++ [.ref d]) 0) :: x :: (d, lstOf [.int 1 t, .int 0 u] 0) :: y :: news) (fvs ++ [.ref d]) (fs ++ [(1, 0)]) :=
    (hP.mono (fun p hp => .tail _ (.tail _ (.tail _ (.tail _ hp))))).append (.cons (.tail _ (.tail _ (.head _))) .nil)
  have hlt : 2 ^ sz - 1 < (fs ++ [(1, 0)]).length := by rw [List.length_append]; exact Nat.lt_succ_of_le hix
  obtain ⟨r, t', u', e, h1, h2⟩ := hP2.at (2 ^ sz - 1) hlt
  obtain ⟨e1, e2, e3⟩ := two_pow4 sz hsz
  have hq := h r t' u' e (by rw [List.getD_eq_getElem?_getD, List.getElem?_eq_getElem hlt]; exact h2)
  exact item_listL (News.isList N (.head _)) e2 e3 (by rw [e1]; exact h1) hq hs hg
theorem ne_ints_same {x y : Addr} {e2 : Nat} {ns : List Int} (N : News h₀ L s.heap news) (hx : (x, lstOf vs ep) ∈ news) (hy : (y, lstOf vs e2) ∈ news) (h1 : IntsAre vs ns) (hu : A.units + 64 < cLine)
    (h : Q (.bool false) s) : wpAny (model prog w) A (compareOp .NotEq (.ref x) (.ref y)) Q E s :=
  ke_ne_ints (News.isList N hx) (News.isList N hy) h1 h1 hu (by rw [decide_eq_true rfl]; exact h)
theorem insert_L {D : Addr} {x : Int} {u : Tok} {y : Value} {gN : Obj → Ldg} (F : Fr h₀ L s.heap m) (N : News h₀ L s.heap news) (U : UpdF D (lstOf vs ep) news gN) (h0 : 0 ≤ x) (hx : x ≤ 1000) (hz : vs.length ≤ 1000)
    (h : ∀ h', Fr h₀ L h' m → News h₀ L h' (gN (lstOf (kl_ins vs x y) (ep + 1))) → Q .none { s with heap := h' }) : wpAny (model prog w) A (call (.builtin "list.insert") [.ref D, .int x u, y]) Q E s :=
  kl_insert (its := vs.toArray) (n := ep) F N (by unfold Builtin.List.listFitsIndex; simp only [Bool.and_eq_true, decide_eq_true_eq]; omega) rfl (upd_of U) (Nat.le_trans (by simpa using hz) (by decide)) h
theorem or_one_C {M : Model} {env : Env} {x : PySem.Expr} {Q : Bool → Shared → Prop} (h : wpAny M A (isTrue x env (eval x env)) Q E s) : wpC M A (allTrue .Or [x] env) Q E s :=
  or_C (wpC_any (wpAny_mono h (fun b s' hb => by
    cases b with
    | true => exact hb
    | false =>
      show wpC M A (allTrue .Or [] env) Q E s'
      exact wpC_pure hb) fun _ _ y => y))
end
end Mine
end
section
open PySem PySem.W PyProof.Rows PySem.Spec PySem.Calls
set_option Elab.async false
set_option maxRecDepth 100000
set_option maxHeartbeats 4000000
set_option linter.all false
namespace Mine
theorem krv_list (vs : List Value) : (slicePick vs.toArray none none (some (-1))).toList = vs.reverse := by rw [krv_pick]
section
variable {prog : Program} {w : World} {A : Around} {E : Value → Shared → Prop} {s : Shared} {env : Env} {h₀ : Heap} {body : List Stmt} {Q : Flow → Shared → Prop} {target : PySem.Expr} {m₀ : Str → Option Value} {news : Ldg}
theorem items_listA {α ι : Type} (val : α → Value) (C : List α → ι → Prop) (M : ι → Str → Option Value) {I : Addr} {keep : Ldg} {cl : String} (hk : SubL keep news) (hne : ∀ p ∈ news, p.1 ≠ I)
    (turn : ∀ a as σ h tk o, C (a :: as) σ → Fr h₀ env.locals h (M σ) → News h₀ env.locals h ((I, o) :: news) →
      wpAny (model prog w) A (assign target env (val a)) (fun _ s₃ => wpAny (model prog w) A (execs body env) (TurnFr (C as) M (fun _ => news) (I, o) h₀ env.locals s Q) E s₃) E { s with heap := h, toks := tk })
    (done : ∀ σ h tk, C [] σ → Fr h₀ env.locals h (M σ) → News h₀ env.locals h news → Q .next { s with heap := h, toks := tk }) :
    ∀ (xs : List α) (σ : ι), C xs σ → ItemsRest prog w A E h₀ env target body Q s [(I, cl)] keep (xs.map fun a => .val (val a)) (M σ) news
  | [], σ, c => ItemsRest.zero (fun h tk F N => done σ h tk c F N)
  | a :: as, σ, c => by
    refine ItemsRest.val (fun h tk F => AllObj.cons fun o ho => AllObj.nil fun N => ?_)
    refine wpAny_mono (turn a as σ h tk o c F N) (fun _ s₃ h₃ => wpAny_mono h₃ (fun f s₄ h₄ => ?_) fun _ _ e => e) fun _ _ e => e
    cases f with
    | ret v => exact h₄
    | brk => exact h₄
    | next =>
      obtain ⟨σ', h', tk', e, c', F', N', hd⟩ := h₄
      exact ⟨h', tk', M σ', news, e, F', N', fun p hp q hq => by rw [List.mem_singleton.mp hq]; exact hne p hp, hk, items_listA val C M hk hne turn done as σ' c'⟩
    | cont =>
      obtain ⟨σ', h', tk', e, c', F', N', hd⟩ := h₄
      exact ⟨h', tk', M σ', news, e, F', N', fun p hp q hq => by rw [List.mem_singleton.mp hq]; exact hne p hp, hk, items_listA val C M hk hne turn done as σ' c'⟩
theorem pyIter_listA {α ι : Type} (val : α → Value) (C : List α → ι → Prop) (M : ι → Str → Option Value) (xs : List α) (σ₀ : ι) (names : List Str) {ax : Addr} {n : Nat} (F : Fr h₀ env.locals s.heap m₀) (N : News h₀ env.locals s.heap news) (hm : (ax, lstOf (xs.map val) n) ∈ news) (hh : A.handled = none)
    (c0 : C xs σ₀) (m1 : ∀ n ∈ names, m₀ n = M σ₀ n) (m2 : ∀ y, y ∉ names → m₀ y = M σ₀ y)
    (turn : ∀ a as σ h tk own, C (a :: as) σ → (∀ p ∈ news, p.1 ≠ own.1) → Fr h₀ env.locals h (M σ) → News h₀ env.locals h (own :: news) →
      wpAny (model prog w) A (assign target env (val a)) (fun _ s₃ => wpAny (model prog w) A (execs body env) (TurnFr (C as) M (fun _ => news) own h₀ env.locals s Q) E s₃) E { s with heap := h, toks := tk })
    (done : ∀ σ h tk, C [] σ → Fr h₀ env.locals h (M σ) → News h₀ env.locals h news → Q .next { s with heap := h, toks := tk }) :
    wpAny (model prog w) A (pyIter (.ref ax)) (fun it s₂ => TurnsAt prog w A h₀ env target body Q E it s₂) E s := by
  refine iter_listTurns hh (fr_map names F m1 m2) N hm rfl rfl (fun I hI => ?_)
  rw [List.map_map]
  have hne : ∀ p ∈ news, p.1 ≠ I := fun p hp => Nat.ne_of_lt (hI p hp)
  exact items_listA (keep := [(ax, lstOf (xs.map val) n)]) (news := news) val C M (And.intro hm trivial) hne (fun a as σ h tk o c F N => turn a as σ h tk (I, o) c hne F N) done xs σ₀ c0
end
/-- the quotes are halved along bs -/
noncomputable def hvs : List Bool → PStr → Prop
  | [], _ => True
  | b :: bs, t => Txt.mul (quo t) 2 ++ (if b = true then Str.ofString "\"" else Str.ofString "") = t ∧ hvs bs (quo t)
theorem ne_str_of {prog : Program} {w : World} {A : Around} {E : Value → Shared → Prop} {s : Shared} {x y : PStr} {t u : Tok} {Q : Value → Shared → Prop} (e : x = y) (h : Q (.bool false) s) : wpAny (model prog w) A (compareOp .NotEq (.str x t) (.str y u)) Q E s := by
  subst e
  exact ne_str_same h
end Mine
end
section
open PySem PySem.W PyProof.Rows PySem.Spec PySem.Calls
set_option Elab.async false
set_option maxRecDepth 100000
set_option maxHeartbeats 4000000
set_option linter.all false
namespace Mine
section
variable {prog : Program} {w : World} {A : Around} {E : Value → Shared → Prop} {s : Shared} {h₀ : Heap} {L : Addr} {m : Str → Option Value} {news : Ldg}
theorem len_L {l : Addr} {vs : List Value} {ep : Nat} {Q : Value → Shared → Prop} (N : News h₀ L s.heap news) (hm : (l, lstOf vs ep) ∈ news) (hz : vs.length ≤ 1000)
    (h : Q (.int vs.length (s.toks + 1)) { s with toks := s.toks + 1 + 1 }) : wpAny (model prog w) A (call (.builtin "len") [.ref l]) Q E s := by
  have e : vs.toArray.size = vs.length := by simp
  refine len_list (News.isList N hm) (by rw [e]; omega) ?_
  rw [e]
  exact h
/-- a comprehension by an invariant -/
theorem comp_ind {env : Env} {elt : PySem.Expr} {x : Str} {scope : Scope} {cl : List (Str × Addr)} {S : Ldg → Prop} {P : Nat → Value → Prop} {Fin : List Value → Ldg → Prop} {n : Nat} (J : Nat → List Value → Ldg → Prop) (hJ : J 0 [] news)
    (turn : ∀ i v I oI C oC D m₂ ys nw h tk (E' : Value → Shared → Prop), i < n → P i v → J i ys nw → LCg.NsObj oC m₂ → m₂ x = some v → Fr h₀ L h m → News h₀ L h ((I, oI) :: (C, oC) :: (D, LCg.lst ys) :: nw) → LCg.Off3 I C D nw → ((@Ne Nat I C) ∧ (@Ne Nat I D) ∧ (@Ne Nat C D)) →
      wpAny (model prog w) A (eval elt (compEnvC scope cl C env)) (LCg.CompEnd h₀ L m { s with heap := h, toks := tk } I oI C oC D (LCg.lst ys) S (fun y nw' => J (i + 1) (ys ++ [y]) nw')) E' { s with heap := h, toks := tk })
    (fin : ∀ ys nw, J n ys nw → Fin ys nw) : LCg.CompRest prog w A h₀ L m env elt x scope cl s S P Fin n 0 [] news := by
  have key : ∀ (j i : Nat) (ys : List Value) (nw : Ldg), i + j = n → J i ys nw → LCg.CompRest prog w A h₀ L m env elt x scope cl s S P Fin j i ys nw := by
    intro j
    induction j with
    | zero =>
      intro i ys nw hi hy
      have e : i = n := by omega
      subst e
      exact LCg.CompRest.zero (fin ys nw hy)
    | succ j ih =>
      intro i ys nw hi hy
      refine LCg.CompRest.succ ?_
      intro v I oI C oC D m₂ h tk E' hv hC hx F N off ne
      refine wpAny_mono (turn i v I oI C oC D m₂ ys nw h tk E' (by omega) hv hy hC hx F N off ne) (fun y s₂ hq => ?_) fun _ _ e => e
      obtain ⟨h', tk', nw', e, F', N', off', hS, hj⟩ := hq
      exact ⟨h', tk', nw', e, F', N', off', hS, ih (i + 1) _ nw' (by omega) hj⟩
  exact key n 0 [] news (by omega) hJ
noncomputable def pairD (q : Int × Int) : PyData := .list [.int q.1, .int q.2]
theorem reads_pairs {h : Heap} (N : News h₀ L h news) : ∀ {vs : List Value} {fs : List (Int × Int)}, PairsAre news vs fs → ∃ as, ReadsAll h vs (fs.map pairD) as
  | _, _, .nil => ⟨_, ReadsAll.nil⟩
  | _, _, .cons a b => by
    obtain ⟨as, h2⟩ := reads_pairs N b
    exact ⟨_, ReadsAll.cons (reads_pair N a) h2⟩
theorem ne_pairs_same {x y : Addr} {vs ws : List Value} {e1 e2 : Nat} {fs : List (Int × Int)} {Q : Value → Shared → Prop} (N : News h₀ L s.heap news) (hx : (x, lstOf vs e1) ∈ news) (hy : (y, lstOf ws e2) ∈ news) (h1 : PairsAre news vs fs) (h2 : PairsAre news ws fs)
    (hs : PySem.SeqAt.shaped (.list (fs.map pairD)) = true) (hu : A.units + 64 < cLine) (h : Q (.bool false) s) : wpAny (model prog w) A (compareOp .NotEq (.ref x) (.ref y)) Q E s := by
  obtain ⟨as, r1⟩ := reads_pairs N h1
  obtain ⟨bs, r2⟩ := reads_pairs N h2
  refine ne_dataH (reads_list_at (N _ hx).1 rfl rfl r1) (reads_list_at (N _ hy).1 rfl rfl r2) hs hs hu ?_
  rw [PySem.SeqAt.eqv_refl _ (PySem.SeqAt.canLay_of_shaped hs)]
  exact h
end
end Mine
end
section
open PySem PySem.W PyProof.Rows PySem.Spec PySem.Calls
set_option Elab.async false
set_option maxRecDepth 100000
set_option maxHeartbeats 4000000
set_option linter.all false
namespace Mine
/-! min(row, key=f) where the key of each is a text of one sign -/
/-- the key came back -/
def KeyEnd (h₀ : Heap) (L : Addr) (m : PStr → Option Value) (need : Ldg) (c : Nat) (s₁ : Shared) (v : Value) (s₂ : Shared) : Prop :=
  ∃ h' tk t, s₂ = { s₁ with heap := h', toks := tk } ∧ v = .str ⟨#[c]⟩ t ∧ Fr h₀ L h' m ∧ News h₀ L h' need
/-- i is the first of the least up to j -/
def FirstMin (kc : Nat → Nat) (i j : Nat) : Prop := i ≤ j ∧ ∀ n, n ≤ j → kc i ≤ kc n ∧ (n < i → kc i < kc n)
theorem FirstMin.keep {kc : Nat → Nat} {i j : Nat} (h : FirstMin kc i j) (hn : ¬ kc (j + 1) < kc i) : FirstMin kc i (j + 1) := by
  refine ⟨Nat.le_succ_of_le h.1, fun n hj => ?_⟩
  rcases Nat.lt_or_eq_of_le hj with q | q
  · exact h.2 n (Nat.le_of_lt_succ q)
  · have h1 := h.1
    subst q
    exact ⟨by omega, fun c => by omega⟩
theorem FirstMin.turn {kc : Nat → Nat} {i j : Nat} (h : FirstMin kc i j) (hn : kc (j + 1) < kc i) : FirstMin kc (j + 1) (j + 1) := by
  refine ⟨Nat.le_refl _, fun n hj => ?_⟩
  rcases Nat.lt_or_eq_of_le hj with q | q
  · have := (h.2 n (Nat.le_of_lt_succ q)).1
    exact ⟨by omega, fun _ => by omega⟩
  · subst q
    exact ⟨Nat.le_refl _, fun c => absurd c (Nat.lt_irrefl _)⟩
theorem sign_lt (a b : Nat) : decide ((⟨#[a]⟩ : PStr).cps.toList < (⟨#[b]⟩ : PStr).cps.toList) = decide (a < b) := by
  rw [decide_eq_decide]
  show ([a] : List Nat) < [b] ↔ _
  rw [List.cons_lt_cons_iff]
  simp
section
variable {prog : Program} {w : World} {A : Around} {E : Value → Shared → Prop} {s : Shared} {h₀ : Heap} {L l q I S : Addr} {m : PStr → Option Value} {news : Ldg} {vs : List Value} {R : Result → Shared → Prop} {Q : Value → Shared → Prop}
theorem key_lt {a b : Nat} {t u : Tok} {Q : Value → Shared → Prop} (h : Q (.bool (decide (a < b))) s) : wpAny (model prog w) A (richCompare .Lt (.str ⟨#[a]⟩ t) (.str ⟨#[b]⟩ u)) Q E s :=
  lt_str (by rw [sign_lt]; exact h)
/-- what stands while min runs: the walker at I, the pair of the least and its key at S -/
structure MinSt (h₀ : Heap) (L l I S : Addr) (m : PStr → Option Value) (news : Ldg) (vs : List Value) (kc : Nat → Nat) (i j : Nat) (h : Heap) : Prop where
  F : Fr h₀ L h m
  st : ∃ v t c o, News h₀ L h (news ++ [(S, seqObj "list" #[v, .str ⟨#[kc i]⟩ t] c), (I, o)]) ∧ vs[i]? = some v
  it : h.IsListIter I l (j + 1)
  fm : FirstMin kc i j
theorem min_loop (kc : Nat → Nat) (hh : A.handled = none) (hl : ∀ h, Fr h₀ L h m → News h₀ L h news → h.IsList l vs.toArray) (hlI : l ≠ I) (hSI : S ≠ I) (hnS : ∀ p ∈ news, p.1 ≠ S) (hnI : ∀ p ∈ news, p.1 ≠ I)
    (turn : ∀ (i : Nat) (v : Value), vs[i]? = some v → ∀ (h : Heap) (tk : Nat) (own : Ldg), Fr h₀ L h m → News h₀ L h (news ++ own) →
      wpAny (model prog w) A.in1 (call (.ref q) [v]) (KeyEnd h₀ L m (news ++ own) (kc i) { s with heap := h, toks := tk }) (fun _ _ => False) { s with heap := h, toks := tk })
    (hR : ∀ i v h' tk', vs[i]? = some v → FirstMin kc i (vs.length - 1) → Fr h₀ L h' m → News h₀ L h' news → R (.ok (.ret v)) { s with heap := h', toks := tk' }) :
    ∀ (r i j : Nat) (h : Heap) (tk : Nat), vs.length - (j + 1) = r → j + 1 ≤ vs.length → MinSt h₀ L l I S m news vs kc i j h →
      codeAny (model prog w) A (.builtin "min.loop" ⟨[.ref I, .ref q, .ref S], []⟩) R { s with heap := h, toks := tk } := by
  have hname : (toString "min" ++ toString ".loop" : String) = "min.loop" := by decide
  have W := Walks.list (prog := prog) (w := w) (A := A.in1) hh I l hlI vs.toArray
  have hsz : vs.toArray.size = vs.length := List.size_toArray ..
  intro r
  induction r with
  | zero =>
    rintro i j h tk hr hj ⟨F, ⟨v, t, c, o, N, hv⟩, hit, fm⟩
    have hin : j + 1 = vs.length := by omega
    have nS := N (S, seqObj "list" #[v, .str ⟨#[kc i]⟩ t] c) (List.mem_append_right _ (.head _))
    have nI := N (I, o) (List.mem_append_right _ (.tail _ (.head _)))
    have N0 : News h₀ L h news := fun p hp => N p (List.mem_append_left _ hp)
    refine codeAny_builtin PySem.F.entry_min_loop ?_
    rw [Around.under_plainId PySem.F.plain_min_loop _]
    show wpAny _ A.in1 (seqItems? (.ref S) >>= _) _ _ _
    refine wpAny_bind (wpAny_seqItems nS.1 rfl ?_)
    show wpAny _ A.in1 (tryCatch (pyNext (.ref I)) _ >>= _) _ _ _
    refine wpAny_bind (wpAny_tryCatch (W.done _ _ _ ⟨by rw [hsz, ← hin]; exact hit, hl h F N0⟩ fun h' tk' hk' => ?_))
    have hS' := hk' S _ (by simpa using hSI) nS.1
    have sb := Heap.SameBut.update h' S (Obj.mapSeq fun _ => (#[] : Array Value))
    show wpAny _ A.in1 (updateSeq S (fun _ => #[]) >>= _) _ _ _
    refine wpAny_bind ?_
    refine wpAny_updateSeq hS' rfl (wpAny_bind (wpAny_letGo (wpAny_pure ?_)))
    have ej : j = vs.length - 1 := by omega
    rw [ej] at fm
    exact hR i v _ _ hv fm (ksk_fr (kmk_fr F hk' nI.2.1 nI.2.2) sb nS.2.1 nS.2.2) (ksk_news (kmk_news N0 hk' hnI) sb hnS)
  | succ r ih =>
    rintro i j h tk hr hj ⟨F, ⟨v, t, c, o, N, hv⟩, hit, fm⟩
    have hlt : j + 1 < vs.length := by omega
    have nS := N (S, seqObj "list" #[v, .str ⟨#[kc i]⟩ t] c) (List.mem_append_right _ (.head _))
    have nI := N (I, o) (List.mem_append_right _ (.tail _ (.head _)))
    have N0 : News h₀ L h news := fun p hp => N p (List.mem_append_left _ hp)
    refine codeAny_builtin PySem.F.entry_min_loop ?_
    rw [Around.under_plainId PySem.F.plain_min_loop _]
    show wpAny _ A.in1 (seqItems? (.ref S) >>= _) _ _ _
    refine wpAny_bind (wpAny_seqItems nS.1 rfl ?_)
    show wpAny _ A.in1 (tryCatch (pyNext (.ref I)) _ >>= _) _ _ _
    refine wpAny_bind (wpAny_tryCatch (W.item (j + 1) _ _ _ (by rw [hsz]; exact hlt) ⟨hit, hl h F N0⟩ fun v2 h' tk' hP hst' hk' => ?_))
    have hv2 : vs[j + 1]? = some v2 := by simpa using hP
    obtain ⟨o2, ho2, hoc, hod⟩ := id hst'.1
    have N1 : News h₀ L h' (news ++ [(S, seqObj "list" #[v, .str ⟨#[kc i]⟩ t] c), (I, o2)]) := fun p hp => by
      rcases List.mem_append.mp hp with hp | hp
      · exact kmk_news N0 hk' hnI p hp
      · rcases List.mem_cons.mp hp with rfl | hp
        · exact ⟨hk' S _ (by simpa using hSI) nS.1, nS.2⟩
        · rw [List.mem_singleton.mp hp]
          exact ⟨ho2, nI.2⟩
    show wpAny _ A.in1 (tryCatch (holding [v2] (call (.ref q) [v2])) _ >>= _) _ _ _
    refine wpAny_bind (wpAny_tryCatch (wpAny_holding (wpAny_mono (turn (j + 1) v2 hv2 h' tk' _ (kmk_fr F hk' nI.2.1 nI.2.2) N1) (fun x s'' he => ?_) fun _ _ hF => hF.elim)))
    obtain ⟨h2, tk2, t2, rfl, rfl, F2, N2⟩ := he
    have nS2 := N2 (S, seqObj "list" #[v, .str ⟨#[kc i]⟩ t] c) (List.mem_append_right _ (.head _))
    have nI2 := N2 (I, o2) (List.mem_append_right _ (.tail _ (.head _)))
    show wpAny _ A.in1 (tryCatch (holding [v2, .str ⟨#[kc (j + 1)]⟩ t2] (richCompare .Lt (.str ⟨#[kc (j + 1)]⟩ t2) (.str ⟨#[kc i]⟩ t) >>= _)) _ >>= _) _ _ _
    refine wpAny_bind (wpAny_tryCatch (wpAny_holding (wpAny_bind (key_lt ?_))))
    refine wpAny_bind (wpAny_holding (wpAny_truthy_bool ?_))
    refine wpAny_bind (wpAny_letGo (wpAny_pure ?_))
    by_cases hb : kc (j + 1) < kc i
    · have sb := Heap.SameBut.update h2 S (Obj.mapSeq fun _ => #[v2, .str ⟨#[kc (j + 1)]⟩ t2])
      obtain ⟨c2, hc2⟩ : ∃ c2, (h2.update S (Obj.mapSeq fun _ => #[v2, .str ⟨#[kc (j + 1)]⟩ t2])).get? S = some (seqObj "list" #[v2, .str ⟨#[kc (j + 1)]⟩ t2] c2) := ⟨_, get?_update_seq nS2.1 fun _ => #[v2, .str ⟨#[kc (j + 1)]⟩ t2]⟩
      simp only [hb, decide_true, if_true]
      refine wpAny_bind ?_
      refine wpAny_updateSeq nS2.1 rfl (wpAny_bind (wpAny_letGo ?_))
      rw [hname]
      refine wpAny_pure ⟨plainId_quiet PySem.F.plain_min_loop _, ih (j + 1) (j + 1) _ _ (by omega) hlt ⟨ksk_fr F2 sb nS2.2.1 nS2.2.2, ⟨v2, t2, c2, o2, fun p hp => ?_, hv2⟩, ⟨o2, (sb.2 I hSI.symm).trans nI2.1, hoc, hod⟩, fm.turn hb⟩⟩
      rcases List.mem_append.mp hp with hp | hp
      · exact ksk_news (fun p hp => N2 p (List.mem_append_left _ hp)) sb hnS p hp
      · rcases List.mem_cons.mp hp with rfl | hp
        · exact ⟨hc2, nS2.2⟩
        · rw [List.mem_singleton.mp hp]
          exact ⟨(sb.2 I hSI.symm).trans nI2.1, nI2.2⟩
    · simp only [hb, decide_false, Bool.false_eq_true, if_false]
      refine wpAny_bind (wpAny_letGo ?_)
      rw [hname]
      exact wpAny_pure ⟨plainId_quiet PySem.F.plain_min_loop _, ih i (j + 1) _ _ (by omega) hlt ⟨F2, ⟨v, t, c, o2, N2, hv⟩, ⟨o2, nI2.1, hoc, hod⟩, fm.keep hb⟩⟩
theorem min_key (kc : Nat → Nat) (hh : A.handled = none) (F : Fr h₀ L s.heap m) (N : News h₀ L s.heap news) (hl : ∀ h, Fr h₀ L h m → News h₀ L h news → h.IsList l vs.toArray) (hne : 0 < vs.length)
    (turn : ∀ (i : Nat) (v : Value), vs[i]? = some v → ∀ (h : Heap) (tk : Nat) (own : Ldg), Fr h₀ L h m → News h₀ L h (news ++ own) →
      wpAny (model prog w) A.in1 (call (.ref q) [v]) (KeyEnd h₀ L m (news ++ own) (kc i) { s with heap := h, toks := tk }) (fun _ _ => False) { s with heap := h, toks := tk })
    (hQ : ∀ i v h' tk', vs[i]? = some v → FirstMin kc i (vs.length - 1) → Fr h₀ L h' m → News h₀ L h' news → Q v { s with heap := h', toks := tk' }) :
    wpAny (model prog w) A (call (.builtin "min") [.ref l] [(Str.ofString "key", .ref q)]) Q E s := by
  have hname : (toString "min" ++ toString ".loop" : String) = "min.loop" := by decide
  have hls := hl _ F N
  obtain ⟨ol, hol, _⟩ := id hls
  have hll : l < s.heap.objs.size := Heap.lt_size hol
  have hL : L < s.heap.objs.size := F.ns.lt
  refine kmk_tree PySem.F.kind_min PySem.F.plain_min PySem.F.entry_min (kmk_min_key _ _) ?_
  show wpAny _ A.in1 (Builtin.Builtins.bindParams "min" ["key", "default"] 0 ⟨[], [(Str.ofString "key", .ref q)]⟩ >>= _) _ _ s
  refine wpAny_bind (wpAny_of_eq (show Builtin.Builtins.bindParams "min" ["key", "default"] 0 ⟨[], [(Str.ofString "key", .ref q)]⟩ = pure [some (.ref q), none] from rfl) ?_)
  refine wpAny_bind (wpAny_pure ?_)
  refine wpAny_bind (wpAny_pyIter_list hls ?_)
  refine wpAny_bind (wpAny_newList ?_ (Nat.zero_le _))
  rw [hname]
  generalize eI : s.heap.push { cls := .type "list_iterator", data := .fields #[.ref l, .int 0 0] } = hI
  have hS : hI.objs.size = s.heap.objs.size + 1 := by rw [← eI]; exact size_push' ..
  have hlI : l ≠ s.heap.objs.size := Nat.ne_of_lt hll
  have hSI : hI.objs.size ≠ s.heap.objs.size := by rw [hS]; exact Nat.ne_of_gt (Nat.lt_succ_self _)
  have hnI : ∀ p ∈ news, p.1 ≠ s.heap.objs.size := fun p hp => Nat.ne_of_lt (Heap.lt_size (N p hp).1)
  have hnS : ∀ p ∈ news, p.1 ≠ hI.objs.size := fun p hp => by rw [hS]; exact Nat.ne_of_lt (Nat.lt_succ_of_lt (Heap.lt_size (N p hp).1))
  refine wpAny_pure ⟨plainId_quiet PySem.F.plain_min_loop _, ?_⟩
  have fresh : ∀ b, L < b → h₀.get? b = none := fun b hb => Heap.get?_none_of_le (Nat.le_trans F.above (Nat.le_of_lt hb))
  have FI : Fr h₀ L hI m := by rw [← eI]; exact F.push _
  have FH : Fr h₀ L (hI.push (seqObj "list" #[] 0)) m := FI.push _
  have NH : News h₀ L (hI.push (seqObj "list" #[] 0)) news := N.grown fun b x e => Heap.get?_push_of_some _ (by rw [← eI]; exact Heap.get?_push_of_some _ e)
  have gI : (hI.push (seqObj "list" #[] 0)).get? s.heap.objs.size = some { cls := .type "list_iterator", data := .fields #[.ref l, .int 0 0] } := Heap.get?_push_of_some _ (by rw [← eI]; exact Heap.get?_push_size _ rfl)
  have gS : (hI.push (seqObj "list" #[] 0)).get? hI.objs.size = some (seqObj "list" #[] 0) := Heap.get?_push_size _ rfl
  have aI : s.heap.objs.size ≠ L := Nat.ne_of_gt hL
  have aS : hI.objs.size ≠ L := by rw [hS]; exact Nat.ne_of_gt (Nat.lt_succ_of_lt hL)
  have zS : h₀.get? hI.objs.size = none := fresh _ (by rw [hS]; exact Nat.lt_succ_of_lt hL)
  have W := Walks.list (prog := prog) (w := w) (A := A.in1) hh s.heap.objs.size l hlI vs.toArray
  have hsz : vs.toArray.size = vs.length := List.size_toArray ..
  refine codeAny_builtin PySem.F.entry_min_loop ?_
  rw [Around.under_plainId PySem.F.plain_min_loop _]
  show wpAny _ A.in1 (seqItems? (.ref _) >>= _) _ _ _
  refine wpAny_bind (wpAny_seqItems gS rfl ?_)
  show wpAny _ A.in1 (tryCatch (pyNext (.ref s.heap.objs.size)) _ >>= _) _ _ _
  refine wpAny_bind (wpAny_tryCatch (W.item 0 _ _ _ (by rw [hsz]; exact hne) ⟨⟨_, gI, rfl, rfl⟩, hl _ FH NH⟩ fun v h' tk' hP hst' hk' => ?_))
  have hv : vs[0]? = some v := by simpa using hP
  obtain ⟨o2, ho2, hoc, hod⟩ := id hst'.1
  have N1 : News h₀ L h' (news ++ [(hI.objs.size, seqObj "list" #[] 0), (s.heap.objs.size, o2)]) := fun p hp => by
    rcases List.mem_append.mp hp with hp | hp
    · exact kmk_news NH hk' hnI p hp
    · rcases List.mem_cons.mp hp with rfl | hp
      · exact ⟨hk' _ _ (by simpa using hSI) gS, aS, zS⟩
      · rw [List.mem_singleton.mp hp]
        exact ⟨ho2, aI, fresh _ hL⟩
  show wpAny _ A.in1 (tryCatch (holding [v] (call (.ref q) [v])) _ >>= _) _ _ _
  refine wpAny_bind (wpAny_tryCatch (wpAny_holding (wpAny_mono (turn 0 v hv h' tk' _ (kmk_fr FH hk' aI (fresh _ hL)) N1) (fun x s'' he => ?_) fun _ _ hF => hF.elim)))
  obtain ⟨h2, tk2, t2, rfl, rfl, F2, N2⟩ := he
  have nS2 := N2 (hI.objs.size, seqObj "list" #[] 0) (List.mem_append_right _ (.head _))
  have nI2 := N2 (s.heap.objs.size, o2) (List.mem_append_right _ (.tail _ (.head _)))
  have sb := Heap.SameBut.update h2 hI.objs.size (Obj.mapSeq fun _ => #[v, .str ⟨#[kc 0]⟩ t2])
  obtain ⟨c2, hc2⟩ : ∃ c2, (h2.update hI.objs.size (Obj.mapSeq fun _ => #[v, .str ⟨#[kc 0]⟩ t2])).get? hI.objs.size = some (seqObj "list" #[v, .str ⟨#[kc 0]⟩ t2] c2) := ⟨_, get?_update_seq nS2.1 fun _ => #[v, .str ⟨#[kc 0]⟩ t2]⟩
  show wpAny _ A.in1 (updateSeq hI.objs.size (fun _ => #[v, .str ⟨#[kc 0]⟩ t2]) >>= _) _ _ _
  refine wpAny_bind ?_
  refine wpAny_updateSeq nS2.1 rfl ?_
  rw [hname]
  refine wpAny_pure ⟨plainId_quiet PySem.F.plain_min_loop _, min_loop kc hh hl hlI hSI hnS hnI turn hQ _ 0 0 _ _ rfl hne ⟨ksk_fr F2 sb nS2.2.1 nS2.2.2, ⟨v, t2, c2, o2, fun p hp => ?_, hv⟩, ⟨o2, (sb.2 _ hSI.symm).trans nI2.1, hoc, hod⟩, Nat.le_refl _, fun n hn => ?_⟩⟩
  · rcases List.mem_append.mp hp with hp | hp
    · exact ksk_news (fun p hp => N2 p (List.mem_append_left _ hp)) sb hnS p hp
    · rcases List.mem_cons.mp hp with rfl | hp
      · exact ⟨hc2, nS2.2⟩
      · rw [List.mem_singleton.mp hp]
        exact ⟨(sb.2 _ hSI.symm).trans nI2.1, nI2.2⟩
  · have e : n = 0 := by omega
    subst e
    exact ⟨Nat.le_refl _, fun h => absurd h (Nat.lt_irrefl _)⟩
end
end Mine
end
section
open PySem PySem.W PyProof.Rows PySem.Spec PySem.Calls
set_option Elab.async false
set_option maxRecDepth 100000
set_option maxHeartbeats 4000000
set_option linter.all false
namespace Mine
theorem qt_eq : Str.ofString "\"" = ⟨#[34]⟩ := by decide +kernel
theorem qq_eq : Str.ofString "\"\"" = ⟨#[34, 34]⟩ := by decide +kernel
theorem str_eq {x y : PStr} (h : x.cps.toList = y.cps.toList) : x = y := PySem.Str.ext' (Array.toList_inj.mp h)
/-- each quote doubled -/
noncomputable def dblT (x : PStr) : PStr := ⟨(StrLaws.dbl 34 x.cps.toList).toArray⟩
theorem rep_is (x : PStr) : Txt.replace x (Str.ofString "\"") (Str.ofString "\"\"") = dblT x := replace_dbl x _ _ 34 qt_eq qq_eq
theorem dblT_list (x : PStr) : (dblT x).cps.toList = StrLaws.dbl 34 x.cps.toList := rfl
/-- how many quotes -/
noncomputable def qn (l : List Nat) : Nat := l.count 34
theorem dbl_len : ∀ l : List Nat, (StrLaws.dbl 34 l).length = l.length + qn l
  | [] => rfl
  | k :: r => by
    have ih := dbl_len r
    unfold StrLaws.dbl qn
    unfold qn at ih
    by_cases h : k = 34
    · rw [if_pos h, List.count_cons, if_pos (by simp [h])]
      simp only [List.length_cons]; omega
    · rw [if_neg h, List.count_cons, if_neg (by simp [h])]
      simp only [List.length_cons]; omega
theorem dbl_qn : ∀ l : List Nat, qn (StrLaws.dbl 34 l) = 2 * qn l
  | [] => rfl
  | k :: r => by
    have ih := dbl_qn r
    unfold StrLaws.dbl
    unfold qn at ih ⊢
    by_cases h : k = 34
    · rw [if_pos h, List.count_cons, List.count_cons, List.count_cons, if_pos (by simp [h]), ih]; omega
    · rw [if_neg h, List.count_cons, List.count_cons, if_neg (by simp [h]), ih]
      rfl
theorem len_list (x : PStr) : x.length = x.cps.toList.length := by simp [PySem.Str.length]
theorem dblT_len (x : PStr) : (dblT x).length = x.length + qn x.cps.toList := by
  rw [len_list, dblT_list, dbl_len, len_list]
theorem qn_le (l : List Nat) : qn l ≤ l.length := List.count_le_length
theorem dblT_le (x : PStr) : x.length ≤ (dblT x).length ∧ (dblT x).length ≤ 2 * x.length := by
  have := qn_le x.cps.toList
  rw [dblT_len, ← len_list] at *
  omega
theorem rep_dbl {prog : Program} {w : World} {A : Around} {E : Value → Shared → Prop} {s : Shared} {x : PStr} {t u v : Tok} {Q : Value → Shared → Prop} (hu : u ≠ 0) (hv : v ≠ 0) (huv : u ≠ v) (hx : x.length ≤ 400000)
    (h : ∀ t' k, s.toks ≤ k → x.length ≤ (dblT x).length ∧ (dblT x).length ≤ 2 * x.length → Q (.str (dblT x) t') { s with toks := k }) : wpAny (model prog w) A (call (.builtin "str.replace") [.str x t, .str (Str.ofString "\"") u, .str (Str.ofString "\"\"") v]) Q E s := by
  have e := rep_is x
  refine wpAny_with_toks (Nat.le_refl _) (wpAny_mono (SC.replaceW (t := t) (Q := fun v s' => s.toks ≤ s'.toks → Q v s') (E := E) hu hv huv (by decide +kernel) (by omega) (by decide +kernel) fun t' k => ?_) (fun _ _ x => x) fun _ _ x _ => x)
  rw [e]
  exact fun hk => h t' k hk (dblT_le x)
/-- what parse257's loop reads from here on -/
noncomputable def rdQ : List Nat → List Nat
  | [] => []
  | c :: r => if c = 34 then (match r with | [] => [] | k :: r' => if k = 34 then 34 :: rdQ r' else []) else c :: rdQ r
theorem rdQ_plain {c : Nat} {r : List Nat} (h : c ≠ 34) : rdQ (c :: r) = c :: rdQ r := by cases r <;> simp [rdQ, h]
theorem rdQ_pair {r : List Nat} : rdQ (34 :: 34 :: r) = 34 :: rdQ r := by simp [rdQ]
theorem rdQ_end {t : List Nat} (h : t.head? ≠ some 34) : rdQ (34 :: t) = [] := by
  cases t with
  | nil => simp [rdQ]
  | cons k r =>
    have : k ≠ 34 := fun e => h (by rw [e]; rfl)
    simp [rdQ, this]
theorem rdQ_dbl {t : List Nat} (ht : t.head? ≠ some 34) : ∀ l : List Nat, rdQ (StrLaws.dbl 34 l ++ 34 :: t) = l
  | [] => rdQ_end ht
  | k :: r => by
    have ih := rdQ_dbl ht r
    unfold StrLaws.dbl
    by_cases h : k = 34
    · rw [if_pos h, h]
      show rdQ (34 :: 34 :: (StrLaws.dbl 34 r ++ 34 :: t)) = _
      rw [rdQ_pair, ih]
    · rw [if_neg h]
      show rdQ (k :: (StrLaws.dbl 34 r ++ 34 :: t)) = _
      rw [rdQ_plain h, ih]
theorem rdQ_open : ∀ l : List Nat, rdQ (StrLaws.dbl 34 l) = l
  | [] => rfl
  | k :: r => by
    have ih := rdQ_open r
    unfold StrLaws.dbl
    by_cases h : k = 34
    · rw [if_pos h, h, rdQ_pair, ih]
    · rw [if_neg h, rdQ_plain h, ih]
theorem rdQ_free : ∀ l : List Nat, 34 ∉ l → rdQ l = l
  | [], _ => rfl
  | k :: r, h => by
    rw [rdQ_plain (fun e => h (e ▸ List.mem_cons_self ..)), rdQ_free r (fun m => h (List.mem_cons_of_mem _ m))]
theorem item_list {r : PStr} {i : Nat} {c : Nat} {t : List Nat} (h : r.cps.toList.drop i = c :: t) : Txt.item r (i : Int) = ⟨#[c]⟩ ∧ i < r.length ∧ r.cps.toList.drop (i + 1) = t := by
  have hi : i < r.cps.toList.length := by
    rcases Nat.lt_or_ge i r.cps.toList.length with h' | h'
    · exact h'
    · rw [List.drop_eq_nil_of_le h'] at h; cases h
  have hc : r.cps.toList[i]? = some c := by
    have := List.head?_drop (l := r.cps.toList) (i := i)
    rw [h] at this
    exact this.symm
  refine ⟨?_, by rw [len_list]; exact hi, ?_⟩
  · refine (item_at (x := r) (i := (i : Int)) (n := i) (by omega) (by rw [len_list]; omega) rfl).trans ?_
    rw [StrLaws.getD_of_getElem? hc]
  · rw [← List.drop_drop, h]; rfl
theorem q_beq {c : Nat} : ((⟨#[c]⟩ : PStr) == Str.ofString "\"") = decide (c = 34) := by rw [qt_eq]; exact one_beq
theorem go_rdQ {r : PStr} : ∀ (n i : Nat) (d : PStr), r.length - i ≤ n → go257 r (r.length - i) i d = d ++ ⟨(rdQ (r.cps.toList.drop i)).toArray⟩
  | 0, i, d, h => by
    have hl : r.cps.toList.drop i = [] := List.drop_eq_nil_of_le (by rw [← len_list]; omega)
    rw [hl, go_end (by omega)]
    exact (PySem.Str.append_empty d).symm
  | n + 1, i, d, h => by
    cases hd : r.cps.toList.drop i with
    | nil =>
      have : r.cps.toList.length ≤ i := List.drop_eq_nil_iff.mp hd
      rw [go_end (by rw [len_list]; omega)]
      exact (PySem.Str.append_empty d).symm
    | cons c t =>
      obtain ⟨e1, e2, e3⟩ := item_list hd
      by_cases hc : c = 34
      · subst hc
        have q1 : (Txt.item r (i : Int) == Str.ofString "\"") = true := by rw [e1, q_beq]; rfl
        cases t with
        | nil =>
          have : r.cps.toList.length ≤ i + 1 := List.drop_eq_nil_iff.mp e3
          rw [go_stop1 (by omega) q1 (by rw [len_list]; omega)]
          exact (PySem.Str.append_empty d).symm
        | cons k t' =>
          obtain ⟨f1, f2, f3⟩ := item_list e3
          by_cases hk : k = 34
          · subst hk
            have q2 : (Txt.item r ((i : Int) + 1) != Str.ofString "\"") = false := by
              have : ((i : Int) + 1) = ((i + 1 : Nat) : Int) := rfl
              rw [this, f1, bne, q_beq]; rfl
            rw [go_pair (by omega) q1 (by omega) q2, go_rdQ n (i + 2) _ (by omega), f3, rdQ_pair, e1]
            refine str_eq ?_
            simp only [str_toList, List.append_assoc]
            rfl
          · have q2 : (Txt.item r ((i : Int) + 1) != Str.ofString "\"") = true := by
              have : ((i : Int) + 1) = ((i + 1 : Nat) : Int) := rfl
              rw [this, f1, bne, q_beq, decide_eq_false hk]; rfl
            rw [go_stop2 (by omega) q1 (by omega) q2, rdQ_end (by simp [hk])]
            exact (PySem.Str.append_empty d).symm
      · have q1 : (Txt.item r (i : Int) == Str.ofString "\"") = false := by rw [e1, q_beq, decide_eq_false hc]
        rw [go_plain (by omega) q1, go_rdQ n (i + 1) _ (by omega), e3, rdQ_plain hc, e1]
        refine str_eq ?_
        simp only [str_toList, List.append_assoc]
        rfl
/-- parse257 of a text between quotes -/
theorem quo_is (t : PStr) : quo t = ⟨(rdQ t.cps.toList).toArray⟩ := by
  have h := q257_len t
  have e : t.length = (q257 ++ t).length - 5 := by omega
  unfold quo
  rw [e, go_rdQ _ _ _ (Nat.le_refl _), Str.empty_append, str_toList, q257_list]
  rfl
end Mine
end
section
open PySem PySem.W PyProof.Rows PySem.Spec PySem.Calls
set_option Elab.async false
set_option maxRecDepth 100000
set_option maxHeartbeats 4000000
set_option linter.all false
namespace Mine
/-- the tree of replies -/
inductive Tr where
  | nil : Tr
  | node (l : Tr) (r : PStr) (x : Tr) : Tr
noncomputable def ndT (r l x : PStr) : PStr := r ++ Str.ofString " \"" ++ dblT l ++ Str.ofString "\"" ++ x
noncomputable def Tr.txt : Tr → PStr
  | .nil => Str.empty
  | .node l r x => ndT r l.txt x.txt
noncomputable def Tr.row : Tr → List PStr
  | .nil => []
  | .node l r x => l.row ++ r :: x.row
noncomputable def Tr.size : Tr → Nat
  | .nil => 0
  | .node l _ x => l.size + 1 + x.size
theorem Tr.row_len : ∀ t : Tr, t.row.length = t.size
  | .nil => rfl
  | .node l r x => by
    unfold Tr.row Tr.size
    rw [List.length_append, List.length_cons, l.row_len, x.row_len]; omega
theorem sq_list : (Str.ofString " \"").cps.toList = [32, 34] := by decide +kernel
theorem nd_list (r l x : PStr) : (ndT r l x).cps.toList = r.cps.toList ++ 32 :: 34 :: (StrLaws.dbl 34 l.cps.toList ++ 34 :: x.cps.toList) := by
  unfold ndT
  rw [str_toList, str_toList, str_toList, str_toList, sq_list, dblT_list, qt_eq]
  simp
/-- the port that a reply tells -/
noncomputable def portOf (r : PStr) : Int := match p229 r with | .ok n => n | .error _ => 0
/-- a reply that stands in the tree -/
structure RepR (r : PStr) : Prop where
  shape : ∃ c m, r.cps.toList = 50 :: 50 :: 57 :: 32 :: c :: 32 :: (m ++ [41]) ∧ 41 ∉ c :: m ∧ 34 ∉ c :: m ∧ 57 ∉ c :: m
  len : r.length ≤ 40
  port : ∀ y : PStr, p229 (r ++ y) = .ok (portOf r) ∧ (p229in (r ++ y)).length ≤ 640
/-- a reply's letter -/
noncomputable def letOf (r : PStr) : Nat := r.cps.toList.getD 4 0
theorem RepR.q0 {r : PStr} (h : RepR r) : qn r.cps.toList = 0 := by
  obtain ⟨c, m, e, _, h34, _⟩ := h.shape
  rw [e]
  unfold qn
  refine List.count_eq_zero.mpr ?_
  simp only [List.mem_cons, List.mem_append, List.not_mem_nil, or_false, not_or] at h34 ⊢
  exact ⟨by decide, by decide, by decide, by decide, h34.1, by decide, h34.2, by decide⟩
theorem RepR.head {r : PStr} (h : RepR r) : ∃ t, r.cps.toList = 50 :: t := by
  obtain ⟨c, m, e, _⟩ := h.shape
  exact ⟨_, e⟩
/-- all its replies are such -/
noncomputable def Tr.Good : Tr → Prop
  | .nil => True
  | .node l r x => l.Good ∧ RepR r ∧ x.Good
theorem Tr.head : ∀ {t : Tr}, t.Good → t.txt.cps.toList.head? ≠ some 34
  | .nil, _ => fun h => by cases h
  | .node l r x, h => by
    obtain ⟨t, e⟩ := h.2.1.head
    show (ndT r l.txt x.txt).cps.toList.head? ≠ some 34
    rw [nd_list, e]
    simp
theorem Tr.qn_nd {r l x : PStr} (h : RepR r) : qn (ndT r l x).cps.toList = 2 + 2 * qn l.cps.toList + qn x.cps.toList := by
  rw [nd_list]
  have h0 := h.q0
  have h1 := dbl_qn l.cps.toList
  unfold qn at *
  rw [List.count_append, h0, List.count_cons, List.count_cons, List.count_append, List.count_cons, h1]
  simp
  omega
theorem nd_len (r l x : PStr) : (ndT r l x).length = r.length + 3 + l.length + qn l.cps.toList + x.length := by
  rw [len_list, nd_list]
  have := dbl_len l.cps.toList
  simp only [List.length_append, List.length_cons, len_list] at *
  omega
theorem Tr.sizes : ∀ {t : Tr}, t.Good → qn t.txt.cps.toList + 2 ≤ 2 ^ (t.size + 1) ∧ t.txt.length ≤ 43 * t.size + qn t.txt.cps.toList
  | .nil, _ => ⟨by decide, by decide⟩
  | .node l r x, h => by
    obtain ⟨hl, hr, hx⟩ := h
    obtain ⟨a1, a2⟩ := Tr.sizes hl
    obtain ⟨b1, b2⟩ := Tr.sizes hx
    have q := Tr.qn_nd (l := l.txt) (x := x.txt) hr
    have n := nd_len r l.txt x.txt
    have hlen := hr.len
    show qn (ndT r l.txt x.txt).cps.toList + 2 ≤ 2 ^ (l.size + 1 + x.size + 1) ∧ (ndT r l.txt x.txt).length ≤ 43 * (l.size + 1 + x.size) + qn (ndT r l.txt x.txt).cps.toList
    refine ⟨?_, by omega⟩
    rw [q]
    have e : 2 ^ (l.size + 1 + x.size + 1) = 2 ^ (l.size + 1) * 2 ^ (x.size + 1) := by rw [← Nat.pow_add]; congr 1
    rw [e]
    generalize 2 ^ (l.size + 1) = a at *
    generalize 2 ^ (x.size + 1) = b at *
    have h1 : 2 ≤ a := by omega
    have h2 : 2 ≤ b := by omega
    obtain ⟨a', rfl⟩ := Nat.exists_eq_add_of_le h1
    obtain ⟨b', rfl⟩ := Nat.exists_eq_add_of_le h2
    have : (2 + a') * (2 + b') = 4 + 2 * a' + 2 * b' + a' * b' := by
      rw [Nat.mul_add, Nat.add_mul]; simp only [Nat.add_mul, Nat.mul_add]; omega
    have h3 : 0 ≤ a' * b' := Nat.zero_le _
    omega
theorem Tr.len_le {t : Tr} (h : t.Good) (hs : t.size ≤ 15) : t.txt.length ≤ 67000 := by
  obtain ⟨a, b⟩ := Tr.sizes h
  have : 2 ^ (t.size + 1) ≤ 2 ^ 16 := Nat.pow_le_pow_right (by decide) (by omega)
  omega
/-! ## cutting a text -/
theorem to_n {x : PStr} {j : Nat} (h : j ≤ x.cps.toList.length) : Txt.slice x none (some (j : Int)) = ⟨(x.cps.toList.take j).toArray⟩ := by
  have := StrLaws.sliceText_to (x := x) (j := (j : Int)) ⟨by omega, by omega⟩
  refine (show Txt.slice x none (some (j : Int)) = _ from this).trans ?_
  simp
theorem from_n {x : PStr} {j : Nat} (h : j ≤ x.cps.toList.length) : Txt.slice x (some (j : Int)) none = ⟨(x.cps.toList.drop j).toArray⟩ := by
  have := StrLaws.sliceText_from (x := x) (i := (j : Int)) ⟨by omega, by omega⟩
  refine (show Txt.slice x (some (j : Int)) none = _ from this).trans ?_
  congr 2
  rw [List.take_of_length_le]
  · rfl
  · simp
theorem close_at {x : PStr} {a b : List Nat} (h : x.cps.toList = a ++ 41 :: b) (ha : 41 ∉ a) : Txt.find x (Str.ofString ")") = (a.length : Int) := by
  rw [find_is_find3, close_is]
  have hg : x.cps.getD a.length 0 = 41 := StrLaws.getD_of_getElem? (by rw [h]; simp)
  have hlen : a.length < x.length := by rw [len_list, h]; simp
  have hb : ∀ v, v < a.length → x.cps.getD v 0 ≠ 41 := fun v hv e => by
    have := StrLaws.getElem?_of_getD (x := x) (v := v) (by omega) e
    rw [h, List.getElem?_append_left hv] at this
    exact ha (List.mem_of_getElem? this)
  rcases StrLaws.find3_spec x 41 0 with ⟨_, hn⟩ | ⟨k, hk, _, hkl, hk41, hn⟩
  · exact absurd hg (hn _ (Nat.zero_le _) hlen)
  · rw [hk]
    congr 1
    rcases Nat.lt_trichotomy k a.length with q | q | q
    · exact absurd hk41 (hb k q)
    · exact q
    · exact absurd hg (hn _ (Nat.zero_le _) q)
theorem count_q (x : PStr) : Txt.count x (Str.ofString "\"") = (qn x.cps.toList : Int) := by
  rw [qt_eq, count_cnt]
  generalize x.cps.toList = l
  unfold qn
  induction l with
  | nil => rfl
  | cons k r ih =>
    rw [cnt_cons, ih, List.count_cons]
    by_cases h : k = 34
    · rw [if_pos h, if_pos (by simp [h])]; push_cast; omega
    · rw [if_neg h, if_neg (by simp [h])]; simp
section
variable {r l x : PStr} (hr : RepR r) (hx : x.cps.toList.head? ≠ some 34)
include hr
theorem nd_cut : Txt.find (ndT r l x) (Str.ofString ")") + 1 = (r.length : Int) := by
  obtain ⟨c, m, e, h41, _⟩ := hr.shape
  have : (ndT r l x).cps.toList = (50 :: 50 :: 57 :: 32 :: c :: 32 :: m) ++ 41 :: (32 :: 34 :: (StrLaws.dbl 34 l.cps.toList ++ 34 :: x.cps.toList)) := by
    rw [nd_list, e]; simp
  rw [close_at this (by simp only [List.mem_cons, not_or] at h41 ⊢; exact ⟨by decide, by decide, by decide, by decide, h41.1, by decide, h41.2⟩), len_list, e]
  simp
theorem nd_root : Txt.slice (ndT r l x) none (some (Txt.find (ndT r l x) (Str.ofString ")") + 1)) = r := by
  rw [nd_cut hr, to_n (by rw [nd_list, len_list]; simp)]
  refine str_eq ?_
  show (ndT r l x).cps.toList.take r.length = _
  rw [nd_list, len_list, List.take_left']
  rfl
theorem nd_rest : Str.ofString "257" ++ Txt.slice (ndT r l x) (some (Txt.find (ndT r l x) (Str.ofString ")") + 1)) none = q257 ++ (dblT l ++ Str.ofString "\"" ++ x) := by
  rw [nd_cut hr, from_n (by rw [nd_list, len_list]; simp)]
  refine str_eq ?_
  rw [str_toList, str_toList, str_toList, str_toList, q257_list, dblT_list, qt_eq, show (Str.ofString "257").cps.toList = [50, 53, 55] by decide +kernel]
  show [50, 53, 55] ++ (ndT r l x).cps.toList.drop r.length = _
  rw [nd_list, len_list, List.drop_left']
  · simp
  · rfl
include hx in
theorem nd_left : p257 (Str.ofString "257" ++ Txt.slice (ndT r l x) (some (Txt.find (ndT r l x) (Str.ofString ")") + 1)) none) = .ok l := by
  rw [nd_rest hr, p257_quo, quo_is, str_toList, str_toList, dblT_list, qt_eq, List.append_assoc]
  congr 1
  refine str_eq ?_
  exact rdQ_dbl hx _
theorem nd_right : Txt.slice (ndT r l x) (some (Txt.find (ndT r l x) (Str.ofString ")") + 1 + 3 + l.length + Txt.count l (Str.ofString "\""))) none = x := by
  rw [nd_cut hr, count_q]
  have e : (r.length : Int) + 3 + l.length + (qn l.cps.toList : Int) = ((r.length + 3 + l.length + qn l.cps.toList : Nat) : Int) := by push_cast; rfl
  have hn := nd_len r l x
  rw [e, from_n (by rw [← len_list]; omega)]
  refine str_eq ?_
  show (ndT r l x).cps.toList.drop _ = _
  have e2 : (ndT r l x).cps.toList = (r.cps.toList ++ 32 :: 34 :: (StrLaws.dbl 34 l.cps.toList ++ [34])) ++ x.cps.toList := by rw [nd_list]; simp
  rw [e2, List.drop_left']
  have := dbl_len l.cps.toList
  simp only [List.length_append, List.length_cons, List.length_nil, len_list]
  omega
end
end Mine
end
section
open PySem PySem.W PyProof.Rows PySem.Spec PySem.Calls
set_option Elab.async false
set_option maxRecDepth 100000
set_option maxHeartbeats 4000000
set_option linter.all false
namespace Mine
/-! ## how often «229 » stands in a text -/
/-- blocks: «229 », or a sign that is no nine; how many of the former -/
inductive Blk : List Nat → Nat → Prop where
  | nil : Blk [] 0
  | one {c : Nat} {l : List Nat} {n : Nat} : c ≠ 57 → Blk l n → Blk (c :: l) n
  | rep {l : List Nat} {n : Nat} : Blk l n → Blk (50 :: 50 :: 57 :: 32 :: l) (n + 1)
theorem Blk.append {a b : List Nat} {m n : Nat} (ha : Blk a m) (hb : Blk b n) : Blk (a ++ b) (m + n) := by
  induction ha with
  | nil => rw [Nat.zero_add]; exact hb
  | one h _ ih => exact .one h ih
  | rep _ ih => rw [Nat.add_right_comm]; exact .rep ih
theorem Blk.free : ∀ {l : List Nat}, 57 ∉ l → Blk l 0
  | [], _ => .nil
  | c :: r, h => .one (fun e => h (e ▸ List.mem_cons_self ..)) (Blk.free fun m => h (List.mem_cons_of_mem _ m))
theorem Blk.dbl {l : List Nat} {n : Nat} (h : Blk l n) : Blk (StrLaws.dbl 34 l) n := by
  induction h with
  | nil => exact .nil
  | @one c l n hc _ ih =>
    unfold StrLaws.dbl
    split
    · exact .one hc (.one hc ih)
    · exact .one hc ih
  | rep _ ih => exact .rep ih
/-- how often it stands there -/
noncomputable def c229 : List Nat → Nat
  | [] => 0
  | c :: l => (if (c :: l).take 4 = [50, 50, 57, 32] then 1 else 0) + c229 l
theorem Blk.no57 {l : List Nat} {n : Nat} {r : List Nat} (h : Blk l n) : l ≠ 57 :: r := by
  intro e
  cases h with
  | nil => cases e
  | one hc _ => cases e; exact hc rfl
  | rep _ => cases e
theorem Blk.no5057 {l : List Nat} {n : Nat} {r : List Nat} (h : Blk l n) : l ≠ 50 :: 57 :: r := by
  intro e
  cases h with
  | nil => cases e
  | one hc h' => cases e; exact h'.no57 rfl
  | rep _ => cases e
theorem c229_cons {c : Nat} {l : List Nat} (h : (c :: l).take 4 ≠ [50, 50, 57, 32]) : c229 (c :: l) = c229 l := by
  rw [c229, if_neg h, Nat.zero_add]
theorem Blk.count {l : List Nat} {n : Nat} (h : Blk l n) : c229 l = n := by
  induction h with
  | nil => rfl
  | @one c l n hc h ih =>
    rw [c229_cons, ih]
    intro e
    rcases l with _ | ⟨a, _ | ⟨b, _ | ⟨d, l⟩⟩⟩
    · cases e
    · cases e
    · cases e
    · simp only [List.take_succ_cons, List.take_zero, List.cons.injEq, and_true] at e
      obtain ⟨_, rfl, rfl, _⟩ := e
      exact h.no5057 rfl
  | @rep l n _ ih =>
    rw [c229, if_pos (by rfl : List.take 4 (50 :: 50 :: 57 :: 32 :: l) = [50, 50, 57, 32]), c229_cons (by intro e; cases e), c229_cons (by intro e; cases e), c229_cons (by intro e; cases e), ih, Nat.add_comm]
theorem Tr.blk : ∀ {t : Tr}, t.Good → Blk t.txt.cps.toList t.size
  | .nil, _ => .nil
  | .node l r x, h => by
    obtain ⟨hl, hr, hx⟩ := h
    obtain ⟨c, m, e, _, _, h57⟩ := hr.shape
    have b1 := Tr.blk hl
    have b2 := Tr.blk hx
    show Blk (ndT r l.txt x.txt).cps.toList (l.size + 1 + x.size)
    rw [nd_list, e]
    simp only [List.mem_cons, not_or] at h57
    have hm : Blk (m ++ [41]) 0 := Blk.free (by simp only [List.mem_append, List.mem_singleton, not_or]; exact ⟨h57.2, by decide⟩)
    have b3 : Blk (StrLaws.dbl 34 l.txt.cps.toList ++ 34 :: x.txt.cps.toList) (l.size + x.size) := b1.dbl.append (.one (by decide) b2)
    have b4 : Blk (c :: 32 :: (m ++ [41])) 0 := .one (Ne.symm h57.1) (.one (by decide) hm)
    have b5 := b4.append (Blk.one (c := 32) (by decide) (.one (c := 34) (by decide) b3))
    have b6 := Blk.rep b5
    have en : 0 + (l.size + x.size) + 1 = l.size + 1 + x.size := by omega
    rw [en] at b6
    exact b6
abbrev p229s : PStr := Str.ofString "229 "
theorem p229s_eq : p229s = ⟨#[50, 50, 57, 32]⟩ := by decide +kernel
theorem at_iff (x : PStr) (i : Nat) : StrLaws.At x p229s x.length i ↔ (x.cps.toList.drop i).take 4 = [50, 50, 57, 32] := by
  rw [p229s_eq]
  unfold StrLaws.At
  rw [StrLaws.subAt_eq]
  show _ ∧ ((x.cps.toList.drop i).take 4 == [50, 50, 57, 32]) = true ↔ _
  rw [beq_iff_eq]
  refine ⟨fun h => h.2, fun h => ⟨?_, h⟩⟩
  have := congrArg List.length h
  simp only [List.length_take, List.length_drop, List.length_cons, List.length_nil] at this
  show i + 4 ≤ x.length
  rw [len_list]; omega
theorem c229_skip {l : List Nat} {a : Nat} : ∀ (d : Nat), (∀ k, a ≤ k → k < a + d → (l.drop k).take 4 ≠ [50, 50, 57, 32]) → c229 (l.drop a) = c229 (l.drop (a + d))
  | 0, _ => rfl
  | d + 1, h => by
    rw [c229_skip d fun k h1 h2 => h k h1 (by omega)]
    have hk := h (a + d) (by omega) (by omega)
    show _ = c229 (l.drop (a + d + 1))
    rw [← List.drop_drop (i := 1) (j := a + d)]
    cases e : l.drop (a + d) with
    | nil => rfl
    | cons c r =>
      rw [e] at hk
      rw [c229_cons hk]; rfl
theorem c229_hit {l : List Nat} {b : Nat} (h : (l.drop b).take 4 = [50, 50, 57, 32]) : c229 (l.drop b) = 1 + c229 (l.drop (b + 4)) := by
  rw [← List.drop_drop (i := 4) (j := b)]
  rcases e : l.drop b with _ | ⟨a1, _ | ⟨a2, _ | ⟨a3, _ | ⟨a4, r⟩⟩⟩⟩ <;> rw [e] at h
  · cases h
  · cases h
  · cases h
  · cases h
  simp only [List.take_succ_cons, List.take_zero, List.cons.injEq, and_true] at h
  obtain ⟨rfl, rfl, rfl, rfl⟩ := h
  rw [c229, if_pos (by rfl : List.take 4 (50 :: 50 :: 57 :: 32 :: r) = [50, 50, 57, 32]), c229_cons (by intro e; cases e), c229_cons (by intro e; cases e), c229_cons (by intro e; cases e)]
  rfl
theorem c229_end {l : List Nat} : ∀ (n a : Nat), l.length - a ≤ n → (∀ k, a ≤ k → (l.drop k).take 4 ≠ [50, 50, 57, 32]) → c229 (l.drop a) = 0
  | 0, a, hn, _ => by rw [List.drop_eq_nil_of_le (by omega)]; rfl
  | n + 1, a, hn, h => by
    rw [c229_skip 1 fun k h1 _ => h k h1]
    exact c229_end n (a + 1) (by omega) fun k h1 => h k (by omega)
theorem c229_chain {x : PStr} : ∀ (cuts : List Nat) (a f : Nat), StrLaws.ChainG x p229s x.length a cuts f → (∀ k, f ≤ k → ¬ StrLaws.At x p229s x.length k) → c229 (x.cps.toList.drop a) = cuts.length
  | [], a, f, h, hn => by
    have e : f = a := h
    subst e
    exact c229_end _ _ (Nat.le_refl _) fun k hk e => hn k hk ((at_iff x k).mpr e)
  | c :: r, a, f, ⟨h1, h2, h3, h4⟩, hn => by
    obtain ⟨d, rfl⟩ := Nat.exists_eq_add_of_le h1
    rw [c229_skip d fun k k1 k2 e => h3 k k1 k2 ((at_iff x k).mpr e), c229_hit ((at_iff x _).mp h2)]
    have e4 : p229s.length = 4 := by decide +kernel
    rw [e4] at h4
    rw [c229_chain r _ f h4 hn, List.length_cons]; omega
theorem count_229 (x : PStr) : Txt.count x p229s = (c229 x.cps.toList : Int) := by
  obtain ⟨f, h, hn⟩ := StrLaws.occ_tight x p229s (by decide +kernel)
  have := c229_chain _ 0 f h hn
  rw [List.drop_zero] at this
  rw [this]
  rfl
theorem Tr.count {t : Tr} (h : t.Good) : Txt.count t.txt p229s = (t.size : Int) := by rw [count_229, (Tr.blk h).count]
end Mine
end
section
open PySem PySem.W PyProof.Rows PySem.Spec PySem.Calls
set_option Elab.async false
set_option maxRecDepth 100000
set_option maxHeartbeats 4000000
set_option linter.all false
namespace Mine
/-- a newcomer goes ahead of y -/
noncomputable def Ahd (ah : Bool) (p : Int) (y : PStr) : Prop := p < portOf y ∨ (p = portOf y ∧ ah = true)
noncomputable instance (ah : Bool) (p : Int) (y : PStr) : Decidable (Ahd ah p y) := by unfold Ahd; infer_instance
noncomputable def hungT (ah : Bool) (new : PStr) (p : Int) : Tr → Tr
  | .nil => .node .nil new .nil
  | .node l r x => if Ahd ah p r then .node (hungT ah new p l) r x else .node l r (hungT ah new p x)
noncomputable def joinT : Tr → Tr → Tr
  | .nil, b => b
  | .node al ar ax, .nil => .node al ar ax
  | .node al ar ax, .node bl br bx => if letOf ar < letOf br then .node al ar (joinT ax (.node bl br bx)) else .node (joinT (.node al ar ax) bl) br bx
  termination_by a b => a.size + b.size
  decreasing_by all_goals (simp only [Tr.size]; omega)
noncomputable def withoutT : Tr → Nat → Tr
  | .nil, _ => .nil
  | .node l r x, p => if p = l.size then joinT l x else if p < l.size then .node (withoutT l p) r x else .node l r (withoutT x (p - l.size - 1))
/-- in the order of coming from the root down -/
noncomputable def Tr.Hp : Tr → Prop
  | .nil => True
  | .node l r x => l.Hp ∧ x.Hp ∧ (∀ y ∈ l.row, letOf r < letOf y) ∧ (∀ y ∈ x.row, letOf r < letOf y)
theorem Tr.good_iff : ∀ t : Tr, t.Good ↔ ∀ y ∈ t.row, RepR y
  | .nil => ⟨fun _ y hy => (nomatch hy), fun _ => trivial⟩
  | .node l r x => by
    show l.Good ∧ RepR r ∧ x.Good ↔ ∀ y ∈ l.row ++ r :: x.row, RepR y
    rw [l.good_iff, x.good_iff]
    simp only [List.mem_append, List.mem_cons]
    refine ⟨fun ⟨a, b, c⟩ y hy => ?_, fun h => ⟨fun y hy => h y (.inl hy), h r (.inr (.inl rfl)), fun y hy => h y (.inr (.inr hy))⟩⟩
    rcases hy with h | rfl | h
    · exact a y h
    · exact b
    · exact c y h
section
variable {ah : Bool} {new : PStr} {p : Int}
theorem hung_row : ∀ {t : Tr} {a b : List PStr}, t.row = a ++ b → (∀ y ∈ a, ¬ Ahd ah p y) → (∀ y ∈ b, Ahd ah p y) → (hungT ah new p t).row = a ++ new :: b
  | .nil, a, b, h, _, _ => by
    obtain ⟨rfl, rfl⟩ := List.append_eq_nil_iff.mp (h.symm : a ++ b = [])
    rfl
  | .node l r x, a, b, h, ha, hb => by
    have h : l.row ++ r :: x.row = a ++ b := h
    unfold hungT
    rcases List.append_eq_append_iff.mp h with ⟨c, h1, h2⟩ | ⟨c, h1, h2⟩
    · -- a = l.row ++ c, r :: x.row = c ++ b
      cases c with
      | nil =>
        have hr : Ahd ah p r := hb r (by rw [show b = r :: x.row from h2.symm]; exact List.mem_cons_self ..)
        rw [if_pos hr]
        rw [List.append_nil] at h1
        show (hungT ah new p l).row ++ r :: x.row = _
        rw [hung_row (t := l) (a := l.row) (b := []) (by rw [List.append_nil]) (fun y hy => ha y (h1 ▸ hy)) (fun y hy => (nomatch hy)), h1, show b = r :: x.row from h2.symm]
        simp
      | cons k c =>
        obtain ⟨rfl, h3⟩ : r = k ∧ x.row = c ++ b := by injection h2 with e1 e2; exact ⟨e1, e2⟩
        have hr : ¬ Ahd ah p r := ha r (by rw [h1]; simp)
        rw [if_neg hr]
        show l.row ++ r :: (hungT ah new p x).row = _
        rw [hung_row h3 (fun y hy => ha y (by rw [h1]; simp [hy])) hb, h1]
        simp
    · -- l.row = a ++ c, b = c ++ r :: x.row
      have hr : Ahd ah p r := hb r (by rw [h2]; simp)
      rw [if_pos hr]
      show (hungT ah new p l).row ++ r :: x.row = _
      rw [hung_row h1 ha (fun y hy => hb y (by rw [h2]; simp [hy])), h2]
      simp
theorem hung_mem : ∀ {t : Tr} {y : PStr}, y ∈ (hungT ah new p t).row → y = new ∨ y ∈ t.row
  | .nil, y, h => by
    rcases List.mem_cons.mp (show y ∈ [new] from h) with h | h
    · exact .inl h
    · cases h
  | .node l r x, y, h => by
    unfold hungT at h
    show y = new ∨ y ∈ l.row ++ r :: x.row
    split at h
    · rcases List.mem_append.mp (show y ∈ (hungT ah new p l).row ++ r :: x.row from h) with h | h
      · rcases hung_mem h with h | h
        · exact .inl h
        · exact .inr (List.mem_append_left _ h)
      · exact .inr (List.mem_append_right _ h)
    · rcases List.mem_append.mp (show y ∈ l.row ++ r :: (hungT ah new p x).row from h) with h | h
      · exact .inr (List.mem_append_left _ h)
      · rcases List.mem_cons.mp h with rfl | h
        · exact .inr (List.mem_append_right _ (List.mem_cons_self ..))
        · rcases hung_mem h with h | h
          · exact .inl h
          · exact .inr (List.mem_append_right _ (List.mem_cons_of_mem _ h))
theorem hung_size : ∀ {t : Tr}, (hungT ah new p t).size = t.size + 1
  | .nil => rfl
  | .node l r x => by
    unfold hungT
    split
    · show (hungT ah new p l).size + 1 + x.size = l.size + 1 + x.size + 1
      rw [hung_size]; omega
    · show l.size + 1 + (hungT ah new p x).size = l.size + 1 + x.size + 1
      rw [hung_size]; omega
theorem hung_hp : ∀ {t : Tr}, t.Hp → (∀ y ∈ t.row, letOf y < letOf new) → (hungT ah new p t).Hp
  | .nil, _, _ => ⟨trivial, trivial, fun y hy => (nomatch hy), fun y hy => (nomatch hy)⟩
  | .node l r x, ⟨h1, h2, h3, h4⟩, hn => by
    have hl : ∀ y ∈ l.row, letOf y < letOf new := fun y hy => hn y (List.mem_append_left _ hy)
    have hx : ∀ y ∈ x.row, letOf y < letOf new := fun y hy => hn y (List.mem_append_right _ (List.mem_cons_of_mem _ hy))
    have hr : letOf r < letOf new := hn r (List.mem_append_right _ (List.mem_cons_self ..))
    unfold hungT
    split
    · refine ⟨hung_hp h1 hl, h2, fun y hy => ?_, h4⟩
      rcases hung_mem hy with rfl | hy
      · exact hr
      · exact h3 y hy
    · refine ⟨h1, hung_hp h2 hx, h3, fun y hy => ?_⟩
      rcases hung_mem hy with rfl | hy
      · exact hr
      · exact h4 y hy
end
theorem join_row (a b : Tr) : (joinT a b).row = a.row ++ b.row := by
  fun_induction joinT a b with
  | case1 b => rfl
  | case2 al ar ax => exact (List.append_nil _).symm
  | case3 al ar ax bl br bx h ih =>
    show al.row ++ ar :: (joinT ax (.node bl br bx)).row = (al.row ++ ar :: ax.row) ++ _
    rw [ih]; simp
  | case4 al ar ax bl br bx h ih =>
    show (joinT (.node al ar ax) bl).row ++ br :: bx.row = _ ++ (bl.row ++ br :: bx.row)
    rw [ih]; simp
theorem join_hp (a b : Tr) : a.Hp → b.Hp → (∀ y ∈ a.row, ∀ z ∈ b.row, letOf y ≠ letOf z) → (joinT a b).Hp := by
  fun_induction joinT a b with
  | case1 b => exact fun _ h _ => h
  | case2 al ar ax => exact fun h _ _ => h
  | case3 al ar ax bl br bx h ih =>
    rintro ⟨a1, a2, a3, a4⟩ hb hn
    have hn' : ∀ y ∈ ax.row, ∀ z ∈ (Tr.node bl br bx).row, letOf y ≠ letOf z := fun y hy => hn y (List.mem_append_right _ (List.mem_cons_of_mem _ hy))
    refine ⟨a1, ih a2 hb hn', a3, fun y hy => ?_⟩
    rw [join_row] at hy
    rcases List.mem_append.mp hy with hy | hy
    · exact a4 y hy
    · rcases List.mem_append.mp (show y ∈ bl.row ++ br :: bx.row from hy) with hy | hy
      · exact Nat.lt_trans h (hb.2.2.1 y hy)
      · rcases List.mem_cons.mp hy with rfl | hy
        · exact h
        · exact Nat.lt_trans h (hb.2.2.2 y hy)
  | case4 al ar ax bl br bx h ih =>
    rintro ha ⟨b1, b2, b3, b4⟩ hn
    have hn' : ∀ y ∈ (Tr.node al ar ax).row, ∀ z ∈ bl.row, letOf y ≠ letOf z := fun y hy z hz => hn y hy z (List.mem_append_left _ hz)
    have hne := hn ar (List.mem_append_right _ (List.mem_cons_self ..)) br (List.mem_append_right _ (List.mem_cons_self ..))
    have h' : letOf br < letOf ar := by omega
    refine ⟨ih ha b1 hn', b2, fun y hy => ?_, b4⟩
    rw [join_row] at hy
    rcases List.mem_append.mp hy with hy | hy
    · rcases List.mem_append.mp (show y ∈ al.row ++ ar :: ax.row from hy) with hy | hy
      · exact Nat.lt_trans h' (ha.2.2.1 y hy)
      · rcases List.mem_cons.mp hy with rfl | hy
        · exact h'
        · exact Nat.lt_trans h' (ha.2.2.2 y hy)
    · exact b3 y hy
/-- no two of one letter -/
noncomputable def Distinct (l : List PStr) : Prop := l.Pairwise fun y z => letOf y ≠ letOf z
theorem without_row : ∀ {t : Tr} {p : Nat}, p < t.size → (withoutT t p).row = t.row.eraseIdx p
  | .nil, p, h => absurd h (Nat.not_lt_zero _)
  | .node l r x, p, h => by
    have hp : p < l.size + 1 + x.size := h
    have hl := l.row_len
    show _ = (l.row ++ r :: x.row).eraseIdx p
    unfold withoutT
    split
    · rename_i e
      rw [join_row, List.eraseIdx_append_of_length_le (by omega), e, hl, Nat.sub_self]
      rfl
    · rename_i e
      split
      · rename_i e2
        rw [List.eraseIdx_append_of_lt_length (by omega), ← without_row e2]
        rfl
      · rename_i e2
        rw [List.eraseIdx_append_of_length_le (by omega), hl]
        obtain ⟨q, hq⟩ : ∃ q, p - l.size = q + 1 := ⟨p - l.size - 1, by omega⟩
        have hq2 : p - l.size - 1 = q := by omega
        rw [hq2, hq]
        show l.row ++ r :: (withoutT x q).row = l.row ++ r :: x.row.eraseIdx q
        rw [without_row (by omega)]
theorem without_mem {t : Tr} {p : Nat} (h : p < t.size) {y : PStr} (hy : y ∈ (withoutT t p).row) : y ∈ t.row := by
  rw [without_row h] at hy
  exact List.mem_of_mem_eraseIdx hy
theorem without_hp : ∀ {t : Tr} {p : Nat}, p < t.size → t.Hp → Distinct t.row → (withoutT t p).Hp
  | .nil, p, h, _, _ => absurd h (Nat.not_lt_zero _)
  | .node l r x, p, h, ⟨h1, h2, h3, h4⟩, hd => by
    have hp : p < l.size + 1 + x.size := h
    have hd : (l.row ++ r :: x.row).Pairwise fun y z => letOf y ≠ letOf z := hd
    obtain ⟨d1, d2, d3⟩ := List.pairwise_append.mp hd
    obtain ⟨d4, d5⟩ := List.pairwise_cons.mp d2
    unfold withoutT
    split
    · exact join_hp l x h1 h2 fun y hy z hz => d3 y hy z (List.mem_cons_of_mem _ hz)
    · rename_i e
      split
      · rename_i e2
        exact ⟨without_hp e2 h1 d1, h2, fun y hy => h3 y (without_mem e2 hy), h4⟩
      · rename_i e2
        exact ⟨h1, without_hp (by omega) h2 d5, h3, fun y hy => h4 y (without_mem (by omega) hy)⟩
/-- where the first of its letter stands -/
theorem Tr.least {l x : Tr} {r : PStr} (h : (Tr.node l r x).Hp) {i : Nat} {y : PStr} (hi : (Tr.node l r x).row[i]? = some y)
    (hb : ∀ (j : Nat) (z : PStr), (Tr.node l r x).row[j]? = some z → letOf y ≤ letOf z) : i = l.size ∧ y = r := by
  obtain ⟨_, _, h3, h4⟩ := h
  have hl := l.row_len
  have hi : (l.row ++ r :: x.row)[i]? = some y := hi
  have hbr := hb l.size r (by
    show (l.row ++ r :: x.row)[l.size]? = some r
    rw [List.getElem?_append_right (by omega), hl, Nat.sub_self]; rfl)
  rcases Nat.lt_trichotomy i l.size with q | q | q
  · rw [List.getElem?_append_left (by omega)] at hi
    have := h3 _ (List.mem_of_getElem? hi)
    omega
  · refine ⟨q, ?_⟩
    rw [List.getElem?_append_right (by omega), q, hl, Nat.sub_self] at hi
    exact (Option.some.inj hi).symm
  · rw [List.getElem?_append_right (by omega)] at hi
    obtain ⟨k, hk⟩ : ∃ k, i - l.row.length = k + 1 := ⟨i - l.row.length - 1, by omega⟩
    rw [hk, List.getElem?_cons_succ] at hi
    have := h4 _ (List.mem_of_getElem? hi)
    omega
theorem Tr.first {l x : Tr} {r : PStr} (h : (Tr.node l r x).Hp) : (∀ (j : Nat) (z : PStr), j < l.size → (Tr.node l r x).row[j]? = some z → z ≠ r) ∧ (Tr.node l r x).row[l.size]? = some r := by
  obtain ⟨_, _, h3, h4⟩ := h
  have hl := l.row_len
  refine ⟨fun j z hj hz e => ?_, ?_⟩
  · have hz : (l.row ++ r :: x.row)[j]? = some z := hz
    rw [List.getElem?_append_left (by omega)] at hz
    have := h3 _ (List.mem_of_getElem? hz)
    rw [e] at this
    omega
  · show (l.row ++ r :: x.row)[l.size]? = some r
    rw [List.getElem?_append_right (by omega), hl, Nat.sub_self]; rfl
end Mine
end
section
open PySem PySem.W PyProof.Rows PySem.Spec PySem.Calls
set_option Elab.async false
set_option maxRecDepth 100000
set_option maxHeartbeats 4000000
set_option linter.all false
namespace Mine
theorem strs_split : ∀ {a b : List PStr} {r : PStr} {vs : List Value}, StrsAre vs (a ++ r :: b) → ∃ v1 t v2, vs = v1 ++ .str r t :: v2 ∧ StrsAre v1 a ∧ StrsAre v2 b
  | [], b, r, _, .cons _ t h => ⟨[], t, _, rfl, .nil, h⟩
  | _ :: a, b, r, _, .cons k u h => by
    obtain ⟨v1, t, v2, e, h1, h2⟩ := strs_split (a := a) h
    exact ⟨.str k u :: v1, t, v2, by rw [e]; rfl, .cons k u h1, h2⟩
section
variable {prog : Program} {w : World} {A : Around} {E : Value → Shared → Prop} {s : Shared} {h₀ : Heap} {L : Addr} {m : PStr → Option Value} {news : Ldg} {vs : List Value} {ep : Nat}
theorem eq_strs_L {x y : Addr} {ws : List Value} {xs ys : List PStr} {e2 : Nat} {Q : Value → Shared → Prop} (N : News h₀ L s.heap news) (hx : (x, lstOf vs ep) ∈ news) (hy : (y, lstOf ws e2) ∈ news) (h1 : StrsAre vs xs) (h2 : StrsAre ws ys) (hu : A.units + 64 < cLine)
    (h : Q (.bool (decide (xs = ys))) s) : wpAny (model prog w) A (compareOp .Eq (.ref x) (.ref y)) Q E s := by
  have l1 := h1.len_eq
  have l2 := h2.len_eq
  by_cases hl : xs.length = ys.length
  · refine PySem.SeqAt.RcAt.lists (e := fun j => xs.getD j Str.empty == ys.getD j Str.empty) (News.isList N hx) (News.isList N hy) (by simp; omega) (by omega) (fun j j1 j2 => ?_) prog w E Q ?_
    · obtain ⟨t, e1⟩ := strs_at h1 j (by simpa using j1)
      obtain ⟨u, e2⟩ := strs_at h2 j (by simpa using j2)
      simp only [List.getElem_toArray, e1, e2]
      exact PySem.SeqAt.EqAt.str_str _ _ _ _
    · have : vs.toArray.size = xs.length := by simp; omega
      rw [this, all_getD xs ys hl]
      exact h
  · refine PySem.SeqAt.RcAt.lists_lengths (News.isList N hx) (News.isList N hy) (by simp; omega) (by omega) prog w E Q ?_
    have : decide (xs = ys) = false := by
      simp only [decide_eq_false_iff_not]
      exact fun e => hl (by rw [e])
    rw [this] at h
    exact h
/-! a row v1 ++ r :: v2, its places -/
variable {v1 v2 : List Value} {a b : List PStr} {r : PStr} {t : Tok} {d : Addr}
theorem strs_mid (h1 : StrsAre v1 a) (h2 : StrsAre v2 b) : StrsAre (v1 ++ .str r t :: v2) (a ++ r :: b) := by
  induction h1 with
  | nil => exact .cons r t h2
  | cons k u _ ih => exact .cons k u ih
theorem eq_nil_L {y : Addr} {e2 : Nat} {Q : Value → Shared → Prop} (N : News h₀ L s.heap news) (hx : (d, lstOf (v1 ++ .str r t :: v2) ep) ∈ news) (hy : (y, lstOf [] e2) ∈ news) (hu : A.units + 64 < cLine)
    (h : Q (.bool false) s) : wpAny (model prog w) A (compareOp .Eq (.ref d) (.ref y)) Q E s :=
  PySem.SeqAt.RcAt.lists_lengths (News.isList N hx) (News.isList N hy) (by simp) (by omega) prog w E Q h
theorem index_mid {k : PStr} {u : Tok} {Q : Value → Shared → Prop} (N : News h₀ L s.heap news) (hx : (d, lstOf (v1 ++ .str r t :: v2) ep) ∈ news) (h1 : StrsAre v1 a) (h2 : StrsAre v2 b) (hk : k = r) (hf : ∀ (j : Nat) (z : PStr), j < a.length → (a ++ r :: b)[j]? = some z → z ≠ r) (hz : a.length ≤ 1000)
    (h : Q (.int (a.length : Int) s.toks) { s with toks := s.toks + 1 }) : wpAny (model prog w) A (call (.builtin "list.index") [.ref d, .str k u]) Q E s := by
  subst hk
  have hS := strs_mid (r := k) (t := t) h1 h2
  have hl := h1.len_eq
  have hget : ∀ (j : Nat) (hj : j < (v1 ++ .str k t :: v2).length), isStrOf k (v1 ++ .str k t :: v2)[j] = ((a ++ k :: b).getD j Str.empty == k) := fun j hj => by
    obtain ⟨t', e⟩ := strs_at hS j hj
    rw [e]; rfl
  refine call_meets PySem.F.slot_list_index ⟨_, (N _ hx).1, rfl⟩ PySem.F.entry_list_index (PySem.F.args_list_index_2 _ _)
    (MeetsSeq.list_index d (v1 ++ .str k t :: v2).toArray ep (.str k u) (isStrOf k) (fun y hy => eq_isStrOf k u hS y (by simpa using hy)) a.length (by simp; omega) (by omega) ?_ (fun j hj hlt => ?_)) ⟨(N _ hx).1, h⟩
  · have := hget a.length (by simp; omega)
    simp only [List.getElem_toArray]
    rw [this, List.getD_eq_getElem?_getD, List.getElem?_append_right (Nat.le_refl _), Nat.sub_self]
    simp
  · have hj' : j < (v1 ++ .str k t :: v2).length := by simpa using hj
    have := hget j hj'
    simp only [List.getElem_toArray]
    rw [this, beq_eq_false_iff_ne]
    refine hf j _ hlt ?_
    rw [List.getD_eq_getElem?_getD, List.getElem?_eq_getElem (by simp; omega)]
    rfl
theorem item_mid {k : Int} {u : Tok} {value slice : PySem.Expr} {Q : Value → Shared → Prop} (N : News h₀ L s.heap news) (hx : (d, lstOf (v1 ++ .str r t :: v2) ep) ∈ news) (h1 : StrsAre v1 a) (hk : k = (a.length : Int)) (hz : a.length ≤ 1000) (h : Q (.str r t) s)
    (hs : subscripted slice false (.ref d) (.int k u) = operate [.ref d, .int k u] (getItem (.ref d) (.int k u)) := by with_unfolding_all rfl) :
    wpAny (model prog w) A (subscriptTail value slice (.ref d) (.int k u)) Q E s := by
  subst hk
  have hL := News.isList N hx
  have hl := h1.len_eq
  exact tail_any hL.typeIs slot_list_getitem.lookup (wpAny_getItem_list hL (by omega) (by omega) (by simp [← hl]) h) hs
theorem pick_to {vs : List Value} {k : Int} (h0 : 0 ≤ k) (hk : k ≤ vs.length) : kms_pick vs none (some k) = vs.take k.toNat := by
  unfold kms_pick kms_lo kms_hi
  simp only [if_neg (show ¬ k < 0 by omega)]
  simp
theorem pick_l (h1 : StrsAre v1 a) : kms_pick (v1 ++ .str r t :: v2) none (some (a.length : Int)) = v1 := by
  have hl := h1.len_eq
  rw [pick_to (by omega) (by simp; omega), ← hl]
  simp
theorem pick_r (h1 : StrsAre v1 a) : kms_pick (v1 ++ .str r t :: v2) (some ((a.length : Int) + 1)) none = v2 := by
  have hl := h1.len_eq
  rw [kms_from (by omega), ← hl]
  have : ((v1.length : Int) + 1).toNat = v1.length + 1 := by omega
  rw [this, List.drop_append]
  simp
/-- min over a tree's row: its root -/
theorem min_tr {q : Addr} {l x : Tr} {Q : Value → Shared → Prop} (hh : A.handled = none) (F : Fr h₀ L s.heap m) (N : News h₀ L s.heap news) (hx : (d, lstOf (v1 ++ .str r t :: v2) ep) ∈ news) (h1 : StrsAre v1 l.row) (h2 : StrsAre v2 x.row) (hp : (Tr.node l r x).Hp)
    (turn : ∀ (y : PStr) (t' : Tok) (h : Heap) (tk : Nat) (own : Ldg), y ∈ l.row ++ r :: x.row → Fr h₀ L h m → News h₀ L h (news ++ own) →
      wpAny (model prog w) A.in1 (call (.ref q) [.str y t']) (KeyEnd h₀ L m (news ++ own) (letOf y) { s with heap := h, toks := tk }) (fun _ _ => False) { s with heap := h, toks := tk })
    (hQ : ∀ h' tk', Fr h₀ L h' m → News h₀ L h' news → Q (.str r t) { s with heap := h', toks := tk' }) :
    wpAny (model prog w) A (call (.builtin "min") [.ref d] [(Str.ofString "key", .ref q)]) Q E s := by
  have hS := strs_mid (r := r) (t := t) h1 h2
  have hlen := hS.len_eq
  have hget : ∀ (j : Nat) (v : Value), (v1 ++ .str r t :: v2)[j]? = some v → ∃ t', v = .str ((l.row ++ r :: x.row).getD j Str.empty) t' ∧ (l.row ++ r :: x.row).getD j Str.empty ∈ l.row ++ r :: x.row := fun j v hv => by
    obtain ⟨hj, e⟩ := List.getElem?_eq_some_iff.mp hv
    obtain ⟨t', e'⟩ := strs_at hS j hj
    refine ⟨t', by rw [← e, e'], ?_⟩
    rw [List.getD_eq_getElem?_getD, List.getElem?_eq_getElem (by omega)]
    exact List.getElem_mem ..
  refine min_key (fun j => letOf ((l.row ++ r :: x.row).getD j Str.empty)) hh F N (fun h F' N' => News.isList N' hx) (by simp; omega) (fun j v hv h tk own F' N' => ?_) (fun j v h' tk' hv fm F' N' => ?_)
  · obtain ⟨t', rfl, hm⟩ := hget j v hv
    exact turn _ t' h tk own hm F' N'
  · obtain ⟨hj, ej⟩ := List.getElem?_eq_some_iff.mp hv
    have hj2 : j < (l.row ++ r :: x.row).length := by omega
    obtain ⟨e1, e2⟩ := Tr.least hp (i := j) (y := (l.row ++ r :: x.row).getD j Str.empty) (by
      show (l.row ++ r :: x.row)[j]? = _
      rw [List.getD_eq_getElem?_getD, List.getElem?_eq_getElem hj2]; rfl) (fun n z hz => by
      have hz : (l.row ++ r :: x.row)[n]? = some z := hz
      have hn := (List.getElem?_eq_some_iff.mp hz).1
      have := (fm.2 n (by omega)).1
      have ez : (l.row ++ r :: x.row).getD n Str.empty = z := by rw [List.getD_eq_getElem?_getD, hz]; rfl
      simp only [ez] at this
      exact this)
    have hl1 := h1.len_eq
    have hl := l.row_len
    have ev : v = .str r t := by
      rw [e1, ← hl, ← hl1] at hv
      simpa using hv.symm
    rw [ev]
    exact hQ h' tk' F' N'
end
end Mine
end
section
open PySem PySem.W PyProof.Rows PySem.Spec PySem.Calls
set_option Elab.async false
set_option maxRecDepth 100000
set_option maxHeartbeats 4000000
set_option linter.all false
namespace Mine
/-! ## the bisection of a row in order -/
theorem bis_at_count {r : Bool} {ky : Nat → Int} {x : Int} {n c : Nat} (hc : ∀ i, i < n → ((if r then x < ky i else ¬ ky i < x) ↔ c ≤ i)) :
    ∀ (f lo hi : Nat), hi - lo ≤ f → lo ≤ c → c ≤ hi → hi ≤ n → bis r (fun i => .ok (ky i)) x f lo hi = .ok c
  | 0, lo, hi, h, h1, h2, _ => by
    have : lo = c := by omega
    rw [this]; rfl
  | f + 1, lo, hi, h, h1, h2, h3 => by
    by_cases hl : lo < hi
    · rw [bis, if_pos hl]
      have hm := hc ((lo + hi) / 2) (by omega)
      by_cases hq : (if r then x < ky ((lo + hi) / 2) else ¬ ky ((lo + hi) / 2) < x)
      · simp only [hq, if_true]
        have := hm.mp hq
        exact bis_at_count hc f lo _ (by omega) h1 this (by omega)
      · simp only [hq, if_false]
        have : ¬ c ≤ (lo + hi) / 2 := fun q => hq (hm.mpr q)
        exact bis_at_count hc f _ hi (by omega) (by omega) h2 h3
    · rw [bis, if_neg hl]
      have : lo = c := by omega
      rw [this]
theorem bis_congr {r : Bool} {k k' : Nat → KRes} {x : Int} {n : Nat} (h : ∀ i, i < n → k i = k' i) : ∀ (f lo hi : Nat), hi ≤ n → bis r k x f lo hi = bis r k' x f lo hi
  | 0, _, _, _ => rfl
  | f + 1, lo, hi, hn => by
    by_cases hl : lo < hi
    · rw [bis, bis, if_pos hl, if_pos hl, h _ (by omega)]
      cases k' ((lo + hi) / 2) with
      | error e => rfl
      | ok y =>
        show (if (if r then x < y else ¬ y < x) then bis r k x f lo ((lo + hi) / 2) else bis r k x f ((lo + hi) / 2 + 1) hi) = (if (if r then x < y else ¬ y < x) then bis r k' x f lo ((lo + hi) / 2) else bis r k' x f ((lo + hi) / 2 + 1) hi)
        rw [bis_congr h f lo _ (by omega), bis_congr h f _ hi hn]
    · rw [bis, bis, if_neg hl, if_neg hl]
/-- how many stand below -/
theorem count_below {α : Type} (q : α → Bool) : ∀ (l : List α), (l.Pairwise fun y z => q z = true → q y = true) → ∀ (i : Nat) (h : i < l.length), (q l[i] = true ↔ i < (l.filter q).length)
  | [], _, i, h => absurd h (Nat.not_lt_zero _)
  | y :: l, hp, i, h => by
    obtain ⟨h1, h2⟩ := List.pairwise_cons.mp hp
    cases hy : q y with
    | true =>
      rw [List.filter_cons_of_pos hy, List.length_cons]
      cases i with
      | zero => exact ⟨fun _ => Nat.succ_pos _, fun _ => hy⟩
      | succ i =>
        have := count_below q l h2 i (Nat.lt_of_succ_lt_succ h)
        rw [List.getElem_cons_succ, this]; omega
    | false =>
      have hn : ∀ z ∈ l, q z = false := fun z hz => by
        cases e : q z with
        | false => rfl
        | true => have := h1 z hz e; rw [hy] at this; cases this
      have hf : l.filter q = [] := List.filter_eq_nil_iff.mpr fun z hz => by rw [hn z hz]; exact Bool.false_ne_true
      rw [List.filter_cons_of_neg (by rw [hy]; exact Bool.false_ne_true), hf]
      cases i with
      | zero => simp [hy]
      | succ i =>
        rw [List.getElem_cons_succ, hn _ (List.getElem_mem ..)]
        simp
/-- a row in the order of ports -/
noncomputable def Srt (l : List PStr) : Prop := l.Pairwise fun y z => portOf y ≤ portOf z
/-- how many are less, how many are not greater -/
noncomputable def lessT (p : Int) (l : List PStr) : Nat := (l.filter fun y => decide (portOf y < p)).length
noncomputable def uptoT (p : Int) (l : List PStr) : Nat := (l.filter fun y => decide (portOf y ≤ p)).length
section
variable {l : List PStr} {p : Int}
theorem less_at (h : Srt l) {i : Nat} (hi : i < l.length) : portOf l[i] < p ↔ i < lessT p l := by
  have := count_below (fun y => decide (portOf y < p)) l (h.imp fun {y z} hyz e => by simp only [decide_eq_true_eq] at e ⊢; omega) i hi
  simp only [decide_eq_true_eq] at this
  exact this
theorem upto_at (h : Srt l) {i : Nat} (hi : i < l.length) : portOf l[i] ≤ p ↔ i < uptoT p l := by
  have := count_below (fun y => decide (portOf y ≤ p)) l (h.imp fun {y z} hyz e => by simp only [decide_eq_true_eq] at e ⊢; omega) i hi
  simp only [decide_eq_true_eq] at this
  exact this
theorem less_le : lessT p l ≤ l.length := List.length_filter_le ..
theorem upto_le : uptoT p l ≤ l.length := List.length_filter_le ..
theorem less_upto (h : Srt l) : lessT p l ≤ uptoT p l := by
  rcases Nat.lt_or_ge (uptoT p l) (lessT p l) with q | q
  · have hl : uptoT p l < l.length := Nat.lt_of_lt_of_le q less_le
    have h1 := (less_at (p := p) h hl).mpr q
    have h2 := (upto_at (p := p) h hl).mp (by omega)
    omega
  · exact q
theorem RepR.p0 {y : PStr} (h : RepR y) : p229 y = .ok (portOf y) := by
  have := (h.port Str.empty).1
  rwa [PySem.Str.append_empty] at this
theorem row_key (hg : ∀ y ∈ l, RepR y) {i : Nat} (hi : i < l.length) : p229 (l.getD i Str.empty) = .ok (portOf (l.getD i Str.empty)) := by
  rw [List.getD_eq_getElem?_getD, List.getElem?_eq_getElem hi]
  exact (hg _ (List.getElem_mem ..)).p0
/-- where it comes, where it is found: r: behind the like ones -/
noncomputable def plT (r : Bool) (p : Int) (l : List PStr) : Nat := if r then uptoT p l else lessT p l
theorem pl_le {r : Bool} : plT r p l ≤ l.length := by
  unfold plT; split
  · exact upto_le
  · exact less_le
theorem bis_row {r : Bool} (hg : ∀ y ∈ l, RepR y) (hs : Srt l) : bisZ r (fun i => p229 (l.getD i Str.empty)) p 0 l.length = .ok (plT r p l) := by
  show bisZ r _ p ((0 : Nat) : Int) _ = _
  rw [bisZ_nat, bis_congr (k' := fun i => .ok (portOf (l.getD i Str.empty))) (fun i hi => row_key hg hi) _ _ _ (Nat.le_refl _)]
  refine bis_at_count (n := l.length) (fun i hi => ?_) _ _ _ (Nat.le_refl _) (Nat.zero_le _) pl_le (Nat.le_refl _)
  have e : l.getD i Str.empty = l[i] := by rw [List.getD_eq_getElem?_getD, List.getElem?_eq_getElem hi]; rfl
  rw [e]
  unfold plT
  cases r with
  | true =>
    simp only [if_true]
    have := upto_at (p := p) hs hi
    omega
  | false =>
    simp only [Bool.false_eq_true, if_false]
    have := less_at (p := p) hs hi
    omega
end
/-! ## the tree through the turns -/
structure TrSt (t : Tr) (i : Nat) : Prop where
  good : t.Good
  hp : t.Hp
  srt : Srt t.row
  lets : ∀ y ∈ t.row, letOf y < 97 + i
  dist : Distinct t.row
  size : t.size ≤ i
theorem TrSt.nil : TrSt .nil 0 := ⟨trivial, trivial, .nil, fun y hy => (nomatch hy), .nil, Nat.le_refl _⟩
theorem TrSt.up {t : Tr} {i : Nat} (h : TrSt t i) : TrSt t (i + 1) := ⟨h.good, h.hp, h.srt, fun y hy => by have := h.lets y hy; omega, h.dist, Nat.le_succ_of_le h.size⟩
theorem TrSt.rep {t : Tr} {i : Nat} (h : TrSt t i) : ∀ y ∈ t.row, RepR y := (Tr.good_iff t).mp h.good
section
variable {t : Tr} {i : Nat} {new : PStr}
/-- the row with a newcomer -/
theorem TrSt.ins_row (h : TrSt t i) (ah : Bool) : (hungT ah new (portOf new) t).row = t.row.take (plT (!ah) (portOf new) t.row) ++ new :: t.row.drop (plT (!ah) (portOf new) t.row) := by
  refine hung_row (List.take_append_drop _ _).symm (fun y hy => ?_) (fun y hy => ?_)
  · obtain ⟨j, hj, e⟩ := List.getElem_of_mem hy
    rw [List.length_take] at hj
    rw [List.getElem_take] at e
    have hjl : j < t.row.length := by omega
    unfold plT at hj
    unfold Ahd
    rw [← e]
    cases ah with
    | true =>
      have := (less_at (p := portOf new) h.srt hjl).mpr (by simp at hj; omega)
      omega
    | false =>
      have := (upto_at (p := portOf new) h.srt hjl).mpr (by simp at hj; omega)
      simp
      omega
  · obtain ⟨j, hj, e⟩ := List.getElem_of_mem hy
    rw [List.length_drop] at hj
    rw [List.getElem_drop] at e
    have hjl : plT (!ah) (portOf new) t.row + j < t.row.length := by omega
    unfold Ahd
    rw [← e]
    cases ah with
    | true =>
      have h1 := less_at (p := portOf new) h.srt hjl
      have : ¬ (plT (!true) (portOf new) t.row + j < lessT (portOf new) t.row) := by unfold plT; simp
      have h2 : ¬ portOf t.row[plT (!true) (portOf new) t.row + j] < portOf new := fun c => this (h1.mp c)
      rcases Int.lt_or_eq_of_le (Int.not_lt.mp h2) with q | q
      · exact .inl q
      · exact .inr ⟨q, rfl⟩
    | false =>
      have h1 := upto_at (p := portOf new) h.srt hjl
      have : ¬ (plT (!false) (portOf new) t.row + j < uptoT (portOf new) t.row) := by unfold plT; simp
      exact .inl (Int.not_le.mp fun c => this (h1.mp c))
theorem TrSt.ins (h : TrSt t i) (ah : Bool) (hn : RepR new) (hl : letOf new = 97 + i) : TrSt (hungT ah new (portOf new) t) (i + 1) where
  good := by
    rw [Tr.good_iff]
    intro y hy
    rcases hung_mem hy with rfl | hy
    · exact hn
    · exact h.rep y hy
  hp := hung_hp h.hp fun y hy => by rw [hl]; exact h.lets y hy
  srt := by
    have hrow := h.ins_row (new := new) ah
    unfold Srt
    rw [hrow, List.pairwise_append, List.pairwise_cons]
    have hs : (t.row.take (plT (!ah) (portOf new) t.row) ++ t.row.drop (plT (!ah) (portOf new) t.row)).Pairwise fun y z => portOf y ≤ portOf z := by rw [List.take_append_drop]; exact h.srt
    obtain ⟨s1, s2, s3⟩ := List.pairwise_append.mp hs
    have ha : ∀ y ∈ t.row.take (plT (!ah) (portOf new) t.row), portOf y ≤ portOf new := fun y hy => by
      obtain ⟨j, hj, e⟩ := List.getElem_of_mem hy
      rw [List.length_take] at hj
      rw [List.getElem_take] at e
      have hjl : j < t.row.length := by omega
      unfold plT at hj
      rw [← e]
      cases ah with
      | true => have := (less_at (p := portOf new) h.srt hjl).mpr (by simp at hj; omega); omega
      | false => have := (upto_at (p := portOf new) h.srt hjl).mpr (by simp at hj; omega); omega
    have hb : ∀ y ∈ t.row.drop (plT (!ah) (portOf new) t.row), portOf new ≤ portOf y := fun y hy => by
      obtain ⟨j, hj, e⟩ := List.getElem_of_mem hy
      rw [List.length_drop] at hj
      rw [List.getElem_drop] at e
      have hjl : plT (!ah) (portOf new) t.row + j < t.row.length := by omega
      rw [← e]
      cases ah with
      | true =>
        have h1 := less_at (p := portOf new) h.srt hjl
        have : ¬ (plT (!true) (portOf new) t.row + j < lessT (portOf new) t.row) := by unfold plT; simp
        omega
      | false =>
        have h1 := upto_at (p := portOf new) h.srt hjl
        have : ¬ (plT (!false) (portOf new) t.row + j < uptoT (portOf new) t.row) := by unfold plT; simp
        omega
    refine ⟨s1, ⟨hb, s2⟩, fun y hy z hz => ?_⟩
    rcases List.mem_cons.mp hz with rfl | hz
    · exact ha y hy
    · exact s3 y hy z hz
  lets := fun y hy => by
    rcases hung_mem hy with rfl | hy
    · omega
    · have := h.lets y hy; omega
  dist := by
    have hrow := h.ins_row (new := new) ah
    unfold Distinct
    rw [hrow, List.pairwise_append, List.pairwise_cons]
    have hs : (t.row.take (plT (!ah) (portOf new) t.row) ++ t.row.drop (plT (!ah) (portOf new) t.row)).Pairwise fun y z => letOf y ≠ letOf z := by rw [List.take_append_drop]; exact h.dist
    obtain ⟨s1, s2, s3⟩ := List.pairwise_append.mp hs
    refine ⟨s1, ⟨fun z hz => ?_, s2⟩, fun y hy z hz => ?_⟩
    · have := h.lets z (List.mem_of_mem_drop hz); omega
    · rcases List.mem_cons.mp hz with rfl | hz
      · have := h.lets y (List.mem_of_mem_take hy); omega
      · exact s3 y hy z hz
  size := by rw [hung_size]; exact Nat.succ_le_succ h.size
theorem TrSt.del (h : TrSt t i) {p : Nat} (hp : p < t.size) : TrSt (withoutT t p) (i + 1) where
  good := by
    rw [Tr.good_iff]
    exact fun y hy => h.rep y (without_mem hp hy)
  hp := without_hp hp h.hp h.dist
  srt := by unfold Srt; rw [without_row hp]; exact h.srt.sublist (List.eraseIdx_sublist ..)
  lets := fun y hy => by have := h.lets y (without_mem hp hy); omega
  dist := by unfold Distinct; rw [without_row hp]; exact h.dist.sublist (List.eraseIdx_sublist ..)
  size := by
    have e : (withoutT t p).size = (t.row.eraseIdx p).length := by rw [← Tr.row_len, without_row hp]
    rw [e, List.length_eraseIdx_of_lt (by rw [Tr.row_len]; exact hp), Tr.row_len]
    have := h.size; omega
end
end Mine
end
section
open PySem PySem.W PyProof.Rows PySem.Spec PySem.Calls
set_option Elab.async false
set_option maxRecDepth 100000
set_option maxHeartbeats 4000000
set_option linter.all false
namespace Mine
section
variable {prog : Program} {w : World} {A : Around} {E : Value → Shared → Prop} {s : Shared}
theorem item_tupN {value slice : PySem.Expr} {a : Addr} {l : List Value} {k : Int} {u : Tok} {Q : Value → Shared → Prop} (hT : IsTup s.heap a l.toArray) (h0 : 0 ≤ k) (hk : k.toNat < l.length) (hz : l.length ≤ 1000) (h : ∀ x, l[k.toNat]? = some x → Q x s)
    (hs : subscripted slice false (.ref a) (.int k u) = operate [.ref a, .int k u] (getItem (.ref a) (.int k u)) := by with_unfolding_all rfl) :
    wpAny (model prog w) A (subscriptTail value slice (.ref a) (.int k u)) Q E s :=
  item_tupleT hT (by omega) (by omega) (StrLaws.seqIndex_nonneg h0 (by omega)) (List.getElem?_eq_getElem hk) (h _ (List.getElem?_eq_getElem hk)) hs
theorem rep_lb {x y z : PStr} {t u v : Tok} {Q : Value → Shared → Prop} (hu : u ≠ 0) (hv : v ≠ 0) (huv : u ≠ v) (hyz : (y == z) = false) (hx : x.length ≤ 40) (hz : z.length ≤ 10)
    (h : ∀ t' k, s.toks ≤ k → (Txt.replace x y z).length ≤ 450 → Q (.str (Txt.replace x y z) t') { s with toks := k }) : wpAny (model prog w) A (call (.builtin "str.replace") [.str x t, .str y u, .str z v]) Q E s :=
  wpAny_with_toks (Nat.le_refl _) (wpAny_mono (replace_small (t := t) (Q := fun v s' => s.toks ≤ s'.toks → Q v s') (E := E) hu hv huv hyz hx hz fun t' k hl hk => h t' k hk hl) (fun _ _ x => x) fun _ _ x _ => x)
end
noncomputable def dr4 (k : Nat) : PStr := match k with | 0 => Str.ofString "(|||#|)" | 1 => Str.ofString "(!1!h!#!)" | 2 => Str.ofString "(:::0#:)" | _ => Str.ofString "(   # )"
noncomputable def sh7 (k : Nat) : PStr := match k with | 0 => Str.ofString "(|||#|!)" | 1 => Str.ofString "(|||#|)" | 2 => Str.ofString "(|||x#|)" | 3 => Str.ofString ")(|||#|x" | 4 => Str.ofString "2#2)" | 5 => Str.ofString "(||#|)" | _ => Str.ofString "(||||#|)"
theorem dr4_len (k : Nat) : (dr4 k).length ≤ 40 := by
  unfold dr4; split <;> decide +kernel
theorem sh7_len (k : Nat) : (sh7 k).length ≤ 40 := by
  unfold sh7; split <;> decide +kernel
theorem four_at {k : Nat} {a b c d : Tok} {x : Value} (h : [Value.str (Str.ofString "(|||#|)") a, .str (Str.ofString "(!1!h!#!)") b, .str (Str.ofString "(:::0#:)") c, .str (Str.ofString "(   # )") d][k]? = some x) : ∃ t, x = .str (dr4 k) t := by
  match k, h with
  | 0, h => cases h; exact ⟨_, rfl⟩
  | 1, h => cases h; exact ⟨_, rfl⟩
  | 2, h => cases h; exact ⟨_, rfl⟩
  | 3, h => cases h; exact ⟨_, rfl⟩
  | n + 4, h => simp at h
theorem seven_at {k : Nat} {a b c d e f g : Tok} {x : Value} (h : [Value.str (Str.ofString "(|||#|!)") a, .str (Str.ofString "(|||#|)") b, .str (Str.ofString "(|||x#|)") c, .str (Str.ofString ")(|||#|x") d, .str (Str.ofString "2#2)") e, .str (Str.ofString "(||#|)") f, .str (Str.ofString "(||||#|)") g][k]? = some x) : ∃ t, x = .str (sh7 k) t := by
  match k, h with
  | 0, h => cases h; exact ⟨_, rfl⟩
  | 1, h => cases h; exact ⟨_, rfl⟩
  | 2, h => cases h; exact ⟨_, rfl⟩
  | 3, h => cases h; exact ⟨_, rfl⟩
  | 4, h => cases h; exact ⟨_, rfl⟩
  | 5, h => cases h; exact ⟨_, rfl⟩
  | 6, h => cases h; exact ⟨_, rfl⟩
  | n + 7, h => simp at h
/-- _law_reply's replies and what is due -/
noncomputable def rgood (k : Nat) (po le : PStr) : PStr := Str.ofString "229 " ++ le ++ Str.ofString " " ++ Txt.replace (dr4 k) (Str.ofString "#") po
noncomputable def rbad (w : Nat) (po le : PStr) : PStr := (if w = 1 then Str.ofString "228 " else Str.ofString "229 ") ++ le ++ Str.ofString " " ++ Txt.replace (sh7 w) (Str.ofString "#") po
noncomputable def dbad (w : Nat) (po le : PStr) : PStr := if w = 2 then Str.ofString "value invalid literal for int() with base 10: 'x" ++ po ++ Str.ofString "'" else (if w = 1 then Str.ofString "reply " else Str.ofString "proto ") ++ rbad w po le
theorem fmod_nn {n : Int} {k : Int} (h : 0 < k) : 0 ≤ n.fmod k ∧ (n.fmod k).toNat < k.toNat := by
  have h1 := Int.fmod_nonneg_of_pos n h
  have h2 := Int.fmod_lt_of_pos n h
  omega
end Mine
end
section
open PySem PySem.W PyProof.Rows PySem.Spec PySem.Calls
set_option Elab.async false
set_option maxRecDepth 100000
set_option maxHeartbeats 4000000
set_option linter.all false
namespace Mine
/-- what kept holds: port and reply, in the row's order -/
inductive KpAre (l : Ldg) : List Value → List PStr → Prop where
  | nil : KpAre l [] []
  | cons {r : Addr} {y : PStr} {t u : Tok} {e : Nat} {vs : List Value} {ys : List PStr} (h : (r, lstOf [.int (portOf y) t, .str y u] e) ∈ l) (hs : KpAre l vs ys) : KpAre l (.ref r :: vs) (y :: ys)
theorem KpAre.mono {l l' : Ldg} (h : ∀ p ∈ l, p ∈ l') : ∀ {vs : List Value} {ys : List PStr}, KpAre l vs ys → KpAre l' vs ys
  | _, _, .nil => .nil
  | _, _, .cons a b => .cons (h _ a) (b.mono h)
theorem KpAre.append {l : Ldg} : ∀ {vs vs' : List Value} {ys ys' : List PStr}, KpAre l vs ys → KpAre l vs' ys' → KpAre l (vs ++ vs') (ys ++ ys')
  | _, _, _, _, .nil, h => h
  | _, _, _, _, .cons a b, h => .cons a (b.append h)
theorem KpAre.length {l : Ldg} : ∀ {vs : List Value} {ys : List PStr}, KpAre l vs ys → vs.length = ys.length
  | _, _, .nil => rfl
  | _, _, .cons _ b => congrArg (· + 1) b.length
theorem KpAre.at {l : Ldg} : ∀ {vs : List Value} {ys : List PStr}, KpAre l vs ys → ∀ (i : Nat) (v : Value), vs[i]? = some v → ∃ r y t u e, v = .ref r ∧ ys[i]? = some y ∧ (r, lstOf [.int (portOf y) t, .str y u] e) ∈ l
  | _, _, .nil, i, v, h => by simp at h
  | _, _, .cons (r := r) (y := y) (t := t) (u := u) (e := e) a b, 0, v, h => ⟨r, y, t, u, e, (Option.some.inj h).symm, rfl, a⟩
  | _, _, .cons a b, i + 1, v, h => by
    obtain ⟨r, y, t, u, e, h1, h2, h3⟩ := b.at i v (by simpa using h)
    exact ⟨r, y, t, u, e, h1, by simpa using h2, h3⟩
theorem KpAre.take {l : Ldg} : ∀ {vs : List Value} {ys : List PStr} (n : Nat), KpAre l vs ys → KpAre l (vs.take n) (ys.take n)
  | _, _, 0, _ => .nil
  | _, _, _ + 1, .nil => .nil
  | _, _, n + 1, .cons a b => .cons a (b.take n)
theorem KpAre.drop {l : Ldg} : ∀ {vs : List Value} {ys : List PStr} (n : Nat), KpAre l vs ys → KpAre l (vs.drop n) (ys.drop n)
  | _, _, 0, h => h
  | _, _, _ + 1, .nil => .nil
  | _, _, n + 1, .cons _ b => b.drop n
theorem KpAre.eraseIdx {l : Ldg} : ∀ {vs : List Value} {ys : List PStr} (n : Nat), KpAre l vs ys → KpAre l (vs.eraseIdx n) (ys.eraseIdx n)
  | _, _, _, .nil => .nil
  | _, _, 0, .cons _ b => b
  | _, _, n + 1, .cons a b => .cons a (b.eraseIdx n)
section
variable {prog : Program} {w : World} {A : Around} {E : Value → Shared → Prop} {s : Shared} {h₀ : Heap} {L : Addr} {m : Str → Option Value} {news : Ldg}
/-- a comprehension with a test, by an invariant -/
theorem compT_ind {env : Env} {ct elt : PySem.Expr} {x : Str} {scope : Scope} {cl : List (Str × Addr)} {S : Ldg → Prop} {P : Nat → Value → Prop} {Fin : List Value → Ldg → Prop} {n : Nat} (J : Nat → List Value → Ldg → Prop) (hJ : J 0 [] news)
    (turn : ∀ i v I oI C oC D m₂ ys nw h tk (E' : Value → Shared → Prop), i < n → P i v → J i ys nw → LCg.NsObj oC m₂ → m₂ x = some v → Fr h₀ L h m → News h₀ L h ((I, oI) :: (C, oC) :: (D, LCg.lst ys) :: nw) → LCg.Off3 I C D nw → ((@Ne Nat I C) ∧ (@Ne Nat I D) ∧ (@Ne Nat C D)) →
      wpAny (model prog w) A (isTrue ct (compEnvC scope cl C env) (eval ct (compEnvC scope cl C env))) (fun ok s' => if ok = true then
        wpAny (model prog w) A (eval elt (compEnvC scope cl C env)) (LCg.CompEnd h₀ L m { s with heap := h, toks := tk } I oI C oC D (LCg.lst ys) S (fun y nw' => J (i + 1) (ys ++ [y]) nw')) E' s'
        else LCg.CompEnd h₀ L m { s with heap := h, toks := tk } I oI C oC D (LCg.lst ys) S (fun _ nw' => J (i + 1) ys nw') Value.none s') E' { s with heap := h, toks := tk })
    (fin : ∀ ys nw, J n ys nw → Fin ys nw) : LCt.CompRestT prog w A h₀ L m env ct elt x scope cl s S P Fin n 0 [] news := by
  have key : ∀ (j i : Nat) (ys : List Value) (nw : Ldg), i + j = n → J i ys nw → LCt.CompRestT prog w A h₀ L m env ct elt x scope cl s S P Fin j i ys nw := by
    intro j
    induction j with
    | zero =>
      intro i ys nw hi hy
      have e : i = n := by omega
      subst e
      exact LCt.CompRestT.zero (fin ys nw hy)
    | succ j ih =>
      intro i ys nw hi hy
      refine LCt.CompRestT.succ ?_
      intro v I oI C oC D m₂ h tk E' hv hC hx F N off ne
      refine wpAny_mono (turn i v I oI C oC D m₂ ys nw h tk E' (by omega) hv hy hC hx F N off ne) (fun ok s₂ hq => ?_) fun _ _ e => e
      cases ok with
      | true =>
        simp only [if_true] at hq ⊢
        refine wpAny_mono hq (fun y s₃ hr => ?_) fun _ _ e => e
        obtain ⟨h', tk', nw', e, F', N', off', hS, hj⟩ := hr
        exact ⟨h', tk', nw', e, F', N', off', hS, ih (i + 1) _ nw' (by omega) hj⟩
      | false =>
        simp only [Bool.false_eq_true, if_false] at hq ⊢
        obtain ⟨h', tk', nw', e, F', N', off', hS, hj⟩ := hq
        exact ⟨h', tk', nw', e, F', N', off', hS, ih (i + 1) _ nw' (by omega) hj⟩
  exact key n 0 [] news (by omega) hJ
end
/-- of the first i as many as pass -/
theorem filter_take {q : PStr → Bool} {l : List PStr} {i : Nat} {y : PStr} (h : l[i]? = some y) : ((l.take (i + 1)).filter q).length = ((l.take i).filter q).length + (if q y = true then 1 else 0) := by
  rw [List.take_add_one, h, List.filter_append, List.length_append]
  show _ + ([y].filter q).length = _
  by_cases hq : q y = true
  · rw [List.filter_cons_of_pos hq, if_pos hq]; rfl
  · rw [List.filter_cons_of_neg hq, if_neg hq]; rfl
abbrev cells2 (c1 c2 : Addr) : List (PStr × Addr) := [(Str.ofString "doubled", c2), (Str.ofString "port", c1)]
end Mine
end
section
open PySem PySem.W PyProof.Rows PySem.Spec PySem.Calls
set_option Elab.async false
set_option maxRecDepth 100000
set_option maxHeartbeats 4000000
set_option linter.all false
namespace Mine
theorem rowIs_of {Y : List PStr} {rvs : List Value} (hS : StrsAre rvs Y) (hg : ∀ y ∈ Y, RepR y) : RowIs 108 (.ref 108) rvs (fun i => p229 (Y.getD i Str.empty)) Y.length :=
  .inl ⟨Y, hS, rfl, rfl, rfl, fun y hy => by have := (hg y hy).len; omega⟩
theorem bis_row0 {r : Bool} {p : Int} {l : List PStr} (hg : ∀ y ∈ l, RepR y) (hs : Srt l) : bis r (fun i => p229 (l.getD i Str.empty)) p (l.length - 0) 0 l.length = .ok (plT r p l) := by
  have h := bis_row (r := r) (p := p) hg hs
  rwa [show bisZ r (fun i => p229 (l.getD i Str.empty)) p 0 l.length = bis r (fun i => p229 (l.getD i Str.empty)) p (l.length - 0) 0 l.length from bisZ_nat (lo := 0)] at h
theorem strs_erase {vs : List Value} {ys : List PStr} : ∀ (n : Nat), StrsAre vs ys → StrsAre (vs.eraseIdx n) (ys.eraseIdx n) := by
  intro n h
  induction h generalizing n with
  | nil => exact .nil
  | cons k t hs ih =>
    cases n with
    | zero => exact hs
    | succ n => exact .cons k t (ih n)
theorem cut_at : ∀ (l : List Value) (k : Nat) (h : k < l.length), kl_cut l k = some (l.take k, l[k], l.drop (k + 1))
  | [], k, h => absurd h (Nat.not_lt_zero _)
  | x :: r, 0, _ => rfl
  | x :: r, k + 1, h => by
    have := cut_at r k (Nat.lt_of_succ_lt_succ h)
    show (match kl_cut r k with | some (p, y, q) => some (x :: p, y, q) | none => none) = _
    rw [this]; rfl
theorem pop_L {prog : Program} {w : World} {A : Around} {E : Value → Shared → Prop} {s : Shared} {h₀ : Heap} {L : Addr} {m : Str → Option Value} {news : Ldg} {vs : List Value} {ep : Nat}
    {D : Addr} {x : Int} {k : Nat} {u : Tok} {Q : Value → Shared → Prop} {gN : Obj → Ldg} (F : Fr h₀ L s.heap m) (N : News h₀ L s.heap news) (U : UpdF D (lstOf vs ep) news gN) (hx : x = (k : Int)) (hk : k < vs.length) (hz : vs.length ≤ 1000)
    (h : ∀ h', Fr h₀ L h' m → News h₀ L h' (gN (lstOf (vs.eraseIdx k) (ep + 1))) → Q vs[k] { s with heap := h' }) : wpAny (model prog w) A (call (.builtin "list.pop") [.ref D, .int x u]) Q E s := by
  subst hx
  refine kl_popAt (its := vs.toArray) (n := ep) F N (by unfold Builtin.List.listFitsIndex; simp only [Bool.and_eq_true, decide_eq_true_eq]; omega) (StrLaws.seqIndex_nonneg (by omega) (by simp; omega)) (cut_at vs k hk) ?_ (Nat.le_trans (by simpa using hz) (by decide)) h
  rw [← List.eraseIdx_eq_take_drop_succ]
  exact upd_of U
theorem ne_tup_same {prog : Program} {w : World} {A : Around} {E : Value → Shared → Prop} {s : Shared} {h₀ : Heap} {L : Addr} {news : Ldg}
    {x y : Addr} {hs : PStr} {n : Int} {t u t' u' : Tok} {Q : Value → Shared → Prop} (N : News h₀ L s.heap news) (hx : (x, tupOf [.str hs t, .int n u]) ∈ news) (hy : (y, tupOf [.str hs t', .int n u']) ∈ news) (hu : A.units + 64 < cLine)
    (h : Q (.bool false) s) : wpAny (model prog w) A (compareOp .NotEq (.ref x) (.ref y)) Q E s := by
  have hxt : s.heap.IsTuple x [.str hs t, .int n u].toArray := ⟨_, (N _ hx).1, rfl, _, rfl⟩
  have hyt : s.heap.IsTuple y [.str hs t', .int n u'].toArray := ⟨_, (N _ hy).1, rfl, _, rfl⟩
  refine PySem.SeqAt.RcNeAt.tuples (e := fun _ => true) hxt hyt (by omega) (fun j j1 j2 => ?_) prog w E Q h
  match j, j1 with
  | 0, _ =>
    have := PySem.SeqAt.EqAt.str_str (A := A.in1) (s := s) hs t hs t'
    rw [beq_self_eq_true] at this
    exact this
  | 1, _ =>
    have := PySem.SeqAt.EqAt.int_int (A := A.in1) (s := s) n u n u'
    rw [beq_self_eq_true] at this
    exact this
end Mine
end
section
open PySem PySem.W PyProof.Rows PySem.Spec PySem.Calls
set_option Elab.async false
set_option maxRecDepth 100000
set_option maxHeartbeats 4000000
set_option linter.all false
namespace Mine
/-- law's own statements and names, taken out of the row -/
def lawDef2 : Option (List Stmt × Scope) := match PySem.Challenge.pw_pm0034_02.main.body.getLast? with
  | some (.FunctionDef _ _ b _ _ _ sc _ _ _) => some (b, sc)
  | _ => none
def lawStmts2 : List Stmt := match lawDef2 with
  | some (b, _) => b
  | none => []
def lawScope2 : Scope := match lawDef2 with
  | some (_, sc) => sc
  | none => default
def forBody : List Stmt → List Stmt
  | .For _ _ b _ _ :: _ => b
  | _ => []
def turn2 : List Stmt := forBody (lawStmts2.drop 2)
def ifThen : List Stmt → List Stmt
  | .If _ b _ _ :: _ => b
  | _ => []
def ifElse : List Stmt → List Stmt
  | .If _ _ b _ :: _ => b
  | _ => []
example : ∃ k n g c m, lawScope2 = Scope.mk k n g c m := ⟨_, _, _, _, _, by with_unfolding_all rfl⟩
end Mine
end
section
open PySem PySem.W PyProof.Rows PySem.Spec PySem.Calls
set_option Elab.async false
set_option maxRecDepth 100000
set_option maxHeartbeats 4000000
set_option linter.all false
namespace Mine
/-! ## parse229 by the shape of the reply -/
theorem find3_at {x : PStr} {ch : Nat} {a b : List Nat} {i : Nat} (h : x.cps.toList = a ++ ch :: b) (hi : i ≤ a.length) (ha : ∀ v, i ≤ v → v < a.length → a.getD v 0 ≠ ch) : Txt.find3 x ⟨#[ch]⟩ (i : Int) = (a.length : Int) := by
  have hg : x.cps.getD a.length 0 = ch := StrLaws.getD_of_getElem? (by rw [h]; simp)
  have hlen : a.length < x.length := by rw [len_list, h]; simp
  have hfi : fromIndex x.length (i : Int) = i := by unfold fromIndex; split <;> omega
  have hb : ∀ v, i ≤ v → v < a.length → x.cps.getD v 0 ≠ ch := fun v hv0 hv e => by
    have := StrLaws.getElem?_of_getD (x := x) (v := v) (by omega) e
    rw [h, List.getElem?_append_left hv] at this
    refine ha v hv0 hv ?_
    rw [List.getD_eq_getElem?_getD, this]; rfl
  rcases StrLaws.find3_spec x ch (i : Int) with ⟨_, hn⟩ | ⟨k, hk, hk0, hkl, hk41, hn⟩
  · rw [hfi] at hn; exact absurd hg (hn _ hi hlen)
  · rw [hfi] at hn hk0
    rw [hk]
    congr 1
    rcases Nat.lt_trichotomy k a.length with q | q | q
    · exact absurd hk41 (hb k hk0 q)
    · exact q
    · exact absurd hg (hn _ hi q)
theorem slice_mid {x : PStr} {a m b : List Nat} (h : x.cps.toList = a ++ m ++ b) : Txt.slice x (some (a.length : Int)) (some ((a.length + m.length : Nat) : Int)) = ⟨m.toArray⟩ := by
  have := StrLaws.sliceText_plain (x := x) (i := (a.length : Int)) (j := ((a.length + m.length : Nat) : Int)) ⟨by omega, by omega, by rw [h]; simp only [List.length_append]; omega⟩
  refine (show Txt.slice x (some (a.length : Int)) (some ((a.length + m.length : Nat) : Int)) = _ from this).trans ?_
  congr 2
  rw [h, show (((a.length + m.length : Nat) : Int) - (a.length : Int)).toNat = m.length by omega, show ((a.length : Int)).toNat = a.length by omega, List.append_assoc]
  simp
theorem drop_last : ∀ (l : List Nat) (d : Nat), ∃ z, (d :: l).drop l.length = [z]
  | [], d => ⟨d, rfl⟩
  | e :: l, d => by
    obtain ⟨z, hz⟩ := drop_last l e
    exact ⟨z, hz⟩
/-- what parse229 makes of what stands between the brackets -/
noncomputable def g229 (r m : PStr) : Except (EK × PStr) Int :=
  if (Txt.item m 0 != Txt.item m ((m.length : Int) - 1)) = true then .error (.proto, r) else
  if (Txt.split m (Txt.item m 0)).length ≠ 5 then .error (.proto, r) else
  match PySem.intText? ((Txt.split m (Txt.item m 0)).getD 3 Str.empty) with
  | some n => .ok n
  | none => .error (.value, intRefusal ((Txt.split m (Txt.item m 0)).getD 3 Str.empty))
section
variable {r : PStr} {c : Nat} {m rest : List Nat} (h : r.cps.toList = 50 :: 50 :: 57 :: 32 :: c :: 32 :: 40 :: (m ++ 41 :: rest)) (hc : c ≠ 40) (hm : 41 ∉ m) (h0 : m ≠ [])
include h hc hm h0
theorem shape_left : Txt.find r (Str.ofString "(") = 6 := by
  rw [find_is_find3, open_is]
  have e := find3_at (x := r) (ch := 40) (a := [50, 50, 57, 32, c, 32]) (b := m ++ 41 :: rest) (i := 0) (by rw [h]; rfl) (Nat.zero_le _) (fun v _ hv => by
    match v, hv with
    | 0, _ => show (50 : Nat) ≠ 40; decide
    | 1, _ => show (50 : Nat) ≠ 40; decide
    | 2, _ => show (57 : Nat) ≠ 40; decide
    | 3, _ => show (32 : Nat) ≠ 40; decide
    | 4, _ => exact hc
    | 5, _ => show (32 : Nat) ≠ 40; decide)
  exact e
theorem shape_right : Txt.find3 r (Str.ofString ")") 7 = ((7 + m.length : Nat) : Int) := by
  rw [close_is]
  have e := find3_at (x := r) (ch := 41) (a := 50 :: 50 :: 57 :: 32 :: c :: 32 :: 40 :: m) (b := rest) (i := 7) (by rw [h]; rfl) (by simp) (fun v hv hv2 => by
    obtain ⟨v, rfl⟩ := Nat.exists_eq_add_of_le hv
    rw [show 7 + v = v + 7 by omega]
    show m.getD v 0 ≠ 41
    simp only [List.length_cons] at hv2
    have hv3 : v < m.length := by omega
    intro q
    rw [List.getD_eq_getElem?_getD, List.getElem?_eq_getElem hv3] at q
    exact hm (q ▸ List.getElem_mem ..))
  rw [show ((7 : Nat) : Int) = 7 from rfl] at e
  rw [e]
  congr 1
  simp only [List.length_cons]; omega
theorem shape_in : p229in r = ⟨m.toArray⟩ := by
  unfold p229in
  rw [shape_left h hc hm h0, show (6 : Int) + 1 = 7 by decide, shape_right h hc hm h0]
  exact slice_mid (x := r) (a := [50, 50, 57, 32, c, 32, 40]) (m := m) (b := 41 :: rest) (by rw [h]; simp)
theorem p229_shape : p229 r = g229 r ⟨m.toArray⟩ := by
  have hl := shape_left h hc hm h0
  have hr := shape_right h hc hm h0
  have hin := shape_in h hc hm h0
  unfold p229in at hin
  rw [hl, show (6 : Int) + 1 = 7 by decide, hr] at hin
  have h3 : Txt.slice r none (some 3) = Str.ofString "229" := by
    rw [show (3 : Int) = ((3 : Nat) : Int) from rfl, to_n (by rw [h]; simp)]
    rw [h]
    show (⟨#[50, 50, 57]⟩ : PStr) = _
    decide +kernel
  obtain ⟨d, m', rfl⟩ := List.exists_cons_of_ne_nil h0
  have i7 : Txt.item r 7 = ⟨#[d]⟩ := (item_list (r := r) (i := 7) (c := d) (t := m' ++ 41 :: rest) (by rw [h]; rfl)).1
  have m0 : Txt.item ⟨(d :: m').toArray⟩ 0 = ⟨#[d]⟩ := (item_list (r := ⟨(d :: m').toArray⟩) (i := 0) (c := d) (t := m') (by simp)).1
  obtain ⟨z, hz⟩ := drop_last m' d
  have z1 : Txt.item r (((7 + (d :: m').length : Nat) : Int) - 1) = ⟨#[z]⟩ := by
    have := (item_list (r := r) (i := 7 + m'.length) (c := z) (t := 41 :: rest) (by
      rw [h]
      have e : 50 :: 50 :: 57 :: 32 :: c :: 32 :: 40 :: (d :: m' ++ 41 :: rest) = [50, 50, 57, 32, c, 32, 40] ++ (d :: m' ++ 41 :: rest) := rfl
      rw [e, ← List.drop_drop, show List.drop 7 ([50, 50, 57, 32, c, 32, 40] ++ (d :: m' ++ 41 :: rest)) = d :: m' ++ 41 :: rest from rfl, List.drop_append_of_le_length (by simp), hz]
      rfl)).1
    rw [show ((7 + (d :: m').length : Nat) : Int) - 1 = ((7 + m'.length : Nat) : Int) by simp only [List.length_cons]; omega]
    exact this
  have z2 : Txt.item ⟨(d :: m').toArray⟩ ((((d :: m').length : Nat) : Int) - 1) = ⟨#[z]⟩ := by
    have := (item_list (r := ⟨(d :: m').toArray⟩) (i := m'.length) (c := z) (t := []) (by simpa using hz)).1
    rw [show (((d :: m').length : Nat) : Int) - 1 = ((m'.length : Nat) : Int) by simp only [List.length_cons]; omega]
    exact this
  have ml : (⟨(d :: m').toArray⟩ : PStr).length = (d :: m').length := by rw [len_list]
  unfold p229 g229
  rw [h3, hl, show (6 : Int) + 1 = 7 by decide, hr, i7, z1, m0, ml, z2, hin]
  rw [if_neg (by simp), if_neg (by decide), if_neg (by omega)]
  all_goals rfl
end
end Mine
end
section
open PySem PySem.W PyProof.Rows PySem.Spec PySem.Calls
set_option Elab.async false
set_option maxRecDepth 100000
set_option maxHeartbeats 4000000
set_option linter.all false
namespace Mine
/-- parse229's answer, without the reply's own text -/
noncomputable def g229c (m : PStr) : Sum Int (Option PStr) :=
  if (Txt.item m 0 != Txt.item m ((m.length : Int) - 1)) = true then .inr none else
  if (Txt.split m (Txt.item m 0)).length ≠ 5 then .inr none else
  match PySem.intText? ((Txt.split m (Txt.item m 0)).getD 3 Str.empty) with
  | some n => .inl n
  | none => .inr (some (intRefusal ((Txt.split m (Txt.item m 0)).getD 3 Str.empty)))
theorem g229_c (r m : PStr) : g229 r m = (match g229c m with | .inl n => .ok n | .inr none => .error (.proto, r) | .inr (some t) => .error (.value, t)) := by
  unfold g229 g229c
  by_cases h1 : (Txt.item m 0 != Txt.item m ((m.length : Int) - 1)) = true
  · rw [if_pos h1, if_pos h1]
  · rw [if_neg h1, if_neg h1]
    by_cases h2 : (Txt.split m (Txt.item m 0)).length ≠ 5
    · rw [if_pos h2, if_pos h2]
    · rw [if_neg h2, if_neg h2]
      cases PySem.intText? ((Txt.split m (Txt.item m 0)).getD 3 Str.empty) <;> rfl
noncomputable abbrev poT (j : Nat) : PStr := Str.ofString (toString ((j : Int) * 6))
noncomputable def gL (k j : Nat) : List Nat := (Txt.replace (dr4 k) (Str.ofString "#") (poT j)).cps.toList
noncomputable def bL (w j : Nat) : List Nat := (Txt.replace (sh7 w) (Str.ofString "#") (poT j)).cps.toList
noncomputable def midOf (l : List Nat) : List Nat := (l.drop 1).dropLast
noncomputable def okMid (l : List Nat) : Bool := decide (l = 40 :: (midOf l ++ [41])) && decide (41 ∉ midOf l) && decide (midOf l ≠ []) && decide (l.length ≤ 30)
noncomputable def okGood (j : Nat) (l : List Nat) : Bool := okMid l && decide (34 ∉ midOf l) && decide (57 ∉ midOf l) && decide (g229c ⟨(midOf l).toArray⟩ = .inl ((j : Int) * 6))
noncomputable def okBad (w j : Nat) (l : List Nat) : Bool := match w with
  | 1 => decide (l.length ≤ 30)
  | 3 => decide (l = 41 :: 40 :: l.drop 2) && decide (41 ∉ l.drop 2) && decide (l.length ≤ 30)
  | 4 => decide (40 ∉ l) && decide (l.length ≤ 30)
  | 2 => okMid l && decide (g229c ⟨(midOf l).toArray⟩ = .inr (some (intRefusal (Str.ofString "x" ++ poT j)))) && decide (toldTxt .value (intRefusal (Str.ofString "x" ++ poT j)) = Str.ofString "value invalid literal for int() with base 10: 'x" ++ poT j ++ Str.ofString "'") && decide ((PySem.reprText ((Txt.split ⟨(midOf l).toArray⟩ (Txt.item ⟨(midOf l).toArray⟩ 0)).getD 3 Str.empty)).length ≤ 10000)
  | _ => okMid l && decide (g229c ⟨(midOf l).toArray⟩ = .inr none)
theorem good_tab : ((List.range 4).all fun k => (List.range 5).all fun j => okGood j (gL k j)) = true := by decide +kernel
theorem bad_tab : ((List.range 7).all fun w => (List.range 5).all fun j => okBad w j (bL w j)) = true := by decide +kernel
theorem pos_tab : ((List.range 5).all fun j => decide ((poT j).length ≤ 8) && !(Str.ofString "#" == poT j)) = true := by decide +kernel
theorem good_at {k j : Nat} (hk : k < 4) (hj : j < 5) : okGood j (gL k j) = true := List.all_eq_true.mp (List.all_eq_true.mp good_tab k (List.mem_range.mpr hk)) j (List.mem_range.mpr hj)
theorem bad_at {k j : Nat} (hk : k < 7) (hj : j < 5) : okBad k j (bL k j) = true := List.all_eq_true.mp (List.all_eq_true.mp bad_tab k (List.mem_range.mpr hk)) j (List.mem_range.mpr hj)
theorem pos_at {j : Nat} (hj : j < 5) : (poT j).length ≤ 8 ∧ (Str.ofString "#" == poT j) = false := by
  have := List.all_eq_true.mp pos_tab j (List.mem_range.mpr hj)
  simp only [Bool.and_eq_true, decide_eq_true_eq, Bool.not_eq_true'] at this
  exact this
theorem okMid_is {l : List Nat} (h : okMid l = true) : ∃ m, l = 40 :: (m ++ [41]) ∧ midOf l = m ∧ 41 ∉ m ∧ m ≠ [] ∧ l.length ≤ 30 := by
  unfold okMid at h
  simp only [Bool.and_eq_true, decide_eq_true_eq] at h
  obtain ⟨⟨⟨h1, h2⟩, h3⟩, h4⟩ := h
  exact ⟨_, h1, rfl, h2, h3, h4⟩
theorem n229_list : (Str.ofString "229 ").cps.toList = [50, 50, 57, 32] := by decide +kernel
theorem n228_list : (Str.ofString "228 ").cps.toList = [50, 50, 56, 32] := by decide +kernel
theorem sp_list : (Str.ofString " ").cps.toList = [32] := by decide +kernel
section
variable {c : Nat} (hc : 97 ≤ c)
theorem rgood_list (k j : Nat) : (rgood k (poT j) ⟨#[c]⟩).cps.toList = 50 :: 50 :: 57 :: 32 :: c :: 32 :: gL k j := by
  unfold rgood gL
  rw [str_toList, str_toList, str_toList, n229_list, sp_list]
  rfl
theorem rbad_list (w j : Nat) (hw : w ≠ 1) : (rbad w (poT j) ⟨#[c]⟩).cps.toList = 50 :: 50 :: 57 :: 32 :: c :: 32 :: bL w j := by
  unfold rbad bL
  rw [if_neg hw, str_toList, str_toList, str_toList, n229_list, sp_list]
  rfl
theorem rbad_list1 (j : Nat) : (rbad 1 (poT j) ⟨#[c]⟩).cps.toList = 50 :: 50 :: 56 :: 32 :: c :: 32 :: bL 1 j := by
  unfold rbad bL
  rw [if_pos rfl, str_toList, str_toList, str_toList, n228_list, sp_list]
  rfl
include hc
/-- a good reply may stand in the tree -/
theorem good_rep {k j : Nat} (hk : k < 4) (hj : j < 5) : RepR (rgood k (poT j) ⟨#[c]⟩) ∧ portOf (rgood k (poT j) ⟨#[c]⟩) = (j : Int) * 6 ∧ letOf (rgood k (poT j) ⟨#[c]⟩) = c := by
  have h := good_at hk hj
  have hl := rgood_list (c := c) k j
  unfold okGood at h
  simp only [Bool.and_eq_true, decide_eq_true_eq] at h
  obtain ⟨⟨⟨h1, h34⟩, h57⟩, hg⟩ := h
  obtain ⟨m, e, em, h41, h0, hlen⟩ := okMid_is h1
  rw [em] at h34 h57 hg
  rw [e] at hl
  have sh : ∀ y : PStr, p229 (rgood k (poT j) ⟨#[c]⟩ ++ y) = .ok ((j : Int) * 6) ∧ (p229in (rgood k (poT j) ⟨#[c]⟩ ++ y)).length ≤ 640 := fun y => by
    have hy : (rgood k (poT j) ⟨#[c]⟩ ++ y).cps.toList = 50 :: 50 :: 57 :: 32 :: c :: 32 :: 40 :: (m ++ 41 :: y.cps.toList) := by
      rw [str_toList, hl]; simp
    refine ⟨?_, ?_⟩
    · rw [p229_shape hy (by omega) h41 h0, g229_c, hg]
    · rw [shape_in hy (by omega) h41 h0, len_list]
      rw [e] at hlen
      simp at hlen ⊢
      omega
  have hp : portOf (rgood k (poT j) ⟨#[c]⟩) = (j : Int) * 6 := by
    have := (sh Str.empty).1
    rw [PySem.Str.append_empty] at this
    unfold portOf
    rw [this]
  refine ⟨⟨⟨c, 40 :: m, by rw [hl]; rfl, ?_, ?_, ?_⟩, ?_, ?_⟩, hp, ?_⟩
  · simp only [List.mem_cons, not_or]; exact ⟨by omega, by decide, h41⟩
  · simp only [List.mem_cons, not_or]; exact ⟨by omega, by decide, h34⟩
  · simp only [List.mem_cons, not_or]; exact ⟨by omega, by decide, h57⟩
  · rw [len_list, hl]
    rw [e] at hlen
    simp at hlen ⊢
    omega
  · intro y
    rw [hp]
    exact sh y
  · unfold letOf
    rw [hl]; rfl
end
end Mine
end
section
open PySem PySem.W PyProof.Rows PySem.Spec PySem.Calls
set_option Elab.async false
set_option maxRecDepth 100000
set_option maxHeartbeats 4000000
set_option linter.all false
namespace Mine
theorem find3_none {x : PStr} {ch i : Nat} (h : ∀ v, i ≤ v → v < x.cps.toList.length → x.cps.toList.getD v 0 ≠ ch) : Txt.find3 x ⟨#[ch]⟩ (i : Int) < 0 := by
  rcases StrLaws.find3_spec x ch (i : Int) with ⟨e, _⟩ | ⟨k, hk, hk0, hkl, hk41, hn⟩
  · rw [e]; decide
  · exfalso
    have hi : i ≤ k := by
      unfold fromIndex at hk0
      split at hk0 <;> omega
    rw [len_list] at hkl
    refine h k hi hkl ?_
    have := StrLaws.getElem?_of_getD (x := x) (v := k) (by rw [len_list]; exact hkl) hk41
    rw [List.getD_eq_getElem?_getD, this]; rfl
theorem getD_ne {l : List Nat} {ch v : Nat} (h : ch ∉ l) (hv : v < l.length) : l.getD v 0 ≠ ch := fun e => by
  rw [List.getD_eq_getElem?_getD, List.getElem?_eq_getElem hv] at e
  exact h (e ▸ List.getElem_mem ..)
theorem none_of {x : PStr} {ch : Nat} (h : ch ∉ x.cps.toList) : Txt.find x ⟨#[ch]⟩ < 0 := by
  rw [find_is_find3]
  exact find3_none (i := 0) fun v _ hv => getD_ne h hv
theorem proto_txt (r : PStr) : toldTxt .proto r = Str.ofString "proto " ++ r := rfl
theorem reply_txt (r : PStr) : toldTxt .reply r = Str.ofString "reply " ++ r := rfl
section
variable {c j : Nat} (hc : 97 ≤ c) (hj : j < 5)
include hc hj
/-- a spoiled reply is refused -/
theorem bad_rep {w : Nat} (hw : w < 7) : ∃ ek msg, p229 (rbad w (poT j) ⟨#[c]⟩) = .error (ek, msg) ∧ toldTxt ek msg = dbad w (poT j) ⟨#[c]⟩ ∧ (rbad w (poT j) ⟨#[c]⟩).length ≤ 640 ∧ (ek = .value → RepOk (rbad w (poT j) ⟨#[c]⟩)) := by
  have h := bad_at hw hj
  -- by the brackets
  have mid : okMid (bL w j) = true → w ≠ 1 → ∃ m, (rbad w (poT j) ⟨#[c]⟩).cps.toList = 50 :: 50 :: 57 :: 32 :: c :: 32 :: 40 :: (m ++ 41 :: []) ∧ midOf (bL w j) = m ∧ 41 ∉ m ∧ m ≠ [] ∧ (rbad w (poT j) ⟨#[c]⟩).length ≤ 640 := fun h1 hw1 => by
    obtain ⟨m, e, em, h41, h0, hlen⟩ := okMid_is h1
    have hl := rbad_list (c := c) w j hw1
    refine ⟨m, by rw [hl, e], em, h41, h0, ?_⟩
    rw [len_list, hl]
    simp; omega
  have plain : okMid (bL w j) = true → g229c ⟨(midOf (bL w j)).toArray⟩ = .inr none → w ≠ 1 → w ≠ 2 → ∃ ek msg, p229 (rbad w (poT j) ⟨#[c]⟩) = .error (ek, msg) ∧ toldTxt ek msg = dbad w (poT j) ⟨#[c]⟩ ∧ (rbad w (poT j) ⟨#[c]⟩).length ≤ 640 ∧ (ek = .value → RepOk (rbad w (poT j) ⟨#[c]⟩)) := fun h1 h2 h3 h4 => by
    obtain ⟨m, hl, em, h41, h0, hlen⟩ := mid h1 h3
    rw [em] at h2
    refine ⟨.proto, rbad w (poT j) ⟨#[c]⟩, ?_, ?_, hlen, fun e => nomatch e⟩
    · rw [p229_shape hl (by omega) h41 h0, g229_c, h2]
    · rw [proto_txt]
      unfold dbad
      rw [if_neg h4, if_neg h3]
  match w, hw with
  | 0, _ =>
    unfold okBad at h
    simp only [Bool.and_eq_true, decide_eq_true_eq] at h
    exact plain h.1 h.2 (by decide) (by decide)
  | 5, _ =>
    unfold okBad at h
    simp only [Bool.and_eq_true, decide_eq_true_eq] at h
    exact plain h.1 h.2 (by decide) (by decide)
  | 6, _ =>
    unfold okBad at h
    simp only [Bool.and_eq_true, decide_eq_true_eq] at h
    exact plain h.1 h.2 (by decide) (by decide)
  | 1, _ =>
    unfold okBad at h
    simp only [decide_eq_true_eq] at h
    have hl := rbad_list1 (c := c) j
    refine ⟨.reply, rbad 1 (poT j) ⟨#[c]⟩, p229_code ?_, ?_, ?_, fun e => nomatch e⟩
    · rw [show (3 : Int) = ((3 : Nat) : Int) from rfl, to_n (by rw [hl]; simp), hl]
      show ((⟨#[50, 50, 56]⟩ : PStr) != _) = true
      decide +kernel
    · rw [reply_txt]; rfl
    · rw [len_list, hl]; simp; omega
  | 2, _ =>
    unfold okBad at h
    simp only [Bool.and_eq_true, decide_eq_true_eq] at h
    obtain ⟨⟨⟨h1, h2⟩, h3⟩, h4⟩ := h
    obtain ⟨m, hl, em, h41, h0, hlen⟩ := mid h1 (by decide)
    rw [em] at h2 h4
    refine ⟨.value, intRefusal (Str.ofString "x" ++ poT j), ?_, ?_, hlen, fun _ => ⟨?_⟩⟩
    · rw [p229_shape hl (by omega) h41 h0, g229_c, h2]
    · rw [h3]; rfl
    · unfold p229part
      have e6 := shape_left hl (by omega) h41 h0
      have e7 : Txt.item (rbad 2 (poT j) ⟨#[c]⟩) 7 = Txt.item ⟨m.toArray⟩ 0 := by
        obtain ⟨d, m', rfl⟩ := List.exists_cons_of_ne_nil h0
        have i7 := (item_list (r := rbad 2 (poT j) ⟨#[c]⟩) (i := 7) (c := d) (t := m' ++ 41 :: []) (by rw [hl]; rfl)).1
        have m0 := (item_list (r := ⟨(d :: m').toArray⟩) (i := 0) (c := d) (t := m') (by simp)).1
        exact i7.trans m0.symm
      rw [shape_in hl (by omega) h41 h0, e6, show (6 : Int) + 1 = 7 by decide, e7]
      exact h4
  | 3, _ =>
    unfold okBad at h
    simp only [Bool.and_eq_true, decide_eq_true_eq] at h
    obtain ⟨⟨h1, h2⟩, h3⟩ := h
    have hl := rbad_list (c := c) 3 j (by decide)
    rw [h1] at hl
    generalize (bL 3 j).drop 2 = m at *
    have eo : Txt.find (rbad 3 (poT j) ⟨#[c]⟩) (Str.ofString "(") = 7 := by
      rw [find_is_find3, open_is]
      exact find3_at (x := rbad 3 (poT j) ⟨#[c]⟩) (ch := 40) (a := [50, 50, 57, 32, c, 32, 41]) (b := m) (i := 0) (by rw [hl]; rfl) (Nat.zero_le _) (fun v _ hv => by
        match v, hv with
        | 0, _ => show (50 : Nat) ≠ 40; decide
        | 1, _ => show (50 : Nat) ≠ 40; decide
        | 2, _ => show (57 : Nat) ≠ 40; decide
        | 3, _ => show (32 : Nat) ≠ 40; decide
        | 4, _ => show c ≠ 40; omega
        | 5, _ => show (32 : Nat) ≠ 40; decide
        | 6, _ => show (41 : Nat) ≠ 40; decide)
    refine ⟨.proto, rbad 3 (poT j) ⟨#[c]⟩, p229_close ?_ ?_ ?_, ?_, ?_, fun e => nomatch e⟩
    · rw [show (3 : Int) = ((3 : Nat) : Int) from rfl, to_n (by rw [hl]; simp), hl]
      show ((⟨#[50, 50, 57]⟩ : PStr) != _) = false
      decide +kernel
    · rw [eo]; decide
    · rw [eo, close_is]
      refine find3_none (i := 8) fun v hv hl2 => ?_
      rw [hl] at hl2 ⊢
      obtain ⟨u, rfl⟩ := Nat.exists_eq_add_of_le hv
      rw [show 8 + u = u + 8 by omega]
      simp only [List.length_cons] at hl2
      show m.getD u 0 ≠ 41
      exact getD_ne h2 (by omega)
    · rw [proto_txt]; rfl
    · rw [len_list, hl]
      rw [h1] at h3
      simp at h3 ⊢; omega
  | 4, _ =>
    unfold okBad at h
    simp only [Bool.and_eq_true, decide_eq_true_eq] at h
    have hl := rbad_list (c := c) 4 j (by decide)
    refine ⟨.proto, rbad 4 (poT j) ⟨#[c]⟩, p229_open ?_ ?_, ?_, ?_, fun e => nomatch e⟩
    · rw [show (3 : Int) = ((3 : Nat) : Int) from rfl, to_n (by rw [hl]; simp), hl]
      show ((⟨#[50, 50, 57]⟩ : PStr) != _) = false
      decide +kernel
    · rw [open_is]
      refine none_of ?_
      rw [hl]
      simp only [List.mem_cons, not_or]
      exact ⟨by decide, by decide, by decide, by decide, by omega, by decide, h.1⟩
    · rw [proto_txt]; rfl
    · rw [len_list, hl]
      have := h.2
      simp; omega
end
end Mine
end
section
open PySem PySem.W PyProof.Rows PySem.Spec PySem.Calls
set_option Elab.async false
set_option maxRecDepth 100000
set_option maxHeartbeats 4000000
set_option linter.all false
namespace Mine
theorem fr_ext {g h : Heap} {L : Addr} {M : PStr → Option Value} (F : Fr g L h M) : ∃ M', M' = M ∧ Fr g L h M' := ⟨M, rfl, F⟩
section
variable {M : Model} {A : Around} {E : Value → Shared → Prop} {s : Shared} {env : Env} {Q : Flow → Shared → Prop}
theorem chunk_any {l : List Stmt} {k : Nat} (n : Nat) (h : wpAny M A (execs ((l.drop k).take n) env) (fun f s' => match f with | .next => wpC M A (execs (l.drop (k + n)) env) Q E s' | f => Q f s') E s) : wpC M A (execs (l.drop k) env) Q E s := by
  have e : l.drop k = (l.drop k).take n ++ l.drop (k + n) := by rw [← List.drop_drop, List.take_append_drop]
  rw [e]
  exact execs_pre h
theorem chunk_C {l : List Stmt} {k : Nat} (n : Nat) (h : wpC M A (execs ((l.drop k).take n) env) (fun f s' => match f with | .next => wpC M A (execs (l.drop (k + n)) env) Q E s' | f => Q f s') E s) : wpC M A (execs (l.drop k) env) Q E s := by
  have e : l.drop k = (l.drop k).take n ++ l.drop (k + n) := by rw [← List.drop_drop, List.take_append_drop]
  rw [e, execs_app]
  refine wpC_bind (wpC_mono h (fun f s' h' => ?_) fun _ _ x => x)
  cases f <;> first | exact h' | exact wpC_pure h'
/-- one statement that is an if -/
theorem ifS_C {test : PySem.Expr} {body orelse : List Stmt} {pos : Pos}
    (h : wpC M A (isTrue test env (eval test env)) (fun b s₂ => if b then wpC M A (execs body env) Q E s₂ else wpC M A (execs orelse env) Q E s₂) E s) : wpC M A (execs [.If test body orelse pos] env) Q E s := by
  refine execs_C ?_
  refine wpC_mono (if_C h) (fun f s' h' => ?_) fun _ _ x => x
  cases f <;> first | exact h' | exact wpC_any (wpAny_execs_nil h')
end
theorem kl_ins_nat {l : List Value} {n : Nat} {x : Int} {y : Value} (hx : x = (n : Int)) (h : n ≤ l.length) : kl_ins l x y = l.take n ++ y :: l.drop n := by
  subst hx
  unfold kl_ins
  rw [if_neg (by omega), show min ((n : Int)).toNat l.length = n by omega]
theorem strs_put {vs : List Value} {ys : List PStr} {n : Nat} {x : Int} {y : PStr} {t : Tok} (h : StrsAre vs ys) (hx : x = (n : Int)) (hn : n ≤ ys.length) : StrsAre (kl_ins vs x (.str y t)) (ys.take n ++ y :: ys.drop n) := by
  rw [kl_ins_nat hx (by rw [h.len_eq]; exact hn)]
  exact (h.take' n).append' (.cons y t (h.drop' n))
theorem kp_put {l : Ldg} {vs : List Value} {ys : List PStr} {n : Nat} {x : Int} {y : PStr} {r : Addr} {t u : Tok} {e : Nat} (h : KpAre l vs ys) (hx : x = (n : Int)) (hn : n ≤ ys.length) (hr : (r, lstOf [.int (portOf y) t, .str y u] e) ∈ l) : KpAre l (kl_ins vs x (.ref r)) (ys.take n ++ y :: ys.drop n) := by
  rw [kl_ins_nat hx (by rw [h.length]; exact hn)]
  exact (h.take n).append (.cons hr (h.drop n))
end Mine
end
section
open PySem PySem.W PyProof.Rows PySem.Spec PySem.Calls
set_option Elab.async false
set_option maxRecDepth 100000
set_option maxHeartbeats 4000000
set_option linter.all false
namespace Mine
/-- tokens only grow -/
theorem wpC_toks {α : Type} {M : Model} {A : Around} {E : Value → Shared → Prop} {s : Shared} {t : Sem α} {Q : α → Shared → Prop} {n : Nat} (hn : n ≤ s.toks) (h : wpC M A t (fun a s' => n ≤ s'.toks → Q a s') E s) : wpC M A t Q E s := fun Γ p hΓ hc =>
  Sem.wp_mono M Γ t (fun _ _ _ x => x.2 x.1) (fun _ _ _ x => x.2) p s (Sem.wp_toks M Γ n t _ _ p s hn (h Γ p hΓ hc))
/-! ## a comprehension over a tuple of the ledger -/
section
variable {prog : Program} {w : World} {A : Around} {E : Value → Shared → Prop} {s : Shared} {h₀ : Heap} {L : Addr} {m : Str → Option Value} {env : Env}
  {elt iter : PySem.Expr} {x : Str} {px : Pos} {scope : Scope} {cl : List (Str × Addr)} {pos : Pos}
/-- what the comprehension's source must be -/
def SrcTup (prog : Program) (w : World) (A : Around) (h₀ : Heap) (L : Addr) (m : Str → Option Value) (env : Env) (elt : PySem.Expr) (x : Str) (scope : Scope) (cl : List (Str × Addr)) (Fin : Shared → List Value → Ldg → Prop) (xv : Value) (s₁ : Shared) : Prop :=
  ∃ t vs news, xv = .ref t ∧ A.handled = none ∧ Fr h₀ L s₁.heap m ∧ News h₀ L s₁.heap news ∧ (t, tupOf vs) ∈ news ∧ vs.length ≤ 1000 ∧
    ∀ g, LCg.CompRest prog w A h₀ L m env elt x scope cl { s₁ with heap := g } (fun nw => (t, tupOf vs) ∈ nw) (fun i v => vs[i]? = some v) (Fin { s₁ with heap := g }) vs.length 0 [] news
theorem srcTup {t : Addr} {vs : List Value} {news : Ldg} {Fin : Shared → List Value → Ldg → Prop} {s₁ : Shared} (hh : A.handled = none) (F : Fr h₀ L s₁.heap m) (N : News h₀ L s₁.heap news) (hm : (t, tupOf vs) ∈ news) (hz : vs.length ≤ 1000)
    (h : ∀ g, LCg.CompRest prog w A h₀ L m env elt x scope cl { s₁ with heap := g } (fun nw => (t, tupOf vs) ∈ nw) (fun i v => vs[i]? = some v) (Fin { s₁ with heap := g }) vs.length 0 [] news) :
    SrcTup prog w A h₀ L m env elt x scope cl Fin (.ref t) s₁ := ⟨t, vs, news, rfl, hh, F, N, hm, hz, h⟩
theorem tup_at {h : Heap} {t : Addr} {vs : List Value} {news : Ldg} (N : News h₀ L h news) (hm : (t, tupOf vs) ∈ news) : h.IsTuple t vs.toArray := ⟨_, (N _ hm).1, rfl, _, rfl⟩
theorem walk_tup {I t : Addr} {vs : List Value} (hh : A.handled = none) (hne : t ≠ I) : Walks prog w A I [I, t] [I] vs.length (fun i v => vs[i]? = some v) (fun i h => h.IsTupleIter I t i ∧ h.IsTuple t vs.toArray) := by
  have W := Walks.tuple (prog := prog) (w := w) hh I t hne vs.toArray
  simpa using W
theorem st_tup {t I : Addr} {vs : List Value} : ∀ i (h h' : Heap) (o : Obj) (nw : Ldg), (h.IsTupleIter I t i ∧ h.IsTuple t vs.toArray) → h.get? I = some o → h'.get? I = some o → (∀ b o, h₀.get? b = some o → h'.get? b = some o) → News h₀ L h' nw → (t, tupOf vs) ∈ nw → (h'.IsTupleIter I t i ∧ h'.IsTuple t vs.toArray) :=
  fun i h h' o nw st e e' _ N hm => ⟨by obtain ⟨o', q, r⟩ := st.1; rw [e] at q; cases q; exact ⟨o, e', r⟩, tup_at N hm⟩
theorem comp_tup {Q : Value → Shared → Prop} (F₀ : Fr h₀ L s.heap m)
    (hclos : closureFor scope env = pure cl) (hcell : ∀ y ∈ scope.names, y.2 ≠ .cell) (hkind : scope.kind = .function)
    (hnames : ∀ y ∈ scope.names, y.2 = .local → scope.names.lookup y.1 = some .local) (hx : scope.names.lookup x = some .local)
    (h : wpAny (model prog w) A (eval iter env) (SrcTup prog w A h₀ L m env elt x scope cl (fun s₂ => LCg.FinE h₀ L m s₂ Q)) E s)
    (hs : ∀ x, foldedSetIterable iter env x = pure x := by intro _; rfl) :
    wpAny (model prog w) A (eval (.ListComp elt [⟨.Name x px, iter, [], 0⟩] scope pos) env) Q E s := by
  rw [eval_ListComp]
  refine wpAny_comprehension_free (use := none) rfl hs hclos hkind hnames (wpAny_mono h (fun xv s₁ h₁ => ?_) fun _ _ e => e)
  obtain ⟨t, vs, news, rfl, hh, F, N, hm, hz, R⟩ := h₁
  have hl := tup_at N hm
  have hlt : t < s₁.heap.objs.size := Heap.lt_size (N _ hm).1
  refine wpAny_pyIter_tuple hl ?_
  have up : ∀ b o, s₁.heap.get? b = some o → (s₁.heap.push { cls := .type "tuple_iterator", data := .fields #[.ref t, .int 0 0] }).get? b = some o := fun b o e => Heap.get?_push_of_some _ e
  refine LCg.block_U (walk_tup (vs := vs) hh (Nat.ne_of_lt hlt)) (Nat.le_trans hz (by decide)) (fun i h st => by obtain ⟨o, e, _⟩ := st.1; exact ⟨o, e⟩) st_tup hcell hkind hx ⟨⟨_, Heap.get?_push_size _ rfl, rfl, rfl⟩, hl.push _⟩ (fun b hb => ?_)
    (F.keeps up) (N.grown up) (Nat.ne_of_lt F.ns.lt) (next_is_new F) (fun p hp => Nat.ne_of_lt (Heap.lt_size (N p hp).1)) hm (R _) ?_
  · show b < (s₁.heap.push _).objs.size
    rw [Heap.size_push]
    rcases List.mem_cons.mp hb with rfl | hb
    · exact Nat.lt_succ_self _
    · rw [List.mem_singleton.mp hb]; exact Nat.lt_succ_of_lt hlt
  · intro D C h tk m' ys news' F' N' o1 hn hC₀ hD₀ hCL hDL hCD offC fin
    refine ⟨m', hn, fun h'' hs'' => fin D h'' tk (F'.change hs'' hCL hC₀) (fun p hp => ⟨hs''.extBut _ _ ?_ (N' p hp).1, (N' p hp).2⟩) o1⟩
    rcases List.mem_cons.mp hp with rfl | hp
    · exact Ne.symm hCD
    · exact offC p hp
theorem assign_comp_tup {y : Str} {py spos : Pos} {Q : Flow → Shared → Prop} (F₀ : Fr h₀ L s.heap m) (hLe : env.locals = L)
    (hsw : swapsWith (.ListComp elt [⟨.Name x px, iter, [], 0⟩] scope pos) (some (.Name y py)) spos.line env = pure true)
    (hclos : closureFor scope env = pure cl) (hcell : ∀ z ∈ scope.names, z.2 ≠ .cell) (hkind : scope.kind = .function)
    (hnames : ∀ z ∈ scope.names, z.2 = .local → scope.names.lookup z.1 = some .local) (hx : scope.names.lookup x = some .local)
    (hy : env.kindOf y = some .local) (hp : (env.scope.kind == .class || (env.scope.kind == .module && env.locals != env.globals)) = false)
    (h : wpAny (model prog w) A (eval iter env) (SrcTup prog w A h₀ L m env elt x scope cl (fun s₂ => LCg.FinA h₀ L m s₂ y Q)) E s)
    (hs : ∀ x, foldedSetIterable iter env x = pure x := by intro _; rfl) :
    wpAny (model prog w) A (exec (.Assign [.Name y py] (.ListComp elt [⟨.Name x px, iter, [], 0⟩] scope pos) spos) env) Q E s := by
  subst hLe
  rw [exec_Assign_Name_used _ _ _ _ hsw]
  refine wpAny_bind (wpAny_standAt (wpAny_bind ?_))
  show wpAny _ A (do let _ ← comprehension (.ListComp elt [⟨.Name x px, iter, [], 0⟩] scope pos) scope env _ (newList []) false (eval iter env) (some (assign (.Name y py) env))) _ _ s
  refine wpAny_bind (wpAny_mono (wpAny_comprehension_free (use := some (assign (.Name y py) env)) (Q := fun _ s' => Q .next s') rfl hs hclos hkind hnames
    (wpAny_mono h (fun xv s₁ h₁ => ?_) fun _ _ e => e)) (fun _ s' hq => wpAny_pure (wpAny_pure hq)) fun _ _ e => e)
  obtain ⟨t, vs, news, rfl, hh, F, N, hm, hz, R⟩ := h₁
  have hl := tup_at N hm
  have hlt : t < s₁.heap.objs.size := Heap.lt_size (N _ hm).1
  refine wpAny_pyIter_tuple hl ?_
  have up : ∀ b o, s₁.heap.get? b = some o → (s₁.heap.push { cls := .type "tuple_iterator", data := .fields #[.ref t, .int 0 0] }).get? b = some o := fun b o e => Heap.get?_push_of_some _ e
  refine LCg.block_U (walk_tup (vs := vs) hh (Nat.ne_of_lt hlt)) (Nat.le_trans hz (by decide)) (fun i h st => by obtain ⟨o, e, _⟩ := st.1; exact ⟨o, e⟩) st_tup hcell hkind hx ⟨⟨_, Heap.get?_push_size _ rfl, rfl, rfl⟩, hl.push _⟩ (fun b hb => ?_)
    (F.keeps up) (N.grown up) (Nat.ne_of_lt F.ns.lt) (next_is_new F) (fun p hp => Nat.ne_of_lt (Heap.lt_size (N p hp).1)) hm (R _) ?_
  · show b < (s₁.heap.push _).objs.size
    rw [Heap.size_push]
    rcases List.mem_cons.mp hb with rfl | hb
    · exact Nat.lt_succ_self _
    · rw [List.mem_singleton.mp hb]; exact Nat.lt_succ_of_lt hlt
  · intro D C h' tk m' ys news' F' N' o1 hn hC₀ hD₀ hCL hDL hCD offC fin
    show wpAny _ A (assign (.Name y py) env (.ref D)) _ _ _
    refine wpAny_assign_Name (wpAny_storeName_local hy F'.ns (fun h₂ hn₂ hs₂ => ?_) hp)
    have hL₀ : h₀.get? env.locals = none := Heap.get?_none_of_le F'.above
    have F₂ : Fr h₀ env.locals h₂ (fun z => if z = y then some (.ref D) else m z) := ⟨hn₂, fun b o e => hs₂.extBut b o (fun q => by rw [q, hL₀] at e; cases e) (F'.keep b o e), F'.above⟩
    refine ⟨m', hn.sameBut hs₂ hCL, fun h'' hs'' => fin D h'' _ (F₂.change hs'' hCL hC₀) (fun p hp => ?_) o1⟩
    have z : h₂.get? p.1 = some p.2 := hs₂.extBut _ _ (N' p hp).2.1 (N' p hp).1
    refine ⟨hs''.extBut _ _ ?_ z, (N' p hp).2⟩
    rcases List.mem_cons.mp hp with rfl | hp
    · exact Ne.symm hCD
    · exact offC p hp
end
end Mine
end
section
open PySem PySem.W PyProof.Rows PySem.Spec PySem.Calls
set_option Elab.async false
set_option maxRecDepth 100000
set_option maxHeartbeats 4000000
set_option linter.all false
namespace Mine
/-! ## what parse257 tells of the tree's text at the end -/
theorem slice_take (x : PStr) (n : Nat) : Txt.slice x none (some (n : Int)) = ⟨(x.cps.toList.take n).toArray⟩ := by
  rcases Nat.le_total n x.cps.toList.length with h | h
  · exact to_n h
  · rw [slice_to_beyond (by rw [len_list]; omega), len_list, to_n (Nat.le_refl _), List.take_of_length_le (Nat.le_refl _), List.take_of_length_le h]
theorem p257_not {r : PStr} (h : r.cps.toList.take 3 ≠ [50, 53, 55]) : ∀ y, p257 r ≠ .ok y := by
  intro y
  unfold p257
  have e := slice_take r 3
  rw [show ((3 : Nat) : Int) = 3 from rfl] at e
  have h2 : (Txt.slice r none (some 3) != Str.ofString "257") = true := by
    rw [e, bne_iff_ne]
    intro c
    apply h
    have := congrArg (fun z : PStr => z.cps.toList) c
    rw [show (Str.ofString "257").cps.toList = [50, 53, 55] by decide +kernel] at this
    exact this
  rw [if_pos h2]
  exact fun c => by cases c
theorem p257_none {r : PStr} {a b : Nat} {rest : List Nat} (h : r.cps.toList = 50 :: 53 :: 55 :: a :: b :: rest) (hab : ¬ (a = 32 ∧ b = 34)) : p257 r = .ok Str.empty := by
  have e := slice_take r 3
  rw [show ((3 : Nat) : Int) = 3 from rfl, h] at e
  have e2 := StrLaws.sliceText_plain (x := r) (i := 3) (j := 5) ⟨by decide, by decide, by rw [h]; simp only [List.length_cons]; omega⟩
  replace e2 : Txt.slice r (some 3) (some 5) = _ := e2
  rw [h] at e2
  unfold p257
  rw [e, e2, if_neg (by rw [show Str.ofString "257" = ⟨#[50, 53, 55]⟩ by decide +kernel]; simp)]
  refine if_pos ?_
  rw [bne_iff_ne]
  intro c
  have := congrArg (fun z : PStr => z.cps.toList) c
  rw [show (Str.ofString " \"").cps.toList = [32, 34] by decide +kernel] at this
  have q : [a, b] = [32, 34] := this
  simp only [List.cons.injEq, and_true] at q
  exact hab q
theorem txt_head : ∀ {t : Tr}, t.Good → t.txt.cps.toList = [] ∨ ∃ c r, t.txt.cps.toList = 50 :: 50 :: 57 :: 32 :: c :: 32 :: r ∧ c ≠ 34
  | .nil, _ => .inl rfl
  | .node l r x, h => by
    obtain ⟨c, m, e, _, h34, _⟩ := h.2.1.shape
    refine .inr ⟨c, m ++ [41] ++ 32 :: 34 :: (StrLaws.dbl 34 l.txt.cps.toList ++ 34 :: x.txt.cps.toList), ?_, fun q => h34 (q ▸ List.mem_cons_self ..)⟩
    show (ndT r l.txt x.txt).cps.toList = _
    rw [nd_list, e]; simp
section
variable {t : Tr} (hg : t.Good)
include hg
theorem dbl_head : (dblT t.txt).cps.toList = [] ∨ ∃ r, (dblT t.txt).cps.toList = 50 :: 50 :: 57 :: 32 :: r := by
  rw [dblT_list]
  rcases txt_head hg with h | ⟨c, r, h, _⟩
  · rw [h]; exact .inl rfl
  · rw [h]
    refine .inr ⟨StrLaws.dbl 34 (c :: 32 :: r), ?_⟩
    rw [StrLaws.dbl, if_neg (by decide), StrLaws.dbl, if_neg (by decide), StrLaws.dbl, if_neg (by decide), StrLaws.dbl, if_neg (by decide)]
theorem not_0 : ∀ y, p257 (Str.ofString "" ++ dblT t.txt) ≠ .ok y := by
  apply p257_not
  rw [str_toList, show (Str.ofString "").cps.toList = [] by decide +kernel]
  rcases dbl_head hg with h | ⟨r, h⟩
  · rw [h]; decide
  · rw [h]
    show [50, 50, 57] ≠ _
    decide
theorem not_1 : ∀ y, p257 (Str.ofString "157 \"" ++ dblT t.txt) ≠ .ok y := by
  apply p257_not
  rw [str_toList, show (Str.ofString "157 \"").cps.toList = [49, 53, 55, 32, 34] by decide +kernel]
  show [49, 53, 55] ≠ _
  decide
theorem not_2 : ∀ y, p257 (Str.ofString "227 \"" ++ dblT t.txt) ≠ .ok y := by
  apply p257_not
  rw [str_toList, show (Str.ofString "227 \"").cps.toList = [50, 50, 55, 32, 34] by decide +kernel]
  show [50, 50, 55] ≠ _
  decide
theorem not_3 : ∀ y, p257 (Str.ofString "259 \"" ++ dblT t.txt) ≠ .ok y := by
  apply p257_not
  rw [str_toList, show (Str.ofString "259 \"").cps.toList = [50, 53, 57, 32, 34] by decide +kernel]
  show [50, 53, 57] ≠ _
  decide
theorem emp_0 : p257 (Str.ofString "257" ++ dblT t.txt) = .ok Str.empty := by
  rcases dbl_head hg with h | ⟨r, h⟩
  · have e : dblT t.txt = Str.empty := str_eq (by rw [h]; rfl)
    rw [e]
    unfold p257
    rw [if_neg (by decide +kernel), if_pos (by decide +kernel)]
  · exact p257_none (a := 50) (b := 50) (rest := 57 :: 32 :: r) (by rw [str_toList, h, show (Str.ofString "257").cps.toList = [50, 53, 55] by decide +kernel]; rfl) (by decide)
theorem emp_1 : p257 (Str.ofString "257 " ++ dblT t.txt) = .ok Str.empty := by
  rcases dbl_head hg with h | ⟨r, h⟩
  · have e : dblT t.txt = Str.empty := str_eq (by rw [h]; rfl)
    rw [e]
    unfold p257
    rw [if_neg (by decide +kernel), if_pos (by decide +kernel)]
  · exact p257_none (a := 32) (b := 50) (rest := 50 :: 57 :: 32 :: r) (by rw [str_toList, h, show (Str.ofString "257 ").cps.toList = [50, 53, 55, 32] by decide +kernel]; rfl) (by decide)
theorem emp_2 : p257 (Str.ofString "257-\"" ++ dblT t.txt) = .ok Str.empty :=
  p257_none (a := 45) (b := 34) (rest := (dblT t.txt).cps.toList) (by rw [str_toList, show (Str.ofString "257-\"").cps.toList = [50, 53, 55, 45, 34] by decide +kernel]; rfl) (by decide)
theorem tell_0 : p257 (Str.ofString "257 \"" ++ dblT t.txt) = .ok t.txt := by
  show p257 (q257 ++ dblT t.txt) = _
  rw [p257_quo, quo_is, dblT_list, rdQ_open]
theorem tell_1 : p257 (Str.ofString "257 \"" ++ dblT t.txt ++ Str.ofString "\" \"x\"") = .ok t.txt := by
  have e : Str.ofString "257 \"" ++ dblT t.txt ++ Str.ofString "\" \"x\"" = q257 ++ (dblT t.txt ++ Str.ofString "\" \"x\"") := str_eq (by simp only [str_toList, List.append_assoc])
  rw [e, p257_quo, quo_is, str_toList, dblT_list, show (Str.ofString "\" \"x\"").cps.toList = 34 :: [32, 34, 120, 34] by decide +kernel, rdQ_dbl (by decide)]
theorem tell_2 : p257 (Str.ofString "257 \" " ++ Txt.slice t.txt none (some 6)) = .ok (Str.ofString " " ++ Txt.slice t.txt none (some 6)) := by
  have e6 := slice_take t.txt 6
  rw [show ((6 : Nat) : Int) = 6 from rfl] at e6
  have e : Str.ofString "257 \" " ++ Txt.slice t.txt none (some 6) = q257 ++ (Str.ofString " " ++ Txt.slice t.txt none (some 6)) := str_eq (by
    rw [str_toList, str_toList, str_toList, q257_list, show (Str.ofString "257 \" ").cps.toList = [50, 53, 55, 32, 34, 32] by decide +kernel, show (Str.ofString " ").cps.toList = [32] by decide +kernel]; rfl)
  rw [e, p257_quo, quo_is, rdQ_free]
  rw [str_toList, e6, show (Str.ofString " ").cps.toList = [32] by decide +kernel]
  rcases txt_head hg with h | ⟨c, r, h, hc⟩
  · rw [h]; decide
  · rw [h]
    show 34 ∉ [32, 50, 50, 57, 32, c, 32]
    simp only [List.mem_cons, List.not_mem_nil, or_false, not_or]
    exact ⟨by decide, by decide, by decide, by decide, by decide, fun q => hc q.symm, by decide⟩
end
end Mine
end
section
open PySem PySem.W PyProof.Rows PySem.Spec PySem.Calls
set_option Elab.async false
set_option maxRecDepth 100000
set_option maxHeartbeats 8000000
set_option linter.all false
namespace Mine
local macro_rules | `(tactic| walk_at $s:str) => `(tactic| k_extra $s)
local macro_rules | `(tactic| omega) => `(tactic| first
  | with_reducible assumption
  | (refine' room1 ?rmh ?rme; (case rmh => with_reducible assumption); (case rme => with_unfolding_all rfl))
  | (refine' room0 ?rmh ?rme; (case rmh => with_reducible assumption); (case rme => with_unfolding_all rfl))
  | (refine' room2 ?rmh ?rme; (case rmh => with_reducible assumption); (case rme => with_unfolding_all rfl))
  | (refine' room00 ?rmh; (case rmh => with_reducible assumption))
  | (refine num_le ?rme; (case rme => with_unfolding_all rfl))
  | (refine num_lt ?rme; (case rme => with_unfolding_all rfl))
  | (refine' le_num ?rmh ?rme; (case rmh => with_reducible assumption); (case rme => with_unfolding_all rfl))
  | (refine' eq_num ?rmh ?rme; (case rmh => with_reducible assumption); (case rme => with_unfolding_all rfl))
  | omega (config := {}))
section
theorem lines_A2_0 : True := by
  k_with_none
  k_with "execs cons" => ((refine f_execs ?_; intro qk))
  k_with "eval BinOp" => ((refine f_BinOp ?_; intro qk))
  k_with "exec Assign" => ((refine f_Assign ?_; intro qk))
  k_with "eval Subscript" => ((refine f_Subscript ?_; intro qk))
  k_with "isTrue Compare" => ((refine f_Compare ?_; intro qk))
  k_with "exec If" => ((refine f_If ?_; intro qk))
  k_with "eval Call" => (((fail_if_success (with_reducible show wpAny _ _ (eval (Expr.Call (Expr.Attribute _ _ _) _ _ _) _) _ _ _)); refine f_Call ?_; intro qk))
  k_with "spliced" => ((refine f_args ?_; intro qk))
  k_with "callWith" => ((refine f_method1 ?_; intro qk))
  k_with "exec Return some" => ((refine f_Return ?_; intro qk))
  k_with "eval Tuple" => ((refine f_Tuple ?_; intro qk))
  k_with "eval List" => ((refine f_List ?_; intro qk))
  k_with "eval IfExp" => ((refine f_IfExp ?_; intro qk))
  k_with "storeName" => ((k_here; k_dflt (refine' f_store ?F ?N ?_ ?a ?b; (case F => k_asm); (case N => k_asm); (case a => rfl); (case b => rfl); k_whole; intro m' h' F' N'; (try k_sweep))))
  k_with "M map1" => (first
    | (refine map_same ?_; with_unfolding_all rfl)
    | ((repeat' (refine List.forall_mem_cons.mpr (And.intro ?_ ?_))); (all_goals first | rfl | exact List.forall_mem_nil _)))
  k_with "M map2" => (first
    | (refine SameOut.both (b := fun _ => none) ?_ ?_ <;> (repeat (refine SameOut.upd ?_ (by with_unfolding_all rfl))) <;> exact SameOut.lookup rfl)
    | (refine' SameOut.both (b := ?kb) ?k1 ?k2; (case k1 => ((repeat (refine SameOut.upd ?_ (by with_unfolding_all rfl))); exact SameOut.refl)); (case k2 => ((repeat (refine SameOut.upd ?_ (by with_unfolding_all rfl))); exact SameOut.refl)))
    | (refine' SameOut.both (b := ?kb) ?k1 ?k2; (case k2 => ((repeat (refine SameOut.upd ?_ (by with_unfolding_all rfl))); exact SameOut.refl)); (case k1 => ((repeat (refine SameOut.skip ?_)); (repeat (refine SameOut.upd ?_ (by with_unfolding_all rfl))); exact SameOut.refl)))
    | (intro y hy; (repeat (refine (if_neg (ne_of_out hy (by with_unfolding_all rfl))).trans ?_)); (refine Eq.symm ?_); (repeat (refine (if_neg (ne_of_out hy (by with_unfolding_all rfl))).trans ?_)); first | rfl | exact lookup_out rfl hy | exact (lookup_out rfl hy).symm | exact (lookup_out rfl hy).trans (lookup_out rfl hy).symm))
  k_with "M fill" => ((
    have kk : PySem.Challenge.rw_pm0034_02 = PySem.Challenge.rw_pm0034_02 ∧ KK.heap_1 = KK.heap_1 := ⟨rfl, rfl⟩
    revert kk
    k_fill
    intro kk
    clear kk))
  k_with "M enter" => ((
    refine wpAny_call ?_
    k_dflt (refine' code_def ?k1 ?k2 ?k3 ?k4 ?k5 ?kA ?kF ?kK ?k6 ?k7 ?k8 ?k9 ?kB ?_ ?c2 ?c3 ?c4 ?c5; (case kA => exact rfl); (case kF => exact rfl); (case kK => assumption); (case k1 => k_asm); (case k2 => k_asm); (case k3 => k_asm); (case k4 => k_asm); (case k5 => k_asm); (case k6 => k_is); (case k7 => k_is); (case k8 => ((try dsimp only); omega)); (case k9 => first | exact BindsTo.of_eq rfl | (refine' kp_binds ?kx ?ke; (case kx => first | (refine' myIn ?kf ?ki; (case kf => with_reducible assumption); (case ki => with_reducible assumption)) | k_in); (case ke => exact fun _ => rfl)) | exact binds_K (by first | (refine' myIn ?kf ?ki; (case kf => with_reducible assumption); (case ki => with_reducible assumption)) | k_in) rfl (by k_is) rfl rfl rfl); (case c5 => decide); (case kB => exact locs rfl); (case c2 => exact rfl); (case c3 => exact rfl); (case c4 => exact rfl); k_whole; intro g' L' h' FG' F' N' B' X' T'; (have D' := kts_dict B' (by assumption) FG' rfl); (try dsimp only); (try k_lift B'); (refine let_AE (f := execs _) ?_; intro vk ak); (refine f_QE ?_; intro qk ek))))
  k_with "M enter0" => ((
    refine wpAny_call ?_
    k_dflt (refine' code_defS0X ?k1 ?k2 ?k3 ?k4 ?k5 ?kA ?kF ?kK ?k6 ?k7 ?k8 ?k9 ?kB ?_ ?c2 ?c3 ?c4 ?c5; (case kA => exact rfl); (case kF => exact rfl); (case kK => assumption); (case k1 => k_asm); (case k2 => k_asm); (case k3 => k_asm); (case k4 => k_asm); (case k5 => k_asm); (case k6 => k_is); (case k7 => k_is); (case k8 => ((try dsimp only); omega)); (case k9 => first | exact BindsTo.of_eq rfl | (refine' kp_binds ?kx ?ke; (case kx => first | (refine' myIn ?kf ?ki; (case kf => with_reducible assumption); (case ki => with_reducible assumption)) | k_in); (case ke => exact fun _ => rfl)) | exact binds_K (by first | (refine' myIn ?kf ?ki; (case kf => with_reducible assumption); (case ki => with_reducible assumption)) | k_in) rfl (by k_is) rfl rfl rfl); (case c5 => decide); (case kB => exact locs rfl); (case c2 => exact rfl); (case c3 => exact rfl); (case c4 => exact rfl); k_whole; intro g' L' h' FG' F' N' B' X' T' D'; (try dsimp only); (try k_lift B'); (refine let_AE (f := execs _) ?_; intro vk ak); (refine f_QE ?_; intro qk ek))))
  trivial
local macro_rules | `(tactic| k_mem) => `(tactic| first | with_reducible assumption | (refine mem_in ?_; with_reducible assumption))
theorem lines_A2_1 : True := by
  k_with "subscriptTail Name Constant ref int" => ((k_here; refine item_tupleT (News.isTup (by assumption) (by k_mem)) (by decide) (by decide) (by rfl) (by rfl) ?_))
  k_with "subscriptTail Name Constant ref int" => ((k_here; (with_reducible rename StrsAre _ _ => hSA); refine item_strsA (News.isList (by assumption) (by k_mem)) hSA (by decide) (by first | omega | (simp only [List.length_map]; omega)) (by decide) ?_; intro t'))
  k_with "call type:ValueError" => ((refine call_ValueError_made ?_; intro _ _ _))
  k_with "exec While Compare Name cons nil" => (refine Hold.mk ?_)
  k_with "exec While Compare" => (refine Hold.mk ?_)
  k_with "exec While Compare cons nil" => (refine Hold.mk ?_)
  k_with "exec While" => (refine Hold.mk ?_)
  k_with "binaryOp FloorDiv int int" => ((k_here; (with_reducible refine floordiv_pos ?kb1 ?kb2 ?_); (case kb1 => decide); (case kb2 => decide +kernel)))
  k_with "WhlIf" => ((refine whlIf_dec ?_ ?_ <;> intro _))
  k_with "subscriptTail Name Name ref int" => ((k_here; first
    | ((with_reducible rename StrsAre _ _ => hSA); refine item_strsA (News.isList (by assumption) (by k_mem)) hSA (by omega) (by omega) (by omega) ?_; intro t')
    | ((with_reducible rename IntsAre _ _ => hSA); refine item_intsA (News.isList (by assumption) (by k_mem)) hSA (by omega) (by omega) (by omega) ?_; intro t')))
  k_with "call builtin:len" => ((k_here; (with_reducible show wpAny _ _ (call (Value.builtin "len") [Value.ref _]) _ _ _); first
    | ((with_reducible rename StrsAre _ _ => hSA); refine len_strsA (News.isList (by assumption) (by k_mem)) hSA (by omega) ?_)
    | ((with_reducible rename IntsAre _ _ => hSA); refine len_intsA (News.isList (by assumption) (by k_mem)) hSA (by omega) ?_)))
  trivial
def clsOf : EK → Value
  | .reply => .ref 37
  | .proto => .ref 49
  | .value => .type "ValueError"
section
variable {w : World} {p : Program} {loose : List PStr} {mean : ExcName → Option Value} {mg mb : PStr → Option Value}
    {dp un : Nat} {gd : Option (List Code)} {cn : PStr} {cs : Scope} {a : Addr} {ccd : Value} {cl : List (PStr × Addr)} {outer : List Env} {A₀ : Around} {base h₀ : Heap} {L : Addr} {m : PStr → Option Value}
    {s : Shared} {Q E : Value → Shared → Prop} {news : Ldg}
    (B : Below A₀ base outer h₀) (X : (KK.heap_1 w.params).In h₀) (T : Top p loose mean mg mb h₀) (XB : (KK.heap_1 w.params).In base) (TB : Top p loose mean mg mb base) (D : KtsDicts (outer.filterMap (·.frame)) h₀) (hck : cs.kind = .function)
include B X T XB TB D hck
omit B X T XB TB D hck in
theorem ex_news {g h : Heap} {L ra : Addr} {x : Value} {n : Int} {t : Tok} {news : Ldg} (N : News g L h ((ra, { cls := Value.type "tuple", data := Data.seq #[x, .int n t] }) :: news)) : ∃ t, News g L h ((ra, tupOf [x, .int n t]) :: news) := ⟨t, N⟩
theorem parse229_long {r hs : PStr} {t1 t2 t3 : Tok} {i : Int} {pa : Addr} (hd5 : dp + 5 < recursionLimit) (hu5 : un + 50 < cLine) (F : Fr h₀ L s.heap m) (N : News h₀ L s.heap news)
   (hr : r.length ≤ 200000) (h640 : (p229in r).length ≤ 640) (hpa : (pa, tupOf [.str hs t2, .int i t3]) ∈ news) (hv : ∀ msg, p229 r ≠ .error (.value, msg))
   (hret : ∀ n ra t h' tk, p229 r = .ok n → Fr h₀ L h' m → News h₀ L h' ((ra, tupOf [.str hs t2, .int n t]) :: news) → (∀ p ∈ news, p.1 < ra) → Q (.ref ra) { s with heap := h', toks := tk })
   (hexc : ∀ k g₂ e t h' tk, p229 r = .error (k, r) → Fr h₀ L g₂ m → RaisedS base g₂ (envX cn cs L a ccd cl :: outer) e (clsOf k) t [.str r t1] news h' → RaisedK base (envX cn cs L a ccd cl :: outer) e (clsOf k) t [.str r t1] news h' → g₂.UpToSlots h' → E (.ref e) { s with heap := h', toks := tk }) :
   wpAny (model PySem.Challenge.rw_pm0034_02.row.prog w) (ktrTop dp un gd cn cs L a ccd cl outer) (call (.ref 58) [.str r t1, .ref pa]) Q E s := by
  have kk : PySem.Challenge.rw_pm0034_02 = PySem.Challenge.rw_pm0034_02 ∧ KK.heap_1 = KK.heap_1 := ⟨rfl, rfl⟩
  revert kk
  k_fill
  intro kk
  clear kk
  have f1 := fact_open r
  have f2 := fact_close r (Txt.find r (Str.ofString "(") + 1) (by omega)
  walk_at "M enter"
  k_steps
  all_goals (try (
    (show E _ _)
    first
      | exact hexc .reply _ _ _ _ _ (p229_code (by assumption)) (by assumption) (by assumption) (by assumption) (by assumption)
      | exact hexc .proto _ _ _ _ _ (p229_open (by assumption) (by assumption)) (by assumption) (by assumption) (by assumption) (by assumption)
      | exact hexc .proto _ _ _ _ _ (p229_close (by assumption) (by assumption) (by assumption)) (by assumption) (by assumption) (by assumption) (by assumption)
      | exact hexc .proto _ _ _ _ _ (p229_sep (by assumption) (by assumption) (by assumption) (by assumption)) (by assumption) (by assumption) (by assumption) (by assumption)
      | exact hexc .proto _ _ _ _ _ (p229_five (by assumption) (by assumption) (by assumption) (by assumption) (by assumption) (by assumption)) (by assumption) (raisedS_sub (by assumption) sub_tail) (raisedK_sub (by assumption) sub_tail) (by assumption)))
  have hlast := p229_last (by assumption : (Txt.slice r none (some 3) != Str.ofString "229") = false) (by assumption) (by assumption) (by assumption) (by assumption) (by assumption)
  refine call_int_reads (Nat.le_trans (getD_len (by assumption)) h640) (fun e => hv _ (hlast.trans (by rw [e]))) fun n hn => ?_
  simp only [hn] at hlast
  k_steps
  (with_reducible rename (_ ∧ AllLt _ _) => hlt)
  (with_reducible rename News _ _ _ (_ :: _ :: _) => kN)
  (with_reducible rename Fr _ _ _ _ => kF)
  have kN2 := news_d2 kN
  have hz := ktn_ltOf hlt.2
  clear kN
  dsimp only at kF kN2
  have h3 := ex_news kN2
  clear kN2
  obtain ⟨t, h3⟩ := h3
  refine hret n _ t _ _ hlast kF h3 hz
theorem parse229_spec {r hs : PStr} {t1 t2 t3 : Tok} {i : Int} {pa : Addr} (hd5 : dp + 5 < recursionLimit) (hu5 : un + 50 < cLine) (F : Fr h₀ L s.heap m) (N : News h₀ L s.heap news)
   (h640' : r.length ≤ 640) (hpa : (pa, tupOf [.str hs t2, .int i t3]) ∈ news) (hv : ∀ msg, p229 r ≠ .error (.value, msg))
   (hret : ∀ n ra t h' tk, p229 r = .ok n → Fr h₀ L h' m → News h₀ L h' ((ra, tupOf [.str hs t2, .int n t]) :: news) → (∀ p ∈ news, p.1 < ra) → Q (.ref ra) { s with heap := h', toks := tk })
   (hexc : ∀ k g₂ e t h' tk, p229 r = .error (k, r) → Fr h₀ L g₂ m → RaisedS base g₂ (envX cn cs L a ccd cl :: outer) e (clsOf k) t [.str r t1] news h' → RaisedK base (envX cn cs L a ccd cl :: outer) e (clsOf k) t [.str r t1] news h' → g₂.UpToSlots h' → E (.ref e) { s with heap := h', toks := tk }) :
   wpAny (model PySem.Challenge.rw_pm0034_02.row.prog w) (ktrTop dp un gd cn cs L a ccd cl outer) (call (.ref 58) [.str r t1, .ref pa]) Q E s :=
  parse229_long B X T XB TB D hck hd5 hu5 F N (Nat.le_trans h640' (by decide)) (Nat.le_trans (p229in_len r) h640') hpa hv hret hexc
end
end
section
theorem lines_B2_0 : True := by
  k_with_none
  k_with "execs cons" => ((refine f_execs ?_; intro qk))
  k_with "eval BinOp" => ((refine f_BinOp ?_; intro qk))
  k_with "exec Assign" => ((refine f_Assign ?_; intro qk))
  k_with "eval Subscript" => ((refine f_Subscript ?_; intro qk))
  k_with "isTrue Compare" => ((refine f_Compare ?_; intro qk))
  k_with "exec If" => ((refine f_If ?_; intro qk))
  k_with "eval Call" => (((fail_if_success (with_reducible show wpAny _ _ (eval (Expr.Call (Expr.Attribute _ _ _) _ _ _) _) _ _ _)); refine f_Call ?_; intro qk))
  k_with "spliced" => ((refine f_args ?_; intro qk))
  k_with "callWith" => ((refine f_method1 ?_; intro qk))
  k_with "exec Return some" => ((refine f_Return ?_; intro qk))
  k_with "eval Tuple" => ((refine f_Tuple ?_; intro qk))
  k_with "eval List" => ((refine f_List ?_; intro qk))
  k_with "eval IfExp" => ((refine f_IfExp ?_; intro qk))
  k_with "storeName" => ((k_here; k_dflt (refine' f_store ?F ?N ?_ ?a ?b; (case F => k_asm); (case N => k_asm); (case a => rfl); (case b => rfl); k_whole; intro m' h' F' N'; (try k_sweep))))
  k_with "M map1" => (first
    | (refine map_same ?_; with_unfolding_all rfl)
    | ((repeat' (refine List.forall_mem_cons.mpr (And.intro ?_ ?_))); (all_goals first | rfl | exact List.forall_mem_nil _)))
  k_with "M map2" => (first
    | (refine SameOut.both (b := fun _ => none) ?_ ?_ <;> (repeat (refine SameOut.upd ?_ (by with_unfolding_all rfl))) <;> exact SameOut.lookup rfl)
    | (refine' SameOut.both (b := ?kb) ?k1 ?k2; (case k1 => ((repeat (refine SameOut.upd ?_ (by with_unfolding_all rfl))); exact SameOut.refl)); (case k2 => ((repeat (refine SameOut.upd ?_ (by with_unfolding_all rfl))); exact SameOut.refl)))
    | (refine' SameOut.both (b := ?kb) ?k1 ?k2; (case k2 => ((repeat (refine SameOut.upd ?_ (by with_unfolding_all rfl))); exact SameOut.refl)); (case k1 => ((repeat (refine SameOut.skip ?_)); (repeat (refine SameOut.upd ?_ (by with_unfolding_all rfl))); exact SameOut.refl)))
    | (intro y hy; (repeat (refine (if_neg (ne_of_out hy (by with_unfolding_all rfl))).trans ?_)); (refine Eq.symm ?_); (repeat (refine (if_neg (ne_of_out hy (by with_unfolding_all rfl))).trans ?_)); first | rfl | exact lookup_out rfl hy | exact (lookup_out rfl hy).symm | exact (lookup_out rfl hy).trans (lookup_out rfl hy).symm))
  k_with "M fill" => ((
    have kk : PySem.Challenge.rw_pm0034_02 = PySem.Challenge.rw_pm0034_02 ∧ KK.heap_1 = KK.heap_1 := ⟨rfl, rfl⟩
    revert kk
    k_fill
    intro kk
    clear kk))
  k_with "M enter" => ((
    refine wpAny_call ?_
    k_dflt (refine' code_def ?k1 ?k2 ?k3 ?k4 ?k5 ?kA ?kF ?kK ?k6 ?k7 ?k8 ?k9 ?kB ?_ ?c2 ?c3 ?c4 ?c5; (case kA => exact rfl); (case kF => exact rfl); (case kK => assumption); (case k1 => k_asm); (case k2 => k_asm); (case k3 => k_asm); (case k4 => k_asm); (case k5 => k_asm); (case k6 => k_is); (case k7 => k_is); (case k8 => ((try dsimp only); omega)); (case k9 => first | exact BindsTo.of_eq rfl | (refine' kp_binds ?kx ?ke; (case kx => first | (refine' myIn ?kf ?ki; (case kf => with_reducible assumption); (case ki => with_reducible assumption)) | k_in); (case ke => exact fun _ => rfl)) | exact binds_K (by first | (refine' myIn ?kf ?ki; (case kf => with_reducible assumption); (case ki => with_reducible assumption)) | k_in) rfl (by k_is) rfl rfl rfl); (case c5 => decide); (case kB => exact locs rfl); (case c2 => exact rfl); (case c3 => exact rfl); (case c4 => exact rfl); k_whole; intro g' L' h' FG' F' N' B' X' T'; (have D' := kts_dict B' (by assumption) FG' rfl); (try dsimp only); (try k_lift B'); (refine let_AE (f := execs _) ?_; intro vk ak); (refine f_QE ?_; intro qk ek))))
  k_with "M enter0" => ((
    refine wpAny_call ?_
    k_dflt (refine' code_defS0X ?k1 ?k2 ?k3 ?k4 ?k5 ?kA ?kF ?kK ?k6 ?k7 ?k8 ?k9 ?kB ?_ ?c2 ?c3 ?c4 ?c5; (case kA => exact rfl); (case kF => exact rfl); (case kK => assumption); (case k1 => k_asm); (case k2 => k_asm); (case k3 => k_asm); (case k4 => k_asm); (case k5 => k_asm); (case k6 => k_is); (case k7 => k_is); (case k8 => ((try dsimp only); omega)); (case k9 => first | exact BindsTo.of_eq rfl | (refine' kp_binds ?kx ?ke; (case kx => first | (refine' myIn ?kf ?ki; (case kf => with_reducible assumption); (case ki => with_reducible assumption)) | k_in); (case ke => exact fun _ => rfl)) | exact binds_K (by first | (refine' myIn ?kf ?ki; (case kf => with_reducible assumption); (case ki => with_reducible assumption)) | k_in) rfl (by k_is) rfl rfl rfl); (case c5 => decide); (case kB => exact locs rfl); (case c2 => exact rfl); (case c3 => exact rfl); (case c4 => exact rfl); k_whole; intro g' L' h' FG' F' N' B' X' T' D'; (try dsimp only); (try k_lift B'); (refine let_AE (f := execs _) ?_; intro vk ak); (refine f_QE ?_; intro qk ek))))
  trivial
local macro_rules | `(tactic| k_mem) => `(tactic| first | with_reducible assumption | (refine mem_in ?_; with_reducible assumption))
theorem lines_B2_1 : True := by
  k_with "subscriptTail Name Constant ref int" => ((k_here; refine item_tupleT (News.isTup (by assumption) (by k_mem)) (by decide) (by decide) (by rfl) (by rfl) ?_))
  k_with "subscriptTail Name Constant ref int" => ((k_here; (with_reducible rename StrsAre _ _ => hSA); refine item_strsA (News.isList (by assumption) (by k_mem)) hSA (by decide) (by first | omega | (simp only [List.length_map]; omega)) (by decide) ?_; intro t'))
  k_with "call type:ValueError" => ((refine call_ValueError_made ?_; intro _ _ _))
  k_with "exec While Compare Name cons nil" => (refine Hold.mk ?_)
  k_with "exec While Compare" => (refine Hold.mk ?_)
  k_with "exec While Compare cons nil" => (refine Hold.mk ?_)
  k_with "exec While" => (refine Hold.mk ?_)
  k_with "binaryOp FloorDiv int int" => ((k_here; (with_reducible refine floordiv_pos ?kb1 ?kb2 ?_); (case kb1 => decide); (case kb2 => decide +kernel)))
  k_with "WhlIf" => ((refine whlIf_dec ?_ ?_ <;> intro _))
  k_with "subscriptTail Name Name ref int" => ((k_here; first
    | ((with_reducible rename StrsAre _ _ => hSA); refine item_strsA (News.isList (by assumption) (by k_mem)) hSA (by omega) (by omega) (by omega) ?_; intro t')
    | ((with_reducible rename IntsAre _ _ => hSA); refine item_intsA (News.isList (by assumption) (by k_mem)) hSA (by omega) (by omega) (by omega) ?_; intro t')))
  k_with "call builtin:len" => ((k_here; (with_reducible show wpAny _ _ (call (Value.builtin "len") [Value.ref _]) _ _ _); first
    | ((with_reducible rename StrsAre _ _ => hSA); refine len_strsA (News.isList (by assumption) (by k_mem)) hSA (by omega) ?_)
    | ((with_reducible rename IntsAre _ _ => hSA); refine len_intsA (News.isList (by assumption) (by k_mem)) hSA (by omega) ?_)))
  k_with "call ref" => (((with_reducible show wpAny _ _ (call (Value.ref 58) _) _ _ _); refine' parse229_spec ?kB ?kX ?kT ?kXB ?kTB ?kD ?kh ?kd ?ku ?kF ?kN ?k6 ?kp ?kv ?_ ?_; (case kB => assumption); (case kX => assumption); (case kT => assumption); (case kXB => assumption); (case kTB => assumption); (case kD => assumption); (case kh => rfl); (case kd => ((try dsimp only); omega)); (case ku => ((try dsimp only); omega)); (case kF => with_reducible assumption); (case kN => with_reducible assumption); (case k6 => assumption); (case kp => first | exact .head _ | with_reducible assumption); (case kv => assumption)))
  trivial
section
variable {w : World} {p : Program} {loose : List PStr} {mean : ExcName → Option Value} {mg mb : PStr → Option Value}
    {dp un : Nat} {gd : Option (List Code)} {cn : PStr} {cs : Scope} {a : Addr} {ccd : Value} {cl : List (PStr × Addr)} {outer : List Env} {A₀ : Around} {base h₀ : Heap} {L : Addr} {m : PStr → Option Value}
    {s : Shared} {Q E : Value → Shared → Prop} {news : Ldg}
    (B : Below A₀ base outer h₀) (X : (KK.heap_1 w.params).In h₀) (T : Top p loose mean mg mb h₀) (XB : (KK.heap_1 w.params).In base) (TB : Top p loose mean mg mb base) (D : KtsDicts (outer.filterMap (·.frame)) h₀) (hck : cs.kind = .function)
include B X T XB TB D hck
theorem port_spec {r : PStr} {t1 : Tok} (hd5 : dp + 10 < recursionLimit) (hu5 : un + 60 < cLine) (F : Fr h₀ L s.heap m) (N : News h₀ L s.heap news)
   (h640 : r.length ≤ 640) (hv : ∀ msg, p229 r ≠ .error (.value, msg))
   (hret : ∀ n t h' tk, p229 r = .ok n → Fr h₀ L h' m → News h₀ L h' news → Q (.int n t) { s with heap := h', toks := tk })
   (hexc : ∀ k g₂ e t h' tk, p229 r = .error (k, r) → Fr h₀ L g₂ m → RaisedS base g₂ (envX cn cs L a ccd cl :: outer) e (clsOf k) t [.str r t1] news h' → RaisedK base (envX cn cs L a ccd cl :: outer) e (clsOf k) t [.str r t1] news h' → g₂.UpToSlots h' → E (.ref e) { s with heap := h', toks := tk }) :
   wpAny (model PySem.Challenge.rw_pm0034_02.row.prog w) (ktrTop dp un gd cn cs L a ccd cl outer) (call (.ref 108) [.str r t1]) Q E s := by
  walk_at "M fill"
  walk_at "M enter"
  k_steps
  · (show Q _ _)
    exact hret _ _ _ _ (by assumption) (by assumption) (news_drop2 (by assumption))
  · (show E _ _)
    exact hexc _ _ _ _ _ _ (by assumption) (by assumption) (raisedS_sub (by assumption) sub_tail) (raisedK_sub (by assumption) sub_tail) (by assumption)
end
end
section
theorem lines_B2L_0 : True := by
  k_with_none
  k_with "execs cons" => ((refine f_execs ?_; intro qk))
  k_with "eval BinOp" => ((refine f_BinOp ?_; intro qk))
  k_with "exec Assign" => ((refine f_Assign ?_; intro qk))
  k_with "eval Subscript" => ((refine f_Subscript ?_; intro qk))
  k_with "isTrue Compare" => ((refine f_Compare ?_; intro qk))
  k_with "exec If" => ((refine f_If ?_; intro qk))
  k_with "eval Call" => (((fail_if_success (with_reducible show wpAny _ _ (eval (Expr.Call (Expr.Attribute _ _ _) _ _ _) _) _ _ _)); refine f_Call ?_; intro qk))
  k_with "spliced" => ((refine f_args ?_; intro qk))
  k_with "callWith" => ((refine f_method1 ?_; intro qk))
  k_with "exec Return some" => ((refine f_Return ?_; intro qk))
  k_with "eval Tuple" => ((refine f_Tuple ?_; intro qk))
  k_with "eval List" => ((refine f_List ?_; intro qk))
  k_with "eval IfExp" => ((refine f_IfExp ?_; intro qk))
  k_with "storeName" => ((k_here; k_dflt (refine' f_store ?F ?N ?_ ?a ?b; (case F => k_asm); (case N => k_asm); (case a => rfl); (case b => rfl); k_whole; intro m' h' F' N'; (try k_sweep))))
  k_with "M map1" => (first
    | (refine map_same ?_; with_unfolding_all rfl)
    | ((repeat' (refine List.forall_mem_cons.mpr (And.intro ?_ ?_))); (all_goals first | rfl | exact List.forall_mem_nil _)))
  k_with "M map2" => (first
    | (refine SameOut.both (b := fun _ => none) ?_ ?_ <;> (repeat (refine SameOut.upd ?_ (by with_unfolding_all rfl))) <;> exact SameOut.lookup rfl)
    | (refine' SameOut.both (b := ?kb) ?k1 ?k2; (case k1 => ((repeat (refine SameOut.upd ?_ (by with_unfolding_all rfl))); exact SameOut.refl)); (case k2 => ((repeat (refine SameOut.upd ?_ (by with_unfolding_all rfl))); exact SameOut.refl)))
    | (refine' SameOut.both (b := ?kb) ?k1 ?k2; (case k2 => ((repeat (refine SameOut.upd ?_ (by with_unfolding_all rfl))); exact SameOut.refl)); (case k1 => ((repeat (refine SameOut.skip ?_)); (repeat (refine SameOut.upd ?_ (by with_unfolding_all rfl))); exact SameOut.refl)))
    | (intro y hy; (repeat (refine (if_neg (ne_of_out hy (by with_unfolding_all rfl))).trans ?_)); (refine Eq.symm ?_); (repeat (refine (if_neg (ne_of_out hy (by with_unfolding_all rfl))).trans ?_)); first | rfl | exact lookup_out rfl hy | exact (lookup_out rfl hy).symm | exact (lookup_out rfl hy).trans (lookup_out rfl hy).symm))
  k_with "M fill" => ((
    have kk : PySem.Challenge.rw_pm0034_02 = PySem.Challenge.rw_pm0034_02 ∧ KK.heap_1 = KK.heap_1 := ⟨rfl, rfl⟩
    revert kk
    k_fill
    intro kk
    clear kk))
  k_with "M enter" => ((
    refine wpAny_call ?_
    k_dflt (refine' code_def ?k1 ?k2 ?k3 ?k4 ?k5 ?kA ?kF ?kK ?k6 ?k7 ?k8 ?k9 ?kB ?_ ?c2 ?c3 ?c4 ?c5; (case kA => exact rfl); (case kF => exact rfl); (case kK => assumption); (case k1 => k_asm); (case k2 => k_asm); (case k3 => k_asm); (case k4 => k_asm); (case k5 => k_asm); (case k6 => k_is); (case k7 => k_is); (case k8 => ((try dsimp only); omega)); (case k9 => first | exact BindsTo.of_eq rfl | (refine' kp_binds ?kx ?ke; (case kx => first | (refine' myIn ?kf ?ki; (case kf => with_reducible assumption); (case ki => with_reducible assumption)) | k_in); (case ke => exact fun _ => rfl)) | exact binds_K (by first | (refine' myIn ?kf ?ki; (case kf => with_reducible assumption); (case ki => with_reducible assumption)) | k_in) rfl (by k_is) rfl rfl rfl); (case c5 => decide); (case kB => exact locs rfl); (case c2 => exact rfl); (case c3 => exact rfl); (case c4 => exact rfl); k_whole; intro g' L' h' FG' F' N' B' X' T'; (have D' := kts_dict B' (by assumption) FG' rfl); (try dsimp only); (try k_lift B'); (refine let_AE (f := execs _) ?_; intro vk ak); (refine f_QE ?_; intro qk ek))))
  k_with "M enter0" => ((
    refine wpAny_call ?_
    k_dflt (refine' code_defS0X ?k1 ?k2 ?k3 ?k4 ?k5 ?kA ?kF ?kK ?k6 ?k7 ?k8 ?k9 ?kB ?_ ?c2 ?c3 ?c4 ?c5; (case kA => exact rfl); (case kF => exact rfl); (case kK => assumption); (case k1 => k_asm); (case k2 => k_asm); (case k3 => k_asm); (case k4 => k_asm); (case k5 => k_asm); (case k6 => k_is); (case k7 => k_is); (case k8 => ((try dsimp only); omega)); (case k9 => first | exact BindsTo.of_eq rfl | (refine' kp_binds ?kx ?ke; (case kx => first | (refine' myIn ?kf ?ki; (case kf => with_reducible assumption); (case ki => with_reducible assumption)) | k_in); (case ke => exact fun _ => rfl)) | exact binds_K (by first | (refine' myIn ?kf ?ki; (case kf => with_reducible assumption); (case ki => with_reducible assumption)) | k_in) rfl (by k_is) rfl rfl rfl); (case c5 => decide); (case kB => exact locs rfl); (case c2 => exact rfl); (case c3 => exact rfl); (case c4 => exact rfl); k_whole; intro g' L' h' FG' F' N' B' X' T' D'; (try dsimp only); (try k_lift B'); (refine let_AE (f := execs _) ?_; intro vk ak); (refine f_QE ?_; intro qk ek))))
  trivial
local macro_rules | `(tactic| k_mem) => `(tactic| first | with_reducible assumption | (refine mem_in ?_; with_reducible assumption))
theorem lines_B2L_1 : True := by
  k_with "subscriptTail Name Constant ref int" => ((k_here; refine item_tupleT (News.isTup (by assumption) (by k_mem)) (by decide) (by decide) (by rfl) (by rfl) ?_))
  k_with "subscriptTail Name Constant ref int" => ((k_here; (with_reducible rename StrsAre _ _ => hSA); refine item_strsA (News.isList (by assumption) (by k_mem)) hSA (by decide) (by first | omega | (simp only [List.length_map]; omega)) (by decide) ?_; intro t'))
  k_with "call type:ValueError" => ((refine call_ValueError_made ?_; intro _ _ _))
  k_with "exec While Compare Name cons nil" => (refine Hold.mk ?_)
  k_with "exec While Compare" => (refine Hold.mk ?_)
  k_with "exec While Compare cons nil" => (refine Hold.mk ?_)
  k_with "exec While" => (refine Hold.mk ?_)
  k_with "binaryOp FloorDiv int int" => ((k_here; (with_reducible refine floordiv_pos ?kb1 ?kb2 ?_); (case kb1 => decide); (case kb2 => decide +kernel)))
  k_with "WhlIf" => ((refine whlIf_dec ?_ ?_ <;> intro _))
  k_with "subscriptTail Name Name ref int" => ((k_here; first
    | ((with_reducible rename StrsAre _ _ => hSA); refine item_strsA (News.isList (by assumption) (by k_mem)) hSA (by omega) (by omega) (by omega) ?_; intro t')
    | ((with_reducible rename IntsAre _ _ => hSA); refine item_intsA (News.isList (by assumption) (by k_mem)) hSA (by omega) (by omega) (by omega) ?_; intro t')))
  k_with "call builtin:len" => ((k_here; (with_reducible show wpAny _ _ (call (Value.builtin "len") [Value.ref _]) _ _ _); first
    | ((with_reducible rename StrsAre _ _ => hSA); refine len_strsA (News.isList (by assumption) (by k_mem)) hSA (by omega) ?_)
    | ((with_reducible rename IntsAre _ _ => hSA); refine len_intsA (News.isList (by assumption) (by k_mem)) hSA (by omega) ?_)))
  k_with "call ref" => (((with_reducible show wpAny _ _ (call (Value.ref 58) _) _ _ _); refine' parse229_long ?kB ?kX ?kT ?kXB ?kTB ?kD ?kh ?kd ?ku ?kF ?kN ?k5 ?k6 ?kp ?kv ?_ ?_; (case kB => assumption); (case kX => assumption); (case kT => assumption); (case kXB => assumption); (case kTB => assumption); (case kD => assumption); (case kh => rfl); (case kd => ((try dsimp only); omega)); (case ku => ((try dsimp only); omega)); (case kF => with_reducible assumption); (case kN => with_reducible assumption); (case k5 => assumption); (case k6 => assumption); (case kp => first | exact .head _ | with_reducible assumption); (case kv => assumption)))
  trivial
section
variable {w : World} {p : Program} {loose : List PStr} {mean : ExcName → Option Value} {mg mb : PStr → Option Value}
    {dp un : Nat} {gd : Option (List Code)} {cn : PStr} {cs : Scope} {a : Addr} {ccd : Value} {cl : List (PStr × Addr)} {outer : List Env} {A₀ : Around} {base h₀ : Heap} {L : Addr} {m : PStr → Option Value}
    {s : Shared} {Q E : Value → Shared → Prop} {news : Ldg}
    (B : Below A₀ base outer h₀) (X : (KK.heap_1 w.params).In h₀) (T : Top p loose mean mg mb h₀) (XB : (KK.heap_1 w.params).In base) (TB : Top p loose mean mg mb base) (D : KtsDicts (outer.filterMap (·.frame)) h₀) (hck : cs.kind = .function)
include B X T XB TB D hck
theorem port_long {r : PStr} {t1 : Tok} (hd5 : dp + 10 < recursionLimit) (hu5 : un + 60 < cLine) (F : Fr h₀ L s.heap m) (N : News h₀ L s.heap news)
   (hr : r.length ≤ 200000) (h640 : (p229in r).length ≤ 640) (hv : ∀ msg, p229 r ≠ .error (.value, msg))
   (hret : ∀ n t h' tk, p229 r = .ok n → Fr h₀ L h' m → News h₀ L h' news → Q (.int n t) { s with heap := h', toks := tk })
   (hexc : ∀ k g₂ e t h' tk, p229 r = .error (k, r) → Fr h₀ L g₂ m → RaisedS base g₂ (envX cn cs L a ccd cl :: outer) e (clsOf k) t [.str r t1] news h' → RaisedK base (envX cn cs L a ccd cl :: outer) e (clsOf k) t [.str r t1] news h' → g₂.UpToSlots h' → E (.ref e) { s with heap := h', toks := tk }) :
   wpAny (model PySem.Challenge.rw_pm0034_02.row.prog w) (ktrTop dp un gd cn cs L a ccd cl outer) (call (.ref 108) [.str r t1]) Q E s := by
  walk_at "M fill"
  walk_at "M enter"
  k_steps
  · (show Q _ _)
    exact hret _ _ _ _ (by assumption) (by assumption) (news_drop2 (by assumption))
  · (show E _ _)
    exact hexc _ _ _ _ _ _ (by assumption) (by assumption) (raisedS_sub (by assumption) sub_tail) (raisedK_sub (by assumption) sub_tail) (by assumption)
end
end
section
theorem lines_G2_0 : True := by
  k_with_none
  k_with "execs cons" => ((refine f_execs ?_; intro qk))
  k_with "eval BinOp" => ((refine f_BinOp ?_; intro qk))
  k_with "exec Assign" => ((refine f_Assign ?_; intro qk))
  k_with "eval Subscript" => ((refine f_Subscript ?_; intro qk))
  k_with "isTrue Compare" => ((refine f_Compare ?_; intro qk))
  k_with "exec If" => ((refine f_If ?_; intro qk))
  k_with "eval Call" => (((fail_if_success (with_reducible show wpAny _ _ (eval (Expr.Call (Expr.Attribute _ _ _) _ _ _) _) _ _ _)); refine f_Call ?_; intro qk))
  k_with "spliced" => ((refine f_args ?_; intro qk))
  k_with "callWith" => ((refine f_method1 ?_; intro qk))
  k_with "exec Return some" => ((refine f_Return ?_; intro qk))
  k_with "eval Tuple" => ((refine f_Tuple ?_; intro qk))
  k_with "eval List" => ((refine f_List ?_; intro qk))
  k_with "eval IfExp" => ((refine f_IfExp ?_; intro qk))
  k_with "storeName" => ((k_here; k_dflt (refine' f_store ?F ?N ?_ ?a ?b; (case F => k_asm); (case N => k_asm); (case a => rfl); (case b => rfl); k_whole; intro m' h' F' N'; (try k_sweep))))
  k_with "M map1" => (first
    | (refine map_same ?_; with_unfolding_all rfl)
    | ((repeat' (refine List.forall_mem_cons.mpr (And.intro ?_ ?_))); (all_goals first | rfl | exact List.forall_mem_nil _)))
  k_with "M map2" => (first
    | (refine SameOut.both (b := fun _ => none) ?_ ?_ <;> (repeat (refine SameOut.upd ?_ (by with_unfolding_all rfl))) <;> exact SameOut.lookup rfl)
    | (refine' SameOut.both (b := ?kb) ?k1 ?k2; (case k1 => ((repeat (refine SameOut.upd ?_ (by with_unfolding_all rfl))); exact SameOut.refl)); (case k2 => ((repeat (refine SameOut.upd ?_ (by with_unfolding_all rfl))); exact SameOut.refl)))
    | (refine' SameOut.both (b := ?kb) ?k1 ?k2; (case k2 => ((repeat (refine SameOut.upd ?_ (by with_unfolding_all rfl))); exact SameOut.refl)); (case k1 => ((repeat (refine SameOut.skip ?_)); (repeat (refine SameOut.upd ?_ (by with_unfolding_all rfl))); exact SameOut.refl)))
    | (intro y hy; (repeat (refine (if_neg (ne_of_out hy (by with_unfolding_all rfl))).trans ?_)); (refine Eq.symm ?_); (repeat (refine (if_neg (ne_of_out hy (by with_unfolding_all rfl))).trans ?_)); first | rfl | exact lookup_out rfl hy | exact (lookup_out rfl hy).symm | exact (lookup_out rfl hy).trans (lookup_out rfl hy).symm))
  k_with "M fill" => ((
    have kk : PySem.Challenge.rw_pm0034_02 = PySem.Challenge.rw_pm0034_02 ∧ KK.heap_1 = KK.heap_1 := ⟨rfl, rfl⟩
    revert kk
    k_fill
    intro kk
    clear kk))
  k_with "M enter" => ((
    refine wpAny_call ?_
    k_dflt (refine' code_def ?k1 ?k2 ?k3 ?k4 ?k5 ?kA ?kF ?kK ?k6 ?k7 ?k8 ?k9 ?kB ?_ ?c2 ?c3 ?c4 ?c5; (case kA => exact rfl); (case kF => exact rfl); (case kK => assumption); (case k1 => k_asm); (case k2 => k_asm); (case k3 => k_asm); (case k4 => k_asm); (case k5 => k_asm); (case k6 => k_is); (case k7 => k_is); (case k8 => ((try dsimp only); omega)); (case k9 => first | exact BindsTo.of_eq rfl | (refine' kp_binds ?kx ?ke; (case kx => first | (refine' myIn ?kf ?ki; (case kf => with_reducible assumption); (case ki => with_reducible assumption)) | k_in); (case ke => exact fun _ => rfl)) | exact binds_K (by first | (refine' myIn ?kf ?ki; (case kf => with_reducible assumption); (case ki => with_reducible assumption)) | k_in) rfl (by k_is) rfl rfl rfl); (case c5 => decide); (case kB => exact locs rfl); (case c2 => exact rfl); (case c3 => exact rfl); (case c4 => exact rfl); k_whole; intro g' L' h' FG' F' N' B' X' T'; (have D' := kts_dict B' (by assumption) FG' rfl); (try dsimp only); (try k_lift B'); (refine let_AE (f := execs _) ?_; intro vk ak); (refine f_QE ?_; intro qk ek))))
  k_with "M enter0" => ((
    refine wpAny_call ?_
    k_dflt (refine' code_defS0X ?k1 ?k2 ?k3 ?k4 ?k5 ?kA ?kF ?kK ?k6 ?k7 ?k8 ?k9 ?kB ?_ ?c2 ?c3 ?c4 ?c5; (case kA => exact rfl); (case kF => exact rfl); (case kK => assumption); (case k1 => k_asm); (case k2 => k_asm); (case k3 => k_asm); (case k4 => k_asm); (case k5 => k_asm); (case k6 => k_is); (case k7 => k_is); (case k8 => ((try dsimp only); omega)); (case k9 => first | exact BindsTo.of_eq rfl | (refine' kp_binds ?kx ?ke; (case kx => first | (refine' myIn ?kf ?ki; (case kf => with_reducible assumption); (case ki => with_reducible assumption)) | k_in); (case ke => exact fun _ => rfl)) | exact binds_K (by first | (refine' myIn ?kf ?ki; (case kf => with_reducible assumption); (case ki => with_reducible assumption)) | k_in) rfl (by k_is) rfl rfl rfl); (case c5 => decide); (case kB => exact locs rfl); (case c2 => exact rfl); (case c3 => exact rfl); (case c4 => exact rfl); k_whole; intro g' L' h' FG' F' N' B' X' T' D'; (try dsimp only); (try k_lift B'); (refine let_AE (f := execs _) ?_; intro vk ak); (refine f_QE ?_; intro qk ek))))
  trivial
local macro_rules | `(tactic| k_mem) => `(tactic| first | with_reducible assumption | (refine mem_in ?_; with_reducible assumption))
theorem lines_G2_1 : True := by
  k_with "subscriptTail Name Constant ref int" => ((k_here; refine item_tupleT (News.isTup (by assumption) (by k_mem)) (by decide) (by decide) (by rfl) (by rfl) ?_))
  k_with "subscriptTail Name Constant ref int" => ((k_here; (with_reducible rename StrsAre _ _ => hSA); refine item_strsA (News.isList (by assumption) (by k_mem)) hSA (by decide) (by first | omega | (simp only [List.length_map]; omega)) (by decide) ?_; intro t'))
  k_with "call type:ValueError" => ((refine call_ValueError_made ?_; intro _ _ _))
  k_with "exec While Compare Name cons nil" => (refine Hold.mk ?_)
  k_with "exec While Compare" => (refine Hold.mk ?_)
  k_with "exec While Compare cons nil" => (refine Hold.mk ?_)
  k_with "exec While" => (refine Hold.mk ?_)
  k_with "binaryOp FloorDiv int int" => ((k_here; (with_reducible refine floordiv_pos ?kb1 ?kb2 ?_); (case kb1 => decide); (case kb2 => decide +kernel)))
  k_with "WhlIf" => ((refine whlIf_dec ?_ ?_ <;> intro _))
  k_with "subscriptTail Name Name ref int" => ((k_here; first
    | ((with_reducible rename StrsAre _ _ => hSA); refine item_strsA (News.isList (by assumption) (by k_mem)) hSA (by omega) (by omega) (by omega) ?_; intro t')
    | ((with_reducible rename IntsAre _ _ => hSA); refine item_intsA (News.isList (by assumption) (by k_mem)) hSA (by omega) (by omega) (by omega) ?_; intro t')))
  k_with "call builtin:len" => ((k_here; (with_reducible show wpAny _ _ (call (Value.builtin "len") [Value.ref _]) _ _ _); first
    | ((with_reducible rename StrsAre _ _ => hSA); refine len_strsA (News.isList (by assumption) (by k_mem)) hSA (by omega) ?_)
    | ((with_reducible rename IntsAre _ _ => hSA); refine len_intsA (News.isList (by assumption) (by k_mem)) hSA (by omega) ?_)))
  trivial
section
variable {w : World} {p : Program} {loose : List PStr} {mean : ExcName → Option Value} {mg mb : PStr → Option Value}
    {dp un : Nat} {gd : Option (List Code)} {cn : PStr} {cs : Scope} {a : Addr} {ccd : Value} {cl : List (PStr × Addr)} {outer : List Env} {A₀ : Around} {base h₀ : Heap} {L : Addr} {m : PStr → Option Value}
    {s : Shared} {Q E : Value → Shared → Prop} {news : Ldg}
    (B : Below A₀ base outer h₀) (X : (KK.heap_1 w.params).In h₀) (T : Top p loose mean mg mb h₀) (XB : (KK.heap_1 w.params).In base) (TB : Top p loose mean mg mb base) (D : KtsDicts (outer.filterMap (·.frame)) h₀) (hck : cs.kind = .function)
include B X T XB TB D hck
theorem parse257_spec {r : PStr} {t1 : Tok} (hd5 : dp + 5 < recursionLimit) (hu5 : un + 50 < cLine) (F : Fr h₀ L s.heap m) (N : News h₀ L s.heap news)
   (hr : r.length ≤ 1000000)
   (hret : ∀ x t h' tk, p257 r = .ok x → Fr h₀ L h' m → News h₀ L h' news → Q (.str x t) { s with heap := h', toks := tk })
   (hexc : ∀ k g₂ e t h' tk, p257 r = .error (k, r) → Fr h₀ L g₂ m → RaisedS base g₂ (envX cn cs L a ccd cl :: outer) e (clsOf k) t [.str r t1] news h' → RaisedK base (envX cn cs L a ccd cl :: outer) e (clsOf k) t [.str r t1] news h' → g₂.UpToSlots h' → E (.ref e) { s with heap := h', toks := tk }) :
   wpAny (model PySem.Challenge.rw_pm0034_02.row.prog w) (ktrTop dp un gd cn cs L a ccd cl outer) (call (.ref 65) [.str r t1]) Q E s := by
  walk_at "M fill"
  walk_at "M enter"
  k_steps
  · (show E _ _)
    exact hexc .reply _ _ _ _ _ (if_pos (by assumption)) (by assumption) (by assumption) (by assumption) (by assumption)
  · (show Q _ _)
    exact hret _ _ _ _ ((if_neg (Bool.eq_false_iff.mp (by assumption))).trans (if_pos (by assumption))) (by assumption) (by assumption)
  refine Hold.out ?_
  have hp : p257 r = .ok (go257 r (r.length - 5) 5 Str.empty) := (if_neg (Bool.eq_false_iff.mp (by assumption))).trans (if_neg (Bool.eq_false_iff.mp (by assumption)))
  (with_reducible rename Fr _ _ _ _ => kF)
  refine' while_fr (fun i : Nat × PStr × Tok × Tok × Tok × Option Value => r.length - i.1) (fun i => i.2.1.length ≤ i.1 ∧ i.1 ≤ r.length + 5 ∧ p257 r = .ok (go257 r (r.length - i.1) i.1 i.2.1))
    (fun i y => if y = Str.ofString "c" then i.2.2.2.2.2 else List.lookup y [(Str.ofString "i", .int i.1 i.2.2.1), (Str.ofString "dirname", .str i.2.1 i.2.2.2.1), (Str.ofString "n", .int r.length i.2.2.2.2.1), (Str.ofString "resp", .str r t1)])
    (fun _ => news) (5, Str.empty, _, _, _, none) [Str.ofString "i", Str.ofString "dirname", Str.ofString "n", Str.ofString "resp", Str.ofString "c"] kF (by with_reducible assumption) ⟨Nat.zero_le _, Nat.le_add_left _ _, hp⟩ ?m1 ?m2 (fun _ q => q) ?step ?hE
  case m1 => walk_at "M map1"
  case m2 => walk_at "M map2"
  case hE => with_unfolding_all passes_own
  clear kF
  rintro ⟨i1, d1, t2, t3, t4, mo⟩ h tk ⟨hd1, hi1, hb1⟩ kF1 kN1
  dsimp only at hd1 hi1 hb1 kF1 kN1
  k_steps
  · dsimp only
    k_steps
    refine whlFr_brk ?_
    dsimp only
    k_steps
    (show Q _ _)
    exact hret _ _ _ _ (hb1.trans (congrArg Except.ok (go_stop1 (by assumption) (by assumption) (by assumption)))) (by assumption) (by assumption)
  · dsimp only
    k_steps
    refine whlFr_brk ?_
    dsimp only
    k_steps
    (show Q _ _)
    exact hret _ _ _ _ (hb1.trans (congrArg Except.ok (go_stop2 (by assumption) (by assumption) (by assumption) (by assumption)))) (by assumption) (by assumption)
  · refine' whlFr_next (i1 + 2, d1 ++ Txt.item r i1, _, _, _, _) [Str.ofString "i", Str.ofString "dirname", Str.ofString "n", Str.ofString "resp", Str.ofString "c"] (by with_reducible assumption) (by with_reducible assumption) ?mu1 ?c1 ?m11 ?m12 (fun _ q => q)
    case mu1 => dsimp only; omega
    case c1 => exact ⟨by dsimp only; omega, by dsimp only; omega, hb1.trans (congrArg Except.ok (go_pair (by assumption) (by assumption) (by assumption) (by assumption)))⟩
    case m11 => walk_at "M map1"
    case m12 => walk_at "M map2"
  · refine' whlFr_next (i1 + 1, d1 ++ Txt.item r i1, _, _, _, _) [Str.ofString "i", Str.ofString "dirname", Str.ofString "n", Str.ofString "resp", Str.ofString "c"] (by with_reducible assumption) (by with_reducible assumption) ?mu2 ?c2 ?m21 ?m22 (fun _ q => q)
    case mu2 => dsimp only; omega
    case c2 => exact ⟨by dsimp only; omega, by dsimp only; omega, hb1.trans (congrArg Except.ok (go_plain (by assumption) (by assumption)))⟩
    case m21 => walk_at "M map1"
    case m22 => walk_at "M map2"
  · (show Q _ _)
    exact hret _ _ _ _ (hb1.trans (congrArg Except.ok (go_end (by assumption)))) (by assumption) (by assumption)
end
end
section
theorem lines_C2_0 : True := by
  k_with_none
  k_with "execs cons" => ((refine f_execs ?_; intro qk))
  k_with "eval BinOp" => ((refine f_BinOp ?_; intro qk))
  k_with "exec Assign" => ((refine f_Assign ?_; intro qk))
  k_with "eval Subscript" => ((refine f_Subscript ?_; intro qk))
  k_with "isTrue Compare" => ((refine f_Compare ?_; intro qk))
  k_with "exec If" => ((refine f_If ?_; intro qk))
  k_with "eval Call" => (((fail_if_success (with_reducible show wpAny _ _ (eval (Expr.Call (Expr.Attribute _ _ _) _ _ _) _) _ _ _)); refine f_Call ?_; intro qk))
  k_with "spliced" => ((refine f_args ?_; intro qk))
  k_with "callWith" => ((refine f_method1 ?_; intro qk))
  k_with "exec Return some" => ((refine f_Return ?_; intro qk))
  k_with "eval Tuple" => ((refine f_Tuple ?_; intro qk))
  k_with "eval List" => ((refine f_List ?_; intro qk))
  k_with "eval IfExp" => ((refine f_IfExp ?_; intro qk))
  k_with "storeName" => ((k_here; k_dflt (refine' f_store ?F ?N ?_ ?a ?b; (case F => k_asm); (case N => k_asm); (case a => rfl); (case b => rfl); k_whole; intro m' h' F' N'; (try k_sweep))))
  k_with "M map1" => (first
    | (refine map_same ?_; with_unfolding_all rfl)
    | ((repeat' (refine List.forall_mem_cons.mpr (And.intro ?_ ?_))); (all_goals first | rfl | exact List.forall_mem_nil _)))
  k_with "M map2" => (first
    | (refine SameOut.both (b := fun _ => none) ?_ ?_ <;> (repeat (refine SameOut.upd ?_ (by with_unfolding_all rfl))) <;> exact SameOut.lookup rfl)
    | (refine' SameOut.both (b := ?kb) ?k1 ?k2; (case k1 => ((repeat (refine SameOut.upd ?_ (by with_unfolding_all rfl))); exact SameOut.refl)); (case k2 => ((repeat (refine SameOut.upd ?_ (by with_unfolding_all rfl))); exact SameOut.refl)))
    | (refine' SameOut.both (b := ?kb) ?k1 ?k2; (case k2 => ((repeat (refine SameOut.upd ?_ (by with_unfolding_all rfl))); exact SameOut.refl)); (case k1 => ((repeat (refine SameOut.skip ?_)); (repeat (refine SameOut.upd ?_ (by with_unfolding_all rfl))); exact SameOut.refl)))
    | (intro y hy; (repeat (refine (if_neg (ne_of_out hy (by with_unfolding_all rfl))).trans ?_)); (refine Eq.symm ?_); (repeat (refine (if_neg (ne_of_out hy (by with_unfolding_all rfl))).trans ?_)); first | rfl | exact lookup_out rfl hy | exact (lookup_out rfl hy).symm | exact (lookup_out rfl hy).trans (lookup_out rfl hy).symm))
  k_with "M fill" => ((
    have kk : PySem.Challenge.rw_pm0034_02 = PySem.Challenge.rw_pm0034_02 ∧ KK.heap_1 = KK.heap_1 := ⟨rfl, rfl⟩
    revert kk
    k_fill
    intro kk
    clear kk))
  k_with "M enter" => ((
    refine wpAny_call ?_
    k_dflt (refine' code_def ?k1 ?k2 ?k3 ?k4 ?k5 ?kA ?kF ?kK ?k6 ?k7 ?k8 ?k9 ?kB ?_ ?c2 ?c3 ?c4 ?c5; (case kA => exact rfl); (case kF => exact rfl); (case kK => assumption); (case k1 => k_asm); (case k2 => k_asm); (case k3 => k_asm); (case k4 => k_asm); (case k5 => k_asm); (case k6 => k_is); (case k7 => k_is); (case k8 => ((try dsimp only); omega)); (case k9 => first | exact BindsTo.of_eq rfl | (refine' kp_binds ?kx ?ke; (case kx => first | (refine' myIn ?kf ?ki; (case kf => with_reducible assumption); (case ki => with_reducible assumption)) | k_in); (case ke => exact fun _ => rfl)) | exact binds_K (by first | (refine' myIn ?kf ?ki; (case kf => with_reducible assumption); (case ki => with_reducible assumption)) | k_in) rfl (by k_is) rfl rfl rfl); (case c5 => decide); (case kB => exact locs rfl); (case c2 => exact rfl); (case c3 => exact rfl); (case c4 => exact rfl); k_whole; intro g' L' h' FG' F' N' B' X' T'; (have D' := kts_dict B' (by assumption) FG' rfl); (try dsimp only); (try k_lift B'); (refine let_AE (f := execs _) ?_; intro vk ak); (refine f_QE ?_; intro qk ek))))
  k_with "M enter0" => ((
    refine wpAny_call ?_
    k_dflt (refine' code_defS0X ?k1 ?k2 ?k3 ?k4 ?k5 ?kA ?kF ?kK ?k6 ?k7 ?k8 ?k9 ?kB ?_ ?c2 ?c3 ?c4 ?c5; (case kA => exact rfl); (case kF => exact rfl); (case kK => assumption); (case k1 => k_asm); (case k2 => k_asm); (case k3 => k_asm); (case k4 => k_asm); (case k5 => k_asm); (case k6 => k_is); (case k7 => k_is); (case k8 => ((try dsimp only); omega)); (case k9 => first | exact BindsTo.of_eq rfl | (refine' kp_binds ?kx ?ke; (case kx => first | (refine' myIn ?kf ?ki; (case kf => with_reducible assumption); (case ki => with_reducible assumption)) | k_in); (case ke => exact fun _ => rfl)) | exact binds_K (by first | (refine' myIn ?kf ?ki; (case kf => with_reducible assumption); (case ki => with_reducible assumption)) | k_in) rfl (by k_is) rfl rfl rfl); (case c5 => decide); (case kB => exact locs rfl); (case c2 => exact rfl); (case c3 => exact rfl); (case c4 => exact rfl); k_whole; intro g' L' h' FG' F' N' B' X' T' D'; (try dsimp only); (try k_lift B'); (refine let_AE (f := execs _) ?_; intro vk ak); (refine f_QE ?_; intro qk ek))))
  trivial
local macro_rules | `(tactic| k_mem) => `(tactic| first | with_reducible assumption | (refine mem_in ?_; with_reducible assumption))
theorem lines_C2_1 : True := by
  k_with "subscriptTail Name Constant ref int" => ((k_here; refine item_tupleT (News.isTup (by assumption) (by k_mem)) (by decide) (by decide) (by rfl) (by rfl) ?_))
  k_with "subscriptTail Name Constant ref int" => ((k_here; (with_reducible rename StrsAre _ _ => hSA); refine item_strsA (News.isList (by assumption) (by k_mem)) hSA (by decide) (by first | omega | (simp only [List.length_map]; omega)) (by decide) ?_; intro t'))
  k_with "call type:ValueError" => ((refine call_ValueError_made ?_; intro _ _ _))
  k_with "exec While Compare Name cons nil" => (refine Hold.mk ?_)
  k_with "exec While Compare" => (refine Hold.mk ?_)
  k_with "exec While Compare cons nil" => (refine Hold.mk ?_)
  k_with "exec While" => (refine Hold.mk ?_)
  k_with "binaryOp FloorDiv int int" => ((k_here; (with_reducible refine floordiv_pos ?kb1 ?kb2 ?_); (case kb1 => decide); (case kb2 => decide +kernel)))
  k_with "WhlIf" => ((refine whlIf_dec ?_ ?_ <;> intro _))
  k_with "subscriptTail Name Name ref int" => ((k_here; first
    | ((with_reducible rename StrsAre _ _ => hSA); refine item_strsA (News.isList (by assumption) (by k_mem)) hSA (by omega) (by omega) (by omega) ?_; intro t')
    | ((with_reducible rename IntsAre _ _ => hSA); refine item_intsA (News.isList (by assumption) (by k_mem)) hSA (by omega) (by omega) (by omega) ?_; intro t')))
  k_with "call builtin:len" => ((k_here; (with_reducible show wpAny _ _ (call (Value.builtin "len") [Value.ref _]) _ _ _); first
    | ((with_reducible rename StrsAre _ _ => hSA); refine len_strsA (News.isList (by assumption) (by k_mem)) hSA (by omega) ?_)
    | ((with_reducible rename IntsAre _ _ => hSA); refine len_intsA (News.isList (by assumption) (by k_mem)) hSA (by omega) ?_)))
  k_with "call ref" => (((with_reducible show wpAny _ _ (call (Value.ref 108) _) _ _ _); refine' port_spec ?kB ?kX ?kT ?kXB ?kTB ?kD ?kh ?kd ?ku ?kF ?kN ?k6 ?kv ?_ ?_; (case kB => assumption); (case kX => assumption); (case kT => assumption); (case kXB => assumption); (case kTB => assumption); (case kD => assumption); (case kh => rfl); (case kd => ((try dsimp only); omega)); (case ku => ((try dsimp only); omega)); (case kF => with_reducible assumption); (case kN => with_reducible assumption); (case k6 => first | exact getD_640 (by assumption) _ | assumption); (case kv => first | assumption | (have q := bis_nv (by assumption) (by assumption) (by assumption); exact q) | (have q := bis_nv ((by assumption : 0 ≤ _ → ∀ msg, _ ≠ _) (by omega)) (by assumption) (by assumption); exact q))))
  trivial
section
variable {w : World} {p : Program} {loose : List PStr} {mean : ExcName → Option Value} {mg mb : PStr → Option Value}
    {dp un : Nat} {gd : Option (List Code)} {cn : PStr} {cs : Scope} {a : Addr} {ccd : Value} {cl : List (PStr × Addr)} {outer : List Env} {A₀ : Around} {base h₀ : Heap} {L : Addr} {m : PStr → Option Value}
    {s : Shared} {Q E : Value → Shared → Prop} {news : Ldg}
    (B : Below A₀ base outer h₀) (X : (KK.heap_1 w.params).In h₀) (T : Top p loose mean mg mb h₀) (XB : (KK.heap_1 w.params).In base) (TB : Top p loose mean mg mb base) (D : KtsDicts (outer.filterMap (·.frame)) h₀) (hck : cs.kind = .function)
include B X T XB TB D hck
theorem bisR_full {ra : Addr} {vs : List Value} {k : Nat → KRes} {nn ep : Nat} {x : Int} {lo : Int} {hi : Nat} {kv hv : Value} {tx tl : Tok} (hd5 : dp + 20 < recursionLimit) (hu5 : un + 100 < cLine) (F : Fr h₀ L s.heap m) (N : News h₀ L s.heap news)
   (hra : (ra, lstOf vs ep) ∈ news) (hrow : RowIs 108 kv vs k nn) (hl : nn ≤ 1000) (hhi : HiIs hv hi nn) (hv0 : 0 ≤ lo → ∀ msg, bisZ true k x lo hi ≠ .error (.value, msg))
   (hret : ∀ n t h' tk, bisZ true k x lo hi = .ok n → Fr h₀ L h' m → News h₀ L h' news → Q (.int n t) { s with heap := h', toks := tk })
   (hexc : ∀ ek r t1 g₂ e t h' tk, bisZ true k x lo hi = .error (ek, r) → Fr h₀ L g₂ m → RaisedS base g₂ (envX cn cs L a ccd cl :: outer) e (clsOf ek) t [.str r t1] news h' → RaisedK base (envX cn cs L a ccd cl :: outer) e (clsOf ek) t [.str r t1] news h' → g₂.UpToSlots h' → E (.ref e) { s with heap := h', toks := tk }) :
   wpAny (model PySem.Challenge.rw_pm0034_02.row.prog w) (ktrTop dp un gd cn cs L a ccd cl outer) (call (.ref 83) [.ref ra, .int x tx, .int lo tl, hv] [(Str.ofString "key", kv)]) Q E s := by
  walk_at "M fill"
  rcases hrow with ⟨ys, hS, rfl, rfl, rfl, h640⟩ | ⟨ns, hS, rfl, rfl, rfl⟩
  · rcases hhi with ⟨rfl, rfl⟩ | ⟨th, rfl, hhi⟩
    · skip
      walk_at "M enter"
      k_steps
      · (show E _ _)
        exact hexc _ _ _ _ _ _ _ _ (bisZ_neg (by assumption)) (by assumption) (by assumption) (by assumption) (by assumption)
      obtain ⟨l0, rfl⟩ := nat_of (by assumption)
      have hv1 := hv0 (Int.natCast_nonneg _)
      refine Hold.out ?_
      (with_reducible rename Fr _ _ _ _ => kF)
      refine' while_fr (fun i : Nat × Nat × Tok × Tok × Option Value => i.2.1 - i.1) (fun i => i.2.1 ≤ ys.length ∧ bisZ true (fun i => p229 (ys.getD i Str.empty)) x (l0 : Int) ys.length = bis true (fun i => p229 (ys.getD i Str.empty)) x (i.2.1 - i.1) i.1 i.2.1)
        (fun i y => if y = Str.ofString "mid" then i.2.2.2.2 else List.lookup y [(Str.ofString "lo", .int i.1 i.2.2.1), (Str.ofString "hi", .int i.2.1 i.2.2.2.1), (Str.ofString "a", .ref ra), (Str.ofString "x", .int x tx), (Str.ofString "key", .ref 108)])
        (fun _ => news) (l0, ys.length, _, _, none) [Str.ofString "lo", Str.ofString "hi", Str.ofString "mid", Str.ofString "a", Str.ofString "x", Str.ofString "key"] kF (by with_reducible assumption) ⟨by first | assumption | exact Nat.le_refl _, bisZ_nat⟩ ?m1_1 ?m2_1 (fun _ q => q) ?step_1 ?hE_1
      case m1_1 => walk_at "M map1"
      case m2_1 => walk_at "M map2"
      case hE_1 => with_unfolding_all passes_own
      clear kF
      rintro ⟨l1, h1, t1, t2, mo⟩ h tk ⟨hh1, hb1⟩ kF1 kN1
      dsimp only at hh1 hb1 kF1 kN1
      k_steps
      · refine' whlFr_next (l1, (l1 + h1) / 2, _, _, _) [Str.ofString "lo", Str.ofString "hi", Str.ofString "mid", Str.ofString "a", Str.ofString "x", Str.ofString "key"] (by with_reducible assumption) (by with_reducible assumption) ?mu_1 ?c_1 ?m1_1 ?m2_1 (fun _ q => q)
        case mu_1 => dsimp only; omega
        case c_1 => exact ⟨by dsimp only; omega, hb1.trans (bisR_hi (k := (fun i => p229 (ys.getD i Str.empty))) (by assumption) (by assumption) (by assumption))⟩
        case m1_1 => walk_at "M map1"
        case m2_1 => walk_at "M map2"
      · refine' whlFr_next ((l1 + h1) / 2 + 1, h1, _, _, _) [Str.ofString "lo", Str.ofString "hi", Str.ofString "mid", Str.ofString "a", Str.ofString "x", Str.ofString "key"] (by with_reducible assumption) (by with_reducible assumption) ?mu_1 ?c_1 ?m1_1 ?m2_1 (fun _ q => q)
        case mu_1 => dsimp only; omega
        case c_1 => exact ⟨hh1, hb1.trans (bisR_lo (k := (fun i => p229 (ys.getD i Str.empty))) (by assumption) (by assumption) (by assumption))⟩
        case m1_1 => walk_at "M map1"
        case m2_1 => walk_at "M map2"
      · (show E _ _)
        exact hexc _ _ _ _ _ _ _ _ (hb1.trans (bis_err (k := (fun i => p229 (ys.getD i Str.empty))) (by assumption) (by assumption))) (by assumption) (by assumption) (by assumption) (by assumption)
      · (show Q _ _)
        exact hret _ _ _ _ (hb1.trans (bis_end (by assumption))) (by assumption) (by assumption)
    · skip
      walk_at "M enter"
      k_steps
      · (show E _ _)
        exact hexc _ _ _ _ _ _ _ _ (bisZ_neg (by assumption)) (by assumption) (by assumption) (by assumption) (by assumption)
      obtain ⟨l0, rfl⟩ := nat_of (by assumption)
      have hv1 := hv0 (Int.natCast_nonneg _)
      refine Hold.out ?_
      (with_reducible rename Fr _ _ _ _ => kF)
      refine' while_fr (fun i : Nat × Nat × Tok × Tok × Option Value => i.2.1 - i.1) (fun i => i.2.1 ≤ ys.length ∧ bisZ true (fun i => p229 (ys.getD i Str.empty)) x (l0 : Int) hi = bis true (fun i => p229 (ys.getD i Str.empty)) x (i.2.1 - i.1) i.1 i.2.1)
        (fun i y => if y = Str.ofString "mid" then i.2.2.2.2 else List.lookup y [(Str.ofString "lo", .int i.1 i.2.2.1), (Str.ofString "hi", .int i.2.1 i.2.2.2.1), (Str.ofString "a", .ref ra), (Str.ofString "x", .int x tx), (Str.ofString "key", .ref 108)])
        (fun _ => news) (l0, hi, _, _, none) [Str.ofString "lo", Str.ofString "hi", Str.ofString "mid", Str.ofString "a", Str.ofString "x", Str.ofString "key"] kF (by with_reducible assumption) ⟨by first | assumption | exact Nat.le_refl _, bisZ_nat⟩ ?m1_2 ?m2_2 (fun _ q => q) ?step_2 ?hE_2
      case m1_2 => walk_at "M map1"
      case m2_2 => walk_at "M map2"
      case hE_2 => with_unfolding_all passes_own
      clear kF
      rintro ⟨l1, h1, t1, t2, mo⟩ h tk ⟨hh1, hb1⟩ kF1 kN1
      dsimp only at hh1 hb1 kF1 kN1
      k_steps
      · refine' whlFr_next (l1, (l1 + h1) / 2, _, _, _) [Str.ofString "lo", Str.ofString "hi", Str.ofString "mid", Str.ofString "a", Str.ofString "x", Str.ofString "key"] (by with_reducible assumption) (by with_reducible assumption) ?mu_2 ?c_2 ?m1_2 ?m2_2 (fun _ q => q)
        case mu_2 => dsimp only; omega
        case c_2 => exact ⟨by dsimp only; omega, hb1.trans (bisR_hi (k := (fun i => p229 (ys.getD i Str.empty))) (by assumption) (by assumption) (by assumption))⟩
        case m1_2 => walk_at "M map1"
        case m2_2 => walk_at "M map2"
      · refine' whlFr_next ((l1 + h1) / 2 + 1, h1, _, _, _) [Str.ofString "lo", Str.ofString "hi", Str.ofString "mid", Str.ofString "a", Str.ofString "x", Str.ofString "key"] (by with_reducible assumption) (by with_reducible assumption) ?mu_2 ?c_2 ?m1_2 ?m2_2 (fun _ q => q)
        case mu_2 => dsimp only; omega
        case c_2 => exact ⟨hh1, hb1.trans (bisR_lo (k := (fun i => p229 (ys.getD i Str.empty))) (by assumption) (by assumption) (by assumption))⟩
        case m1_2 => walk_at "M map1"
        case m2_2 => walk_at "M map2"
      · (show E _ _)
        exact hexc _ _ _ _ _ _ _ _ (hb1.trans (bis_err (k := (fun i => p229 (ys.getD i Str.empty))) (by assumption) (by assumption))) (by assumption) (by assumption) (by assumption) (by assumption)
      · (show Q _ _)
        exact hret _ _ _ _ (hb1.trans (bis_end (by assumption))) (by assumption) (by assumption)
  · rcases hhi with ⟨rfl, rfl⟩ | ⟨th, rfl, hhi⟩
    · skip
      walk_at "M enter"
      k_steps
      · (show E _ _)
        exact hexc _ _ _ _ _ _ _ _ (bisZ_neg (by assumption)) (by assumption) (by assumption) (by assumption) (by assumption)
      obtain ⟨l0, rfl⟩ := nat_of (by assumption)
      have hv1 := hv0 (Int.natCast_nonneg _)
      refine Hold.out ?_
      (with_reducible rename Fr _ _ _ _ => kF)
      refine' while_fr (fun i : Nat × Nat × Tok × Tok × Option Value => i.2.1 - i.1) (fun i => i.2.1 ≤ ns.length ∧ bisZ true (fun i => .ok (ns.getD i 0)) x (l0 : Int) ns.length = bis true (fun i => .ok (ns.getD i 0)) x (i.2.1 - i.1) i.1 i.2.1)
        (fun i y => if y = Str.ofString "mid" then i.2.2.2.2 else List.lookup y [(Str.ofString "lo", .int i.1 i.2.2.1), (Str.ofString "hi", .int i.2.1 i.2.2.2.1), (Str.ofString "a", .ref ra), (Str.ofString "x", .int x tx), (Str.ofString "key", .none)])
        (fun _ => news) (l0, ns.length, _, _, none) [Str.ofString "lo", Str.ofString "hi", Str.ofString "mid", Str.ofString "a", Str.ofString "x", Str.ofString "key"] kF (by with_reducible assumption) ⟨by first | assumption | exact Nat.le_refl _, bisZ_nat⟩ ?m1_3 ?m2_3 (fun _ q => q) ?step_3 ?hE_3
      case m1_3 => walk_at "M map1"
      case m2_3 => walk_at "M map2"
      case hE_3 => with_unfolding_all passes_own
      clear kF
      rintro ⟨l1, h1, t1, t2, mo⟩ h tk ⟨hh1, hb1⟩ kF1 kN1
      dsimp only at hh1 hb1 kF1 kN1
      k_steps
      · refine' whlFr_next (l1, (l1 + h1) / 2, _, _, _) [Str.ofString "lo", Str.ofString "hi", Str.ofString "mid", Str.ofString "a", Str.ofString "x", Str.ofString "key"] (by with_reducible assumption) (by with_reducible assumption) ?mu_3 ?c_3 ?m1_3 ?m2_3 (fun _ q => q)
        case mu_3 => dsimp only; omega
        case c_3 => exact ⟨by dsimp only; omega, hb1.trans (bisR_hi (k := (fun i => .ok (ns.getD i 0))) (by assumption) rfl (by assumption))⟩
        case m1_3 => walk_at "M map1"
        case m2_3 => walk_at "M map2"
      · refine' whlFr_next ((l1 + h1) / 2 + 1, h1, _, _, _) [Str.ofString "lo", Str.ofString "hi", Str.ofString "mid", Str.ofString "a", Str.ofString "x", Str.ofString "key"] (by with_reducible assumption) (by with_reducible assumption) ?mu_3 ?c_3 ?m1_3 ?m2_3 (fun _ q => q)
        case mu_3 => dsimp only; omega
        case c_3 => exact ⟨hh1, hb1.trans (bisR_lo (k := (fun i => .ok (ns.getD i 0))) (by assumption) rfl (by assumption))⟩
        case m1_3 => walk_at "M map1"
        case m2_3 => walk_at "M map2"
      · (show Q _ _)
        exact hret _ _ _ _ (hb1.trans (bis_end (by assumption))) (by assumption) (by assumption)
    · skip
      walk_at "M enter"
      k_steps
      · (show E _ _)
        exact hexc _ _ _ _ _ _ _ _ (bisZ_neg (by assumption)) (by assumption) (by assumption) (by assumption) (by assumption)
      obtain ⟨l0, rfl⟩ := nat_of (by assumption)
      have hv1 := hv0 (Int.natCast_nonneg _)
      refine Hold.out ?_
      (with_reducible rename Fr _ _ _ _ => kF)
      refine' while_fr (fun i : Nat × Nat × Tok × Tok × Option Value => i.2.1 - i.1) (fun i => i.2.1 ≤ ns.length ∧ bisZ true (fun i => .ok (ns.getD i 0)) x (l0 : Int) hi = bis true (fun i => .ok (ns.getD i 0)) x (i.2.1 - i.1) i.1 i.2.1)
        (fun i y => if y = Str.ofString "mid" then i.2.2.2.2 else List.lookup y [(Str.ofString "lo", .int i.1 i.2.2.1), (Str.ofString "hi", .int i.2.1 i.2.2.2.1), (Str.ofString "a", .ref ra), (Str.ofString "x", .int x tx), (Str.ofString "key", .none)])
        (fun _ => news) (l0, hi, _, _, none) [Str.ofString "lo", Str.ofString "hi", Str.ofString "mid", Str.ofString "a", Str.ofString "x", Str.ofString "key"] kF (by with_reducible assumption) ⟨by first | assumption | exact Nat.le_refl _, bisZ_nat⟩ ?m1_4 ?m2_4 (fun _ q => q) ?step_4 ?hE_4
      case m1_4 => walk_at "M map1"
      case m2_4 => walk_at "M map2"
      case hE_4 => with_unfolding_all passes_own
      clear kF
      rintro ⟨l1, h1, t1, t2, mo⟩ h tk ⟨hh1, hb1⟩ kF1 kN1
      dsimp only at hh1 hb1 kF1 kN1
      k_steps
      · refine' whlFr_next (l1, (l1 + h1) / 2, _, _, _) [Str.ofString "lo", Str.ofString "hi", Str.ofString "mid", Str.ofString "a", Str.ofString "x", Str.ofString "key"] (by with_reducible assumption) (by with_reducible assumption) ?mu_4 ?c_4 ?m1_4 ?m2_4 (fun _ q => q)
        case mu_4 => dsimp only; omega
        case c_4 => exact ⟨by dsimp only; omega, hb1.trans (bisR_hi (k := (fun i => .ok (ns.getD i 0))) (by assumption) rfl (by assumption))⟩
        case m1_4 => walk_at "M map1"
        case m2_4 => walk_at "M map2"
      · refine' whlFr_next ((l1 + h1) / 2 + 1, h1, _, _, _) [Str.ofString "lo", Str.ofString "hi", Str.ofString "mid", Str.ofString "a", Str.ofString "x", Str.ofString "key"] (by with_reducible assumption) (by with_reducible assumption) ?mu_4 ?c_4 ?m1_4 ?m2_4 (fun _ q => q)
        case mu_4 => dsimp only; omega
        case c_4 => exact ⟨hh1, hb1.trans (bisR_lo (k := (fun i => .ok (ns.getD i 0))) (by assumption) rfl (by assumption))⟩
        case m1_4 => walk_at "M map1"
        case m2_4 => walk_at "M map2"
      · (show Q _ _)
        exact hret _ _ _ _ (hb1.trans (bis_end (by assumption))) (by assumption) (by assumption)
end
section
variable {w : World} {p : Program} {loose : List PStr} {mean : ExcName → Option Value} {mg mb : PStr → Option Value}
    {dp un : Nat} {gd : Option (List Code)} {cn : PStr} {cs : Scope} {a : Addr} {ccd : Value} {cl : List (PStr × Addr)} {outer : List Env} {A₀ : Around} {base h₀ : Heap} {L : Addr} {m : PStr → Option Value}
    {s : Shared} {Q E : Value → Shared → Prop} {news : Ldg}
    (B : Below A₀ base outer h₀) (X : (KK.heap_1 w.params).In h₀) (T : Top p loose mean mg mb h₀) (XB : (KK.heap_1 w.params).In base) (TB : Top p loose mean mg mb base) (D : KtsDicts (outer.filterMap (·.frame)) h₀) (hck : cs.kind = .function)
include B X T XB TB D hck
theorem bisL_full {ra : Addr} {vs : List Value} {k : Nat → KRes} {nn ep : Nat} {x : Int} {lo : Int} {hi : Nat} {kv hv : Value} {tx tl : Tok} (hd5 : dp + 20 < recursionLimit) (hu5 : un + 100 < cLine) (F : Fr h₀ L s.heap m) (N : News h₀ L s.heap news)
   (hra : (ra, lstOf vs ep) ∈ news) (hrow : RowIs 108 kv vs k nn) (hl : nn ≤ 1000) (hhi : HiIs hv hi nn) (hv0 : 0 ≤ lo → ∀ msg, bisZ false k x lo hi ≠ .error (.value, msg))
   (hret : ∀ n t h' tk, bisZ false k x lo hi = .ok n → Fr h₀ L h' m → News h₀ L h' news → Q (.int n t) { s with heap := h', toks := tk })
   (hexc : ∀ ek r t1 g₂ e t h' tk, bisZ false k x lo hi = .error (ek, r) → Fr h₀ L g₂ m → RaisedS base g₂ (envX cn cs L a ccd cl :: outer) e (clsOf ek) t [.str r t1] news h' → RaisedK base (envX cn cs L a ccd cl :: outer) e (clsOf ek) t [.str r t1] news h' → g₂.UpToSlots h' → E (.ref e) { s with heap := h', toks := tk }) :
   wpAny (model PySem.Challenge.rw_pm0034_02.row.prog w) (ktrTop dp un gd cn cs L a ccd cl outer) (call (.ref 101) [.ref ra, .int x tx, .int lo tl, hv] [(Str.ofString "key", kv)]) Q E s := by
  walk_at "M fill"
  rcases hrow with ⟨ys, hS, rfl, rfl, rfl, h640⟩ | ⟨ns, hS, rfl, rfl, rfl⟩
  · rcases hhi with ⟨rfl, rfl⟩ | ⟨th, rfl, hhi⟩
    · skip
      walk_at "M enter"
      k_steps
      · (show E _ _)
        exact hexc _ _ _ _ _ _ _ _ (bisZ_neg (by assumption)) (by assumption) (by assumption) (by assumption) (by assumption)
      obtain ⟨l0, rfl⟩ := nat_of (by assumption)
      have hv1 := hv0 (Int.natCast_nonneg _)
      refine Hold.out ?_
      (with_reducible rename Fr _ _ _ _ => kF)
      refine' while_fr (fun i : Nat × Nat × Tok × Tok × Option Value => i.2.1 - i.1) (fun i => i.2.1 ≤ ys.length ∧ bisZ false (fun i => p229 (ys.getD i Str.empty)) x (l0 : Int) ys.length = bis false (fun i => p229 (ys.getD i Str.empty)) x (i.2.1 - i.1) i.1 i.2.1)
        (fun i y => if y = Str.ofString "mid" then i.2.2.2.2 else List.lookup y [(Str.ofString "lo", .int i.1 i.2.2.1), (Str.ofString "hi", .int i.2.1 i.2.2.2.1), (Str.ofString "a", .ref ra), (Str.ofString "x", .int x tx), (Str.ofString "key", .ref 108)])
        (fun _ => news) (l0, ys.length, _, _, none) [Str.ofString "lo", Str.ofString "hi", Str.ofString "mid", Str.ofString "a", Str.ofString "x", Str.ofString "key"] kF (by with_reducible assumption) ⟨by first | assumption | exact Nat.le_refl _, bisZ_nat⟩ ?m1_13 ?m2_13 (fun _ q => q) ?step_13 ?hE_13
      case m1_13 => walk_at "M map1"
      case m2_13 => walk_at "M map2"
      case hE_13 => with_unfolding_all passes_own
      clear kF
      rintro ⟨l1, h1, t1, t2, mo⟩ h tk ⟨hh1, hb1⟩ kF1 kN1
      dsimp only at hh1 hb1 kF1 kN1
      k_steps
      · refine' whlFr_next ((l1 + h1) / 2 + 1, h1, _, _, _) [Str.ofString "lo", Str.ofString "hi", Str.ofString "mid", Str.ofString "a", Str.ofString "x", Str.ofString "key"] (by with_reducible assumption) (by with_reducible assumption) ?mu_13 ?c_13 ?m1_13 ?m2_13 (fun _ q => q)
        case mu_13 => dsimp only; omega
        case c_13 => exact ⟨hh1, hb1.trans (bisL_lo (k := (fun i => p229 (ys.getD i Str.empty))) (by assumption) (by assumption) (by assumption))⟩
        case m1_13 => walk_at "M map1"
        case m2_13 => walk_at "M map2"
      · refine' whlFr_next (l1, (l1 + h1) / 2, _, _, _) [Str.ofString "lo", Str.ofString "hi", Str.ofString "mid", Str.ofString "a", Str.ofString "x", Str.ofString "key"] (by with_reducible assumption) (by with_reducible assumption) ?mu_13 ?c_13 ?m1_13 ?m2_13 (fun _ q => q)
        case mu_13 => dsimp only; omega
        case c_13 => exact ⟨by dsimp only; omega, hb1.trans (bisL_hi (k := (fun i => p229 (ys.getD i Str.empty))) (by assumption) (by assumption) (by assumption))⟩
        case m1_13 => walk_at "M map1"
        case m2_13 => walk_at "M map2"
      · (show E _ _)
        exact hexc _ _ _ _ _ _ _ _ (hb1.trans (bis_err (k := (fun i => p229 (ys.getD i Str.empty))) (by assumption) (by assumption))) (by assumption) (by assumption) (by assumption) (by assumption)
      · (show Q _ _)
        exact hret _ _ _ _ (hb1.trans (bis_end (by assumption))) (by assumption) (by assumption)
    · skip
      walk_at "M enter"
      k_steps
      · (show E _ _)
        exact hexc _ _ _ _ _ _ _ _ (bisZ_neg (by assumption)) (by assumption) (by assumption) (by assumption) (by assumption)
      obtain ⟨l0, rfl⟩ := nat_of (by assumption)
      have hv1 := hv0 (Int.natCast_nonneg _)
      refine Hold.out ?_
      (with_reducible rename Fr _ _ _ _ => kF)
      refine' while_fr (fun i : Nat × Nat × Tok × Tok × Option Value => i.2.1 - i.1) (fun i => i.2.1 ≤ ys.length ∧ bisZ false (fun i => p229 (ys.getD i Str.empty)) x (l0 : Int) hi = bis false (fun i => p229 (ys.getD i Str.empty)) x (i.2.1 - i.1) i.1 i.2.1)
        (fun i y => if y = Str.ofString "mid" then i.2.2.2.2 else List.lookup y [(Str.ofString "lo", .int i.1 i.2.2.1), (Str.ofString "hi", .int i.2.1 i.2.2.2.1), (Str.ofString "a", .ref ra), (Str.ofString "x", .int x tx), (Str.ofString "key", .ref 108)])
        (fun _ => news) (l0, hi, _, _, none) [Str.ofString "lo", Str.ofString "hi", Str.ofString "mid", Str.ofString "a", Str.ofString "x", Str.ofString "key"] kF (by with_reducible assumption) ⟨by first | assumption | exact Nat.le_refl _, bisZ_nat⟩ ?m1_14 ?m2_14 (fun _ q => q) ?step_14 ?hE_14
      case m1_14 => walk_at "M map1"
      case m2_14 => walk_at "M map2"
      case hE_14 => with_unfolding_all passes_own
      clear kF
      rintro ⟨l1, h1, t1, t2, mo⟩ h tk ⟨hh1, hb1⟩ kF1 kN1
      dsimp only at hh1 hb1 kF1 kN1
      k_steps
      · refine' whlFr_next ((l1 + h1) / 2 + 1, h1, _, _, _) [Str.ofString "lo", Str.ofString "hi", Str.ofString "mid", Str.ofString "a", Str.ofString "x", Str.ofString "key"] (by with_reducible assumption) (by with_reducible assumption) ?mu_14 ?c_14 ?m1_14 ?m2_14 (fun _ q => q)
        case mu_14 => dsimp only; omega
        case c_14 => exact ⟨hh1, hb1.trans (bisL_lo (k := (fun i => p229 (ys.getD i Str.empty))) (by assumption) (by assumption) (by assumption))⟩
        case m1_14 => walk_at "M map1"
        case m2_14 => walk_at "M map2"
      · refine' whlFr_next (l1, (l1 + h1) / 2, _, _, _) [Str.ofString "lo", Str.ofString "hi", Str.ofString "mid", Str.ofString "a", Str.ofString "x", Str.ofString "key"] (by with_reducible assumption) (by with_reducible assumption) ?mu_14 ?c_14 ?m1_14 ?m2_14 (fun _ q => q)
        case mu_14 => dsimp only; omega
        case c_14 => exact ⟨by dsimp only; omega, hb1.trans (bisL_hi (k := (fun i => p229 (ys.getD i Str.empty))) (by assumption) (by assumption) (by assumption))⟩
        case m1_14 => walk_at "M map1"
        case m2_14 => walk_at "M map2"
      · (show E _ _)
        exact hexc _ _ _ _ _ _ _ _ (hb1.trans (bis_err (k := (fun i => p229 (ys.getD i Str.empty))) (by assumption) (by assumption))) (by assumption) (by assumption) (by assumption) (by assumption)
      · (show Q _ _)
        exact hret _ _ _ _ (hb1.trans (bis_end (by assumption))) (by assumption) (by assumption)
  · rcases hhi with ⟨rfl, rfl⟩ | ⟨th, rfl, hhi⟩
    · skip
      walk_at "M enter"
      k_steps
      · (show E _ _)
        exact hexc _ _ _ _ _ _ _ _ (bisZ_neg (by assumption)) (by assumption) (by assumption) (by assumption) (by assumption)
      obtain ⟨l0, rfl⟩ := nat_of (by assumption)
      have hv1 := hv0 (Int.natCast_nonneg _)
      refine Hold.out ?_
      (with_reducible rename Fr _ _ _ _ => kF)
      refine' while_fr (fun i : Nat × Nat × Tok × Tok × Option Value => i.2.1 - i.1) (fun i => i.2.1 ≤ ns.length ∧ bisZ false (fun i => .ok (ns.getD i 0)) x (l0 : Int) ns.length = bis false (fun i => .ok (ns.getD i 0)) x (i.2.1 - i.1) i.1 i.2.1)
        (fun i y => if y = Str.ofString "mid" then i.2.2.2.2 else List.lookup y [(Str.ofString "lo", .int i.1 i.2.2.1), (Str.ofString "hi", .int i.2.1 i.2.2.2.1), (Str.ofString "a", .ref ra), (Str.ofString "x", .int x tx), (Str.ofString "key", .none)])
        (fun _ => news) (l0, ns.length, _, _, none) [Str.ofString "lo", Str.ofString "hi", Str.ofString "mid", Str.ofString "a", Str.ofString "x", Str.ofString "key"] kF (by with_reducible assumption) ⟨by first | assumption | exact Nat.le_refl _, bisZ_nat⟩ ?m1_15 ?m2_15 (fun _ q => q) ?step_15 ?hE_15
      case m1_15 => walk_at "M map1"
      case m2_15 => walk_at "M map2"
      case hE_15 => with_unfolding_all passes_own
      clear kF
      rintro ⟨l1, h1, t1, t2, mo⟩ h tk ⟨hh1, hb1⟩ kF1 kN1
      dsimp only at hh1 hb1 kF1 kN1
      k_steps
      · refine' whlFr_next ((l1 + h1) / 2 + 1, h1, _, _, _) [Str.ofString "lo", Str.ofString "hi", Str.ofString "mid", Str.ofString "a", Str.ofString "x", Str.ofString "key"] (by with_reducible assumption) (by with_reducible assumption) ?mu_15 ?c_15 ?m1_15 ?m2_15 (fun _ q => q)
        case mu_15 => dsimp only; omega
        case c_15 => exact ⟨hh1, hb1.trans (bisL_lo (k := (fun i => .ok (ns.getD i 0))) (by assumption) rfl (by assumption))⟩
        case m1_15 => walk_at "M map1"
        case m2_15 => walk_at "M map2"
      · refine' whlFr_next (l1, (l1 + h1) / 2, _, _, _) [Str.ofString "lo", Str.ofString "hi", Str.ofString "mid", Str.ofString "a", Str.ofString "x", Str.ofString "key"] (by with_reducible assumption) (by with_reducible assumption) ?mu_15 ?c_15 ?m1_15 ?m2_15 (fun _ q => q)
        case mu_15 => dsimp only; omega
        case c_15 => exact ⟨by dsimp only; omega, hb1.trans (bisL_hi (k := (fun i => .ok (ns.getD i 0))) (by assumption) rfl (by assumption))⟩
        case m1_15 => walk_at "M map1"
        case m2_15 => walk_at "M map2"
      · (show Q _ _)
        exact hret _ _ _ _ (hb1.trans (bis_end (by assumption))) (by assumption) (by assumption)
    · skip
      walk_at "M enter"
      k_steps
      · (show E _ _)
        exact hexc _ _ _ _ _ _ _ _ (bisZ_neg (by assumption)) (by assumption) (by assumption) (by assumption) (by assumption)
      obtain ⟨l0, rfl⟩ := nat_of (by assumption)
      have hv1 := hv0 (Int.natCast_nonneg _)
      refine Hold.out ?_
      (with_reducible rename Fr _ _ _ _ => kF)
      refine' while_fr (fun i : Nat × Nat × Tok × Tok × Option Value => i.2.1 - i.1) (fun i => i.2.1 ≤ ns.length ∧ bisZ false (fun i => .ok (ns.getD i 0)) x (l0 : Int) hi = bis false (fun i => .ok (ns.getD i 0)) x (i.2.1 - i.1) i.1 i.2.1)
        (fun i y => if y = Str.ofString "mid" then i.2.2.2.2 else List.lookup y [(Str.ofString "lo", .int i.1 i.2.2.1), (Str.ofString "hi", .int i.2.1 i.2.2.2.1), (Str.ofString "a", .ref ra), (Str.ofString "x", .int x tx), (Str.ofString "key", .none)])
        (fun _ => news) (l0, hi, _, _, none) [Str.ofString "lo", Str.ofString "hi", Str.ofString "mid", Str.ofString "a", Str.ofString "x", Str.ofString "key"] kF (by with_reducible assumption) ⟨by first | assumption | exact Nat.le_refl _, bisZ_nat⟩ ?m1_16 ?m2_16 (fun _ q => q) ?step_16 ?hE_16
      case m1_16 => walk_at "M map1"
      case m2_16 => walk_at "M map2"
      case hE_16 => with_unfolding_all passes_own
      clear kF
      rintro ⟨l1, h1, t1, t2, mo⟩ h tk ⟨hh1, hb1⟩ kF1 kN1
      dsimp only at hh1 hb1 kF1 kN1
      k_steps
      · refine' whlFr_next ((l1 + h1) / 2 + 1, h1, _, _, _) [Str.ofString "lo", Str.ofString "hi", Str.ofString "mid", Str.ofString "a", Str.ofString "x", Str.ofString "key"] (by with_reducible assumption) (by with_reducible assumption) ?mu_16 ?c_16 ?m1_16 ?m2_16 (fun _ q => q)
        case mu_16 => dsimp only; omega
        case c_16 => exact ⟨hh1, hb1.trans (bisL_lo (k := (fun i => .ok (ns.getD i 0))) (by assumption) rfl (by assumption))⟩
        case m1_16 => walk_at "M map1"
        case m2_16 => walk_at "M map2"
      · refine' whlFr_next (l1, (l1 + h1) / 2, _, _, _) [Str.ofString "lo", Str.ofString "hi", Str.ofString "mid", Str.ofString "a", Str.ofString "x", Str.ofString "key"] (by with_reducible assumption) (by with_reducible assumption) ?mu_16 ?c_16 ?m1_16 ?m2_16 (fun _ q => q)
        case mu_16 => dsimp only; omega
        case c_16 => exact ⟨by dsimp only; omega, hb1.trans (bisL_hi (k := (fun i => .ok (ns.getD i 0))) (by assumption) rfl (by assumption))⟩
        case m1_16 => walk_at "M map1"
        case m2_16 => walk_at "M map2"
      · (show Q _ _)
        exact hret _ _ _ _ (hb1.trans (bis_end (by assumption))) (by assumption) (by assumption)
end
end
section
theorem lines_C2B_0 : True := by
  k_with_none
  k_with "execs cons" => ((refine f_execs ?_; intro qk))
  k_with "eval BinOp" => ((refine f_BinOp ?_; intro qk))
  k_with "exec Assign" => ((refine f_Assign ?_; intro qk))
  k_with "eval Subscript" => ((refine f_Subscript ?_; intro qk))
  k_with "isTrue Compare" => ((refine f_Compare ?_; intro qk))
  k_with "exec If" => ((refine f_If ?_; intro qk))
  k_with "eval Call" => (((fail_if_success (with_reducible show wpAny _ _ (eval (Expr.Call (Expr.Attribute _ _ _) _ _ _) _) _ _ _)); refine f_Call ?_; intro qk))
  k_with "spliced" => ((refine f_args ?_; intro qk))
  k_with "callWith" => ((refine f_method1 ?_; intro qk))
  k_with "exec Return some" => ((refine f_Return ?_; intro qk))
  k_with "eval Tuple" => ((refine f_Tuple ?_; intro qk))
  k_with "eval List" => ((refine f_List ?_; intro qk))
  k_with "eval IfExp" => ((refine f_IfExp ?_; intro qk))
  k_with "storeName" => ((k_here; k_dflt (refine' f_store ?F ?N ?_ ?a ?b; (case F => k_asm); (case N => k_asm); (case a => rfl); (case b => rfl); k_whole; intro m' h' F' N'; (try k_sweep))))
  k_with "M map1" => (first
    | (refine map_same ?_; with_unfolding_all rfl)
    | ((repeat' (refine List.forall_mem_cons.mpr (And.intro ?_ ?_))); (all_goals first | rfl | exact List.forall_mem_nil _)))
  k_with "M map2" => (first
    | (refine SameOut.both (b := fun _ => none) ?_ ?_ <;> (repeat (refine SameOut.upd ?_ (by with_unfolding_all rfl))) <;> exact SameOut.lookup rfl)
    | (refine' SameOut.both (b := ?kb) ?k1 ?k2; (case k1 => ((repeat (refine SameOut.upd ?_ (by with_unfolding_all rfl))); exact SameOut.refl)); (case k2 => ((repeat (refine SameOut.upd ?_ (by with_unfolding_all rfl))); exact SameOut.refl)))
    | (refine' SameOut.both (b := ?kb) ?k1 ?k2; (case k2 => ((repeat (refine SameOut.upd ?_ (by with_unfolding_all rfl))); exact SameOut.refl)); (case k1 => ((repeat (refine SameOut.skip ?_)); (repeat (refine SameOut.upd ?_ (by with_unfolding_all rfl))); exact SameOut.refl)))
    | (intro y hy; (repeat (refine (if_neg (ne_of_out hy (by with_unfolding_all rfl))).trans ?_)); (refine Eq.symm ?_); (repeat (refine (if_neg (ne_of_out hy (by with_unfolding_all rfl))).trans ?_)); first | rfl | exact lookup_out rfl hy | exact (lookup_out rfl hy).symm | exact (lookup_out rfl hy).trans (lookup_out rfl hy).symm))
  k_with "M fill" => ((
    have kk : PySem.Challenge.rw_pm0034_02 = PySem.Challenge.rw_pm0034_02 ∧ KK.heap_1 = KK.heap_1 := ⟨rfl, rfl⟩
    revert kk
    k_fill
    intro kk
    clear kk))
  k_with "M enter" => ((
    refine wpAny_call ?_
    k_dflt (refine' code_def ?k1 ?k2 ?k3 ?k4 ?k5 ?kA ?kF ?kK ?k6 ?k7 ?k8 ?k9 ?kB ?_ ?c2 ?c3 ?c4 ?c5; (case kA => exact rfl); (case kF => exact rfl); (case kK => assumption); (case k1 => k_asm); (case k2 => k_asm); (case k3 => k_asm); (case k4 => k_asm); (case k5 => k_asm); (case k6 => k_is); (case k7 => k_is); (case k8 => ((try dsimp only); omega)); (case k9 => first | exact BindsTo.of_eq rfl | (refine' kp_binds ?kx ?ke; (case kx => first | (refine' myIn ?kf ?ki; (case kf => with_reducible assumption); (case ki => with_reducible assumption)) | k_in); (case ke => exact fun _ => rfl)) | exact binds_K (by first | (refine' myIn ?kf ?ki; (case kf => with_reducible assumption); (case ki => with_reducible assumption)) | k_in) rfl (by k_is) rfl rfl rfl); (case c5 => decide); (case kB => exact locs rfl); (case c2 => exact rfl); (case c3 => exact rfl); (case c4 => exact rfl); k_whole; intro g' L' h' FG' F' N' B' X' T'; (have D' := kts_dict B' (by assumption) FG' rfl); (try dsimp only); (try k_lift B'); (refine let_AE (f := execs _) ?_; intro vk ak); (refine f_QE ?_; intro qk ek))))
  k_with "M enter0" => ((
    refine wpAny_call ?_
    k_dflt (refine' code_defS0X ?k1 ?k2 ?k3 ?k4 ?k5 ?kA ?kF ?kK ?k6 ?k7 ?k8 ?k9 ?kB ?_ ?c2 ?c3 ?c4 ?c5; (case kA => exact rfl); (case kF => exact rfl); (case kK => assumption); (case k1 => k_asm); (case k2 => k_asm); (case k3 => k_asm); (case k4 => k_asm); (case k5 => k_asm); (case k6 => k_is); (case k7 => k_is); (case k8 => ((try dsimp only); omega)); (case k9 => first | exact BindsTo.of_eq rfl | (refine' kp_binds ?kx ?ke; (case kx => first | (refine' myIn ?kf ?ki; (case kf => with_reducible assumption); (case ki => with_reducible assumption)) | k_in); (case ke => exact fun _ => rfl)) | exact binds_K (by first | (refine' myIn ?kf ?ki; (case kf => with_reducible assumption); (case ki => with_reducible assumption)) | k_in) rfl (by k_is) rfl rfl rfl); (case c5 => decide); (case kB => exact locs rfl); (case c2 => exact rfl); (case c3 => exact rfl); (case c4 => exact rfl); k_whole; intro g' L' h' FG' F' N' B' X' T' D'; (try dsimp only); (try k_lift B'); (refine let_AE (f := execs _) ?_; intro vk ak); (refine f_QE ?_; intro qk ek))))
  trivial
local macro_rules | `(tactic| k_mem) => `(tactic| first | with_reducible assumption | (refine mem_in ?_; with_reducible assumption))
theorem lines_C2B_1 : True := by
  k_with "subscriptTail Name Constant ref int" => ((k_here; refine item_tupleT (News.isTup (by assumption) (by k_mem)) (by decide) (by decide) (by rfl) (by rfl) ?_))
  k_with "subscriptTail Name Constant ref int" => ((k_here; (with_reducible rename StrsAre _ _ => hSA); refine item_strsA (News.isList (by assumption) (by k_mem)) hSA (by decide) (by first | omega | (simp only [List.length_map]; omega)) (by decide) ?_; intro t'))
  k_with "call type:ValueError" => ((refine call_ValueError_made ?_; intro _ _ _))
  k_with "exec While Compare Name cons nil" => (refine Hold.mk ?_)
  k_with "exec While Compare" => (refine Hold.mk ?_)
  k_with "exec While Compare cons nil" => (refine Hold.mk ?_)
  k_with "exec While" => (refine Hold.mk ?_)
  k_with "binaryOp FloorDiv int int" => ((k_here; (with_reducible refine floordiv_pos ?kb1 ?kb2 ?_); (case kb1 => decide); (case kb2 => decide +kernel)))
  k_with "WhlIf" => ((refine whlIf_dec ?_ ?_ <;> intro _))
  k_with "subscriptTail Name Name ref int" => ((k_here; first
    | ((with_reducible rename StrsAre _ _ => hSA); refine item_strsA (News.isList (by assumption) (by k_mem)) hSA (by omega) (by omega) (by omega) ?_; intro t')
    | ((with_reducible rename IntsAre _ _ => hSA); refine item_intsA (News.isList (by assumption) (by k_mem)) hSA (by omega) (by omega) (by omega) ?_; intro t')))
  k_with "call builtin:len" => ((k_here; (with_reducible show wpAny _ _ (call (Value.builtin "len") [Value.ref _]) _ _ _); first
    | ((with_reducible rename StrsAre _ _ => hSA); refine len_strsA (News.isList (by assumption) (by k_mem)) hSA (by omega) ?_)
    | ((with_reducible rename IntsAre _ _ => hSA); refine len_intsA (News.isList (by assumption) (by k_mem)) hSA (by omega) ?_)))
  k_with "call ref" => (((with_reducible show wpAny _ _ (call (Value.ref 108) _) _ _ _); refine' port_spec ?kB ?kX ?kT ?kXB ?kTB ?kD ?kh ?kd ?ku ?kF ?kN ?k6 ?kv ?_ ?_; (case kB => assumption); (case kX => assumption); (case kT => assumption); (case kXB => assumption); (case kTB => assumption); (case kD => assumption); (case kh => rfl); (case kd => ((try dsimp only); omega)); (case ku => ((try dsimp only); omega)); (case kF => with_reducible assumption); (case kN => with_reducible assumption); (case k6 => first | exact getD_640 (by assumption) _ | assumption); (case kv => first | assumption | (have q := bis_nv (by assumption) (by assumption) (by assumption); exact q) | (have q := bis_nv ((by assumption : 0 ≤ _ → ∀ msg, _ ≠ _) (by omega)) (by assumption) (by assumption); exact q))))
  trivial
section
variable {w : World} {p : Program} {loose : List PStr} {mean : ExcName → Option Value} {mg mb : PStr → Option Value}
    {dp un : Nat} {gd : Option (List Code)} {cn : PStr} {cs : Scope} {a : Addr} {ccd : Value} {cl : List (PStr × Addr)} {outer : List Env} {A₀ : Around} {base h₀ : Heap} {L : Addr} {m : PStr → Option Value}
    {s : Shared} {Q E : Value → Shared → Prop} {news : Ldg}
    (B : Below A₀ base outer h₀) (X : (KK.heap_1 w.params).In h₀) (T : Top p loose mean mg mb h₀) (XB : (KK.heap_1 w.params).In base) (TB : Top p loose mean mg mb base) (D : KtsDicts (outer.filterMap (·.frame)) h₀) (hck : cs.kind = .function)
include B X T XB TB D hck
theorem bisR_twok {ra : Addr} {vs : List Value} {k : Nat → KRes} {nn ep : Nat} {x : Int} {kv hv : Value} {tx tl : Tok} (hd5 : dp + 20 < recursionLimit) (hu5 : un + 100 < cLine) (F : Fr h₀ L s.heap m) (N : News h₀ L s.heap news)
   (hra : (ra, lstOf vs ep) ∈ news) (hrow : RowIs 108 kv vs k nn) (hl : nn ≤ 1000) (hkv : kv = .ref 108) (hv0 : ∀ msg, bis true k x (nn - 0) 0 nn ≠ .error (.value, msg))
   (hret : ∀ n t h' tk, bis true k x (nn - 0) 0 nn = .ok n → Fr h₀ L h' m → News h₀ L h' news → Q (.int n t) { s with heap := h', toks := tk })
   (hexc : ∀ ek r t1 g₂ e t h' tk, bis true k x (nn - 0) 0 nn = .error (ek, r) → Fr h₀ L g₂ m → RaisedS base g₂ (envX cn cs L a ccd cl :: outer) e (clsOf ek) t [.str r t1] news h' → RaisedK base (envX cn cs L a ccd cl :: outer) e (clsOf ek) t [.str r t1] news h' → g₂.UpToSlots h' → E (.ref e) { s with heap := h', toks := tk }) :
   wpAny (model PySem.Challenge.rw_pm0034_02.row.prog w) (ktrTop dp un gd cn cs L a ccd cl outer) (call (.ref 83) [.ref ra, .int x tx] [(Str.ofString "key", kv)]) Q E s := by
  walk_at "M fill"
  rcases hrow with ⟨ys, hS, rfl, rfl, rfl, h640⟩ | ⟨ns, hS, rfl, rfl, rfl⟩
  · skip
    walk_at "M enter"
    k_steps
    try (exfalso; omega)
    refine Hold.out ?_
    (with_reducible rename Fr _ _ _ _ => kF)
    refine' while_fr (fun i : Nat × Nat × Tok × Tok × Option Value => i.2.1 - i.1) (fun i => i.2.1 ≤ ys.length ∧ bis true (fun i => p229 (ys.getD i Str.empty)) x (ys.length - 0) 0 ys.length = bis true (fun i => p229 (ys.getD i Str.empty)) x (i.2.1 - i.1) i.1 i.2.1)
      (fun i y => if y = Str.ofString "mid" then i.2.2.2.2 else List.lookup y [(Str.ofString "lo", .int i.1 i.2.2.1), (Str.ofString "hi", .int i.2.1 i.2.2.2.1), (Str.ofString "a", .ref ra), (Str.ofString "x", .int x tx), (Str.ofString "key", .ref 108)])
      (fun _ => news) (0, ys.length, _, _, none) [Str.ofString "lo", Str.ofString "hi", Str.ofString "mid", Str.ofString "a", Str.ofString "x", Str.ofString "key"] kF (by with_reducible assumption) ⟨by first | assumption | exact Nat.le_refl _, rfl⟩ ?m1_9 ?m2_9 (fun _ q => q) ?step_9 ?hE_9
    case m1_9 => walk_at "M map1"
    case m2_9 => walk_at "M map2"
    case hE_9 => with_unfolding_all passes_own
    clear kF
    rintro ⟨l1, h1, t1, t2, mo⟩ h tk ⟨hh1, hb1⟩ kF1 kN1
    dsimp only at hh1 hb1 kF1 kN1
    k_steps
    · refine' whlFr_next (l1, (l1 + h1) / 2, _, _, _) [Str.ofString "lo", Str.ofString "hi", Str.ofString "mid", Str.ofString "a", Str.ofString "x", Str.ofString "key"] (by with_reducible assumption) (by with_reducible assumption) ?mu_9 ?c_9 ?m1_9 ?m2_9 (fun _ q => q)
      case mu_9 => dsimp only; omega
      case c_9 => exact ⟨by dsimp only; omega, hb1.trans (bisR_hi (k := (fun i => p229 (ys.getD i Str.empty))) (by assumption) (by assumption) (by assumption))⟩
      case m1_9 => walk_at "M map1"
      case m2_9 => walk_at "M map2"
    · refine' whlFr_next ((l1 + h1) / 2 + 1, h1, _, _, _) [Str.ofString "lo", Str.ofString "hi", Str.ofString "mid", Str.ofString "a", Str.ofString "x", Str.ofString "key"] (by with_reducible assumption) (by with_reducible assumption) ?mu_9 ?c_9 ?m1_9 ?m2_9 (fun _ q => q)
      case mu_9 => dsimp only; omega
      case c_9 => exact ⟨hh1, hb1.trans (bisR_lo (k := (fun i => p229 (ys.getD i Str.empty))) (by assumption) (by assumption) (by assumption))⟩
      case m1_9 => walk_at "M map1"
      case m2_9 => walk_at "M map2"
    · (show E _ _)
      exact hexc _ _ _ _ _ _ _ _ (hb1.trans (bis_err (k := (fun i => p229 (ys.getD i Str.empty))) (by assumption) (by assumption))) (by assumption) (by assumption) (by assumption) (by assumption)
    · (show Q _ _)
      exact hret _ _ _ _ (hb1.trans (bis_end (by assumption))) (by assumption) (by assumption)
  · cases hkv
end
section
variable {w : World} {p : Program} {loose : List PStr} {mean : ExcName → Option Value} {mg mb : PStr → Option Value}
    {dp un : Nat} {gd : Option (List Code)} {cn : PStr} {cs : Scope} {a : Addr} {ccd : Value} {cl : List (PStr × Addr)} {outer : List Env} {A₀ : Around} {base h₀ : Heap} {L : Addr} {m : PStr → Option Value}
    {s : Shared} {Q E : Value → Shared → Prop} {news : Ldg}
    (B : Below A₀ base outer h₀) (X : (KK.heap_1 w.params).In h₀) (T : Top p loose mean mg mb h₀) (XB : (KK.heap_1 w.params).In base) (TB : Top p loose mean mg mb base) (D : KtsDicts (outer.filterMap (·.frame)) h₀) (hck : cs.kind = .function)
include B X T XB TB D hck
theorem bisL_twok {ra : Addr} {vs : List Value} {k : Nat → KRes} {nn ep : Nat} {x : Int} {kv hv : Value} {tx tl : Tok} (hd5 : dp + 20 < recursionLimit) (hu5 : un + 100 < cLine) (F : Fr h₀ L s.heap m) (N : News h₀ L s.heap news)
   (hra : (ra, lstOf vs ep) ∈ news) (hrow : RowIs 108 kv vs k nn) (hl : nn ≤ 1000) (hkv : kv = .ref 108) (hv0 : ∀ msg, bis false k x (nn - 0) 0 nn ≠ .error (.value, msg))
   (hret : ∀ n t h' tk, bis false k x (nn - 0) 0 nn = .ok n → Fr h₀ L h' m → News h₀ L h' news → Q (.int n t) { s with heap := h', toks := tk })
   (hexc : ∀ ek r t1 g₂ e t h' tk, bis false k x (nn - 0) 0 nn = .error (ek, r) → Fr h₀ L g₂ m → RaisedS base g₂ (envX cn cs L a ccd cl :: outer) e (clsOf ek) t [.str r t1] news h' → RaisedK base (envX cn cs L a ccd cl :: outer) e (clsOf ek) t [.str r t1] news h' → g₂.UpToSlots h' → E (.ref e) { s with heap := h', toks := tk }) :
   wpAny (model PySem.Challenge.rw_pm0034_02.row.prog w) (ktrTop dp un gd cn cs L a ccd cl outer) (call (.ref 101) [.ref ra, .int x tx] [(Str.ofString "key", kv)]) Q E s := by
  walk_at "M fill"
  rcases hrow with ⟨ys, hS, rfl, rfl, rfl, h640⟩ | ⟨ns, hS, rfl, rfl, rfl⟩
  · skip
    walk_at "M enter"
    k_steps
    try (exfalso; omega)
    refine Hold.out ?_
    (with_reducible rename Fr _ _ _ _ => kF)
    refine' while_fr (fun i : Nat × Nat × Tok × Tok × Option Value => i.2.1 - i.1) (fun i => i.2.1 ≤ ys.length ∧ bis false (fun i => p229 (ys.getD i Str.empty)) x (ys.length - 0) 0 ys.length = bis false (fun i => p229 (ys.getD i Str.empty)) x (i.2.1 - i.1) i.1 i.2.1)
      (fun i y => if y = Str.ofString "mid" then i.2.2.2.2 else List.lookup y [(Str.ofString "lo", .int i.1 i.2.2.1), (Str.ofString "hi", .int i.2.1 i.2.2.2.1), (Str.ofString "a", .ref ra), (Str.ofString "x", .int x tx), (Str.ofString "key", .ref 108)])
      (fun _ => news) (0, ys.length, _, _, none) [Str.ofString "lo", Str.ofString "hi", Str.ofString "mid", Str.ofString "a", Str.ofString "x", Str.ofString "key"] kF (by with_reducible assumption) ⟨by first | assumption | exact Nat.le_refl _, rfl⟩ ?m1_21 ?m2_21 (fun _ q => q) ?step_21 ?hE_21
    case m1_21 => walk_at "M map1"
    case m2_21 => walk_at "M map2"
    case hE_21 => with_unfolding_all passes_own
    clear kF
    rintro ⟨l1, h1, t1, t2, mo⟩ h tk ⟨hh1, hb1⟩ kF1 kN1
    dsimp only at hh1 hb1 kF1 kN1
    k_steps
    · refine' whlFr_next ((l1 + h1) / 2 + 1, h1, _, _, _) [Str.ofString "lo", Str.ofString "hi", Str.ofString "mid", Str.ofString "a", Str.ofString "x", Str.ofString "key"] (by with_reducible assumption) (by with_reducible assumption) ?mu_21 ?c_21 ?m1_21 ?m2_21 (fun _ q => q)
      case mu_21 => dsimp only; omega
      case c_21 => exact ⟨hh1, hb1.trans (bisL_lo (k := (fun i => p229 (ys.getD i Str.empty))) (by assumption) (by assumption) (by assumption))⟩
      case m1_21 => walk_at "M map1"
      case m2_21 => walk_at "M map2"
    · refine' whlFr_next (l1, (l1 + h1) / 2, _, _, _) [Str.ofString "lo", Str.ofString "hi", Str.ofString "mid", Str.ofString "a", Str.ofString "x", Str.ofString "key"] (by with_reducible assumption) (by with_reducible assumption) ?mu_21 ?c_21 ?m1_21 ?m2_21 (fun _ q => q)
      case mu_21 => dsimp only; omega
      case c_21 => exact ⟨by dsimp only; omega, hb1.trans (bisL_hi (k := (fun i => p229 (ys.getD i Str.empty))) (by assumption) (by assumption) (by assumption))⟩
      case m1_21 => walk_at "M map1"
      case m2_21 => walk_at "M map2"
    · (show E _ _)
      exact hexc _ _ _ _ _ _ _ _ (hb1.trans (bis_err (k := (fun i => p229 (ys.getD i Str.empty))) (by assumption) (by assumption))) (by assumption) (by assumption) (by assumption) (by assumption)
    · (show Q _ _)
      exact hret _ _ _ _ (hb1.trans (bis_end (by assumption))) (by assumption) (by assumption)
  · cases hkv
end
end
section
theorem lines_D2_0 : True := by
  k_with_none
  k_with "execs cons" => ((refine f_execs ?_; intro qk))
  k_with "eval BinOp" => ((refine f_BinOp ?_; intro qk))
  k_with "exec Assign" => ((refine f_Assign ?_; intro qk))
  k_with "eval Subscript" => ((refine f_Subscript ?_; intro qk))
  k_with "isTrue Compare" => ((refine f_Compare ?_; intro qk))
  k_with "exec If" => ((refine f_If ?_; intro qk))
  k_with "eval Call" => (((fail_if_success (with_reducible show wpAny _ _ (eval (Expr.Call (Expr.Attribute _ _ _) _ _ _) _) _ _ _)); refine f_Call ?_; intro qk))
  k_with "spliced" => ((refine f_args ?_; intro qk))
  k_with "callWith" => ((refine f_method1 ?_; intro qk))
  k_with "exec Return some" => ((refine f_Return ?_; intro qk))
  k_with "eval Tuple" => ((refine f_Tuple ?_; intro qk))
  k_with "eval List" => ((refine f_List ?_; intro qk))
  k_with "eval IfExp" => ((refine f_IfExp ?_; intro qk))
  k_with "storeName" => ((k_here; k_dflt (refine' f_store ?F ?N ?_ ?a ?b; (case F => k_asm); (case N => k_asm); (case a => rfl); (case b => rfl); k_whole; intro m' h' F' N'; (try k_sweep))))
  k_with "M map1" => (first
    | (refine map_same ?_; with_unfolding_all rfl)
    | ((repeat' (refine List.forall_mem_cons.mpr (And.intro ?_ ?_))); (all_goals first | rfl | exact List.forall_mem_nil _)))
  k_with "M map2" => (first
    | (refine SameOut.both (b := fun _ => none) ?_ ?_ <;> (repeat (refine SameOut.upd ?_ (by with_unfolding_all rfl))) <;> exact SameOut.lookup rfl)
    | (refine' SameOut.both (b := ?kb) ?k1 ?k2; (case k1 => ((repeat (refine SameOut.upd ?_ (by with_unfolding_all rfl))); exact SameOut.refl)); (case k2 => ((repeat (refine SameOut.upd ?_ (by with_unfolding_all rfl))); exact SameOut.refl)))
    | (refine' SameOut.both (b := ?kb) ?k1 ?k2; (case k2 => ((repeat (refine SameOut.upd ?_ (by with_unfolding_all rfl))); exact SameOut.refl)); (case k1 => ((repeat (refine SameOut.skip ?_)); (repeat (refine SameOut.upd ?_ (by with_unfolding_all rfl))); exact SameOut.refl)))
    | (intro y hy; (repeat (refine (if_neg (ne_of_out hy (by with_unfolding_all rfl))).trans ?_)); (refine Eq.symm ?_); (repeat (refine (if_neg (ne_of_out hy (by with_unfolding_all rfl))).trans ?_)); first | rfl | exact lookup_out rfl hy | exact (lookup_out rfl hy).symm | exact (lookup_out rfl hy).trans (lookup_out rfl hy).symm))
  k_with "M fill" => ((
    have kk : PySem.Challenge.rw_pm0034_02 = PySem.Challenge.rw_pm0034_02 ∧ KK.heap_1 = KK.heap_1 := ⟨rfl, rfl⟩
    revert kk
    k_fill
    intro kk
    clear kk))
  k_with "M enter" => ((
    refine wpAny_call ?_
    k_dflt (refine' code_def ?k1 ?k2 ?k3 ?k4 ?k5 ?kA ?kF ?kK ?k6 ?k7 ?k8 ?k9 ?kB ?_ ?c2 ?c3 ?c4 ?c5; (case kA => exact rfl); (case kF => exact rfl); (case kK => assumption); (case k1 => k_asm); (case k2 => k_asm); (case k3 => k_asm); (case k4 => k_asm); (case k5 => k_asm); (case k6 => k_is); (case k7 => k_is); (case k8 => ((try dsimp only); omega)); (case k9 => first | exact BindsTo.of_eq rfl | (refine' kp_binds ?kx ?ke; (case kx => first | (refine' myIn ?kf ?ki; (case kf => with_reducible assumption); (case ki => with_reducible assumption)) | k_in); (case ke => exact fun _ => rfl)) | exact binds_K (by first | (refine' myIn ?kf ?ki; (case kf => with_reducible assumption); (case ki => with_reducible assumption)) | k_in) rfl (by k_is) rfl rfl rfl); (case c5 => decide); (case kB => exact locs rfl); (case c2 => exact rfl); (case c3 => exact rfl); (case c4 => exact rfl); k_whole; intro g' L' h' FG' F' N' B' X' T'; (have D' := kts_dict B' (by assumption) FG' rfl); (try dsimp only); (try k_lift B'); (refine let_AE (f := execs _) ?_; intro vk ak); (refine f_QE ?_; intro qk ek))))
  k_with "M enter0" => ((
    refine wpAny_call ?_
    k_dflt (refine' code_defS0X ?k1 ?k2 ?k3 ?k4 ?k5 ?kA ?kF ?kK ?k6 ?k7 ?k8 ?k9 ?kB ?_ ?c2 ?c3 ?c4 ?c5; (case kA => exact rfl); (case kF => exact rfl); (case kK => assumption); (case k1 => k_asm); (case k2 => k_asm); (case k3 => k_asm); (case k4 => k_asm); (case k5 => k_asm); (case k6 => k_is); (case k7 => k_is); (case k8 => ((try dsimp only); omega)); (case k9 => first | exact BindsTo.of_eq rfl | (refine' kp_binds ?kx ?ke; (case kx => first | (refine' myIn ?kf ?ki; (case kf => with_reducible assumption); (case ki => with_reducible assumption)) | k_in); (case ke => exact fun _ => rfl)) | exact binds_K (by first | (refine' myIn ?kf ?ki; (case kf => with_reducible assumption); (case ki => with_reducible assumption)) | k_in) rfl (by k_is) rfl rfl rfl); (case c5 => decide); (case kB => exact locs rfl); (case c2 => exact rfl); (case c3 => exact rfl); (case c4 => exact rfl); k_whole; intro g' L' h' FG' F' N' B' X' T' D'; (try dsimp only); (try k_lift B'); (refine let_AE (f := execs _) ?_; intro vk ak); (refine f_QE ?_; intro qk ek))))
  trivial
local macro_rules | `(tactic| k_mem) => `(tactic| first | with_reducible assumption | (refine mem_in ?_; with_reducible assumption))
theorem lines_D2_1 : True := by
  k_with "subscriptTail Name Constant ref int" => ((k_here; refine item_tupleT (News.isTup (by assumption) (by k_mem)) (by decide) (by decide) (by rfl) (by rfl) ?_))
  k_with "subscriptTail Name Constant ref int" => ((k_here; (with_reducible rename StrsAre _ _ => hSA); refine item_strsA (News.isList (by assumption) (by k_mem)) hSA (by decide) (by first | omega | (simp only [List.length_map]; omega)) (by decide) ?_; intro t'))
  k_with "call type:ValueError" => ((refine call_ValueError_made ?_; intro _ _ _))
  k_with "exec While Compare Name cons nil" => (refine Hold.mk ?_)
  k_with "exec While Compare" => (refine Hold.mk ?_)
  k_with "exec While Compare cons nil" => (refine Hold.mk ?_)
  k_with "exec While" => (refine Hold.mk ?_)
  k_with "binaryOp FloorDiv int int" => ((k_here; (with_reducible refine floordiv_pos ?kb1 ?kb2 ?_); (case kb1 => decide); (case kb2 => decide +kernel)))
  k_with "WhlIf" => ((refine whlIf_dec ?_ ?_ <;> intro _))
  k_with "subscriptTail Name Name ref int" => ((k_here; first
    | ((with_reducible rename StrsAre _ _ => hSA); refine item_strsA (News.isList (by assumption) (by k_mem)) hSA (by omega) (by omega) (by omega) ?_; intro t')
    | ((with_reducible rename IntsAre _ _ => hSA); refine item_intsA (News.isList (by assumption) (by k_mem)) hSA (by omega) (by omega) (by omega) ?_; intro t')))
  k_with "call builtin:len" => ((k_here; (with_reducible show wpAny _ _ (call (Value.builtin "len") [Value.ref _]) _ _ _); first
    | ((with_reducible rename StrsAre _ _ => hSA); refine len_strsA (News.isList (by assumption) (by k_mem)) hSA (by omega) ?_)
    | ((with_reducible rename IntsAre _ _ => hSA); refine len_intsA (News.isList (by assumption) (by k_mem)) hSA (by omega) ?_)))
  k_with "call ref" => (((with_reducible show wpAny _ _ (call (Value.ref 108) _) _ _ _); refine' port_spec ?kB ?kX ?kT ?kXB ?kTB ?kD ?kh ?kd ?ku ?kF ?kN ?k6 ?kv ?_ ?_; (case kB => assumption); (case kX => assumption); (case kT => assumption); (case kXB => assumption); (case kTB => assumption); (case kD => assumption); (case kh => rfl); (case kd => ((try dsimp only); omega)); (case ku => ((try dsimp only); omega)); (case kF => with_reducible assumption); (case kN => with_reducible assumption); (case k6 => first | exact getD_640 (by assumption) _ | assumption); (case kv => first | assumption | (have q := bis_nv (by assumption) (by assumption) (by assumption); exact q) | (have q := bis_nv ((by assumption : 0 ≤ _ → ∀ msg, _ ≠ _) (by omega)) (by assumption) (by assumption); exact q))))
  k_with "call ref" => (first
    | ((with_reducible show wpAny _ _ (call (Value.ref 83) _ _) _ _ _); refine' bisR_full ?kB ?kX ?kT ?kXB ?kTB ?kD ?kh ?kd ?ku ?kF ?kN ?kra ?kro ?kl ?khi ?khv ?_ ?_; (case kB => assumption); (case kX => assumption); (case kT => assumption); (case kXB => assumption); (case kTB => assumption); (case kD => assumption); (case kh => rfl); (case kd => ((try dsimp only); omega)); (case ku => ((try dsimp only); omega)); (case kF => with_reducible assumption); (case kN => with_reducible assumption); (case kra => k_mem); (case kro => assumption); (case kl => omega); (case khi => assumption); (case khv => first | assumption | (have q := hv_app (by assumption) (by assumption); exact q) | (have q := hv_app (by assumption) rfl; exact q)))
    | ((with_reducible show wpAny _ _ (call (Value.ref 101) _ _) _ _ _); refine' bisL_full ?kB ?kX ?kT ?kXB ?kTB ?kD ?kh ?kd ?ku ?kF ?kN ?kra ?kro ?kl ?khi ?khv ?_ ?_; (case kB => assumption); (case kX => assumption); (case kT => assumption); (case kXB => assumption); (case kTB => assumption); (case kD => assumption); (case kh => rfl); (case kd => ((try dsimp only); omega)); (case ku => ((try dsimp only); omega)); (case kF => with_reducible assumption); (case kN => with_reducible assumption); (case kra => k_mem); (case kro => assumption); (case kl => omega); (case khi => assumption); (case khv => first | assumption | (have q := hv_app (by assumption) (by assumption); exact q) | (have q := hv_app (by assumption) rfl; exact q)))
    | ((with_reducible show wpAny _ _ (call (Value.ref 83) _ _) _ _ _); refine' bisR_four ?kB ?kX ?kT ?kXB ?kTB ?kD ?kh ?kd ?ku ?kF ?kN ?kra ?kro ?kkv ?kl ?khi ?khv ?_ ?_; (case kB => assumption); (case kX => assumption); (case kT => assumption); (case kXB => assumption); (case kTB => assumption); (case kD => assumption); (case kh => rfl); (case kd => ((try dsimp only); omega)); (case ku => ((try dsimp only); omega)); (case kF => with_reducible assumption); (case kN => with_reducible assumption); (case kra => k_mem); (case kro => assumption); (case kkv => rfl); (case kl => omega); (case khi => assumption); (case khv => first | assumption | (have q := hv_app (by assumption) (by assumption); exact q) | (have q := hv_app (by assumption) rfl; exact q)))
    | ((with_reducible show wpAny _ _ (call (Value.ref 101) _ _) _ _ _); refine' bisL_four ?kB ?kX ?kT ?kXB ?kTB ?kD ?kh ?kd ?ku ?kF ?kN ?kra ?kro ?kkv ?kl ?khi ?khv ?_ ?_; (case kB => assumption); (case kX => assumption); (case kT => assumption); (case kXB => assumption); (case kTB => assumption); (case kD => assumption); (case kh => rfl); (case kd => ((try dsimp only); omega)); (case ku => ((try dsimp only); omega)); (case kF => with_reducible assumption); (case kN => with_reducible assumption); (case kra => k_mem); (case kro => assumption); (case kkv => rfl); (case kl => omega); (case khi => assumption); (case khv => first | assumption | (have q := hv_app (by assumption) (by assumption); exact q) | (have q := hv_app (by assumption) rfl; exact q))))
  k_with "call builtin:list.insert" => ((k_here; (with_reducible show wpAny _ _ (call (Value.builtin _) [Value.ref _, Value.int _ _, _]) _ _ _); refine' kl_insert ?F ?N ?f ?e (upd_of (by assumption)) ?z ?_; (case F => with_reducible assumption); (case N => with_reducible assumption); (case f => exact fits_bis (by assumption) (by assumption) (by omega) (by omega)); (case e => rfl); (case z => exact room_vs (by assumption) (by omega)); intro h' F' N'))
  trivial
section
variable {w : World} {p : Program} {loose : List PStr} {mean : ExcName → Option Value} {mg mb : PStr → Option Value}
    {dp un : Nat} {gd : Option (List Code)} {cn : PStr} {cs : Scope} {a : Addr} {ccd : Value} {cl : List (PStr × Addr)} {outer : List Env} {A₀ : Around} {base h₀ : Heap} {L : Addr} {m : PStr → Option Value}
    {s : Shared} {Q E : Value → Shared → Prop} {news : Ldg}
    (B : Below A₀ base outer h₀) (X : (KK.heap_1 w.params).In h₀) (T : Top p loose mean mg mb h₀) (XB : (KK.heap_1 w.params).In base) (TB : Top p loose mean mg mb base) (D : KtsDicts (outer.filterMap (·.frame)) h₀) (hck : cs.kind = .function)
include B X T XB TB D hck
theorem insR2 {ra : Addr} {vs : List Value} {k : Nat → KRes} {nn ep : Nat} {kx : KRes} {kv xv : Value} {gN : Obj → Ldg} (hd5 : dp + 30 < recursionLimit) (hu5 : un + 200 < cLine) (F : Fr h₀ L s.heap m) (N : News h₀ L s.heap news)
   (U : UpdF ra (lstOf vs ep) news gN) (hrow : RowIs 108 kv vs k nn) (hx : ThingIs 108 kv xv kx) (hkv : kv = .ref 108) (hl : nn ≤ 1000) (hxv : ∀ msg, kx ≠ .error (.value, msg)) (hv0 : ∀ x, kx = .ok x → (0 : Int) ≤ 0 → ∀ msg, bisZ true k x 0 nn ≠ .error (.value, msg))
   (hret : ∀ n h' tk, insZ true k kx 0 nn = .ok n → Fr h₀ L h' m → News h₀ L h' (gN (lstOf (kl_ins vs n xv) (ep + 1))) → Q .none { s with heap := h', toks := tk })
   (hexc : ∀ ek r t1 g₂ e t h' tk, insZ true k kx 0 nn = .error (ek, r) → Fr h₀ L g₂ m → RaisedS base g₂ (envX cn cs L a ccd cl :: outer) e (clsOf ek) t [.str r t1] news h' → RaisedK base (envX cn cs L a ccd cl :: outer) e (clsOf ek) t [.str r t1] news h' → g₂.UpToSlots h' → E (.ref e) { s with heap := h', toks := tk }) :
   wpAny (model PySem.Challenge.rw_pm0034_02.row.prog w) (ktrTop dp un gd cn cs L a ccd cl outer) (call (.ref 74) [.ref ra, xv] [(Str.ofString "key", kv)]) Q E s := by
  walk_at "M fill"
  have hrl := hrow.length
  have hra := updF_mem U
  have hhi : HiIs Value.none nn nn := .inl ⟨rfl, rfl⟩
  rcases hx with ⟨xr, xt, rfl, rfl, rfl, h640⟩ | ⟨xn, xt, rfl, rfl, rfl⟩
  · walk_at "M enter"
    k_steps
    · (show Q _ _)
      exact hret _ _ _ ((insZ_ok (by assumption)).trans (by assumption)) (by assumption) (by assumption)
    · (show E _ _)
      exact hexc _ _ _ _ _ _ _ _ ((insZ_ok (by assumption)).trans (by assumption)) (by assumption) (by assumption) (by assumption) (by assumption)
    · (show E _ _)
      exact hexc _ _ _ _ _ _ _ _ (insZ_err (by assumption)) (by assumption) (by assumption) (by assumption) (by assumption)
  · cases hkv
end
section
variable {w : World} {p : Program} {loose : List PStr} {mean : ExcName → Option Value} {mg mb : PStr → Option Value}
    {dp un : Nat} {gd : Option (List Code)} {cn : PStr} {cs : Scope} {a : Addr} {ccd : Value} {cl : List (PStr × Addr)} {outer : List Env} {A₀ : Around} {base h₀ : Heap} {L : Addr} {m : PStr → Option Value}
    {s : Shared} {Q E : Value → Shared → Prop} {news : Ldg}
    (B : Below A₀ base outer h₀) (X : (KK.heap_1 w.params).In h₀) (T : Top p loose mean mg mb h₀) (XB : (KK.heap_1 w.params).In base) (TB : Top p loose mean mg mb base) (D : KtsDicts (outer.filterMap (·.frame)) h₀) (hck : cs.kind = .function)
include B X T XB TB D hck
theorem insL2 {ra : Addr} {vs : List Value} {k : Nat → KRes} {nn ep : Nat} {kx : KRes} {kv xv : Value} {gN : Obj → Ldg} (hd5 : dp + 30 < recursionLimit) (hu5 : un + 200 < cLine) (F : Fr h₀ L s.heap m) (N : News h₀ L s.heap news)
   (U : UpdF ra (lstOf vs ep) news gN) (hrow : RowIs 108 kv vs k nn) (hx : ThingIs 108 kv xv kx) (hkv : kv = .ref 108) (hl : nn ≤ 1000) (hxv : ∀ msg, kx ≠ .error (.value, msg)) (hv0 : ∀ x, kx = .ok x → (0 : Int) ≤ 0 → ∀ msg, bisZ false k x 0 nn ≠ .error (.value, msg))
   (hret : ∀ n h' tk, insZ false k kx 0 nn = .ok n → Fr h₀ L h' m → News h₀ L h' (gN (lstOf (kl_ins vs n xv) (ep + 1))) → Q .none { s with heap := h', toks := tk })
   (hexc : ∀ ek r t1 g₂ e t h' tk, insZ false k kx 0 nn = .error (ek, r) → Fr h₀ L g₂ m → RaisedS base g₂ (envX cn cs L a ccd cl :: outer) e (clsOf ek) t [.str r t1] news h' → RaisedK base (envX cn cs L a ccd cl :: outer) e (clsOf ek) t [.str r t1] news h' → g₂.UpToSlots h' → E (.ref e) { s with heap := h', toks := tk }) :
   wpAny (model PySem.Challenge.rw_pm0034_02.row.prog w) (ktrTop dp un gd cn cs L a ccd cl outer) (call (.ref 92) [.ref ra, xv] [(Str.ofString "key", kv)]) Q E s := by
  walk_at "M fill"
  have hrl := hrow.length
  have hra := updF_mem U
  have hhi : HiIs Value.none nn nn := .inl ⟨rfl, rfl⟩
  rcases hx with ⟨xr, xt, rfl, rfl, rfl, h640⟩ | ⟨xn, xt, rfl, rfl, rfl⟩
  · walk_at "M enter"
    k_steps
    · (show Q _ _)
      exact hret _ _ _ ((insZ_ok (by assumption)).trans (by assumption)) (by assumption) (by assumption)
    · (show E _ _)
      exact hexc _ _ _ _ _ _ _ _ ((insZ_ok (by assumption)).trans (by assumption)) (by assumption) (by assumption) (by assumption) (by assumption)
    · (show E _ _)
      exact hexc _ _ _ _ _ _ _ _ (insZ_err (by assumption)) (by assumption) (by assumption) (by assumption) (by assumption)
  · cases hkv
end
end
section
theorem lines_F2_0 : True := by
  k_with_none
  k_with "execs cons" => ((refine f_execs ?_; intro qk))
  k_with "eval BinOp" => ((refine f_BinOp ?_; intro qk))
  k_with "exec Assign" => ((refine f_Assign ?_; intro qk))
  k_with "eval Subscript" => ((refine f_Subscript ?_; intro qk))
  k_with "isTrue Compare" => ((refine f_Compare ?_; intro qk))
  k_with "exec If" => ((refine f_If ?_; intro qk))
  k_with "eval Call" => (((fail_if_success (with_reducible show wpAny _ _ (eval (Expr.Call (Expr.Attribute _ _ _) _ _ _) _) _ _ _)); refine f_Call ?_; intro qk))
  k_with "spliced" => ((refine f_args ?_; intro qk))
  k_with "callWith" => ((refine f_method1 ?_; intro qk))
  k_with "exec Return some" => ((refine f_Return ?_; intro qk))
  k_with "eval Tuple" => ((refine f_Tuple ?_; intro qk))
  k_with "eval List" => ((refine f_List ?_; intro qk))
  k_with "eval IfExp" => ((refine f_IfExp ?_; intro qk))
  k_with "storeName" => ((k_here; k_dflt (refine' f_store ?F ?N ?_ ?a ?b; (case F => k_asm); (case N => k_asm); (case a => rfl); (case b => rfl); k_whole; intro m' h' F' N'; (try k_sweep))))
  k_with "M map1" => (first
    | (refine map_same ?_; with_unfolding_all rfl)
    | ((repeat' (refine List.forall_mem_cons.mpr (And.intro ?_ ?_))); (all_goals first | rfl | exact List.forall_mem_nil _)))
  k_with "M map2" => (first
    | (refine SameOut.both (b := fun _ => none) ?_ ?_ <;> (repeat (refine SameOut.upd ?_ (by with_unfolding_all rfl))) <;> exact SameOut.lookup rfl)
    | (refine' SameOut.both (b := ?kb) ?k1 ?k2; (case k1 => ((repeat (refine SameOut.upd ?_ (by with_unfolding_all rfl))); exact SameOut.refl)); (case k2 => ((repeat (refine SameOut.upd ?_ (by with_unfolding_all rfl))); exact SameOut.refl)))
    | (refine' SameOut.both (b := ?kb) ?k1 ?k2; (case k2 => ((repeat (refine SameOut.upd ?_ (by with_unfolding_all rfl))); exact SameOut.refl)); (case k1 => ((repeat (refine SameOut.skip ?_)); (repeat (refine SameOut.upd ?_ (by with_unfolding_all rfl))); exact SameOut.refl)))
    | (intro y hy; (repeat (refine (if_neg (ne_of_out hy (by with_unfolding_all rfl))).trans ?_)); (refine Eq.symm ?_); (repeat (refine (if_neg (ne_of_out hy (by with_unfolding_all rfl))).trans ?_)); first | rfl | exact lookup_out rfl hy | exact (lookup_out rfl hy).symm | exact (lookup_out rfl hy).trans (lookup_out rfl hy).symm))
  k_with "M fill" => ((
    have kk : PySem.Challenge.rw_pm0034_02 = PySem.Challenge.rw_pm0034_02 ∧ KK.heap_1 = KK.heap_1 := ⟨rfl, rfl⟩
    revert kk
    k_fill
    intro kk
    clear kk))
  k_with "M enter" => ((
    refine wpAny_call ?_
    k_dflt (refine' code_def ?k1 ?k2 ?k3 ?k4 ?k5 ?kA ?kF ?kK ?k6 ?k7 ?k8 ?k9 ?kB ?_ ?c2 ?c3 ?c4 ?c5; (case kA => exact rfl); (case kF => exact rfl); (case kK => assumption); (case k1 => k_asm); (case k2 => k_asm); (case k3 => k_asm); (case k4 => k_asm); (case k5 => k_asm); (case k6 => k_is); (case k7 => k_is); (case k8 => ((try dsimp only); omega)); (case k9 => first | exact BindsTo.of_eq rfl | (refine' kp_binds ?kx ?ke; (case kx => first | (refine' myIn ?kf ?ki; (case kf => with_reducible assumption); (case ki => with_reducible assumption)) | k_in); (case ke => exact fun _ => rfl)) | exact binds_K (by first | (refine' myIn ?kf ?ki; (case kf => with_reducible assumption); (case ki => with_reducible assumption)) | k_in) rfl (by k_is) rfl rfl rfl); (case c5 => decide); (case kB => exact locs rfl); (case c2 => exact rfl); (case c3 => exact rfl); (case c4 => exact rfl); k_whole; intro g' L' h' FG' F' N' B' X' T'; (have D' := kts_dict B' (by assumption) FG' rfl); (try dsimp only); (try k_lift B'); (refine let_AE (f := execs _) ?_; intro vk ak); (refine f_QE ?_; intro qk ek))))
  k_with "M enter0" => ((
    refine wpAny_call ?_
    k_dflt (refine' code_defS0X ?k1 ?k2 ?k3 ?k4 ?k5 ?kA ?kF ?kK ?k6 ?k7 ?k8 ?k9 ?kB ?_ ?c2 ?c3 ?c4 ?c5; (case kA => exact rfl); (case kF => exact rfl); (case kK => assumption); (case k1 => k_asm); (case k2 => k_asm); (case k3 => k_asm); (case k4 => k_asm); (case k5 => k_asm); (case k6 => k_is); (case k7 => k_is); (case k8 => ((try dsimp only); omega)); (case k9 => first | exact BindsTo.of_eq rfl | (refine' kp_binds ?kx ?ke; (case kx => first | (refine' myIn ?kf ?ki; (case kf => with_reducible assumption); (case ki => with_reducible assumption)) | k_in); (case ke => exact fun _ => rfl)) | exact binds_K (by first | (refine' myIn ?kf ?ki; (case kf => with_reducible assumption); (case ki => with_reducible assumption)) | k_in) rfl (by k_is) rfl rfl rfl); (case c5 => decide); (case kB => exact locs rfl); (case c2 => exact rfl); (case c3 => exact rfl); (case c4 => exact rfl); k_whole; intro g' L' h' FG' F' N' B' X' T' D'; (try dsimp only); (try k_lift B'); (refine let_AE (f := execs _) ?_; intro vk ak); (refine f_QE ?_; intro qk ek))))
  trivial
local macro_rules | `(tactic| k_mem) => `(tactic| first | with_reducible assumption | (refine mem_in ?_; with_reducible assumption))
theorem lines_F2_1 : True := by
  k_with "subscriptTail Name Constant ref int" => ((k_here; refine item_tupleT (News.isTup (by assumption) (by k_mem)) (by decide) (by decide) (by rfl) (by rfl) ?_))
  k_with "subscriptTail Name Constant ref int" => ((k_here; (with_reducible rename StrsAre _ _ => hSA); refine item_strsA (News.isList (by assumption) (by k_mem)) hSA (by decide) (by first | omega | (simp only [List.length_map]; omega)) (by decide) ?_; intro t'))
  k_with "call type:ValueError" => ((refine call_ValueError_made ?_; intro _ _ _))
  k_with "exec While Compare Name cons nil" => (refine Hold.mk ?_)
  k_with "exec While Compare" => (refine Hold.mk ?_)
  k_with "exec While Compare cons nil" => (refine Hold.mk ?_)
  k_with "exec While" => (refine Hold.mk ?_)
  k_with "binaryOp FloorDiv int int" => ((k_here; (with_reducible refine floordiv_pos ?kb1 ?kb2 ?_); (case kb1 => decide); (case kb2 => decide +kernel)))
  k_with "WhlIf" => ((refine whlIf_dec ?_ ?_ <;> intro _))
  k_with "subscriptTail Name Name ref int" => ((k_here; first
    | ((with_reducible rename StrsAre _ _ => hSA); refine item_strsA (News.isList (by assumption) (by k_mem)) hSA (by omega) (by omega) (by omega) ?_; intro t')
    | ((with_reducible rename IntsAre _ _ => hSA); refine item_intsA (News.isList (by assumption) (by k_mem)) hSA (by omega) (by omega) (by omega) ?_; intro t')))
  k_with "call builtin:len" => ((k_here; (with_reducible show wpAny _ _ (call (Value.builtin "len") [Value.ref _]) _ _ _); first
    | ((with_reducible rename StrsAre _ _ => hSA); refine len_strsA (News.isList (by assumption) (by k_mem)) hSA (by omega) ?_)
    | ((with_reducible rename IntsAre _ _ => hSA); refine len_intsA (News.isList (by assumption) (by k_mem)) hSA (by omega) ?_)))
  k_with "call ref" => (((with_reducible show wpAny _ _ (call (Value.ref 108) _) _ _ _); refine' port_spec ?kB ?kX ?kT ?kXB ?kTB ?kD ?kh ?kd ?ku ?kF ?kN ?k6 ?kv ?_ ?_; (case kB => assumption); (case kX => assumption); (case kT => assumption); (case kXB => assumption); (case kTB => assumption); (case kD => assumption); (case kh => rfl); (case kd => ((try dsimp only); omega)); (case ku => ((try dsimp only); omega)); (case kF => with_reducible assumption); (case kN => with_reducible assumption); (case k6 => first | exact getD_640 (by assumption) _ | assumption); (case kv => first | assumption | (have q := bis_nv (by assumption) (by assumption) (by assumption); exact q) | (have q := bis_nv ((by assumption : 0 ≤ _ → ∀ msg, _ ≠ _) (by omega)) (by assumption) (by assumption); exact q))))
  k_with "call ref" => (first
    | focus ((with_reducible show wpAny _ _ (call (Value.ref 83) _ _) _ _ _); refine' bisR_full ?kB ?kX ?kT ?kXB ?kTB ?kD ?kh ?kd ?ku ?kF ?kN ?kra ?kro ?kl ?khi ?khv ?_ ?_; (case kB => assumption); (case kX => assumption); (case kT => assumption); (case kXB => assumption); (case kTB => assumption); (case kD => assumption); (case kh => rfl); (case kd => ((try dsimp only); omega)); (case ku => ((try dsimp only); omega)); (case kF => with_reducible assumption); (case kN => with_reducible assumption); (case kra => k_mem); (case kro => assumption); (case kl => omega); (case khi => assumption); (case khv => first | assumption | (have q := hv_app (by assumption) (by assumption); exact q) | (have q := hv_app (by assumption) rfl; exact q)); rotate_left; (intro ek _ _ _ _ _ _ _ hb; have hz := bisZ_err_len (by assumption) hb; cases ek <;> dsimp only [clsOf]))
    | focus ((with_reducible show wpAny _ _ (call (Value.ref 101) _ _) _ _ _); refine' bisL_full ?kB ?kX ?kT ?kXB ?kTB ?kD ?kh ?kd ?ku ?kF ?kN ?kra ?kro ?kl ?khi ?khv ?_ ?_; (case kB => assumption); (case kX => assumption); (case kT => assumption); (case kXB => assumption); (case kTB => assumption); (case kD => assumption); (case kh => rfl); (case kd => ((try dsimp only); omega)); (case ku => ((try dsimp only); omega)); (case kF => with_reducible assumption); (case kN => with_reducible assumption); (case kra => k_mem); (case kro => assumption); (case kl => omega); (case khi => assumption); (case khv => first | assumption | (have q := hv_app (by assumption) (by assumption); exact q) | (have q := hv_app (by assumption) rfl; exact q)); rotate_left; (intro ek _ _ _ _ _ _ _ hb; have hz := bisZ_err_len (by assumption) hb; cases ek <;> dsimp only [clsOf]))
    | focus ((with_reducible show wpAny _ _ (call (Value.ref 83) _ _) _ _ _); refine' bisR_four ?kB ?kX ?kT ?kXB ?kTB ?kD ?kh ?kd ?ku ?kF ?kN ?kra ?kro ?kkv ?kl ?khi ?khv ?_ ?_; (case kB => assumption); (case kX => assumption); (case kT => assumption); (case kXB => assumption); (case kTB => assumption); (case kD => assumption); (case kh => rfl); (case kd => ((try dsimp only); omega)); (case ku => ((try dsimp only); omega)); (case kF => with_reducible assumption); (case kN => with_reducible assumption); (case kra => k_mem); (case kro => assumption); (case kkv => rfl); (case kl => omega); (case khi => assumption); (case khv => first | assumption | (have q := hv_app (by assumption) (by assumption); exact q) | (have q := hv_app (by assumption) rfl; exact q)); rotate_left; (intro ek _ _ _ _ _ _ _ hb; have hz := bisZ_err_len (by assumption) hb; cases ek <;> dsimp only [clsOf]))
    | focus ((with_reducible show wpAny _ _ (call (Value.ref 101) _ _) _ _ _); refine' bisL_four ?kB ?kX ?kT ?kXB ?kTB ?kD ?kh ?kd ?ku ?kF ?kN ?kra ?kro ?kkv ?kl ?khi ?khv ?_ ?_; (case kB => assumption); (case kX => assumption); (case kT => assumption); (case kXB => assumption); (case kTB => assumption); (case kD => assumption); (case kh => rfl); (case kd => ((try dsimp only); omega)); (case ku => ((try dsimp only); omega)); (case kF => with_reducible assumption); (case kN => with_reducible assumption); (case kra => k_mem); (case kro => assumption); (case kkv => rfl); (case kl => omega); (case khi => assumption); (case khv => first | assumption | (have q := hv_app (by assumption) (by assumption); exact q) | (have q := hv_app (by assumption) rfl; exact q)); rotate_left; (intro ek _ _ _ _ _ _ _ hb; have hz := bisZ_err_len (by assumption) hb; cases ek <;> dsimp only [clsOf])))
  k_with "call ref" => (first
    | focus ((with_reducible show wpAny _ _ (call (Value.ref 74) _ _) _ _ _); refine' insR2 ?kB ?kX ?kT ?kXB ?kTB ?kD ?kh ?kd ?ku ?kF ?kN ?kU ?kro ?kx ?kkv ?kl ?kxv ?khv ?_ ?_; (case kB => assumption); (case kX => assumption); (case kT => assumption); (case kXB => assumption); (case kTB => assumption); (case kD => assumption); (case kh => rfl); (case kd => ((try dsimp only); omega)); (case ku => ((try dsimp only); omega)); (case kF => with_reducible assumption); (case kN => with_reducible assumption); (case kU => assumption); (case kro => assumption); (case kx => assumption); (case kl => omega); (case kkv => rfl); (case kxv => assumption); (case khv => assumption); rotate_left; (intro ek _ _ _ _ _ _ _ hb; have hz := insZ_err_len (by assumption) (by assumption) hb; cases ek <;> dsimp only [clsOf]))
    | focus ((with_reducible show wpAny _ _ (call (Value.ref 92) _ _) _ _ _); refine' insL2 ?kB ?kX ?kT ?kXB ?kTB ?kD ?kh ?kd ?ku ?kF ?kN ?kU ?kro ?kx ?kkv ?kl ?kxv ?khv ?_ ?_; (case kB => assumption); (case kX => assumption); (case kT => assumption); (case kXB => assumption); (case kTB => assumption); (case kD => assumption); (case kh => rfl); (case kd => ((try dsimp only); omega)); (case ku => ((try dsimp only); omega)); (case kF => with_reducible assumption); (case kN => with_reducible assumption); (case kU => assumption); (case kro => assumption); (case kx => assumption); (case kl => omega); (case kkv => rfl); (case kxv => assumption); (case khv => assumption); rotate_left; (intro ek _ _ _ _ _ _ _ hb; have hz := insZ_err_len (by assumption) (by assumption) hb; cases ek <;> dsimp only [clsOf])))
  k_with "call type:str" => ((k_here; (with_reducible show wpAny _ _ (call (Value.type "str") [Value.ref _]) _ _ _); refine' str_own ?U ?X ?N ?G ?hs ?hm ?_; (case G => assumption); (case N => assumption); (case U => first | units_room | k_room | ((try dsimp only); omega)); (case X => first | (refine' myIn ?kf ?ki; (case kf => with_reducible assumption); (case ki => with_reducible assumption)) | k_in); (case hs => k_is); (case hm => k_is)))
  trivial
section
variable {w : World} {p : Program} {loose : List PStr} {mean : ExcName → Option Value} {mg mb : PStr → Option Value}
    {dp un : Nat} {gd : Option (List Code)} {cn : PStr} {cs : Scope} {a : Addr} {ccd : Value} {cl : List (PStr × Addr)} {A₀ : Around} {base h₀ : Heap} {L : Addr} {m : PStr → Option Value}
    {s : Shared} {Q E : Value → Shared → Prop} {news : Ldg}
    (B : Below A₀ base [] h₀) (X : (KK.heap_1 w.params).In h₀) (T : Top p loose mean mg mb h₀) (XB : (KK.heap_1 w.params).In base) (TB : Top p loose mean mg mb base) (hck : cs.kind = .function)
include B X T XB TB hck
theorem told2 {ra : Addr} {vs : List Value} {k : Nat → KRes} {nn ep : Nat} {kx : KRes} {wh : Int} {xv : Value} {tw : Tok} {gN : Obj → Ldg} (hd5 : dp + 40 < recursionLimit) (hu5 : un + 300 < cLine) (F : Fr h₀ L s.heap m) (N : News h₀ L s.heap news)
   (hw : wh = 1 ∨ wh = 0) (U : UpdF ra (lstOf vs ep) news gN) (hrow : RowIs 108 (.ref 108) vs k nn) (hx : ThingIs 108 (.ref 108) xv kx) (hl : nn ≤ 1000) (hxv : ∀ msg, kx ≠ .error (.value, msg)) (hv0 : ∀ x, kx = .ok x → (0 : Int) ≤ 0 → ∀ msg, bisZ (wh == 0) k x 0 nn ≠ .error (.value, msg))
   (hret : ∀ n h' tk, insZ (wh == 0) k kx 0 nn = .ok n → Fr h₀ L h' m → News h₀ L h' (gN (lstOf (kl_ins vs n xv) (ep + 1))) → Q .none { s with heap := h', toks := tk })
   (hexc : ∀ ek r t h' tk, insZ (wh == 0) k kx 0 nn = .error (ek, r) → Fr h₀ L h' m → News h₀ L h' news → Q (.str (toldTxt ek r) t) { s with heap := h', toks := tk }) :
   wpAny (model PySem.Challenge.rw_pm0034_02.row.prog w) (ktrTop dp un gd cn cs L a ccd cl []) (call (.ref 115) [.int wh tw, .ref ra, xv]) Q E s := by
  walk_at "M fill"
  have hkk : (Value.ref 108) = Value.ref 108 := rfl
  rcases hw with rfl | rfl
  · replace hret : ∀ n h' tk, insZ false k kx 0 nn = .ok n → Fr h₀ L h' m → News h₀ L h' (gN (lstOf (kl_ins vs n xv) (ep + 1))) → Q .none { s with heap := h', toks := tk } := hret
    replace hv0 : ∀ x, kx = .ok x → (0 : Int) ≤ 0 → ∀ msg, bisZ false k x 0 nn ≠ .error (.value, msg) := hv0
    replace hexc : ∀ ek r t h' tk, insZ false k kx 0 nn = .error (ek, r) → Fr h₀ L h' m → News h₀ L h' news → Q (.str (toldTxt ek r) t) { s with heap := h', toks := tk } := hexc
    walk_at "M enter0"
    k_steps
    (try walk_at "call ref")
    all_goals (try k_steps)
    · (show Q (Value.str (toldTxt .reply _) _) _)
      exact hexc _ _ _ _ _ (by assumption) (by assumption) (by assumption)
    · (show Q (Value.str (toldTxt .proto _) _) _)
      exact hexc _ _ _ _ _ (by assumption) (by assumption) (by assumption)
    · (show Q (Value.str (toldTxt .value _) _) _)
      exact hexc _ _ _ _ _ (by assumption) (by assumption) (by assumption)
    · (show Q Value.none _)
      exact hret _ _ _ (by assumption) (by assumption) (by assumption)
  · replace hret : ∀ n h' tk, insZ true k kx 0 nn = .ok n → Fr h₀ L h' m → News h₀ L h' (gN (lstOf (kl_ins vs n xv) (ep + 1))) → Q .none { s with heap := h', toks := tk } := hret
    replace hv0 : ∀ x, kx = .ok x → (0 : Int) ≤ 0 → ∀ msg, bisZ true k x 0 nn ≠ .error (.value, msg) := hv0
    replace hexc : ∀ ek r t h' tk, insZ true k kx 0 nn = .error (ek, r) → Fr h₀ L h' m → News h₀ L h' news → Q (.str (toldTxt ek r) t) { s with heap := h', toks := tk } := hexc
    walk_at "M enter0"
    k_steps
    (try walk_at "call ref")
    all_goals (try k_steps)
    · (show Q (Value.str (toldTxt .reply _) _) _)
      exact hexc _ _ _ _ _ (by assumption) (by assumption) (by assumption)
    · (show Q (Value.str (toldTxt .proto _) _) _)
      exact hexc _ _ _ _ _ (by assumption) (by assumption) (by assumption)
    · (show Q (Value.str (toldTxt .value _) _) _)
      exact hexc _ _ _ _ _ (by assumption) (by assumption) (by assumption)
    · (show Q Value.none _)
      exact hret _ _ _ (by assumption) (by assumption) (by assumption)
end
end
section
theorem lines_J2_0 : True := by
  k_with_none
  k_with "execs cons" => ((refine f_execs ?_; intro qk))
  k_with "eval BinOp" => ((refine f_BinOp ?_; intro qk))
  k_with "exec Assign" => ((refine f_Assign ?_; intro qk))
  k_with "eval Subscript" => ((refine f_Subscript ?_; intro qk))
  k_with "isTrue Compare" => ((refine f_Compare ?_; intro qk))
  k_with "exec If" => ((refine f_If ?_; intro qk))
  k_with "eval Call" => (((fail_if_success (with_reducible show wpAny _ _ (eval (Expr.Call (Expr.Attribute _ _ _) _ _ _) _) _ _ _)); refine f_Call ?_; intro qk))
  k_with "spliced" => ((refine f_args ?_; intro qk))
  k_with "callWith" => ((refine f_method1 ?_; intro qk))
  k_with "exec Return some" => ((refine f_Return ?_; intro qk))
  k_with "eval Tuple" => ((refine f_Tuple ?_; intro qk))
  k_with "eval List" => ((refine f_List ?_; intro qk))
  k_with "eval IfExp" => ((refine f_IfExp ?_; intro qk))
  k_with "storeName" => ((k_here; k_dflt (refine' f_store ?F ?N ?_ ?a ?b; (case F => k_asm); (case N => k_asm); (case a => rfl); (case b => rfl); k_whole; intro m' h' F' N'; (try k_sweep))))
  k_with "M map1" => (first
    | (refine map_same ?_; with_unfolding_all rfl)
    | ((repeat' (refine List.forall_mem_cons.mpr (And.intro ?_ ?_))); (all_goals first | rfl | exact List.forall_mem_nil _)))
  k_with "M map2" => (first
    | (refine SameOut.both (b := fun _ => none) ?_ ?_ <;> (repeat (refine SameOut.upd ?_ (by with_unfolding_all rfl))) <;> exact SameOut.lookup rfl)
    | (refine' SameOut.both (b := ?kb) ?k1 ?k2; (case k1 => ((repeat (refine SameOut.upd ?_ (by with_unfolding_all rfl))); exact SameOut.refl)); (case k2 => ((repeat (refine SameOut.upd ?_ (by with_unfolding_all rfl))); exact SameOut.refl)))
    | (refine' SameOut.both (b := ?kb) ?k1 ?k2; (case k2 => ((repeat (refine SameOut.upd ?_ (by with_unfolding_all rfl))); exact SameOut.refl)); (case k1 => ((repeat (refine SameOut.skip ?_)); (repeat (refine SameOut.upd ?_ (by with_unfolding_all rfl))); exact SameOut.refl)))
    | (intro y hy; (repeat (refine (if_neg (ne_of_out hy (by with_unfolding_all rfl))).trans ?_)); (refine Eq.symm ?_); (repeat (refine (if_neg (ne_of_out hy (by with_unfolding_all rfl))).trans ?_)); first | rfl | exact lookup_out rfl hy | exact (lookup_out rfl hy).symm | exact (lookup_out rfl hy).trans (lookup_out rfl hy).symm))
  k_with "M fill" => ((
    have kk : PySem.Challenge.rw_pm0034_02 = PySem.Challenge.rw_pm0034_02 ∧ KK.heap_1 = KK.heap_1 := ⟨rfl, rfl⟩
    revert kk
    k_fill
    intro kk
    clear kk))
  k_with "M enter" => ((
    refine wpAny_call ?_
    k_dflt (refine' code_def ?k1 ?k2 ?k3 ?k4 ?k5 ?kA ?kF ?kK ?k6 ?k7 ?k8 ?k9 ?kB ?_ ?c2 ?c3 ?c4 ?c5; (case kA => exact rfl); (case kF => exact rfl); (case kK => assumption); (case k1 => k_asm); (case k2 => k_asm); (case k3 => k_asm); (case k4 => k_asm); (case k5 => k_asm); (case k6 => k_is); (case k7 => k_is); (case k8 => ((try dsimp only); omega)); (case k9 => first | exact BindsTo.of_eq rfl | (refine' kp_binds ?kx ?ke; (case kx => first | (refine' myIn ?kf ?ki; (case kf => with_reducible assumption); (case ki => with_reducible assumption)) | k_in); (case ke => exact fun _ => rfl)) | exact binds_K (by first | (refine' myIn ?kf ?ki; (case kf => with_reducible assumption); (case ki => with_reducible assumption)) | k_in) rfl (by k_is) rfl rfl rfl); (case c5 => decide); (case kB => exact locs rfl); (case c2 => exact rfl); (case c3 => exact rfl); (case c4 => exact rfl); k_whole; intro g' L' h' FG' F' N' B' X' T'; (have D' := kts_dict B' (by assumption) FG' rfl); (try dsimp only); (try k_lift B'); (refine let_AE (f := execs _) ?_; intro vk ak); (refine f_QE ?_; intro qk ek))))
  k_with "M enter0" => ((
    refine wpAny_call ?_
    k_dflt (refine' code_defS0X ?k1 ?k2 ?k3 ?k4 ?k5 ?kA ?kF ?kK ?k6 ?k7 ?k8 ?k9 ?kB ?_ ?c2 ?c3 ?c4 ?c5; (case kA => exact rfl); (case kF => exact rfl); (case kK => assumption); (case k1 => k_asm); (case k2 => k_asm); (case k3 => k_asm); (case k4 => k_asm); (case k5 => k_asm); (case k6 => k_is); (case k7 => k_is); (case k8 => ((try dsimp only); omega)); (case k9 => first | exact BindsTo.of_eq rfl | (refine' kp_binds ?kx ?ke; (case kx => first | (refine' myIn ?kf ?ki; (case kf => with_reducible assumption); (case ki => with_reducible assumption)) | k_in); (case ke => exact fun _ => rfl)) | exact binds_K (by first | (refine' myIn ?kf ?ki; (case kf => with_reducible assumption); (case ki => with_reducible assumption)) | k_in) rfl (by k_is) rfl rfl rfl); (case c5 => decide); (case kB => exact locs rfl); (case c2 => exact rfl); (case c3 => exact rfl); (case c4 => exact rfl); k_whole; intro g' L' h' FG' F' N' B' X' T' D'; (try dsimp only); (try k_lift B'); (refine let_AE (f := execs _) ?_; intro vk ak); (refine f_QE ?_; intro qk ek))))
  trivial
local macro_rules | `(tactic| k_mem) => `(tactic| first | with_reducible assumption | (refine mem_in ?_; with_reducible assumption))
theorem lines_J2_1 : True := by
  k_with "subscriptTail Name Constant ref int" => ((k_here; refine item_tupleT (News.isTup (by assumption) (by k_mem)) (by decide) (by decide) (by rfl) (by rfl) ?_))
  k_with "subscriptTail Name Constant ref int" => ((k_here; (with_reducible rename StrsAre _ _ => hSA); refine item_strsA (News.isList (by assumption) (by k_mem)) hSA (by decide) (by first | omega | (simp only [List.length_map]; omega)) (by decide) ?_; intro t'))
  k_with "call type:ValueError" => ((refine call_ValueError_made ?_; intro _ _ _))
  k_with "exec While Compare Name cons nil" => (refine Hold.mk ?_)
  k_with "exec While Compare" => (refine Hold.mk ?_)
  k_with "exec While Compare cons nil" => (refine Hold.mk ?_)
  k_with "exec While" => (refine Hold.mk ?_)
  k_with "binaryOp FloorDiv int int" => ((k_here; (with_reducible refine floordiv_pos ?kb1 ?kb2 ?_); (case kb1 => decide); (case kb2 => decide +kernel)))
  k_with "WhlIf" => ((refine whlIf_dec ?_ ?_ <;> intro _))
  k_with "subscriptTail Name Name ref int" => ((k_here; first
    | ((with_reducible rename StrsAre _ _ => hSA); refine item_strsA (News.isList (by assumption) (by k_mem)) hSA (by omega) (by omega) (by omega) ?_; intro t')
    | ((with_reducible rename IntsAre _ _ => hSA); refine item_intsA (News.isList (by assumption) (by k_mem)) hSA (by omega) (by omega) (by omega) ?_; intro t')))
  k_with "call builtin:len" => ((k_here; (with_reducible show wpAny _ _ (call (Value.builtin "len") [Value.ref _]) _ _ _); first
    | ((with_reducible rename StrsAre _ _ => hSA); refine len_strsA (News.isList (by assumption) (by k_mem)) hSA (by omega) ?_)
    | ((with_reducible rename IntsAre _ _ => hSA); refine len_intsA (News.isList (by assumption) (by k_mem)) hSA (by omega) ?_)))
  k_with "M enterC" => ((
    refine wpC_call ?_
    k_dflt (refine' code_def_C ?k1 ?k2 ?k3 ?k4 ?k5 ?kA ?kF ?kK ?k6 ?k7 ?k8 ?k9 ?kB ?_ ?c2 ?c3 ?c4 ?c5; (case kA => exact rfl); (case kF => exact rfl); (case kK => assumption); (case k1 => k_asm); (case k2 => k_asm); (case k3 => k_asm); (case k4 => k_asm); (case k5 => k_asm); (case k6 => k_is); (case k7 => k_is); (case k8 => ((try dsimp only); omega)); (case k9 => first | exact BindsTo.of_eq rfl | (refine' kp_binds ?kx ?ke; (case kx => first | (refine' myIn ?kf ?ki; (case kf => with_reducible assumption); (case ki => with_reducible assumption)) | k_in); (case ke => exact fun _ => rfl)) | exact binds_K (by first | (refine' myIn ?kf ?ki; (case kf => with_reducible assumption); (case ki => with_reducible assumption)) | k_in) rfl (by k_is) rfl rfl rfl); (case c5 => decide); (case kB => exact locs rfl); (case c2 => exact rfl); (case c3 => exact rfl); (case c4 => exact rfl); k_whole; intro g' L' h' FG' F' N' B' X' T'; (have D' := kts_dict B' (by assumption) FG' rfl); (try dsimp only); (try k_lift B'))))
  k_with "M enter0C" => ((
    refine wpC_call ?_
    k_dflt (refine' code_defS0_C ?k1 ?k2 ?k3 ?k4 ?k5 ?kA ?kF ?kK ?k6 ?k7 ?k8 ?k9 ?kB ?_ ?c2 ?c3 ?c4 ?c5; (case kA => exact rfl); (case kF => exact rfl); (case kK => assumption); (case k1 => k_asm); (case k2 => k_asm); (case k3 => k_asm); (case k4 => k_asm); (case k5 => k_asm); (case k6 => k_is); (case k7 => k_is); (case k8 => ((try dsimp only); omega)); (case k9 => first | exact BindsTo.of_eq rfl | (refine' kp_binds ?kx ?ke; (case kx => first | (refine' myIn ?kf ?ki; (case kf => with_reducible assumption); (case ki => with_reducible assumption)) | k_in); (case ke => exact fun _ => rfl)) | exact binds_K (by first | (refine' myIn ?kf ?ki; (case kf => with_reducible assumption); (case ki => with_reducible assumption)) | k_in) rfl (by k_is) rfl rfl rfl); (case c5 => decide); (case kB => exact locs rfl); (case c2 => exact rfl); (case c3 => exact rfl); (case c4 => exact rfl); k_whole; intro g' L' h' FG' F' N' B' X' T' D'; (try dsimp only); (try k_lift B'))))
  trivial
section
variable {w : World} {p : Program} {loose : List PStr} {mean : ExcName → Option Value} {mg mb : PStr → Option Value}
    {dp un : Nat} {gd : Option (List Code)} {cn : PStr} {cs : Scope} {a : Addr} {ccd : Value} {cl : List (PStr × Addr)} {outer : List Env} {A₀ : Around} {base h₀ : Heap} {L : Addr} {m : PStr → Option Value}
    {s : Shared} {Q E : Value → Shared → Prop} {news : Ldg}
    (B : Below A₀ base outer h₀) (X : (KK.heap_1 w.params).In h₀) (T : Top p loose mean mg mb h₀) (XB : (KK.heap_1 w.params).In base) (TB : Top p loose mean mg mb base) (D : KtsDicts (outer.filterMap (·.frame)) h₀) (hck : cs.kind = .function)
include B X T XB TB D hck
theorem parse229_val {r hs msg : PStr} {t1 t2 t3 : Tok} {i : Int} {pa : Addr} (hd5 : dp + 5 < recursionLimit) (hu5 : un + 50 < cLine) (F : Fr h₀ L s.heap m) (N : News h₀ L s.heap news)
   (h640' : r.length ≤ 640) (hpa : (pa, tupOf [.str hs t2, .int i t3]) ∈ news) (hval : p229 r = .error (.value, msg)) (hrep : RepOk r)
   (hexc : ∀ g₂ e t t1 h' tk, Fr h₀ L g₂ m → RaisedS base g₂ (envX cn cs L a ccd cl :: outer) e (clsOf .value) t [.str msg t1] news h' → RaisedK base (envX cn cs L a ccd cl :: outer) e (clsOf .value) t [.str msg t1] news h' → g₂.UpToSlots h' → E (.ref e) { s with heap := h', toks := tk }) :
   wpC (model PySem.Challenge.rw_pm0034_02.row.prog w) (ktrTop dp un gd cn cs L a ccd cl outer) (call (.ref 58) [.str r t1, .ref pa]) Q E s := by
  walk_at "M fill"
  have hr : r.length ≤ 200000 := Nat.le_trans h640' (by decide)
  have h640 := Nat.le_trans (p229in_len r) h640'
  have f1 := fact_open r
  have f2 := fact_close r (Txt.find r (Str.ofString "(") + 1) (by omega)
  walk_at "M enterC"
  refine execs_pre (pre := [_, _, _, _, _, _, _, _, _]) (rest := [_, _]) ?_
  k_fold
  k_steps
  · (show E _ _); exact (val_not hval (p229_code (by assumption)) (by decide)).elim
  · (show E _ _); exact (val_not hval (p229_open (by assumption) (by assumption)) (by decide)).elim
  · (show E _ _); exact (val_not hval (p229_close (by assumption) (by assumption) (by assumption)) (by decide)).elim
  · (show E _ _); exact (val_not hval (p229_sep (by assumption) (by assumption) (by assumption) (by assumption)) (by decide)).elim
  · (show E _ _); exact (val_not hval (p229_five (by assumption) (by assumption) (by assumption) (by assumption) (by assumption) (by assumption)) (by decide)).elim
  have hlast := p229_last (by assumption : (Txt.slice r none (some 3) != Str.ofString "229") = false) (by assumption) (by assumption) (by assumption) (by assumption) (by assumption)
  obtain ⟨hno, rfl⟩ := p229_val hval hlast
  have hrp := hrep.part (by assumption)
  refine execs_C ?_
  refine assign_raises_C ?_
  refine call_name_C ?_
  k_fold
  k_steps
  refine callWith_type1_C ?_
  k_fold
  k_steps
  refine call_int_refused (Nat.le_trans (getD_len (by assumption)) h640) hrp hno rfl fun hh tkh tkh' eh hm => ?_
  k_steps
  (show E _ _)
  exact hexc _ _ _ _ _ _ (by assumption) (raisedS_sub (by assumption) sub_tail) (raisedK_sub (by assumption) sub_tail) (by assumption)
end
section
variable {w : World} {p : Program} {loose : List PStr} {mean : ExcName → Option Value} {mg mb : PStr → Option Value}
    {dp un : Nat} {gd : Option (List Code)} {cn : PStr} {cs : Scope} {a : Addr} {ccd : Value} {cl : List (PStr × Addr)} {outer : List Env} {A₀ : Around} {base h₀ : Heap} {L : Addr} {m : PStr → Option Value}
    {s : Shared} {Q E : Value → Shared → Prop} {news : Ldg}
    (B : Below A₀ base outer h₀) (X : (KK.heap_1 w.params).In h₀) (T : Top p loose mean mg mb h₀) (XB : (KK.heap_1 w.params).In base) (TB : Top p loose mean mg mb base) (D : KtsDicts (outer.filterMap (·.frame)) h₀) (hck : cs.kind = .function)
include B X T XB TB D hck
theorem port_val {r msg : PStr} {t1 : Tok} (hd5 : dp + 10 < recursionLimit) (hu5 : un + 60 < cLine) (F : Fr h₀ L s.heap m) (N : News h₀ L s.heap news)
   (h640 : r.length ≤ 640) (hval : p229 r = .error (.value, msg)) (hrep : RepOk r)
   (hexc : ∀ g₂ e t t1 h' tk, Fr h₀ L g₂ m → RaisedS base g₂ (envX cn cs L a ccd cl :: outer) e (clsOf .value) t [.str msg t1] news h' → RaisedK base (envX cn cs L a ccd cl :: outer) e (clsOf .value) t [.str msg t1] news h' → g₂.UpToSlots h' → E (.ref e) { s with heap := h', toks := tk }) :
   wpC (model PySem.Challenge.rw_pm0034_02.row.prog w) (ktrTop dp un gd cn cs L a ccd cl outer) (call (.ref 108) [.str r t1]) Q E s := by
  walk_at "M fill"
  walk_at "M enterC"
  refine execs_C ?_
  refine return_C ?_
  refine subscript_raises_C ?_
  refine call_name_C ?_
  k_fold
  k_steps
  refine callWith_K_C (by k_asm) (by k_is) ?_
  k_fold
  k_steps
  refine' parse229_val ?kB ?kX ?kT ?kXB ?kTB ?kD ?kh ?kd ?ku ?kF ?kN ?k6 ?kp ?kv ?krp ?_
  case kB => assumption
  case kX => assumption
  case kT => assumption
  case kXB => assumption
  case kTB => assumption
  case kD => assumption
  case kh => rfl
  case kd => ((try dsimp only); omega)
  case ku => ((try dsimp only); omega)
  case kF => with_reducible assumption
  case kN => with_reducible assumption
  case k6 => assumption
  case kp => exact .head _
  case kv => exact hval
  case krp => exact hrep
  intro g₂ e t t1 h' tk FF SS RR UU
  k_steps
  (show E _ _)
  exact hexc _ _ _ _ _ _ (by assumption) (raisedS_sub (by assumption) sub_tail) (raisedK_sub (by assumption) sub_tail) (by assumption)
end
end
section
theorem lines_L2_0 : True := by
  k_with_none
  k_with "execs cons" => ((refine f_execs ?_; intro qk))
  k_with "eval BinOp" => ((refine f_BinOp ?_; intro qk))
  k_with "exec Assign" => ((refine f_Assign ?_; intro qk))
  k_with "eval Subscript" => ((refine f_Subscript ?_; intro qk))
  k_with "isTrue Compare" => ((refine f_Compare ?_; intro qk))
  k_with "exec If" => ((refine f_If ?_; intro qk))
  k_with "eval Call" => (((fail_if_success (with_reducible show wpAny _ _ (eval (Expr.Call (Expr.Attribute _ _ _) _ _ _) _) _ _ _)); refine f_Call ?_; intro qk))
  k_with "spliced" => ((refine f_args ?_; intro qk))
  k_with "callWith" => ((refine f_method1 ?_; intro qk))
  k_with "exec Return some" => ((refine f_Return ?_; intro qk))
  k_with "eval Tuple" => ((refine f_Tuple ?_; intro qk))
  k_with "eval List" => ((refine f_List ?_; intro qk))
  k_with "eval IfExp" => ((refine f_IfExp ?_; intro qk))
  k_with "storeName" => ((k_here; k_dflt (refine' f_store ?F ?N ?_ ?a ?b; (case F => k_asm); (case N => k_asm); (case a => rfl); (case b => rfl); k_whole; intro m' h' F' N'; (try k_sweep))))
  k_with "M map1" => (first
    | (refine map_same ?_; with_unfolding_all rfl)
    | ((repeat' (refine List.forall_mem_cons.mpr (And.intro ?_ ?_))); (all_goals first | rfl | exact List.forall_mem_nil _)))
  k_with "M map2" => (first
    | (refine SameOut.both (b := fun _ => none) ?_ ?_ <;> (repeat (refine SameOut.upd ?_ (by with_unfolding_all rfl))) <;> exact SameOut.lookup rfl)
    | (refine' SameOut.both (b := ?kb) ?k1 ?k2; (case k1 => ((repeat (refine SameOut.upd ?_ (by with_unfolding_all rfl))); exact SameOut.refl)); (case k2 => ((repeat (refine SameOut.upd ?_ (by with_unfolding_all rfl))); exact SameOut.refl)))
    | (refine' SameOut.both (b := ?kb) ?k1 ?k2; (case k2 => ((repeat (refine SameOut.upd ?_ (by with_unfolding_all rfl))); exact SameOut.refl)); (case k1 => ((repeat (refine SameOut.skip ?_)); (repeat (refine SameOut.upd ?_ (by with_unfolding_all rfl))); exact SameOut.refl)))
    | (intro y hy; (repeat (refine (if_neg (ne_of_out hy (by with_unfolding_all rfl))).trans ?_)); (refine Eq.symm ?_); (repeat (refine (if_neg (ne_of_out hy (by with_unfolding_all rfl))).trans ?_)); first | rfl | exact lookup_out rfl hy | exact (lookup_out rfl hy).symm | exact (lookup_out rfl hy).trans (lookup_out rfl hy).symm))
  k_with "M fill" => ((
    have kk : PySem.Challenge.rw_pm0034_02 = PySem.Challenge.rw_pm0034_02 ∧ KK.heap_1 = KK.heap_1 := ⟨rfl, rfl⟩
    revert kk
    k_fill
    intro kk
    clear kk))
  k_with "M enter" => ((
    refine wpAny_call ?_
    k_dflt (refine' code_def ?k1 ?k2 ?k3 ?k4 ?k5 ?kA ?kF ?kK ?k6 ?k7 ?k8 ?k9 ?kB ?_ ?c2 ?c3 ?c4 ?c5; (case kA => exact rfl); (case kF => exact rfl); (case kK => assumption); (case k1 => k_asm); (case k2 => k_asm); (case k3 => k_asm); (case k4 => k_asm); (case k5 => k_asm); (case k6 => k_is); (case k7 => k_is); (case k8 => ((try dsimp only); omega)); (case k9 => first | exact BindsTo.of_eq rfl | (refine' kp_binds ?kx ?ke; (case kx => first | (refine' myIn ?kf ?ki; (case kf => with_reducible assumption); (case ki => with_reducible assumption)) | k_in); (case ke => exact fun _ => rfl)) | exact binds_K (by first | (refine' myIn ?kf ?ki; (case kf => with_reducible assumption); (case ki => with_reducible assumption)) | k_in) rfl (by k_is) rfl rfl rfl); (case c5 => decide); (case kB => exact locs rfl); (case c2 => exact rfl); (case c3 => exact rfl); (case c4 => exact rfl); k_whole; intro g' L' h' FG' F' N' B' X' T'; (have D' := kts_dict B' (by assumption) FG' rfl); (try dsimp only); (try k_lift B'); (refine let_AE (f := execs _) ?_; intro vk ak); (refine f_QE ?_; intro qk ek))))
  k_with "M enter0" => ((
    refine wpAny_call ?_
    k_dflt (refine' code_defS0X ?k1 ?k2 ?k3 ?k4 ?k5 ?kA ?kF ?kK ?k6 ?k7 ?k8 ?k9 ?kB ?_ ?c2 ?c3 ?c4 ?c5; (case kA => exact rfl); (case kF => exact rfl); (case kK => assumption); (case k1 => k_asm); (case k2 => k_asm); (case k3 => k_asm); (case k4 => k_asm); (case k5 => k_asm); (case k6 => k_is); (case k7 => k_is); (case k8 => ((try dsimp only); omega)); (case k9 => first | exact BindsTo.of_eq rfl | (refine' kp_binds ?kx ?ke; (case kx => first | (refine' myIn ?kf ?ki; (case kf => with_reducible assumption); (case ki => with_reducible assumption)) | k_in); (case ke => exact fun _ => rfl)) | exact binds_K (by first | (refine' myIn ?kf ?ki; (case kf => with_reducible assumption); (case ki => with_reducible assumption)) | k_in) rfl (by k_is) rfl rfl rfl); (case c5 => decide); (case kB => exact locs rfl); (case c2 => exact rfl); (case c3 => exact rfl); (case c4 => exact rfl); k_whole; intro g' L' h' FG' F' N' B' X' T' D'; (try dsimp only); (try k_lift B'); (refine let_AE (f := execs _) ?_; intro vk ak); (refine f_QE ?_; intro qk ek))))
  trivial
local macro_rules | `(tactic| k_mem) => `(tactic| first | with_reducible assumption | (refine mem_in ?_; with_reducible assumption))
theorem lines_L2_1 : True := by
  k_with "subscriptTail Name Constant ref int" => ((k_here; refine item_tupleT (News.isTup (by assumption) (by k_mem)) (by decide) (by decide) (by rfl) (by rfl) ?_))
  k_with "subscriptTail Name Constant ref int" => ((k_here; (with_reducible rename StrsAre _ _ => hSA); refine item_strsA (News.isList (by assumption) (by k_mem)) hSA (by decide) (by first | omega | (simp only [List.length_map]; omega)) (by decide) ?_; intro t'))
  k_with "call type:ValueError" => ((refine call_ValueError_made ?_; intro _ _ _))
  k_with "exec While Compare Name cons nil" => (refine Hold.mk ?_)
  k_with "exec While Compare" => (refine Hold.mk ?_)
  k_with "exec While Compare cons nil" => (refine Hold.mk ?_)
  k_with "exec While" => (refine Hold.mk ?_)
  k_with "binaryOp FloorDiv int int" => ((k_here; (with_reducible refine floordiv_pos ?kb1 ?kb2 ?_); (case kb1 => decide); (case kb2 => decide +kernel)))
  k_with "WhlIf" => ((refine whlIf_dec ?_ ?_ <;> intro _))
  k_with "subscriptTail Name Name ref int" => ((k_here; first
    | ((with_reducible rename StrsAre _ _ => hSA); refine item_strsA (News.isList (by assumption) (by k_mem)) hSA (by omega) (by omega) (by omega) ?_; intro t')
    | ((with_reducible rename IntsAre _ _ => hSA); refine item_intsA (News.isList (by assumption) (by k_mem)) hSA (by omega) (by omega) (by omega) ?_; intro t')))
  k_with "call builtin:len" => ((k_here; (with_reducible show wpAny _ _ (call (Value.builtin "len") [Value.ref _]) _ _ _); first
    | ((with_reducible rename StrsAre _ _ => hSA); refine len_strsA (News.isList (by assumption) (by k_mem)) hSA (by omega) ?_)
    | ((with_reducible rename IntsAre _ _ => hSA); refine len_intsA (News.isList (by assumption) (by k_mem)) hSA (by omega) ?_)))
  k_with "M enterC" => ((
    refine wpC_call ?_
    k_dflt (refine' code_def_C ?k1 ?k2 ?k3 ?k4 ?k5 ?kA ?kF ?kK ?k6 ?k7 ?k8 ?k9 ?kB ?_ ?c2 ?c3 ?c4 ?c5; (case kA => exact rfl); (case kF => exact rfl); (case kK => assumption); (case k1 => k_asm); (case k2 => k_asm); (case k3 => k_asm); (case k4 => k_asm); (case k5 => k_asm); (case k6 => k_is); (case k7 => k_is); (case k8 => ((try dsimp only); omega)); (case k9 => first | exact BindsTo.of_eq rfl | (refine' kp_binds ?kx ?ke; (case kx => first | (refine' myIn ?kf ?ki; (case kf => with_reducible assumption); (case ki => with_reducible assumption)) | k_in); (case ke => exact fun _ => rfl)) | exact binds_K (by first | (refine' myIn ?kf ?ki; (case kf => with_reducible assumption); (case ki => with_reducible assumption)) | k_in) rfl (by k_is) rfl rfl rfl); (case c5 => decide); (case kB => exact locs rfl); (case c2 => exact rfl); (case c3 => exact rfl); (case c4 => exact rfl); k_whole; intro g' L' h' FG' F' N' B' X' T'; (have D' := kts_dict B' (by assumption) FG' rfl); (try dsimp only); (try k_lift B'))))
  k_with "M enter0C" => ((
    refine wpC_call ?_
    k_dflt (refine' code_defS0_C ?k1 ?k2 ?k3 ?k4 ?k5 ?kA ?kF ?kK ?k6 ?k7 ?k8 ?k9 ?kB ?_ ?c2 ?c3 ?c4 ?c5; (case kA => exact rfl); (case kF => exact rfl); (case kK => assumption); (case k1 => k_asm); (case k2 => k_asm); (case k3 => k_asm); (case k4 => k_asm); (case k5 => k_asm); (case k6 => k_is); (case k7 => k_is); (case k8 => ((try dsimp only); omega)); (case k9 => first | exact BindsTo.of_eq rfl | (refine' kp_binds ?kx ?ke; (case kx => first | (refine' myIn ?kf ?ki; (case kf => with_reducible assumption); (case ki => with_reducible assumption)) | k_in); (case ke => exact fun _ => rfl)) | exact binds_K (by first | (refine' myIn ?kf ?ki; (case kf => with_reducible assumption); (case ki => with_reducible assumption)) | k_in) rfl (by k_is) rfl rfl rfl); (case c5 => decide); (case kB => exact locs rfl); (case c2 => exact rfl); (case c3 => exact rfl); (case c4 => exact rfl); k_whole; intro g' L' h' FG' F' N' B' X' T' D'; (try dsimp only); (try k_lift B'))))
  k_with "call ref" => (((with_reducible show wpAny _ _ (call (Value.ref 108) _) _ _ _); refine' port_spec ?kB ?kX ?kT ?kXB ?kTB ?kD ?kh ?kd ?ku ?kF ?kN ?k6 ?kv ?_ ?_; (case kB => assumption); (case kX => assumption); (case kT => assumption); (case kXB => assumption); (case kTB => assumption); (case kD => assumption); (case kh => rfl); (case kd => ((try dsimp only); omega)); (case ku => ((try dsimp only); omega)); (case kF => with_reducible assumption); (case kN => with_reducible assumption); (case k6 => first | exact getD_640 (by assumption) _ | assumption); (case kv => first | assumption | (have q := bis_nv (by assumption) (by assumption) (by assumption); exact q) | (have q := bis_nv ((by assumption : 0 ≤ _ → ∀ msg, _ ≠ _) (by omega)) (by assumption) (by assumption); exact q))))
  k_with "M portC" => ((refine' port_val ?kB ?kX ?kT ?kXB ?kTB ?kD ?kh ?kd ?ku ?kF ?kN ?k6 ?kv ?krp ?_; (case kB => assumption); (case kX => assumption); (case kT => assumption); (case kXB => assumption); (case kTB => assumption); (case kD => assumption); (case kh => rfl); (case kd => ((try dsimp only); omega)); (case ku => ((try dsimp only); omega)); (case kF => with_reducible assumption); (case kN => with_reducible assumption); (case k6 => first | with_reducible assumption | exact getD_640 (by with_reducible assumption) _); (case kv => with_reducible assumption); (case krp => with_reducible assumption); intro g₂ e t t1 h' tk FF SS RR UU; k_steps))
  trivial
section
variable {w : World} {p : Program} {loose : List PStr} {mean : ExcName → Option Value} {mg mb : PStr → Option Value}
    {dp un : Nat} {gd : Option (List Code)} {cn : PStr} {cs : Scope} {a : Addr} {ccd : Value} {cl : List (PStr × Addr)} {outer : List Env} {A₀ : Around} {base h₀ : Heap} {L : Addr} {m : PStr → Option Value}
    {s : Shared} {Q E : Value → Shared → Prop} {news : Ldg}
    (B : Below A₀ base outer h₀) (X : (KK.heap_1 w.params).In h₀) (T : Top p loose mean mg mb h₀) (XB : (KK.heap_1 w.params).In base) (TB : Top p loose mean mg mb base) (D : KtsDicts (outer.filterMap (·.frame)) h₀) (hck : cs.kind = .function)
include B X T XB TB D hck
theorem insL2_valx {ra : Addr} {xr : PStr} {xt : Tok} {msg : PStr} (hd5 : dp + 30 < recursionLimit) (hu5 : un + 200 < cLine) (F : Fr h₀ L s.heap m) (N : News h₀ L s.heap news)
   (hx640 : xr.length ≤ 640) (hxrp : RepOk xr) (hkx : p229 xr = .error (.value, msg))
   (hexc : ∀ g₂ e t t1 h' tk, Fr h₀ L g₂ m → RaisedS base g₂ (envX cn cs L a ccd cl :: outer) e (clsOf .value) t [.str msg t1] news h' → RaisedK base (envX cn cs L a ccd cl :: outer) e (clsOf .value) t [.str msg t1] news h' → g₂.UpToSlots h' → E (.ref e) { s with heap := h', toks := tk }) :
   wpC (model PySem.Challenge.rw_pm0034_02.row.prog w) (ktrTop dp un gd cn cs L a ccd cl outer) (call (.ref 92) [.ref ra, .str xr xt] [(Str.ofString "key", .ref 108)]) Q E s := by
  walk_at "M fill"
  walk_at "M enterC"
  refine execs_C ?_
  refine if_C ?_
  refine wpC_any ?_
  k_fold
  k_steps
  refine execs_C ?_
  refine assign_raises_C ?_
  refine call_name_KW_C ?_
  k_fold
  k_steps
  refine callWith_args_C ?_
  k_fold
  k_steps
  refine call_name_C ?_
  k_fold
  k_steps
  refine callWith_K_C (by k_asm) (by k_is) ?_
  k_fold
  k_steps
  walk_at "M portC"
  (show E _ _)
  exact hexc _ _ _ _ _ _ (by assumption) (by assumption) (by assumption) (by assumption)
end
section
variable {w : World} {p : Program} {loose : List PStr} {mean : ExcName → Option Value} {mg mb : PStr → Option Value}
    {dp un : Nat} {gd : Option (List Code)} {cn : PStr} {cs : Scope} {a : Addr} {ccd : Value} {cl : List (PStr × Addr)} {outer : List Env} {A₀ : Around} {base h₀ : Heap} {L : Addr} {m : PStr → Option Value}
    {s : Shared} {Q E : Value → Shared → Prop} {news : Ldg}
    (B : Below A₀ base outer h₀) (X : (KK.heap_1 w.params).In h₀) (T : Top p loose mean mg mb h₀) (XB : (KK.heap_1 w.params).In base) (TB : Top p loose mean mg mb base) (D : KtsDicts (outer.filterMap (·.frame)) h₀) (hck : cs.kind = .function)
include B X T XB TB D hck
theorem insR2_valx {ra : Addr} {xr : PStr} {xt : Tok} {msg : PStr} (hd5 : dp + 30 < recursionLimit) (hu5 : un + 200 < cLine) (F : Fr h₀ L s.heap m) (N : News h₀ L s.heap news)
   (hx640 : xr.length ≤ 640) (hxrp : RepOk xr) (hkx : p229 xr = .error (.value, msg))
   (hexc : ∀ g₂ e t t1 h' tk, Fr h₀ L g₂ m → RaisedS base g₂ (envX cn cs L a ccd cl :: outer) e (clsOf .value) t [.str msg t1] news h' → RaisedK base (envX cn cs L a ccd cl :: outer) e (clsOf .value) t [.str msg t1] news h' → g₂.UpToSlots h' → E (.ref e) { s with heap := h', toks := tk }) :
   wpC (model PySem.Challenge.rw_pm0034_02.row.prog w) (ktrTop dp un gd cn cs L a ccd cl outer) (call (.ref 74) [.ref ra, .str xr xt] [(Str.ofString "key", .ref 108)]) Q E s := by
  walk_at "M fill"
  walk_at "M enterC"
  refine execs_C ?_
  refine if_C ?_
  refine wpC_any ?_
  k_fold
  k_steps
  refine execs_C ?_
  refine assign_raises_C ?_
  refine call_name_KW_C ?_
  k_fold
  k_steps
  refine callWith_args_C ?_
  k_fold
  k_steps
  refine call_name_C ?_
  k_fold
  k_steps
  refine callWith_K_C (by k_asm) (by k_is) ?_
  k_fold
  k_steps
  walk_at "M portC"
  (show E _ _)
  exact hexc _ _ _ _ _ _ (by assumption) (by assumption) (by assumption) (by assumption)
end
end
section
theorem lines_M2_0 : True := by
  k_with_none
  k_with "execs cons" => ((refine f_execs ?_; intro qk))
  k_with "eval BinOp" => ((refine f_BinOp ?_; intro qk))
  k_with "exec Assign" => ((refine f_Assign ?_; intro qk))
  k_with "eval Subscript" => ((refine f_Subscript ?_; intro qk))
  k_with "isTrue Compare" => ((refine f_Compare ?_; intro qk))
  k_with "exec If" => ((refine f_If ?_; intro qk))
  k_with "eval Call" => (((fail_if_success (with_reducible show wpAny _ _ (eval (Expr.Call (Expr.Attribute _ _ _) _ _ _) _) _ _ _)); refine f_Call ?_; intro qk))
  k_with "spliced" => ((refine f_args ?_; intro qk))
  k_with "callWith" => ((refine f_method1 ?_; intro qk))
  k_with "exec Return some" => ((refine f_Return ?_; intro qk))
  k_with "eval Tuple" => ((refine f_Tuple ?_; intro qk))
  k_with "eval List" => ((refine f_List ?_; intro qk))
  k_with "eval IfExp" => ((refine f_IfExp ?_; intro qk))
  k_with "storeName" => ((k_here; k_dflt (refine' f_store ?F ?N ?_ ?a ?b; (case F => k_asm); (case N => k_asm); (case a => rfl); (case b => rfl); k_whole; intro m' h' F' N'; (try k_sweep))))
  k_with "M map1" => (first
    | (refine map_same ?_; with_unfolding_all rfl)
    | ((repeat' (refine List.forall_mem_cons.mpr (And.intro ?_ ?_))); (all_goals first | rfl | exact List.forall_mem_nil _)))
  k_with "M map2" => (first
    | (refine SameOut.both (b := fun _ => none) ?_ ?_ <;> (repeat (refine SameOut.upd ?_ (by with_unfolding_all rfl))) <;> exact SameOut.lookup rfl)
    | (refine' SameOut.both (b := ?kb) ?k1 ?k2; (case k1 => ((repeat (refine SameOut.upd ?_ (by with_unfolding_all rfl))); exact SameOut.refl)); (case k2 => ((repeat (refine SameOut.upd ?_ (by with_unfolding_all rfl))); exact SameOut.refl)))
    | (refine' SameOut.both (b := ?kb) ?k1 ?k2; (case k2 => ((repeat (refine SameOut.upd ?_ (by with_unfolding_all rfl))); exact SameOut.refl)); (case k1 => ((repeat (refine SameOut.skip ?_)); (repeat (refine SameOut.upd ?_ (by with_unfolding_all rfl))); exact SameOut.refl)))
    | (intro y hy; (repeat (refine (if_neg (ne_of_out hy (by with_unfolding_all rfl))).trans ?_)); (refine Eq.symm ?_); (repeat (refine (if_neg (ne_of_out hy (by with_unfolding_all rfl))).trans ?_)); first | rfl | exact lookup_out rfl hy | exact (lookup_out rfl hy).symm | exact (lookup_out rfl hy).trans (lookup_out rfl hy).symm))
  k_with "M fill" => ((
    have kk : PySem.Challenge.rw_pm0034_02 = PySem.Challenge.rw_pm0034_02 ∧ KK.heap_1 = KK.heap_1 := ⟨rfl, rfl⟩
    revert kk
    k_fill
    intro kk
    clear kk))
  k_with "M enter" => ((
    refine wpAny_call ?_
    k_dflt (refine' code_def ?k1 ?k2 ?k3 ?k4 ?k5 ?kA ?kF ?kK ?k6 ?k7 ?k8 ?k9 ?kB ?_ ?c2 ?c3 ?c4 ?c5; (case kA => exact rfl); (case kF => exact rfl); (case kK => assumption); (case k1 => k_asm); (case k2 => k_asm); (case k3 => k_asm); (case k4 => k_asm); (case k5 => k_asm); (case k6 => k_is); (case k7 => k_is); (case k8 => ((try dsimp only); omega)); (case k9 => first | exact BindsTo.of_eq rfl | (refine' kp_binds ?kx ?ke; (case kx => first | (refine' myIn ?kf ?ki; (case kf => with_reducible assumption); (case ki => with_reducible assumption)) | k_in); (case ke => exact fun _ => rfl)) | exact binds_K (by first | (refine' myIn ?kf ?ki; (case kf => with_reducible assumption); (case ki => with_reducible assumption)) | k_in) rfl (by k_is) rfl rfl rfl); (case c5 => decide); (case kB => exact locs rfl); (case c2 => exact rfl); (case c3 => exact rfl); (case c4 => exact rfl); k_whole; intro g' L' h' FG' F' N' B' X' T'; (have D' := kts_dict B' (by assumption) FG' rfl); (try dsimp only); (try k_lift B'); (refine let_AE (f := execs _) ?_; intro vk ak); (refine f_QE ?_; intro qk ek))))
  k_with "M enter0" => ((
    refine wpAny_call ?_
    k_dflt (refine' code_defS0X ?k1 ?k2 ?k3 ?k4 ?k5 ?kA ?kF ?kK ?k6 ?k7 ?k8 ?k9 ?kB ?_ ?c2 ?c3 ?c4 ?c5; (case kA => exact rfl); (case kF => exact rfl); (case kK => assumption); (case k1 => k_asm); (case k2 => k_asm); (case k3 => k_asm); (case k4 => k_asm); (case k5 => k_asm); (case k6 => k_is); (case k7 => k_is); (case k8 => ((try dsimp only); omega)); (case k9 => first | exact BindsTo.of_eq rfl | (refine' kp_binds ?kx ?ke; (case kx => first | (refine' myIn ?kf ?ki; (case kf => with_reducible assumption); (case ki => with_reducible assumption)) | k_in); (case ke => exact fun _ => rfl)) | exact binds_K (by first | (refine' myIn ?kf ?ki; (case kf => with_reducible assumption); (case ki => with_reducible assumption)) | k_in) rfl (by k_is) rfl rfl rfl); (case c5 => decide); (case kB => exact locs rfl); (case c2 => exact rfl); (case c3 => exact rfl); (case c4 => exact rfl); k_whole; intro g' L' h' FG' F' N' B' X' T' D'; (try dsimp only); (try k_lift B'); (refine let_AE (f := execs _) ?_; intro vk ak); (refine f_QE ?_; intro qk ek))))
  trivial
local macro_rules | `(tactic| k_mem) => `(tactic| first | with_reducible assumption | (refine mem_in ?_; with_reducible assumption))
theorem lines_M2_1 : True := by
  k_with "subscriptTail Name Constant ref int" => ((k_here; refine item_tupleT (News.isTup (by assumption) (by k_mem)) (by decide) (by decide) (by rfl) (by rfl) ?_))
  k_with "subscriptTail Name Constant ref int" => ((k_here; (with_reducible rename StrsAre _ _ => hSA); refine item_strsA (News.isList (by assumption) (by k_mem)) hSA (by decide) (by first | omega | (simp only [List.length_map]; omega)) (by decide) ?_; intro t'))
  k_with "call type:ValueError" => ((refine call_ValueError_made ?_; intro _ _ _))
  k_with "exec While Compare Name cons nil" => (refine Hold.mk ?_)
  k_with "exec While Compare" => (refine Hold.mk ?_)
  k_with "exec While Compare cons nil" => (refine Hold.mk ?_)
  k_with "exec While" => (refine Hold.mk ?_)
  k_with "binaryOp FloorDiv int int" => ((k_here; (with_reducible refine floordiv_pos ?kb1 ?kb2 ?_); (case kb1 => decide); (case kb2 => decide +kernel)))
  k_with "WhlIf" => ((refine whlIf_dec ?_ ?_ <;> intro _))
  k_with "subscriptTail Name Name ref int" => ((k_here; first
    | ((with_reducible rename StrsAre _ _ => hSA); refine item_strsA (News.isList (by assumption) (by k_mem)) hSA (by omega) (by omega) (by omega) ?_; intro t')
    | ((with_reducible rename IntsAre _ _ => hSA); refine item_intsA (News.isList (by assumption) (by k_mem)) hSA (by omega) (by omega) (by omega) ?_; intro t')))
  k_with "call builtin:len" => ((k_here; (with_reducible show wpAny _ _ (call (Value.builtin "len") [Value.ref _]) _ _ _); first
    | ((with_reducible rename StrsAre _ _ => hSA); refine len_strsA (News.isList (by assumption) (by k_mem)) hSA (by omega) ?_)
    | ((with_reducible rename IntsAre _ _ => hSA); refine len_intsA (News.isList (by assumption) (by k_mem)) hSA (by omega) ?_)))
  k_with "M enterC" => ((
    refine wpC_call ?_
    k_dflt (refine' code_def_C ?k1 ?k2 ?k3 ?k4 ?k5 ?kA ?kF ?kK ?k6 ?k7 ?k8 ?k9 ?kB ?_ ?c2 ?c3 ?c4 ?c5; (case kA => exact rfl); (case kF => exact rfl); (case kK => assumption); (case k1 => k_asm); (case k2 => k_asm); (case k3 => k_asm); (case k4 => k_asm); (case k5 => k_asm); (case k6 => k_is); (case k7 => k_is); (case k8 => ((try dsimp only); omega)); (case k9 => first | exact BindsTo.of_eq rfl | (refine' kp_binds ?kx ?ke; (case kx => first | (refine' myIn ?kf ?ki; (case kf => with_reducible assumption); (case ki => with_reducible assumption)) | k_in); (case ke => exact fun _ => rfl)) | exact binds_K (by first | (refine' myIn ?kf ?ki; (case kf => with_reducible assumption); (case ki => with_reducible assumption)) | k_in) rfl (by k_is) rfl rfl rfl); (case c5 => decide); (case kB => exact locs rfl); (case c2 => exact rfl); (case c3 => exact rfl); (case c4 => exact rfl); k_whole; intro g' L' h' FG' F' N' B' X' T'; (have D' := kts_dict B' (by assumption) FG' rfl); (try dsimp only); (try k_lift B'))))
  k_with "M enter0C" => ((
    refine wpC_call ?_
    k_dflt (refine' code_defS0_C ?k1 ?k2 ?k3 ?k4 ?k5 ?kA ?kF ?kK ?k6 ?k7 ?k8 ?k9 ?kB ?_ ?c2 ?c3 ?c4 ?c5; (case kA => exact rfl); (case kF => exact rfl); (case kK => assumption); (case k1 => k_asm); (case k2 => k_asm); (case k3 => k_asm); (case k4 => k_asm); (case k5 => k_asm); (case k6 => k_is); (case k7 => k_is); (case k8 => ((try dsimp only); omega)); (case k9 => first | exact BindsTo.of_eq rfl | (refine' kp_binds ?kx ?ke; (case kx => first | (refine' myIn ?kf ?ki; (case kf => with_reducible assumption); (case ki => with_reducible assumption)) | k_in); (case ke => exact fun _ => rfl)) | exact binds_K (by first | (refine' myIn ?kf ?ki; (case kf => with_reducible assumption); (case ki => with_reducible assumption)) | k_in) rfl (by k_is) rfl rfl rfl); (case c5 => decide); (case kB => exact locs rfl); (case c2 => exact rfl); (case c3 => exact rfl); (case c4 => exact rfl); k_whole; intro g' L' h' FG' F' N' B' X' T' D'; (try dsimp only); (try k_lift B'))))
  k_with "call ref" => (((with_reducible show wpAny _ _ (call (Value.ref 108) _) _ _ _); refine' port_spec ?kB ?kX ?kT ?kXB ?kTB ?kD ?kh ?kd ?ku ?kF ?kN ?k6 ?kv ?_ ?_; (case kB => assumption); (case kX => assumption); (case kT => assumption); (case kXB => assumption); (case kTB => assumption); (case kD => assumption); (case kh => rfl); (case kd => ((try dsimp only); omega)); (case ku => ((try dsimp only); omega)); (case kF => with_reducible assumption); (case kN => with_reducible assumption); (case k6 => first | exact getD_640 (by assumption) _ | assumption); (case kv => first | assumption | (have q := bis_nv (by assumption) (by assumption) (by assumption); exact q) | (have q := bis_nv ((by assumption : 0 ≤ _ → ∀ msg, _ ≠ _) (by omega)) (by assumption) (by assumption); exact q))))
  k_with "M portC" => ((refine' port_val ?kB ?kX ?kT ?kXB ?kTB ?kD ?kh ?kd ?ku ?kF ?kN ?k6 ?kv ?krp ?_; (case kB => assumption); (case kX => assumption); (case kT => assumption); (case kXB => assumption); (case kTB => assumption); (case kD => assumption); (case kh => rfl); (case kd => ((try dsimp only); omega)); (case ku => ((try dsimp only); omega)); (case kF => with_reducible assumption); (case kN => with_reducible assumption); (case k6 => first | with_reducible assumption | exact getD_640 (by with_reducible assumption) _); (case kv => with_reducible assumption); (case krp => with_reducible assumption); intro g₂ e t t1 h' tk FF SS RR UU; k_steps))
  k_with "call type:str" => ((k_here; (with_reducible show wpAny _ _ (call (Value.type "str") [Value.ref _]) _ _ _); refine' str_own ?U ?X ?N ?G ?hs ?hm ?_; (case G => assumption); (case N => assumption); (case U => first | units_room | k_room | ((try dsimp only); omega)); (case X => first | (refine' myIn ?kf ?ki; (case kf => with_reducible assumption); (case ki => with_reducible assumption)) | k_in); (case hs => k_is); (case hm => k_is)))
  k_with "M insC" => (first
    | (refine' insR2_valx ?kB ?kX ?kT ?kXB ?kTB ?kD ?kh ?kd ?ku ?kF ?kN ?kx6 ?krp ?kkx ?_; (case kB => assumption); (case kX => assumption); (case kT => assumption); (case kXB => assumption); (case kTB => assumption); (case kD => assumption); (case kh => rfl); (case kd => ((try dsimp only); omega)); (case ku => ((try dsimp only); omega)); (case kF => with_reducible assumption); (case kN => with_reducible assumption); (case krp => with_reducible assumption); (case kx6 => with_reducible assumption); (case kkx => with_reducible assumption); intro g₂ e t t1 h' tk FF SS RR UU; k_steps)
    | (refine' insL2_valx ?kB ?kX ?kT ?kXB ?kTB ?kD ?kh ?kd ?ku ?kF ?kN ?kx6 ?krp ?kkx ?_; (case kB => assumption); (case kX => assumption); (case kT => assumption); (case kXB => assumption); (case kTB => assumption); (case kD => assumption); (case kh => rfl); (case kd => ((try dsimp only); omega)); (case ku => ((try dsimp only); omega)); (case kF => with_reducible assumption); (case kN => with_reducible assumption); (case krp => with_reducible assumption); (case kx6 => with_reducible assumption); (case kkx => with_reducible assumption); intro g₂ e t t1 h' tk FF SS RR UU; k_steps))
  trivial
section
variable {w : World} {p : Program} {loose : List PStr} {mean : ExcName → Option Value} {mg mb : PStr → Option Value}
    {dp un : Nat} {gd : Option (List Code)} {cn : PStr} {cs : Scope} {a : Addr} {ccd : Value} {cl : List (PStr × Addr)} {A₀ : Around} {base h₀ : Heap} {L : Addr} {m : PStr → Option Value}
    {s : Shared} {Q E : Value → Shared → Prop} {news : Ldg}
    (B : Below A₀ base [] h₀) (X : (KK.heap_1 w.params).In h₀) (T : Top p loose mean mg mb h₀) (XB : (KK.heap_1 w.params).In base) (TB : Top p loose mean mg mb base) (hck : cs.kind = .function)
include B X T XB TB hck
theorem told2_val0 {ra : Addr} {xr : PStr} {tw xt : Tok} {msg : PStr} (hd5 : dp + 40 < recursionLimit) (hu5 : un + 300 < cLine) (F : Fr h₀ L s.heap m) (N : News h₀ L s.heap news)
   (hx640 : xr.length ≤ 640) (hxrp : RepOk xr) (hkx : p229 xr = .error (.value, msg))
   (hexc : ∀ t h' tk, Fr h₀ L h' m → News h₀ L h' news → Q (.str (toldTxt .value msg) t) { s with heap := h', toks := tk }) :
   wpC (model PySem.Challenge.rw_pm0034_02.row.prog w) (ktrTop dp un gd cn cs L a ccd cl []) (call (.ref 115) [.int 0 tw, .ref ra, .str xr xt]) Q E s := by
  walk_at "M fill"
  have hz := p229_err_len hkx hx640
  walk_at "M enter0C"
  refine execs_C ?_
  refine try_C ?_
  refine execs_C ?_
  refine return_C ?_
  refine ifExp_C ?_
  refine wpC_any ?_
  k_fold
  k_steps
  refine call_name_KW_C ?_
  k_fold
  k_steps
  refine callWith_KW_C (by k_asm) (by k_is) rfl ?_
  k_fold
  k_steps
  walk_at "M insC"
  (show Q (Value.str (toldTxt .value _) _) _)
  exact hexc _ _ _ (by assumption) (by assumption)
end
section
variable {w : World} {p : Program} {loose : List PStr} {mean : ExcName → Option Value} {mg mb : PStr → Option Value}
    {dp un : Nat} {gd : Option (List Code)} {cn : PStr} {cs : Scope} {a : Addr} {ccd : Value} {cl : List (PStr × Addr)} {A₀ : Around} {base h₀ : Heap} {L : Addr} {m : PStr → Option Value}
    {s : Shared} {Q E : Value → Shared → Prop} {news : Ldg}
    (B : Below A₀ base [] h₀) (X : (KK.heap_1 w.params).In h₀) (T : Top p loose mean mg mb h₀) (XB : (KK.heap_1 w.params).In base) (TB : Top p loose mean mg mb base) (hck : cs.kind = .function)
include B X T XB TB hck
theorem told2_val1 {ra : Addr} {xr : PStr} {tw xt : Tok} {msg : PStr} (hd5 : dp + 40 < recursionLimit) (hu5 : un + 300 < cLine) (F : Fr h₀ L s.heap m) (N : News h₀ L s.heap news)
   (hx640 : xr.length ≤ 640) (hxrp : RepOk xr) (hkx : p229 xr = .error (.value, msg))
   (hexc : ∀ t h' tk, Fr h₀ L h' m → News h₀ L h' news → Q (.str (toldTxt .value msg) t) { s with heap := h', toks := tk }) :
   wpC (model PySem.Challenge.rw_pm0034_02.row.prog w) (ktrTop dp un gd cn cs L a ccd cl []) (call (.ref 115) [.int 1 tw, .ref ra, .str xr xt]) Q E s := by
  walk_at "M fill"
  have hz := p229_err_len hkx hx640
  walk_at "M enter0C"
  refine execs_C ?_
  refine try_C ?_
  refine execs_C ?_
  refine return_C ?_
  refine ifExp_C ?_
  refine wpC_any ?_
  k_fold
  k_steps
  refine call_name_KW_C ?_
  k_fold
  k_steps
  refine callWith_KW_C (by k_asm) (by k_is) rfl ?_
  k_fold
  k_steps
  walk_at "M insC"
  (show Q (Value.str (toldTxt .value _) _) _)
  exact hexc _ _ _ (by assumption) (by assumption)
end
end
section
theorem lines_N2_0 : True := by
  k_with_none
  k_with "execs cons" => ((refine f_execs ?_; intro qk))
  k_with "eval BinOp" => ((refine f_BinOp ?_; intro qk))
  k_with "exec Assign" => ((refine f_Assign ?_; intro qk))
  k_with "eval Subscript" => ((refine f_Subscript ?_; intro qk))
  k_with "isTrue Compare" => ((refine f_Compare ?_; intro qk))
  k_with "exec If" => ((refine f_If ?_; intro qk))
  k_with "eval Call" => (((fail_if_success (with_reducible show wpAny _ _ (eval (Expr.Call (Expr.Attribute _ _ _) _ _ _) _) _ _ _)); refine f_Call ?_; intro qk))
  k_with "spliced" => ((refine f_args ?_; intro qk))
  k_with "callWith" => ((refine f_method1 ?_; intro qk))
  k_with "exec Return some" => ((refine f_Return ?_; intro qk))
  k_with "eval Tuple" => ((refine f_Tuple ?_; intro qk))
  k_with "eval List" => ((refine f_List ?_; intro qk))
  k_with "eval IfExp" => ((refine f_IfExp ?_; intro qk))
  k_with "storeName" => ((k_here; k_dflt (refine' f_store ?F ?N ?_ ?a ?b; (case F => k_asm); (case N => k_asm); (case a => rfl); (case b => rfl); k_whole; intro m' h' F' N'; (try k_sweep))))
  k_with "M map1" => (first
    | (refine map_same ?_; with_unfolding_all rfl)
    | ((repeat' (refine List.forall_mem_cons.mpr (And.intro ?_ ?_))); (all_goals first | rfl | exact List.forall_mem_nil _)))
  k_with "M map2" => (first
    | (refine SameOut.both (b := fun _ => none) ?_ ?_ <;> (repeat (refine SameOut.upd ?_ (by with_unfolding_all rfl))) <;> exact SameOut.lookup rfl)
    | (refine' SameOut.both (b := ?kb) ?k1 ?k2; (case k1 => ((repeat (refine SameOut.upd ?_ (by with_unfolding_all rfl))); exact SameOut.refl)); (case k2 => ((repeat (refine SameOut.upd ?_ (by with_unfolding_all rfl))); exact SameOut.refl)))
    | (refine' SameOut.both (b := ?kb) ?k1 ?k2; (case k2 => ((repeat (refine SameOut.upd ?_ (by with_unfolding_all rfl))); exact SameOut.refl)); (case k1 => ((repeat (refine SameOut.skip ?_)); (repeat (refine SameOut.upd ?_ (by with_unfolding_all rfl))); exact SameOut.refl)))
    | (intro y hy; (repeat (refine (if_neg (ne_of_out hy (by with_unfolding_all rfl))).trans ?_)); (refine Eq.symm ?_); (repeat (refine (if_neg (ne_of_out hy (by with_unfolding_all rfl))).trans ?_)); first | rfl | exact lookup_out rfl hy | exact (lookup_out rfl hy).symm | exact (lookup_out rfl hy).trans (lookup_out rfl hy).symm))
  k_with "M fill" => ((
    have kk : PySem.Challenge.rw_pm0034_02 = PySem.Challenge.rw_pm0034_02 ∧ KK.heap_1 = KK.heap_1 := ⟨rfl, rfl⟩
    revert kk
    k_fill
    intro kk
    clear kk))
  k_with "M enter" => ((
    refine wpAny_call ?_
    k_dflt (refine' code_def ?k1 ?k2 ?k3 ?k4 ?k5 ?kA ?kF ?kK ?k6 ?k7 ?k8 ?k9 ?kB ?_ ?c2 ?c3 ?c4 ?c5; (case kA => exact rfl); (case kF => exact rfl); (case kK => assumption); (case k1 => k_asm); (case k2 => k_asm); (case k3 => k_asm); (case k4 => k_asm); (case k5 => k_asm); (case k6 => k_is); (case k7 => k_is); (case k8 => ((try dsimp only); omega)); (case k9 => first | exact BindsTo.of_eq rfl | (refine' kp_binds ?kx ?ke; (case kx => first | (refine' myIn ?kf ?ki; (case kf => with_reducible assumption); (case ki => with_reducible assumption)) | k_in); (case ke => exact fun _ => rfl)) | exact binds_K (by first | (refine' myIn ?kf ?ki; (case kf => with_reducible assumption); (case ki => with_reducible assumption)) | k_in) rfl (by k_is) rfl rfl rfl); (case c5 => decide); (case kB => exact locs rfl); (case c2 => exact rfl); (case c3 => exact rfl); (case c4 => exact rfl); k_whole; intro g' L' h' FG' F' N' B' X' T'; (have D' := kts_dict B' (by assumption) FG' rfl); (try dsimp only); (try k_lift B'); (refine let_AE (f := execs _) ?_; intro vk ak); (refine f_QE ?_; intro qk ek))))
  k_with "M enter0" => ((
    refine wpAny_call ?_
    k_dflt (refine' code_defS0X ?k1 ?k2 ?k3 ?k4 ?k5 ?kA ?kF ?kK ?k6 ?k7 ?k8 ?k9 ?kB ?_ ?c2 ?c3 ?c4 ?c5; (case kA => exact rfl); (case kF => exact rfl); (case kK => assumption); (case k1 => k_asm); (case k2 => k_asm); (case k3 => k_asm); (case k4 => k_asm); (case k5 => k_asm); (case k6 => k_is); (case k7 => k_is); (case k8 => ((try dsimp only); omega)); (case k9 => first | exact BindsTo.of_eq rfl | (refine' kp_binds ?kx ?ke; (case kx => first | (refine' myIn ?kf ?ki; (case kf => with_reducible assumption); (case ki => with_reducible assumption)) | k_in); (case ke => exact fun _ => rfl)) | exact binds_K (by first | (refine' myIn ?kf ?ki; (case kf => with_reducible assumption); (case ki => with_reducible assumption)) | k_in) rfl (by k_is) rfl rfl rfl); (case c5 => decide); (case kB => exact locs rfl); (case c2 => exact rfl); (case c3 => exact rfl); (case c4 => exact rfl); k_whole; intro g' L' h' FG' F' N' B' X' T' D'; (try dsimp only); (try k_lift B'); (refine let_AE (f := execs _) ?_; intro vk ak); (refine f_QE ?_; intro qk ek))))
  trivial
local macro_rules | `(tactic| k_mem) => `(tactic| first | with_reducible assumption | (refine mem_in ?_; with_reducible assumption))
theorem lines_N2_1 : True := by
  k_with "subscriptTail Name Constant ref int" => ((k_here; refine item_tupleT (News.isTup (by assumption) (by k_mem)) (by decide) (by decide) (by rfl) (by rfl) ?_))
  k_with "subscriptTail Name Constant ref int" => ((k_here; (with_reducible rename StrsAre _ _ => hSA); refine item_strsA (News.isList (by assumption) (by k_mem)) hSA (by decide) (by first | omega | (simp only [List.length_map]; omega)) (by decide) ?_; intro t'))
  k_with "call type:ValueError" => ((refine call_ValueError_made ?_; intro _ _ _))
  k_with "exec While Compare Name cons nil" => (refine Hold.mk ?_)
  k_with "exec While Compare" => (refine Hold.mk ?_)
  k_with "exec While Compare cons nil" => (refine Hold.mk ?_)
  k_with "exec While" => (refine Hold.mk ?_)
  k_with "binaryOp FloorDiv int int" => ((k_here; (with_reducible refine floordiv_pos ?kb1 ?kb2 ?_); (case kb1 => decide); (case kb2 => decide +kernel)))
  k_with "WhlIf" => ((refine whlIf_dec ?_ ?_ <;> intro _))
  k_with "subscriptTail Name Name ref int" => ((k_here; first
    | ((with_reducible rename StrsAre _ _ => hSA); refine item_strsA (News.isList (by assumption) (by k_mem)) hSA (by omega) (by omega) (by omega) ?_; intro t')
    | ((with_reducible rename IntsAre _ _ => hSA); refine item_intsA (News.isList (by assumption) (by k_mem)) hSA (by omega) (by omega) (by omega) ?_; intro t')))
  k_with "call builtin:len" => ((k_here; (with_reducible show wpAny _ _ (call (Value.builtin "len") [Value.ref _]) _ _ _); first
    | ((with_reducible rename StrsAre _ _ => hSA); refine len_strsA (News.isList (by assumption) (by k_mem)) hSA (by omega) ?_)
    | ((with_reducible rename IntsAre _ _ => hSA); refine len_intsA (News.isList (by assumption) (by k_mem)) hSA (by omega) ?_)))
  k_with "binaryOp Add str str" => ((k_here; (with_reducible show wpAny _ _ (binaryOp Operator.Add (Value.str _ _) (Value.str _ _)) _ _ _); refine add_lb (K := 800000) (L := 800000) ?kb ?kd ?ke ?_; (case kb => omega); (case kd => omega); (case ke => decide); intro _ _ hk hl; (try dsimp only at hk)))
  k_with "call builtin:str.replace" => ((k_here; (with_reducible show wpAny _ _ (call (Value.builtin "str.replace") [Value.str _ _, Value.str _ _, Value.str _ _]) _ _ _); refine rep_dbl ?a1 ?a2 ?a3 ?a4 ?_; (case a1 => ((show @Ne Nat _ _); first | omega | ((try dsimp only); omega))); (case a2 => ((show @Ne Nat _ _); first | omega | ((try dsimp only); omega))); (case a3 => ((show @Ne Nat _ _); first | omega | ((try dsimp only); omega))); (case a4 => omega); intro _ _ hk hr; (try dsimp only at hk)))
  trivial
section
variable {w : World} {p : Program} {loose : List PStr} {mean : ExcName → Option Value} {mg mb : PStr → Option Value}
    {dp un : Nat} {gd : Option (List Code)} {cn : PStr} {cs : Scope} {a : Addr} {ccd : Value} {cl : List (PStr × Addr)} {outer : List Env} {A₀ : Around} {base h₀ : Heap} {L : Addr} {m : PStr → Option Value}
    {s : Shared} {Q E : Value → Shared → Prop} {news : Ldg}
    (B : Below A₀ base outer h₀) (X : (KK.heap_1 w.params).In h₀) (T : Top p loose mean mg mb h₀) (XB : (KK.heap_1 w.params).In base) (TB : Top p loose mean mg mb base) (D : KtsDicts (outer.filterMap (·.frame)) h₀) (hck : cs.kind = .function)
include B X T XB TB D hck
theorem node_spec {r l rr : PStr} {t1 t2 t3 : Tok} (hd5 : dp + 5 < recursionLimit) (hu5 : un + 50 < cLine) (F : Fr h₀ L s.heap m) (N : News h₀ L s.heap news)
   (hr : r.length ≤ 100) (hl : l.length ≤ 100000) (hrr : rr.length ≤ 200000)
   (hret : ∀ t h' tk, Fr h₀ L h' m → News h₀ L h' news → Q (.str (r ++ Str.ofString " \"" ++ dblT l ++ Str.ofString "\"" ++ rr) t) { s with heap := h', toks := tk }) :
   wpAny (model PySem.Challenge.rw_pm0034_02.row.prog w) (ktrTop dp un gd cn cs L a ccd cl outer) (call (.ref 136) [.str r t1, .str l t2, .str rr t3]) Q E s := by
  walk_at "M fill"
  have l1 : (Str.ofString " \"").length = 2 := by decide +kernel
  have l2 : (Str.ofString "\"").length = 1 := by decide +kernel
  walk_at "M enter"
  k_steps
  (show Q _ _)
  exact hret _ _ _ (by assumption) (by assumption)
end
end
section
theorem lines_O2_0 : True := by
  k_with_none
  k_with "execs cons" => ((refine f_execs ?_; intro qk))
  k_with "eval BinOp" => ((refine f_BinOp ?_; intro qk))
  k_with "exec Assign" => ((refine f_Assign ?_; intro qk))
  k_with "eval Subscript" => ((refine f_Subscript ?_; intro qk))
  k_with "isTrue Compare" => ((refine f_Compare ?_; intro qk))
  k_with "exec If" => ((refine f_If ?_; intro qk))
  k_with "eval Call" => (((fail_if_success (with_reducible show wpAny _ _ (eval (Expr.Call (Expr.Attribute _ _ _) _ _ _) _) _ _ _)); refine f_Call ?_; intro qk))
  k_with "spliced" => ((refine f_args ?_; intro qk))
  k_with "callWith" => ((refine f_method1 ?_; intro qk))
  k_with "exec Return some" => ((refine f_Return ?_; intro qk))
  k_with "eval Tuple" => ((refine f_Tuple ?_; intro qk))
  k_with "eval List" => ((refine f_List ?_; intro qk))
  k_with "eval IfExp" => ((refine f_IfExp ?_; intro qk))
  k_with "storeName" => ((k_here; k_dflt (refine' f_store ?F ?N ?_ ?a ?b; (case F => k_asm); (case N => k_asm); (case a => rfl); (case b => rfl); k_whole; intro m' h' F' N'; (try k_sweep))))
  k_with "M map1" => (first
    | (refine map_same ?_; with_unfolding_all rfl)
    | ((repeat' (refine List.forall_mem_cons.mpr (And.intro ?_ ?_))); (all_goals first | rfl | exact List.forall_mem_nil _)))
  k_with "M map2" => (first
    | (refine SameOut.both (b := fun _ => none) ?_ ?_ <;> (repeat (refine SameOut.upd ?_ (by with_unfolding_all rfl))) <;> exact SameOut.lookup rfl)
    | (refine' SameOut.both (b := ?kb) ?k1 ?k2; (case k1 => ((repeat (refine SameOut.upd ?_ (by with_unfolding_all rfl))); exact SameOut.refl)); (case k2 => ((repeat (refine SameOut.upd ?_ (by with_unfolding_all rfl))); exact SameOut.refl)))
    | (refine' SameOut.both (b := ?kb) ?k1 ?k2; (case k2 => ((repeat (refine SameOut.upd ?_ (by with_unfolding_all rfl))); exact SameOut.refl)); (case k1 => ((repeat (refine SameOut.skip ?_)); (repeat (refine SameOut.upd ?_ (by with_unfolding_all rfl))); exact SameOut.refl)))
    | (intro y hy; (repeat (refine (if_neg (ne_of_out hy (by with_unfolding_all rfl))).trans ?_)); (refine Eq.symm ?_); (repeat (refine (if_neg (ne_of_out hy (by with_unfolding_all rfl))).trans ?_)); first | rfl | exact lookup_out rfl hy | exact (lookup_out rfl hy).symm | exact (lookup_out rfl hy).trans (lookup_out rfl hy).symm))
  k_with "M fill" => ((
    have kk : PySem.Challenge.rw_pm0034_02 = PySem.Challenge.rw_pm0034_02 ∧ KK.heap_1 = KK.heap_1 := ⟨rfl, rfl⟩
    revert kk
    k_fill
    intro kk
    clear kk))
  k_with "M enter" => ((
    refine wpAny_call ?_
    k_dflt (refine' code_def ?k1 ?k2 ?k3 ?k4 ?k5 ?kA ?kF ?kK ?k6 ?k7 ?k8 ?k9 ?kB ?_ ?c2 ?c3 ?c4 ?c5; (case kA => exact rfl); (case kF => exact rfl); (case kK => assumption); (case k1 => k_asm); (case k2 => k_asm); (case k3 => k_asm); (case k4 => k_asm); (case k5 => k_asm); (case k6 => k_is); (case k7 => k_is); (case k8 => ((try dsimp only); omega)); (case k9 => first | exact BindsTo.of_eq rfl | (refine' kp_binds ?kx ?ke; (case kx => first | (refine' myIn ?kf ?ki; (case kf => with_reducible assumption); (case ki => with_reducible assumption)) | k_in); (case ke => exact fun _ => rfl)) | exact binds_K (by first | (refine' myIn ?kf ?ki; (case kf => with_reducible assumption); (case ki => with_reducible assumption)) | k_in) rfl (by k_is) rfl rfl rfl); (case c5 => decide); (case kB => exact locs rfl); (case c2 => exact rfl); (case c3 => exact rfl); (case c4 => exact rfl); k_whole; intro g' L' h' FG' F' N' B' X' T'; (have D' := kts_dict B' (by assumption) FG' rfl); (try dsimp only); (try k_lift B'); (refine let_AE (f := execs _) ?_; intro vk ak); (refine f_QE ?_; intro qk ek))))
  k_with "M enter0" => ((
    refine wpAny_call ?_
    k_dflt (refine' code_defS0X ?k1 ?k2 ?k3 ?k4 ?k5 ?kA ?kF ?kK ?k6 ?k7 ?k8 ?k9 ?kB ?_ ?c2 ?c3 ?c4 ?c5; (case kA => exact rfl); (case kF => exact rfl); (case kK => assumption); (case k1 => k_asm); (case k2 => k_asm); (case k3 => k_asm); (case k4 => k_asm); (case k5 => k_asm); (case k6 => k_is); (case k7 => k_is); (case k8 => ((try dsimp only); omega)); (case k9 => first | exact BindsTo.of_eq rfl | (refine' kp_binds ?kx ?ke; (case kx => first | (refine' myIn ?kf ?ki; (case kf => with_reducible assumption); (case ki => with_reducible assumption)) | k_in); (case ke => exact fun _ => rfl)) | exact binds_K (by first | (refine' myIn ?kf ?ki; (case kf => with_reducible assumption); (case ki => with_reducible assumption)) | k_in) rfl (by k_is) rfl rfl rfl); (case c5 => decide); (case kB => exact locs rfl); (case c2 => exact rfl); (case c3 => exact rfl); (case c4 => exact rfl); k_whole; intro g' L' h' FG' F' N' B' X' T' D'; (try dsimp only); (try k_lift B'); (refine let_AE (f := execs _) ?_; intro vk ak); (refine f_QE ?_; intro qk ek))))
  trivial
local macro_rules | `(tactic| k_mem) => `(tactic| first | with_reducible assumption | (refine mem_in ?_; with_reducible assumption))
theorem lines_O2_1 : True := by
  k_with "subscriptTail Name Constant ref int" => ((k_here; refine item_tupleT (News.isTup (by assumption) (by k_mem)) (by decide) (by decide) (by rfl) (by rfl) ?_))
  k_with "subscriptTail Name Constant ref int" => ((k_here; (with_reducible rename StrsAre _ _ => hSA); refine item_strsA (News.isList (by assumption) (by k_mem)) hSA (by decide) (by first | omega | (simp only [List.length_map]; omega)) (by decide) ?_; intro t'))
  k_with "call type:ValueError" => ((refine call_ValueError_made ?_; intro _ _ _))
  k_with "exec While Compare Name cons nil" => (refine Hold.mk ?_)
  k_with "exec While Compare" => (refine Hold.mk ?_)
  k_with "exec While Compare cons nil" => (refine Hold.mk ?_)
  k_with "exec While" => (refine Hold.mk ?_)
  k_with "binaryOp FloorDiv int int" => ((k_here; (with_reducible refine floordiv_pos ?kb1 ?kb2 ?_); (case kb1 => decide); (case kb2 => decide +kernel)))
  k_with "WhlIf" => ((refine whlIf_dec ?_ ?_ <;> intro _))
  k_with "subscriptTail Name Name ref int" => ((k_here; first
    | ((with_reducible rename StrsAre _ _ => hSA); refine item_strsA (News.isList (by assumption) (by k_mem)) hSA (by omega) (by omega) (by omega) ?_; intro t')
    | ((with_reducible rename IntsAre _ _ => hSA); refine item_intsA (News.isList (by assumption) (by k_mem)) hSA (by omega) (by omega) (by omega) ?_; intro t')))
  k_with "call builtin:len" => ((k_here; (with_reducible show wpAny _ _ (call (Value.builtin "len") [Value.ref _]) _ _ _); first
    | ((with_reducible rename StrsAre _ _ => hSA); refine len_strsA (News.isList (by assumption) (by k_mem)) hSA (by omega) ?_)
    | ((with_reducible rename IntsAre _ _ => hSA); refine len_intsA (News.isList (by assumption) (by k_mem)) hSA (by omega) ?_)))
  k_with "binaryOp Add str str" => ((k_here; (with_reducible show wpAny _ _ (binaryOp Operator.Add (Value.str _ _) (Value.str _ _)) _ _ _); refine add_lb (K := 800000) (L := 800000) ?kb ?kd ?ke ?_; (case kb => omega); (case kd => omega); (case ke => decide); intro _ _ hk hl; (try dsimp only at hk)))
  k_with "call builtin:str.replace" => ((k_here; (with_reducible show wpAny _ _ (call (Value.builtin "str.replace") [Value.str _ _, Value.str _ _, Value.str _ _]) _ _ _); refine rep_dbl ?a1 ?a2 ?a3 ?a4 ?_; (case a1 => ((show @Ne Nat _ _); first | omega | ((try dsimp only); omega))); (case a2 => ((show @Ne Nat _ _); first | omega | ((try dsimp only); omega))); (case a3 => ((show @Ne Nat _ _); first | omega | ((try dsimp only); omega))); (case a4 => omega); intro _ _ hk hr; (try dsimp only at hk)))
  trivial
/-- parse257 reads x out of r -/
structure Reads (r x : PStr) : Prop where
  eq : p257 r = .ok x
theorem ok_same {α : Type} {n n' : α} {x : Except (EK × PStr) α} (h : x = .ok n) (h' : x = .ok n') : n = n' := by rw [h] at h'; cases h'; rfl
theorem ok_no {α : Type} {n : α} {e : EK × PStr} {x : Except (EK × PStr) α} (h : x = .ok n) (h' : x = .error e) : False := by rw [h] at h'; cases h'
theorem lines_O2_2 : True := by
  k_with "call ref" => (((with_reducible show wpAny _ _ (call (Value.ref 65) _) _ _ _); refine' parse257_spec ?kB ?kX ?kT ?kXB ?kTB ?kD ?kh ?kd ?ku ?kF ?kN ?kl ?_ ?kx; (case kB => assumption); (case kX => assumption); (case kT => assumption); (case kXB => assumption); (case kTB => assumption); (case kD => assumption); (case kh => rfl); (case kd => ((try dsimp only); omega)); (case ku => ((try dsimp only); omega)); (case kF => with_reducible assumption); (case kN => with_reducible assumption); (case kl => omega); (case kx => (intro k g₂ e t h' tk hk; exact (ok_no hp.eq hk).elim)); intro xq tq hq tkq hkq Fq Nq; (have eq := ok_same hp.eq hkq); subst eq))
  trivial
section
variable {w : World} {p : Program} {loose : List PStr} {mean : ExcName → Option Value} {mg mb : PStr → Option Value}
    {dp un : Nat} {gd : Option (List Code)} {cn : PStr} {cs : Scope} {a : Addr} {ccd : Value} {cl : List (PStr × Addr)} {outer : List Env} {A₀ : Around} {base h₀ : Heap} {L : Addr} {m : PStr → Option Value}
    {s : Shared} {Q E : Value → Shared → Prop} {news : Ldg}
    (B : Below A₀ base outer h₀) (X : (KK.heap_1 w.params).In h₀) (T : Top p loose mean mg mb h₀) (XB : (KK.heap_1 w.params).In base) (TB : Top p loose mean mg mb base) (D : KtsDicts (outer.filterMap (·.frame)) h₀) (hck : cs.kind = .function)
include B X T XB TB D hck
theorem parts_spec {x left : PStr} {t1 : Tok} (hd5 : dp + 10 < recursionLimit) (hu5 : un + 100 < cLine) (F : Fr h₀ L s.heap m) (N : News h₀ L s.heap news)
   (hx : x.length ≤ 200000) (hlf : left.length ≤ 200000) (hp : Reads (Str.ofString "257" ++ Txt.slice x (some (Txt.find x (Str.ofString ")") + 1)) none) left)
   (hret : ∀ d t t' t'' h' tk, Fr h₀ L h' m → News h₀ L h' ((d, lstOf [.str (Txt.slice x none (some (Txt.find x (Str.ofString ")") + 1))) t, .str left t', .str (Txt.slice x (some (Txt.find x (Str.ofString ")") + 1 + 3 + left.length + Txt.count left (Str.ofString "\""))) none) t''] 0) :: news) → (∀ p ∈ news, p.1 < d) → Q (.ref d) { s with heap := h', toks := tk }) :
   wpAny (model PySem.Challenge.rw_pm0034_02.row.prog w) (ktrTop dp un gd cn cs L a ccd cl outer) (call (.ref 143) [.str x t1]) Q E s := by
  walk_at "M fill"
  have l1 : (Str.ofString "257").length = 3 := by decide +kernel
  walk_at "M enter"
  k_steps
  (show Q _ _)
  exact hret _ _ _ _ _ _ (by assumption) (by assumption) (by assumption)
end
end
section
theorem lines_O3_0 : True := by
  k_with_none
  k_with "execs cons" => ((refine f_execs ?_; intro qk))
  k_with "eval BinOp" => ((refine f_BinOp ?_; intro qk))
  k_with "exec Assign" => ((refine f_Assign ?_; intro qk))
  k_with "eval Subscript" => ((refine f_Subscript ?_; intro qk))
  k_with "isTrue Compare" => ((refine f_Compare ?_; intro qk))
  k_with "exec If" => ((refine f_If ?_; intro qk))
  k_with "eval Call" => (((fail_if_success (with_reducible show wpAny _ _ (eval (Expr.Call (Expr.Attribute _ _ _) _ _ _) _) _ _ _)); refine f_Call ?_; intro qk))
  k_with "spliced" => ((refine f_args ?_; intro qk))
  k_with "callWith" => ((refine f_method1 ?_; intro qk))
  k_with "exec Return some" => ((refine f_Return ?_; intro qk))
  k_with "eval Tuple" => ((refine f_Tuple ?_; intro qk))
  k_with "eval List" => ((refine f_List ?_; intro qk))
  k_with "eval IfExp" => ((refine f_IfExp ?_; intro qk))
  k_with "storeName" => ((k_here; k_dflt (refine' f_store ?F ?N ?_ ?a ?b; (case F => k_asm); (case N => k_asm); (case a => rfl); (case b => rfl); k_whole; intro m' h' F' N'; (try k_sweep))))
  k_with "M map1" => (first
    | (refine map_same ?_; with_unfolding_all rfl)
    | ((repeat' (refine List.forall_mem_cons.mpr (And.intro ?_ ?_))); (all_goals first | rfl | exact List.forall_mem_nil _)))
  k_with "M map2" => (first
    | (refine SameOut.both (b := fun _ => none) ?_ ?_ <;> (repeat (refine SameOut.upd ?_ (by with_unfolding_all rfl))) <;> exact SameOut.lookup rfl)
    | (refine' SameOut.both (b := ?kb) ?k1 ?k2; (case k1 => ((repeat (refine SameOut.upd ?_ (by with_unfolding_all rfl))); exact SameOut.refl)); (case k2 => ((repeat (refine SameOut.upd ?_ (by with_unfolding_all rfl))); exact SameOut.refl)))
    | (refine' SameOut.both (b := ?kb) ?k1 ?k2; (case k2 => ((repeat (refine SameOut.upd ?_ (by with_unfolding_all rfl))); exact SameOut.refl)); (case k1 => ((repeat (refine SameOut.skip ?_)); (repeat (refine SameOut.upd ?_ (by with_unfolding_all rfl))); exact SameOut.refl)))
    | (intro y hy; (repeat (refine (if_neg (ne_of_out hy (by with_unfolding_all rfl))).trans ?_)); (refine Eq.symm ?_); (repeat (refine (if_neg (ne_of_out hy (by with_unfolding_all rfl))).trans ?_)); first | rfl | exact lookup_out rfl hy | exact (lookup_out rfl hy).symm | exact (lookup_out rfl hy).trans (lookup_out rfl hy).symm))
  k_with "M fill" => ((
    have kk : PySem.Challenge.rw_pm0034_02 = PySem.Challenge.rw_pm0034_02 ∧ KK.heap_1 = KK.heap_1 := ⟨rfl, rfl⟩
    revert kk
    k_fill
    intro kk
    clear kk))
  k_with "M enter" => ((
    refine wpAny_call ?_
    k_dflt (refine' code_def ?k1 ?k2 ?k3 ?k4 ?k5 ?kA ?kF ?kK ?k6 ?k7 ?k8 ?k9 ?kB ?_ ?c2 ?c3 ?c4 ?c5; (case kA => exact rfl); (case kF => exact rfl); (case kK => assumption); (case k1 => k_asm); (case k2 => k_asm); (case k3 => k_asm); (case k4 => k_asm); (case k5 => k_asm); (case k6 => k_is); (case k7 => k_is); (case k8 => ((try dsimp only); omega)); (case k9 => first | exact BindsTo.of_eq rfl | (refine' kp_binds ?kx ?ke; (case kx => first | (refine' myIn ?kf ?ki; (case kf => with_reducible assumption); (case ki => with_reducible assumption)) | k_in); (case ke => exact fun _ => rfl)) | exact binds_K (by first | (refine' myIn ?kf ?ki; (case kf => with_reducible assumption); (case ki => with_reducible assumption)) | k_in) rfl (by k_is) rfl rfl rfl); (case c5 => decide); (case kB => exact locs rfl); (case c2 => exact rfl); (case c3 => exact rfl); (case c4 => exact rfl); k_whole; intro g' L' h' FG' F' N' B' X' T'; (have D' := kts_dict B' (by assumption) FG' rfl); (try dsimp only); (try k_lift B'); (refine let_AE (f := execs _) ?_; intro vk ak); (refine f_QE ?_; intro qk ek))))
  k_with "M enter0" => ((
    refine wpAny_call ?_
    k_dflt (refine' code_defS0X ?k1 ?k2 ?k3 ?k4 ?k5 ?kA ?kF ?kK ?k6 ?k7 ?k8 ?k9 ?kB ?_ ?c2 ?c3 ?c4 ?c5; (case kA => exact rfl); (case kF => exact rfl); (case kK => assumption); (case k1 => k_asm); (case k2 => k_asm); (case k3 => k_asm); (case k4 => k_asm); (case k5 => k_asm); (case k6 => k_is); (case k7 => k_is); (case k8 => ((try dsimp only); omega)); (case k9 => first | exact BindsTo.of_eq rfl | (refine' kp_binds ?kx ?ke; (case kx => first | (refine' myIn ?kf ?ki; (case kf => with_reducible assumption); (case ki => with_reducible assumption)) | k_in); (case ke => exact fun _ => rfl)) | exact binds_K (by first | (refine' myIn ?kf ?ki; (case kf => with_reducible assumption); (case ki => with_reducible assumption)) | k_in) rfl (by k_is) rfl rfl rfl); (case c5 => decide); (case kB => exact locs rfl); (case c2 => exact rfl); (case c3 => exact rfl); (case c4 => exact rfl); k_whole; intro g' L' h' FG' F' N' B' X' T' D'; (try dsimp only); (try k_lift B'); (refine let_AE (f := execs _) ?_; intro vk ak); (refine f_QE ?_; intro qk ek))))
  trivial
local macro_rules | `(tactic| k_mem) => `(tactic| first | with_reducible assumption | (refine mem_in ?_; with_reducible assumption))
theorem lines_O3_1 : True := by
  k_with "subscriptTail Name Constant ref int" => ((k_here; refine item_tupleT (News.isTup (by assumption) (by k_mem)) (by decide) (by decide) (by rfl) (by rfl) ?_))
  k_with "subscriptTail Name Constant ref int" => ((k_here; (with_reducible rename StrsAre _ _ => hSA); refine item_strsA (News.isList (by assumption) (by k_mem)) hSA (by decide) (by first | omega | (simp only [List.length_map]; omega)) (by decide) ?_; intro t'))
  k_with "call type:ValueError" => ((refine call_ValueError_made ?_; intro _ _ _))
  k_with "exec While Compare Name cons nil" => (refine Hold.mk ?_)
  k_with "exec While Compare" => (refine Hold.mk ?_)
  k_with "exec While Compare cons nil" => (refine Hold.mk ?_)
  k_with "exec While" => (refine Hold.mk ?_)
  k_with "binaryOp FloorDiv int int" => ((k_here; (with_reducible refine floordiv_pos ?kb1 ?kb2 ?_); (case kb1 => decide); (case kb2 => decide +kernel)))
  k_with "WhlIf" => ((refine whlIf_dec ?_ ?_ <;> intro _))
  k_with "subscriptTail Name Name ref int" => ((k_here; first
    | ((with_reducible rename StrsAre _ _ => hSA); refine item_strsA (News.isList (by assumption) (by k_mem)) hSA (by omega) (by omega) (by omega) ?_; intro t')
    | ((with_reducible rename IntsAre _ _ => hSA); refine item_intsA (News.isList (by assumption) (by k_mem)) hSA (by omega) (by omega) (by omega) ?_; intro t')))
  k_with "call builtin:len" => ((k_here; (with_reducible show wpAny _ _ (call (Value.builtin "len") [Value.ref _]) _ _ _); first
    | ((with_reducible rename StrsAre _ _ => hSA); refine len_strsA (News.isList (by assumption) (by k_mem)) hSA (by omega) ?_)
    | ((with_reducible rename IntsAre _ _ => hSA); refine len_intsA (News.isList (by assumption) (by k_mem)) hSA (by omega) ?_)))
  k_with "binaryOp Add str str" => ((k_here; (with_reducible show wpAny _ _ (binaryOp Operator.Add (Value.str _ _) (Value.str _ _)) _ _ _); refine add_lb (K := 800000) (L := 800000) ?kb ?kd ?ke ?_; (case kb => omega); (case kd => omega); (case ke => decide); intro _ _ hk hl; (try dsimp only at hk)))
  k_with "call builtin:str.replace" => ((k_here; (with_reducible show wpAny _ _ (call (Value.builtin "str.replace") [Value.str _ _, Value.str _ _, Value.str _ _]) _ _ _); refine rep_dbl ?a1 ?a2 ?a3 ?a4 ?_; (case a1 => ((show @Ne Nat _ _); first | omega | ((try dsimp only); omega))); (case a2 => ((show @Ne Nat _ _); first | omega | ((try dsimp only); omega))); (case a3 => ((show @Ne Nat _ _); first | omega | ((try dsimp only); omega))); (case a4 => omega); intro _ _ hk hr; (try dsimp only at hk)))
  trivial
theorem nd_app (r l x : PStr) : ndT r l x = r ++ (Str.ofString " \"" ++ dblT l ++ Str.ofString "\"" ++ x) := by
  unfold ndT
  refine str_eq ?_
  simp only [str_toList, List.append_assoc]
theorem RepR.nd {r l x : PStr} (h : RepR r) : p229 (ndT r l x) = .ok (portOf r) ∧ (p229in (ndT r l x)).length ≤ 640 := by
  rw [nd_app]; exact h.port _
/-- a text that may follow a closing quote -/
structure HeadOk (x : PStr) : Prop where
  ne : x.cps.toList.head? ≠ some 34
theorem Tr.headOk {t : Tr} (h : t.Good) : HeadOk t.txt := ⟨Tr.head h⟩
theorem Reads.nd {r l x : PStr} (hr : RepR r) (hx : HeadOk x) : Reads (Str.ofString "257" ++ Txt.slice (ndT r l x) (some (Txt.find (ndT r l x) (Str.ofString ")") + 1)) none) l := ⟨nd_left hr hx.ne⟩
theorem nd_lens {r l x : PStr} (h : (ndT r l x).length ≤ 70000) : r.length ≤ 70000 ∧ l.length ≤ 70000 ∧ x.length ≤ 70000 := by
  have := nd_len r l x; omega
section
variable {w : World} {p : Program} {loose : List PStr} {mean : ExcName → Option Value} {mg mb : PStr → Option Value}
    {dp un : Nat} {gd : Option (List Code)} {cn : PStr} {cs : Scope} {a : Addr} {ccd : Value} {cl : List (PStr × Addr)} {outer : List Env} {A₀ : Around} {base h₀ : Heap} {L : Addr} {m : PStr → Option Value}
    {s : Shared} {Q E : Value → Shared → Prop} {news : Ldg}
    (B : Below A₀ base outer h₀) (X : (KK.heap_1 w.params).In h₀) (T : Top p loose mean mg mb h₀) (XB : (KK.heap_1 w.params).In base) (TB : Top p loose mean mg mb base) (D : KtsDicts (outer.filterMap (·.frame)) h₀) (hck : cs.kind = .function)
include B X T XB TB D hck
theorem parts_nd {r l x : PStr} {t1 : Tok} (hd5 : dp + 10 < recursionLimit) (hu5 : un + 100 < cLine) (F : Fr h₀ L s.heap m) (N : News h₀ L s.heap news)
   (hr : RepR r) (hx : HeadOk x) (hl : (ndT r l x).length ≤ 70000)
   (hret : ∀ d t t' t'' h' tk, Fr h₀ L h' m → News h₀ L h' ((d, lstOf [.str r t, .str l t', .str x t''] 0) :: news) → (∀ p ∈ news, p.1 < d) → Q (.ref d) { s with heap := h', toks := tk }) :
   wpAny (model PySem.Challenge.rw_pm0034_02.row.prog w) (ktrTop dp un gd cn cs L a ccd cl outer) (call (.ref 143) [.str (ndT r l x) t1]) Q E s := by
  have hls := nd_lens hl
  refine parts_spec B X T XB TB D hck hd5 hu5 F N (by omega) (by omega) (Reads.nd hr hx) fun d t t' t'' h' tk F' N' hlt => ?_
  rw [nd_root hr, nd_right hr] at N'
  exact hret d t t' t'' h' tk F' N' hlt
end
section
variable {w : World} {p : Program} {loose : List PStr} {mean : ExcName → Option Value} {mg mb : PStr → Option Value}
    {dp un : Nat} {gd : Option (List Code)} {cn : PStr} {cs : Scope} {a : Addr} {ccd : Value} {cl : List (PStr × Addr)} {outer : List Env} {A₀ : Around} {base h₀ : Heap} {L : Addr} {m : PStr → Option Value}
    {s : Shared} {Q E : Value → Shared → Prop} {news : Ldg}
    (B : Below A₀ base outer h₀) (X : (KK.heap_1 w.params).In h₀) (T : Top p loose mean mg mb h₀) (XB : (KK.heap_1 w.params).In base) (TB : Top p loose mean mg mb base) (D : KtsDicts (outer.filterMap (·.frame)) h₀) (hck : cs.kind = .function)
include B X T XB TB D hck
theorem port_nd {r l x : PStr} {t1 : Tok} (hd5 : dp + 10 < recursionLimit) (hu5 : un + 60 < cLine) (F : Fr h₀ L s.heap m) (N : News h₀ L s.heap news)
   (hr : RepR r) (hl : (ndT r l x).length ≤ 70000)
   (hret : ∀ t h' tk, Fr h₀ L h' m → News h₀ L h' news → Q (.int (portOf r) t) { s with heap := h', toks := tk }) :
   wpAny (model PySem.Challenge.rw_pm0034_02.row.prog w) (ktrTop dp un gd cn cs L a ccd cl outer) (call (.ref 108) [.str (ndT r l x) t1]) Q E s := by
  obtain ⟨h1, h2⟩ := hr.nd (l := l) (x := x)
  refine port_long B X T XB TB D hck hd5 hu5 F N (by omega) h2 (fun msg e => ok_no h1 e) (fun n t h' tk e F' N' => ?_) (fun k g₂ e t h' tk e' => (ok_no h1 e').elim)
  rw [ok_same e h1]
  exact hret t h' tk F' N'
end
end
section
theorem lines_HU_0 : True := by
  k_with_none
  k_with "execs cons" => ((refine f_execs ?_; intro qk))
  k_with "eval BinOp" => ((refine f_BinOp ?_; intro qk))
  k_with "exec Assign" => ((refine f_Assign ?_; intro qk))
  k_with "eval Subscript" => ((refine f_Subscript ?_; intro qk))
  k_with "isTrue Compare" => ((refine f_Compare ?_; intro qk))
  k_with "exec If" => ((refine f_If ?_; intro qk))
  k_with "eval Call" => (((fail_if_success (with_reducible show wpAny _ _ (eval (Expr.Call (Expr.Attribute _ _ _) _ _ _) _) _ _ _)); refine f_Call ?_; intro qk))
  k_with "spliced" => ((refine f_args ?_; intro qk))
  k_with "callWith" => ((refine f_method1 ?_; intro qk))
  k_with "exec Return some" => ((refine f_Return ?_; intro qk))
  k_with "eval Tuple" => ((refine f_Tuple ?_; intro qk))
  k_with "eval List" => ((refine f_List ?_; intro qk))
  k_with "eval IfExp" => ((refine f_IfExp ?_; intro qk))
  k_with "storeName" => ((k_here; k_dflt (refine' f_store ?F ?N ?_ ?a ?b; (case F => k_asm); (case N => k_asm); (case a => rfl); (case b => rfl); k_whole; intro m' h' F' N'; (try k_sweep))))
  k_with "M map1" => (first
    | (refine map_same ?_; with_unfolding_all rfl)
    | ((repeat' (refine List.forall_mem_cons.mpr (And.intro ?_ ?_))); (all_goals first | rfl | exact List.forall_mem_nil _)))
  k_with "M map2" => (first
    | (refine SameOut.both (b := fun _ => none) ?_ ?_ <;> (repeat (refine SameOut.upd ?_ (by with_unfolding_all rfl))) <;> exact SameOut.lookup rfl)
    | (refine' SameOut.both (b := ?kb) ?k1 ?k2; (case k1 => ((repeat (refine SameOut.upd ?_ (by with_unfolding_all rfl))); exact SameOut.refl)); (case k2 => ((repeat (refine SameOut.upd ?_ (by with_unfolding_all rfl))); exact SameOut.refl)))
    | (refine' SameOut.both (b := ?kb) ?k1 ?k2; (case k2 => ((repeat (refine SameOut.upd ?_ (by with_unfolding_all rfl))); exact SameOut.refl)); (case k1 => ((repeat (refine SameOut.skip ?_)); (repeat (refine SameOut.upd ?_ (by with_unfolding_all rfl))); exact SameOut.refl)))
    | (intro y hy; (repeat (refine (if_neg (ne_of_out hy (by with_unfolding_all rfl))).trans ?_)); (refine Eq.symm ?_); (repeat (refine (if_neg (ne_of_out hy (by with_unfolding_all rfl))).trans ?_)); first | rfl | exact lookup_out rfl hy | exact (lookup_out rfl hy).symm | exact (lookup_out rfl hy).trans (lookup_out rfl hy).symm))
  k_with "M fill" => ((
    have kk : PySem.Challenge.rw_pm0034_02 = PySem.Challenge.rw_pm0034_02 ∧ KK.heap_1 = KK.heap_1 := ⟨rfl, rfl⟩
    revert kk
    k_fill
    intro kk
    clear kk))
  k_with "M enter" => ((
    refine wpAny_call ?_
    k_dflt (refine' code_def ?k1 ?k2 ?k3 ?k4 ?k5 ?kA ?kF ?kK ?k6 ?k7 ?k8 ?k9 ?kB ?_ ?c2 ?c3 ?c4 ?c5; (case kA => exact rfl); (case kF => exact rfl); (case kK => assumption); (case k1 => k_asm); (case k2 => k_asm); (case k3 => k_asm); (case k4 => k_asm); (case k5 => k_asm); (case k6 => k_is); (case k7 => k_is); (case k8 => ((try dsimp only); omega)); (case k9 => first | exact BindsTo.of_eq rfl | (refine' kp_binds ?kx ?ke; (case kx => first | (refine' myIn ?kf ?ki; (case kf => with_reducible assumption); (case ki => with_reducible assumption)) | k_in); (case ke => exact fun _ => rfl)) | exact binds_K (by first | (refine' myIn ?kf ?ki; (case kf => with_reducible assumption); (case ki => with_reducible assumption)) | k_in) rfl (by k_is) rfl rfl rfl); (case c5 => decide); (case kB => exact locs rfl); (case c2 => exact rfl); (case c3 => exact rfl); (case c4 => exact rfl); k_whole; intro g' L' h' FG' F' N' B' X' T'; (have D' := kts_dict B' (by assumption) FG' rfl); (try dsimp only); (try k_lift B'); (refine let_AE (f := execs _) ?_; intro vk ak); (refine f_QE ?_; intro qk ek))))
  k_with "M enter0" => ((
    refine wpAny_call ?_
    k_dflt (refine' code_defS0X ?k1 ?k2 ?k3 ?k4 ?k5 ?kA ?kF ?kK ?k6 ?k7 ?k8 ?k9 ?kB ?_ ?c2 ?c3 ?c4 ?c5; (case kA => exact rfl); (case kF => exact rfl); (case kK => assumption); (case k1 => k_asm); (case k2 => k_asm); (case k3 => k_asm); (case k4 => k_asm); (case k5 => k_asm); (case k6 => k_is); (case k7 => k_is); (case k8 => ((try dsimp only); omega)); (case k9 => first | exact BindsTo.of_eq rfl | (refine' kp_binds ?kx ?ke; (case kx => first | (refine' myIn ?kf ?ki; (case kf => with_reducible assumption); (case ki => with_reducible assumption)) | k_in); (case ke => exact fun _ => rfl)) | exact binds_K (by first | (refine' myIn ?kf ?ki; (case kf => with_reducible assumption); (case ki => with_reducible assumption)) | k_in) rfl (by k_is) rfl rfl rfl); (case c5 => decide); (case kB => exact locs rfl); (case c2 => exact rfl); (case c3 => exact rfl); (case c4 => exact rfl); k_whole; intro g' L' h' FG' F' N' B' X' T' D'; (try dsimp only); (try k_lift B'); (refine let_AE (f := execs _) ?_; intro vk ak); (refine f_QE ?_; intro qk ek))))
  trivial
local macro_rules | `(tactic| k_mem) => `(tactic| first | with_reducible assumption | (refine mem_in ?_; with_reducible assumption))
theorem lines_HU_1 : True := by
  k_with "subscriptTail Name Constant ref int" => ((k_here; refine item_tupleT (News.isTup (by assumption) (by k_mem)) (by decide) (by decide) (by rfl) (by rfl) ?_))
  k_with "subscriptTail Name Constant ref int" => ((k_here; (with_reducible rename StrsAre _ _ => hSA); refine item_strsA (News.isList (by assumption) (by k_mem)) hSA (by decide) (by first | omega | (simp only [List.length_map]; omega)) (by decide) ?_; intro t'))
  k_with "call type:ValueError" => ((refine call_ValueError_made ?_; intro _ _ _))
  k_with "exec While Compare Name cons nil" => (refine Hold.mk ?_)
  k_with "exec While Compare" => (refine Hold.mk ?_)
  k_with "exec While Compare cons nil" => (refine Hold.mk ?_)
  k_with "exec While" => (refine Hold.mk ?_)
  k_with "binaryOp FloorDiv int int" => ((k_here; (with_reducible refine floordiv_pos ?kb1 ?kb2 ?_); (case kb1 => decide); (case kb2 => decide +kernel)))
  k_with "WhlIf" => ((refine whlIf_dec ?_ ?_ <;> intro _))
  k_with "subscriptTail Name Name ref int" => ((k_here; first
    | ((with_reducible rename StrsAre _ _ => hSA); refine item_strsA (News.isList (by assumption) (by k_mem)) hSA (by omega) (by omega) (by omega) ?_; intro t')
    | ((with_reducible rename IntsAre _ _ => hSA); refine item_intsA (News.isList (by assumption) (by k_mem)) hSA (by omega) (by omega) (by omega) ?_; intro t')))
  k_with "call builtin:len" => ((k_here; (with_reducible show wpAny _ _ (call (Value.builtin "len") [Value.ref _]) _ _ _); first
    | ((with_reducible rename StrsAre _ _ => hSA); refine len_strsA (News.isList (by assumption) (by k_mem)) hSA (by omega) ?_)
    | ((with_reducible rename IntsAre _ _ => hSA); refine len_intsA (News.isList (by assumption) (by k_mem)) hSA (by omega) ?_)))
  k_with "binaryOp Add str str" => ((k_here; (with_reducible show wpAny _ _ (binaryOp Operator.Add (Value.str _ _) (Value.str _ _)) _ _ _); refine add_lb (K := 800000) (L := 800000) ?kb ?kd ?ke ?_; (case kb => omega); (case kd => omega); (case ke => decide); intro _ _ hk hl; (try dsimp only at hk)))
  k_with "call builtin:str.replace" => ((k_here; (with_reducible show wpAny _ _ (call (Value.builtin "str.replace") [Value.str _ _, Value.str _ _, Value.str _ _]) _ _ _); refine rep_dbl ?a1 ?a2 ?a3 ?a4 ?_; (case a1 => ((show @Ne Nat _ _); first | omega | ((try dsimp only); omega))); (case a2 => ((show @Ne Nat _ _); first | omega | ((try dsimp only); omega))); (case a3 => ((show @Ne Nat _ _); first | omega | ((try dsimp only); omega))); (case a4 => omega); intro _ _ hk hr; (try dsimp only at hk)))
  k_with "call ref" => (((with_reducible show wpAny _ _ (call (Value.ref 143) [Value.str (ndT _ _ _) _]) _ _ _); refine' parts_nd ?kB ?kX ?kT ?kXB ?kTB ?kD ?kh ?kd ?ku ?kF ?kN ?k5 ?k6 ?k7 ?_; (case kB => assumption); (case kX => assumption); (case kT => assumption); (case kXB => assumption); (case kTB => assumption); (case kD => assumption); (case kh => rfl); (case kd => ((try dsimp only); omega)); (case ku => ((try dsimp only); omega)); (case kF => with_reducible assumption); (case kN => with_reducible assumption); (case k5 => with_reducible assumption); (case k6 => with_reducible assumption); (case k7 => with_reducible assumption); intro dP tP tP' tP'' hP tkP FP NP ltP))
  k_with "call ref" => (((with_reducible show wpAny _ _ (call (Value.ref 108) [Value.str (ndT _ _ _) _]) _ _ _); refine' port_nd ?kB ?kX ?kT ?kXB ?kTB ?kD ?kh ?kd ?ku ?kF ?kN ?k5 ?k7 ?_; (case kB => assumption); (case kX => assumption); (case kT => assumption); (case kXB => assumption); (case kTB => assumption); (case kD => assumption); (case kh => rfl); (case kd => ((try dsimp only); omega)); (case ku => ((try dsimp only); omega)); (case kF => with_reducible assumption); (case kN => with_reducible assumption); (case k5 => with_reducible assumption); (case k7 => with_reducible assumption); intro tP hP tkP FP NP))
  k_with "call ref" => (((with_reducible show wpAny _ _ (call (Value.ref 136) _) _ _ _); refine' node_spec ?kB ?kX ?kT ?kXB ?kTB ?kD ?kh ?kd ?ku ?kF ?kN ?k5 ?k6 ?k7 ?_; (case kB => assumption); (case kX => assumption); (case kT => assumption); (case kXB => assumption); (case kTB => assumption); (case kD => assumption); (case kh => rfl); (case kd => ((try dsimp only); omega)); (case ku => ((try dsimp only); omega)); (case kF => with_reducible assumption); (case kN => with_reducible assumption); (case k5 => first | assumption | omega | decide); (case k6 => first | assumption | omega | decide); (case k7 => first | assumption | omega | decide); intro tP hP tkP FP NP))
  trivial
theorem hung_good {ah : Bool} {new : PStr} {p : Int} {t : Tr} (h : t.Good) (hn : RepR new) : (hungT ah new p t).Good := by
  rw [Tr.good_iff] at h ⊢
  intro y hy
  rcases hung_mem hy with rfl | hy
  · exact hn
  · exact h y hy
theorem hung_len {ah : Bool} {new : PStr} {p : Int} {t : Tr} (h : t.Good) (hn : RepR new) (hs : t.size ≤ 14) : (hungT ah new p t).txt.length ≤ 70000 := by
  have := Tr.len_le (hung_good (ah := ah) (p := p) h hn) (by rw [hung_size]; omega)
  omega
theorem Tr.le7 {t : Tr} (h : t.Good) (hs : t.size ≤ 15) : t.txt.length ≤ 70000 := by have := Tr.len_le h hs; omega
theorem ahd_lt {ah : Bool} {p : Int} {r : PStr} (h : p < portOf r) : Ahd ah p r := .inl h
theorem ahd_eq {ai p : Int} {r : PStr} (h : p = portOf r) (ha : ai ≠ 0) : Ahd (decide (ai ≠ 0)) p r := .inr ⟨h, by simp [ha]⟩
theorem ahd_no1 {ai p : Int} {r : PStr} (h : ¬ p < portOf r) (ha : ai = 0) : ¬ Ahd (decide (ai ≠ 0)) p r := by
  rintro (q | ⟨_, q⟩)
  · exact h q
  · simp [ha] at q
theorem ahd_no2 {ah : Bool} {p : Int} {r : PStr} (h : ¬ p < portOf r) (h2 : p ≠ portOf r) : ¬ Ahd ah p r := by
  rintro (q | ⟨q, _⟩)
  · exact h q
  · exact h2 q
theorem hung_pos {ah : Bool} {new r : PStr} {p : Int} {l x : Tr} (h : Ahd ah p r) : (hungT ah new p (.node l r x)).txt = ndT r (hungT ah new p l).txt x.txt := by
  conv => lhs; unfold hungT
  rw [if_pos h]; rfl
theorem hung_neg {ah : Bool} {new r : PStr} {p : Int} {l x : Tr} (h : ¬ Ahd ah p r) : (hungT ah new p (.node l r x)).txt = ndT r l.txt (hungT ah new p x).txt := by
  conv => lhs; unfold hungT
  rw [if_neg h]; rfl
theorem nd_ne {r l x : PStr} (h : RepR r) : ndT r l x ≠ Str.ofString "" := by
  intro e
  have := congrArg PySem.Str.length e
  rw [nd_len] at this
  have e0 : (Str.ofString "").length = 0 := by decide +kernel
  omega
/-- _law_hung on a tree's text -/
structure HungOk (ai : Int) (new : PStr) (pt : Int) (t : Tr) : Prop where
  go : ∀ {w : World} {p : Program} {loose : List PStr} {mean : ExcName → Option Value} {mg mb : PStr → Option Value} {dp un : Nat} {gd : Option (List Code)} {cn : PStr} {cs : Scope} {a : Addr} {ccd : Value} {cl : List (PStr × Addr)} {outer : List Env} {A₀ : Around} {base h₀ : Heap} {L : Addr} {m : PStr → Option Value} {s : Shared} {Q E : Value → Shared → Prop} {news : Ldg} (B : Below A₀ base outer h₀) (X : (KK.heap_1 w.params).In h₀) (T : Top p loose mean mg mb h₀) (XB : (KK.heap_1 w.params).In base) (TB : Top p loose mean mg mb base) (D : KtsDicts (outer.filterMap (·.frame)) h₀) (hck : cs.kind = .function) {t1 t2 t3 t4 : Tok}, dp + 20 + 5 * t.size < recursionLimit → un + 200 + 50 * t.size < cLine → Fr h₀ L s.heap m → News h₀ L s.heap news → t.Good → RepR new → t.size ≤ 14 →
   (∀ t' h' tk, Fr h₀ L h' m → News h₀ L h' news → Q (.str (hungT (decide (ai ≠ 0)) new pt t).txt t') { s with heap := h', toks := tk }) →
   wpAny (model PySem.Challenge.rw_pm0034_02.row.prog w) (ktrTop dp un gd cn cs L a ccd cl outer) (call (.ref 150) [.str t.txt t1, .str new t2, .int pt t3, .int ai t4]) Q E s
theorem lines_HU_2 : True := by
  k_with "call ref" => (((with_reducible show wpAny _ _ (call (Value.ref 150) _) _ _ _); refine Hold.mk ?_))
  trivial
section
variable {w : World} {p : Program} {loose : List PStr} {mean : ExcName → Option Value} {mg mb : PStr → Option Value}
    {dp un : Nat} {gd : Option (List Code)} {cn : PStr} {cs : Scope} {a : Addr} {ccd : Value} {cl : List (PStr × Addr)} {outer : List Env} {A₀ : Around} {base h₀ : Heap} {L : Addr} {m : PStr → Option Value}
    {s : Shared} {Q E : Value → Shared → Prop} {news : Ldg}
    (B : Below A₀ base outer h₀) (X : (KK.heap_1 w.params).In h₀) (T : Top p loose mean mg mb h₀) (XB : (KK.heap_1 w.params).In base) (TB : Top p loose mean mg mb base) (D : KtsDicts (outer.filterMap (·.frame)) h₀) (hck : cs.kind = .function)
include B X T XB TB D hck
theorem hung_nil {ai pt : Int} {new : PStr} {t1 t2 t3 t4 : Tok} (hd5 : dp + 20 < recursionLimit) (hu5 : un + 200 < cLine) (F : Fr h₀ L s.heap m) (N : News h₀ L s.heap news)
   (hn : new.length ≤ 40)
   (hret : ∀ t h' tk, Fr h₀ L h' m → News h₀ L h' news → Q (.str (hungT (decide (ai ≠ 0)) new pt .nil).txt t) { s with heap := h', toks := tk }) :
   wpAny (model PySem.Challenge.rw_pm0034_02.row.prog w) (ktrTop dp un gd cn cs L a ccd cl outer) (call (.ref 150) [.str Str.empty t1, .str new t2, .int pt t3, .int ai t4]) Q E s := by
  walk_at "M fill"
  have hn1 : new.length ≤ 100 := Nat.le_trans hn (by decide)
  walk_at "M enter"
  k_steps
  (show Q _ _)
  exact hret _ _ _ (by assumption) (by assumption)
end
section
variable {w : World} {p : Program} {loose : List PStr} {mean : ExcName → Option Value} {mg mb : PStr → Option Value}
    {dp un : Nat} {gd : Option (List Code)} {cn : PStr} {cs : Scope} {a : Addr} {ccd : Value} {cl : List (PStr × Addr)} {outer : List Env} {A₀ : Around} {base h₀ : Heap} {L : Addr} {m : PStr → Option Value}
    {s : Shared} {Q E : Value → Shared → Prop} {news : Ldg}
    (B : Below A₀ base outer h₀) (X : (KK.heap_1 w.params).In h₀) (T : Top p loose mean mg mb h₀) (XB : (KK.heap_1 w.params).In base) (TB : Top p loose mean mg mb base) (D : KtsDicts (outer.filterMap (·.frame)) h₀) (hck : cs.kind = .function)
include B X T XB TB D hck
theorem hung_node {ai pt : Int} {new r : PStr} {l x : Tr} {t1 t2 t3 t4 : Tok} (IHl : HungOk ai new pt l) (IHx : HungOk ai new pt x) (hd5 : dp + 20 + 5 * (l.size + 1 + x.size) < recursionLimit) (hu5 : un + 200 + 50 * (l.size + 1 + x.size) < cLine) (F : Fr h₀ L s.heap m) (N : News h₀ L s.heap news)
   (hg : (Tr.node l r x).Good) (hn : RepR new) (hs : l.size + 1 + x.size ≤ 14)
   (hret : ∀ t h' tk, Fr h₀ L h' m → News h₀ L h' news → Q (.str (hungT (decide (ai ≠ 0)) new pt (.node l r x)).txt t) { s with heap := h', toks := tk }) :
   wpAny (model PySem.Challenge.rw_pm0034_02.row.prog w) (ktrTop dp un gd cn cs L a ccd cl outer) (call (.ref 150) [.str (ndT r l.txt x.txt) t1, .str new t2, .int pt t3, .int ai t4]) Q E s := by
  walk_at "M fill"
  obtain ⟨hgl, hr, hgx⟩ := id hg
  have hx := Tr.headOk hgx
  have hl : (ndT r l.txt x.txt).length ≤ 70000 := Tr.le7 hg (by show l.size + 1 + x.size ≤ 15; omega)
  have hls := nd_lens hl
  have hrl := hr.len
  have hll := hung_len (ah := decide (ai ≠ 0)) (p := pt) hgl hn (by omega)
  have hxl := hung_len (ah := decide (ai ≠ 0)) (p := pt) hgx hn (by omega)
  have hne := nd_ne (l := l.txt) (x := x.txt) hr
  walk_at "M enter"
  k_steps
  · exact absurd (eq_of_beq (by assumption)) hne
  all_goals (try (
    refine Hold.out ?_
    first
    | (refine' IHl.go ?kB ?kX ?kT ?kXB ?kTB ?kD ?kh ?kd ?ku ?kF ?kN ?k5 ?k6 ?k7 ?_; (case kB => assumption); (case kX => assumption); (case kT => assumption); (case kXB => assumption); (case kTB => assumption); (case kD => assumption); (case kh => rfl); (case kd => ((try dsimp only); omega)); (case ku => ((try dsimp only); omega)); (case kF => with_reducible assumption); (case kN => with_reducible assumption); (case k5 => exact hgl); (case k6 => with_reducible assumption); (case k7 => omega); intro tH hH tkH FH NH; k_steps; (show Q _ _); (first
      | (rw [hung_pos (new := new) (l := l) (x := x) (ahd_lt (by assumption))] at hret; exact hret _ _ _ (by assumption) (news_drop1 (by assumption)))
      | (rw [hung_pos (new := new) (l := l) (x := x) (ahd_eq (by assumption) (by assumption))] at hret; exact hret _ _ _ (by assumption) (news_drop1 (by assumption)))))
    | (refine' IHx.go ?kB ?kX ?kT ?kXB ?kTB ?kD ?kh ?kd ?ku ?kF ?kN ?k5 ?k6 ?k7 ?_; (case kB => assumption); (case kX => assumption); (case kT => assumption); (case kXB => assumption); (case kTB => assumption); (case kD => assumption); (case kh => rfl); (case kd => ((try dsimp only); omega)); (case ku => ((try dsimp only); omega)); (case kF => with_reducible assumption); (case kN => with_reducible assumption); (case k5 => exact hgx); (case k6 => with_reducible assumption); (case k7 => omega); intro tH hH tkH FH NH; k_steps; (show Q _ _); (first
      | (rw [hung_neg (new := new) (l := l) (x := x) (ahd_no1 (by assumption) (by assumption))] at hret; exact hret _ _ _ (by assumption) (news_drop1 (by assumption)))
      | (rw [hung_neg (new := new) (l := l) (x := x) (ahd_no2 (by assumption) (by assumption))] at hret; exact hret _ _ _ (by assumption) (news_drop1 (by assumption)))))))
end
theorem hung_all {ai pt : Int} {new : PStr} : ∀ t : Tr, HungOk ai new pt t
  | .nil => ⟨fun B X T XB TB D hck _ _ _ _ h1 h2 F N _ hn _ hret => hung_nil B X T XB TB D hck (by omega) (by omega) F N hn.len hret⟩
  | .node l r x => ⟨fun B X T XB TB D hck _ _ _ _ h1 h2 F N hg hn hs hret => hung_node B X T XB TB D hck (hung_all l) (hung_all x) h1 h2 F N hg hn hs hret⟩
end
section
theorem lines_JO_0 : True := by
  k_with_none
  k_with "execs cons" => ((refine f_execs ?_; intro qk))
  k_with "eval BinOp" => ((refine f_BinOp ?_; intro qk))
  k_with "exec Assign" => ((refine f_Assign ?_; intro qk))
  k_with "eval Subscript" => ((refine f_Subscript ?_; intro qk))
  k_with "isTrue Compare" => ((refine f_Compare ?_; intro qk))
  k_with "exec If" => ((refine f_If ?_; intro qk))
  k_with "eval Call" => (((fail_if_success (with_reducible show wpAny _ _ (eval (Expr.Call (Expr.Attribute _ _ _) _ _ _) _) _ _ _)); refine f_Call ?_; intro qk))
  k_with "spliced" => ((refine f_args ?_; intro qk))
  k_with "callWith" => ((refine f_method1 ?_; intro qk))
  k_with "exec Return some" => ((refine f_Return ?_; intro qk))
  k_with "eval Tuple" => ((refine f_Tuple ?_; intro qk))
  k_with "eval List" => ((refine f_List ?_; intro qk))
  k_with "eval IfExp" => ((refine f_IfExp ?_; intro qk))
  k_with "storeName" => ((k_here; k_dflt (refine' f_store ?F ?N ?_ ?a ?b; (case F => k_asm); (case N => k_asm); (case a => rfl); (case b => rfl); k_whole; intro m' h' F' N'; (try k_sweep))))
  k_with "M map1" => (first
    | (refine map_same ?_; with_unfolding_all rfl)
    | ((repeat' (refine List.forall_mem_cons.mpr (And.intro ?_ ?_))); (all_goals first | rfl | exact List.forall_mem_nil _)))
  k_with "M map2" => (first
    | (refine SameOut.both (b := fun _ => none) ?_ ?_ <;> (repeat (refine SameOut.upd ?_ (by with_unfolding_all rfl))) <;> exact SameOut.lookup rfl)
    | (refine' SameOut.both (b := ?kb) ?k1 ?k2; (case k1 => ((repeat (refine SameOut.upd ?_ (by with_unfolding_all rfl))); exact SameOut.refl)); (case k2 => ((repeat (refine SameOut.upd ?_ (by with_unfolding_all rfl))); exact SameOut.refl)))
    | (refine' SameOut.both (b := ?kb) ?k1 ?k2; (case k2 => ((repeat (refine SameOut.upd ?_ (by with_unfolding_all rfl))); exact SameOut.refl)); (case k1 => ((repeat (refine SameOut.skip ?_)); (repeat (refine SameOut.upd ?_ (by with_unfolding_all rfl))); exact SameOut.refl)))
    | (intro y hy; (repeat (refine (if_neg (ne_of_out hy (by with_unfolding_all rfl))).trans ?_)); (refine Eq.symm ?_); (repeat (refine (if_neg (ne_of_out hy (by with_unfolding_all rfl))).trans ?_)); first | rfl | exact lookup_out rfl hy | exact (lookup_out rfl hy).symm | exact (lookup_out rfl hy).trans (lookup_out rfl hy).symm))
  k_with "M fill" => ((
    have kk : PySem.Challenge.rw_pm0034_02 = PySem.Challenge.rw_pm0034_02 ∧ KK.heap_1 = KK.heap_1 := ⟨rfl, rfl⟩
    revert kk
    k_fill
    intro kk
    clear kk))
  k_with "M enter" => ((
    refine wpAny_call ?_
    k_dflt (refine' code_def ?k1 ?k2 ?k3 ?k4 ?k5 ?kA ?kF ?kK ?k6 ?k7 ?k8 ?k9 ?kB ?_ ?c2 ?c3 ?c4 ?c5; (case kA => exact rfl); (case kF => exact rfl); (case kK => assumption); (case k1 => k_asm); (case k2 => k_asm); (case k3 => k_asm); (case k4 => k_asm); (case k5 => k_asm); (case k6 => k_is); (case k7 => k_is); (case k8 => ((try dsimp only); omega)); (case k9 => first | exact BindsTo.of_eq rfl | (refine' kp_binds ?kx ?ke; (case kx => first | (refine' myIn ?kf ?ki; (case kf => with_reducible assumption); (case ki => with_reducible assumption)) | k_in); (case ke => exact fun _ => rfl)) | exact binds_K (by first | (refine' myIn ?kf ?ki; (case kf => with_reducible assumption); (case ki => with_reducible assumption)) | k_in) rfl (by k_is) rfl rfl rfl); (case c5 => decide); (case kB => exact locs rfl); (case c2 => exact rfl); (case c3 => exact rfl); (case c4 => exact rfl); k_whole; intro g' L' h' FG' F' N' B' X' T'; (have D' := kts_dict B' (by assumption) FG' rfl); (try dsimp only); (try k_lift B'); (refine let_AE (f := execs _) ?_; intro vk ak); (refine f_QE ?_; intro qk ek))))
  k_with "M enter0" => ((
    refine wpAny_call ?_
    k_dflt (refine' code_defS0X ?k1 ?k2 ?k3 ?k4 ?k5 ?kA ?kF ?kK ?k6 ?k7 ?k8 ?k9 ?kB ?_ ?c2 ?c3 ?c4 ?c5; (case kA => exact rfl); (case kF => exact rfl); (case kK => assumption); (case k1 => k_asm); (case k2 => k_asm); (case k3 => k_asm); (case k4 => k_asm); (case k5 => k_asm); (case k6 => k_is); (case k7 => k_is); (case k8 => ((try dsimp only); omega)); (case k9 => first | exact BindsTo.of_eq rfl | (refine' kp_binds ?kx ?ke; (case kx => first | (refine' myIn ?kf ?ki; (case kf => with_reducible assumption); (case ki => with_reducible assumption)) | k_in); (case ke => exact fun _ => rfl)) | exact binds_K (by first | (refine' myIn ?kf ?ki; (case kf => with_reducible assumption); (case ki => with_reducible assumption)) | k_in) rfl (by k_is) rfl rfl rfl); (case c5 => decide); (case kB => exact locs rfl); (case c2 => exact rfl); (case c3 => exact rfl); (case c4 => exact rfl); k_whole; intro g' L' h' FG' F' N' B' X' T' D'; (try dsimp only); (try k_lift B'); (refine let_AE (f := execs _) ?_; intro vk ak); (refine f_QE ?_; intro qk ek))))
  trivial
local macro_rules | `(tactic| k_mem) => `(tactic| first | with_reducible assumption | (refine mem_in ?_; with_reducible assumption))
theorem lines_JO_1 : True := by
  k_with "subscriptTail Name Constant ref int" => ((k_here; refine item_tupleT (News.isTup (by assumption) (by k_mem)) (by decide) (by decide) (by rfl) (by rfl) ?_))
  k_with "subscriptTail Name Constant ref int" => ((k_here; (with_reducible rename StrsAre _ _ => hSA); refine item_strsA (News.isList (by assumption) (by k_mem)) hSA (by decide) (by first | omega | (simp only [List.length_map]; omega)) (by decide) ?_; intro t'))
  k_with "call type:ValueError" => ((refine call_ValueError_made ?_; intro _ _ _))
  k_with "exec While Compare Name cons nil" => (refine Hold.mk ?_)
  k_with "exec While Compare" => (refine Hold.mk ?_)
  k_with "exec While Compare cons nil" => (refine Hold.mk ?_)
  k_with "exec While" => (refine Hold.mk ?_)
  k_with "binaryOp FloorDiv int int" => ((k_here; (with_reducible refine floordiv_pos ?kb1 ?kb2 ?_); (case kb1 => decide); (case kb2 => decide +kernel)))
  k_with "WhlIf" => ((refine whlIf_dec ?_ ?_ <;> intro _))
  k_with "subscriptTail Name Name ref int" => ((k_here; first
    | ((with_reducible rename StrsAre _ _ => hSA); refine item_strsA (News.isList (by assumption) (by k_mem)) hSA (by omega) (by omega) (by omega) ?_; intro t')
    | ((with_reducible rename IntsAre _ _ => hSA); refine item_intsA (News.isList (by assumption) (by k_mem)) hSA (by omega) (by omega) (by omega) ?_; intro t')))
  k_with "call builtin:len" => ((k_here; (with_reducible show wpAny _ _ (call (Value.builtin "len") [Value.ref _]) _ _ _); first
    | ((with_reducible rename StrsAre _ _ => hSA); refine len_strsA (News.isList (by assumption) (by k_mem)) hSA (by omega) ?_)
    | ((with_reducible rename IntsAre _ _ => hSA); refine len_intsA (News.isList (by assumption) (by k_mem)) hSA (by omega) ?_)))
  k_with "binaryOp Add str str" => ((k_here; (with_reducible show wpAny _ _ (binaryOp Operator.Add (Value.str _ _) (Value.str _ _)) _ _ _); refine add_lb (K := 800000) (L := 800000) ?kb ?kd ?ke ?_; (case kb => omega); (case kd => omega); (case ke => decide); intro _ _ hk hl; (try dsimp only at hk)))
  k_with "call builtin:str.replace" => ((k_here; (with_reducible show wpAny _ _ (call (Value.builtin "str.replace") [Value.str _ _, Value.str _ _, Value.str _ _]) _ _ _); refine rep_dbl ?a1 ?a2 ?a3 ?a4 ?_; (case a1 => ((show @Ne Nat _ _); first | omega | ((try dsimp only); omega))); (case a2 => ((show @Ne Nat _ _); first | omega | ((try dsimp only); omega))); (case a3 => ((show @Ne Nat _ _); first | omega | ((try dsimp only); omega))); (case a4 => omega); intro _ _ hk hr; (try dsimp only at hk)))
  k_with "call ref" => (((with_reducible show wpAny _ _ (call (Value.ref 143) [Value.str (ndT _ _ _) _]) _ _ _); refine' parts_nd ?kB ?kX ?kT ?kXB ?kTB ?kD ?kh ?kd ?ku ?kF ?kN ?k5 ?k6 ?k7 ?_; (case kB => assumption); (case kX => assumption); (case kT => assumption); (case kXB => assumption); (case kTB => assumption); (case kD => assumption); (case kh => rfl); (case kd => ((try dsimp only); omega)); (case ku => ((try dsimp only); omega)); (case kF => with_reducible assumption); (case kN => with_reducible assumption); (case k5 => with_reducible assumption); (case k6 => with_reducible assumption); (case k7 => with_reducible assumption); intro dP tP tP' tP'' hP tkP FP NP ltP))
  k_with "call ref" => (((with_reducible show wpAny _ _ (call (Value.ref 108) [Value.str (ndT _ _ _) _]) _ _ _); refine' port_nd ?kB ?kX ?kT ?kXB ?kTB ?kD ?kh ?kd ?ku ?kF ?kN ?k5 ?k7 ?_; (case kB => assumption); (case kX => assumption); (case kT => assumption); (case kXB => assumption); (case kTB => assumption); (case kD => assumption); (case kh => rfl); (case kd => ((try dsimp only); omega)); (case ku => ((try dsimp only); omega)); (case kF => with_reducible assumption); (case kN => with_reducible assumption); (case k5 => with_reducible assumption); (case k7 => with_reducible assumption); intro tP hP tkP FP NP))
  k_with "call ref" => (((with_reducible show wpAny _ _ (call (Value.ref 136) _) _ _ _); refine' node_spec ?kB ?kX ?kT ?kXB ?kTB ?kD ?kh ?kd ?ku ?kF ?kN ?k5 ?k6 ?k7 ?_; (case kB => assumption); (case kX => assumption); (case kT => assumption); (case kXB => assumption); (case kTB => assumption); (case kD => assumption); (case kh => rfl); (case kd => ((try dsimp only); omega)); (case ku => ((try dsimp only); omega)); (case kF => with_reducible assumption); (case kN => with_reducible assumption); (case k5 => first | assumption | omega | decide); (case k6 => first | assumption | omega | decide); (case k7 => first | assumption | omega | decide); intro tP hP tkP FP NP))
  trivial
theorem join_good {x y : Tr} (h : x.Good) (h' : y.Good) : (joinT x y).Good := by
  rw [Tr.good_iff] at h h' ⊢
  intro z hz
  rw [join_row] at hz
  rcases List.mem_append.mp hz with hz | hz
  · exact h z hz
  · exact h' z hz
theorem join_size (x y : Tr) : (joinT x y).size = x.size + y.size := by
  rw [← Tr.row_len, join_row, List.length_append, Tr.row_len, Tr.row_len]
theorem join_len {x y : Tr} (h : x.Good) (h' : y.Good) (hs : x.size + y.size ≤ 15) : (joinT x y).txt.length ≤ 70000 :=
  Tr.le7 (join_good h h') (by rw [join_size]; exact hs)
theorem RepR.len5 {r l x : PStr} (h : RepR r) : 5 ≤ (ndT r l x).length := by
  obtain ⟨c, m, e, _⟩ := h.shape
  have h1 : r.length = (m ++ [41]).length + 6 := by rw [len_list, e]; simp
  rw [nd_len]; omega
theorem RepR.let4 {r l x : PStr} (h : RepR r) : Txt.item (ndT r l x) 4 = ⟨#[letOf r]⟩ := by
  obtain ⟨c, m, e, _⟩ := h.shape
  have e1 : letOf r = c := by unfold letOf; rw [e]; rfl
  have e2 : (ndT r l x).cps.toList.drop 4 = c :: (32 :: (m ++ [41]) ++ 32 :: 34 :: (StrLaws.dbl 34 l.cps.toList ++ 34 :: x.cps.toList)) := by rw [nd_list, e]; simp
  rw [e1]
  exact (item_list (i := 4) e2).1
theorem join_pos {ar br : PStr} {al ax bl bx : Tr} (h : letOf ar < letOf br) : (joinT (.node al ar ax) (.node bl br bx)).txt = ndT ar al.txt (joinT ax (.node bl br bx)).txt := by
  conv => lhs; rw [joinT]
  rw [if_pos h]; rfl
theorem join_neg {ar br : PStr} {al ax bl bx : Tr} (h : ¬ letOf ar < letOf br) : (joinT (.node al ar ax) (.node bl br bx)).txt = ndT br (joinT (.node al ar ax) bl).txt bx.txt := by
  conv => lhs; rw [joinT]
  rw [if_neg h]; rfl
theorem let_lt {ar br la xa lb xb : PStr} (ha : RepR ar) (hb : RepR br) : (Txt.item (ndT ar la xa) 4).cps.toList < (Txt.item (ndT br lb xb) 4).cps.toList ↔ letOf ar < letOf br := by
  rw [ha.let4, hb.let4]
  show ([letOf ar] : List Nat) < [letOf br] ↔ _
  rw [List.cons_lt_cons_iff]
  simp
/-- _law_joined on two trees' texts -/
structure JoinOk (x y : Tr) : Prop where
  go : ∀ {w : World} {p : Program} {loose : List PStr} {mean : ExcName → Option Value} {mg mb : PStr → Option Value} {dp un : Nat} {gd : Option (List Code)} {cn : PStr} {cs : Scope} {a : Addr} {ccd : Value} {cl : List (PStr × Addr)} {outer : List Env} {A₀ : Around} {base h₀ : Heap} {L : Addr} {m : PStr → Option Value} {s : Shared} {Q E : Value → Shared → Prop} {news : Ldg} (B : Below A₀ base outer h₀) (X : (KK.heap_1 w.params).In h₀) (T : Top p loose mean mg mb h₀) (XB : (KK.heap_1 w.params).In base) (TB : Top p loose mean mg mb base) (D : KtsDicts (outer.filterMap (·.frame)) h₀) (hck : cs.kind = .function) {t1 t2 : Tok}, dp + 20 + 5 * (x.size + y.size) < recursionLimit → un + 200 + 50 * (x.size + y.size) < cLine → Fr h₀ L s.heap m → News h₀ L s.heap news → x.Good → y.Good → x.size + y.size ≤ 15 →
   (∀ t' h' tk, Fr h₀ L h' m → News h₀ L h' news → Q (.str (joinT x y).txt t') { s with heap := h', toks := tk }) →
   wpAny (model PySem.Challenge.rw_pm0034_02.row.prog w) (ktrTop dp un gd cn cs L a ccd cl outer) (call (.ref 157) [.str x.txt t1, .str y.txt t2]) Q E s
theorem lines_JO_2 : True := by
  k_with "call ref" => (((with_reducible show wpAny _ _ (call (Value.ref 157) _) _ _ _); refine Hold.mk ?_))
  trivial
section
variable {w : World} {p : Program} {loose : List PStr} {mean : ExcName → Option Value} {mg mb : PStr → Option Value}
    {dp un : Nat} {gd : Option (List Code)} {cn : PStr} {cs : Scope} {a : Addr} {ccd : Value} {cl : List (PStr × Addr)} {outer : List Env} {A₀ : Around} {base h₀ : Heap} {L : Addr} {m : PStr → Option Value}
    {s : Shared} {Q E : Value → Shared → Prop} {news : Ldg}
    (B : Below A₀ base outer h₀) (X : (KK.heap_1 w.params).In h₀) (T : Top p loose mean mg mb h₀) (XB : (KK.heap_1 w.params).In base) (TB : Top p loose mean mg mb base) (D : KtsDicts (outer.filterMap (·.frame)) h₀) (hck : cs.kind = .function)
include B X T XB TB D hck
theorem join_nil1 {y : Tr} {t1 t2 : Tok} (hd5 : dp + 20 < recursionLimit) (hu5 : un + 200 < cLine) (F : Fr h₀ L s.heap m) (N : News h₀ L s.heap news)
   (hy : y.txt.length ≤ 70000)
   (hret : ∀ t h' tk, Fr h₀ L h' m → News h₀ L h' news → Q (.str (joinT .nil y).txt t) { s with heap := h', toks := tk }) :
   wpAny (model PySem.Challenge.rw_pm0034_02.row.prog w) (ktrTop dp un gd cn cs L a ccd cl outer) (call (.ref 157) [.str Str.empty t1, .str y.txt t2]) Q E s := by
  walk_at "M fill"
  have h0 : Str.empty.length = 0 := rfl
  walk_at "M enter"
  k_steps
  (show Q _ _)
  have e : joinT .nil y = y := by rw [joinT]
  rw [e] at hret
  rw [Str.empty_append]
  exact hret _ _ _ (by assumption) (by assumption)
end
section
variable {w : World} {p : Program} {loose : List PStr} {mean : ExcName → Option Value} {mg mb : PStr → Option Value}
    {dp un : Nat} {gd : Option (List Code)} {cn : PStr} {cs : Scope} {a : Addr} {ccd : Value} {cl : List (PStr × Addr)} {outer : List Env} {A₀ : Around} {base h₀ : Heap} {L : Addr} {m : PStr → Option Value}
    {s : Shared} {Q E : Value → Shared → Prop} {news : Ldg}
    (B : Below A₀ base outer h₀) (X : (KK.heap_1 w.params).In h₀) (T : Top p loose mean mg mb h₀) (XB : (KK.heap_1 w.params).In base) (TB : Top p loose mean mg mb base) (D : KtsDicts (outer.filterMap (·.frame)) h₀) (hck : cs.kind = .function)
include B X T XB TB D hck
theorem join_nil2 {r l x : PStr} {t1 t2 : Tok} (hd5 : dp + 20 < recursionLimit) (hu5 : un + 200 < cLine) (F : Fr h₀ L s.heap m) (N : News h₀ L s.heap news)
   (hr : RepR r) (hl : (ndT r l x).length ≤ 70000)
   (hret : ∀ t h' tk, Fr h₀ L h' m → News h₀ L h' news → Q (.str (ndT r l x) t) { s with heap := h', toks := tk }) :
   wpAny (model PySem.Challenge.rw_pm0034_02.row.prog w) (ktrTop dp un gd cn cs L a ccd cl outer) (call (.ref 157) [.str (ndT r l x) t1, .str Str.empty t2]) Q E s := by
  walk_at "M fill"
  have h0 : Str.empty.length = 0 := rfl
  have hne := nd_ne (l := l) (x := x) hr
  walk_at "M enter"
  k_steps
  all_goals (
    (show Q _ _)
    rw [PySem.Str.append_empty]
    exact hret _ _ _ (by assumption) (by assumption))
end
section
variable {w : World} {p : Program} {loose : List PStr} {mean : ExcName → Option Value} {mg mb : PStr → Option Value}
    {dp un : Nat} {gd : Option (List Code)} {cn : PStr} {cs : Scope} {a : Addr} {ccd : Value} {cl : List (PStr × Addr)} {outer : List Env} {A₀ : Around} {base h₀ : Heap} {L : Addr} {m : PStr → Option Value}
    {s : Shared} {Q E : Value → Shared → Prop} {news : Ldg}
    (B : Below A₀ base outer h₀) (X : (KK.heap_1 w.params).In h₀) (T : Top p loose mean mg mb h₀) (XB : (KK.heap_1 w.params).In base) (TB : Top p loose mean mg mb base) (D : KtsDicts (outer.filterMap (·.frame)) h₀) (hck : cs.kind = .function)
include B X T XB TB D hck
theorem join_node {ar br : PStr} {al ax bl bx : Tr} {t1 t2 : Tok} (IHl : JoinOk ax (.node bl br bx)) (IHx : JoinOk (.node al ar ax) bl)
   (hd5 : dp + 20 + 5 * (al.size + 1 + ax.size + (bl.size + 1 + bx.size)) < recursionLimit) (hu5 : un + 200 + 50 * (al.size + 1 + ax.size + (bl.size + 1 + bx.size)) < cLine) (F : Fr h₀ L s.heap m) (N : News h₀ L s.heap news)
   (ha : (Tr.node al ar ax).Good) (hb : (Tr.node bl br bx).Good) (hs : al.size + 1 + ax.size + (bl.size + 1 + bx.size) ≤ 15)
   (hret : ∀ t h' tk, Fr h₀ L h' m → News h₀ L h' news → Q (.str (joinT (.node al ar ax) (.node bl br bx)).txt t) { s with heap := h', toks := tk }) :
   wpAny (model PySem.Challenge.rw_pm0034_02.row.prog w) (ktrTop dp un gd cn cs L a ccd cl outer) (call (.ref 157) [.str (ndT ar al.txt ax.txt) t1, .str (ndT br bl.txt bx.txt) t2]) Q E s := by
  walk_at "M fill"
  obtain ⟨hal, har, hax⟩ := id ha
  obtain ⟨hbl, hbr, hbx⟩ := id hb
  have hxa := Tr.headOk hax
  have hxb := Tr.headOk hbx
  have hla : (ndT ar al.txt ax.txt).length ≤ 70000 := Tr.le7 ha (by show al.size + 1 + ax.size ≤ 15; omega)
  have hlb : (ndT br bl.txt bx.txt).length ≤ 70000 := Tr.le7 hb (by show bl.size + 1 + bx.size ≤ 15; omega)
  have hlsa := nd_lens hla
  have hlsb := nd_lens hlb
  have hra := har.len
  have hrb := hbr.len
  have hl1 := join_len hax hb (by show ax.size + (bl.size + 1 + bx.size) ≤ 15; omega)
  have hl2 := join_len ha hbl (by show al.size + 1 + ax.size + bl.size ≤ 15; omega)
  have hnea := nd_ne (l := al.txt) (x := ax.txt) har
  have hneb := nd_ne (l := bl.txt) (x := bx.txt) hbr
  have h5a := har.len5 (l := al.txt) (x := ax.txt)
  have h5b := hbr.len5 (l := bl.txt) (x := bx.txt)
  walk_at "M enter"
  k_steps
  · exact absurd (eq_of_beq (by assumption)) hnea
  · exact absurd (eq_of_beq (by assumption)) hneb
  · refine Hold.out ?_
    have e := join_pos (al := al) (ax := ax) (bl := bl) (bx := bx) ((let_lt har hbr).mp (by assumption))
    rw [e] at hret
    refine' IHl.go ?kB ?kX ?kT ?kXB ?kTB ?kD ?kh ?kd ?ku ?kF ?kN ?k5 ?k6 ?k7 ?_; (case kB => assumption); (case kX => assumption); (case kT => assumption); (case kXB => assumption); (case kTB => assumption); (case kD => assumption); (case kh => rfl); (case kd => ((try dsimp only [Tr.size]); omega)); (case ku => ((try dsimp only [Tr.size]); omega)); (case kF => with_reducible assumption); (case kN => with_reducible assumption); (case k5 => exact hax); (case k6 => exact hb); (case k7 => (show ax.size + (bl.size + 1 + bx.size) ≤ 15; omega))
    intro tH hH tkH FH NH
    k_steps
    (show Q _ _)
    exact hret _ _ _ (by assumption) (news_drop1 (by assumption))
  · refine Hold.out ?_
    have e := join_neg (al := al) (ax := ax) (bl := bl) (bx := bx) (fun c => absurd ((let_lt har hbr).mpr c) (by assumption))
    rw [e] at hret
    refine' IHx.go ?kB ?kX ?kT ?kXB ?kTB ?kD ?kh ?kd ?ku ?kF ?kN ?k5 ?k6 ?k7 ?_; (case kB => assumption); (case kX => assumption); (case kT => assumption); (case kXB => assumption); (case kTB => assumption); (case kD => assumption); (case kh => rfl); (case kd => ((try dsimp only [Tr.size]); omega)); (case ku => ((try dsimp only [Tr.size]); omega)); (case kF => with_reducible assumption); (case kN => with_reducible assumption); (case k5 => exact ha); (case k6 => exact hbl); (case k7 => (show al.size + 1 + ax.size + bl.size ≤ 15; omega))
    intro tH hH tkH FH NH
    k_steps
    (show Q _ _)
    exact hret _ _ _ (by assumption) (news_drop1 (by assumption))
end
theorem join_nil_r {al ax : Tr} {ar : PStr} : joinT (.node al ar ax) .nil = .node al ar ax := by rw [joinT]
theorem join_all : ∀ x y : Tr, JoinOk x y
  | .nil, y => ⟨fun B X T XB TB D hck _ _ h1 h2 F N _ hy hs hret => join_nil1 B X T XB TB D hck (by omega) (by omega) F N (Tr.le7 hy (by have : Tr.nil.size = 0 := rfl; omega)) hret⟩
  | .node al ar ax, .nil => ⟨fun B X T XB TB D hck _ _ h1 h2 F N hx _ hs hret => join_nil2 B X T XB TB D hck (by omega) (by omega) F N hx.2.1 (Tr.le7 hx (by omega)) (by rw [join_nil_r] at hret; exact hret)⟩
  | .node al ar ax, .node bl br bx => ⟨fun B X T XB TB D hck _ _ h1 h2 F N hx hy hs hret => join_node B X T XB TB D hck (join_all ax (.node bl br bx)) (join_all (.node al ar ax) bl) h1 h2 F N hx hy hs hret⟩
  termination_by x y => x.size + y.size
  decreasing_by all_goals (simp only [Tr.size]; omega)
end
section
theorem lines_WO_0 : True := by
  k_with_none
  k_with "execs cons" => ((refine f_execs ?_; intro qk))
  k_with "eval BinOp" => ((refine f_BinOp ?_; intro qk))
  k_with "exec Assign" => ((refine f_Assign ?_; intro qk))
  k_with "eval Subscript" => ((refine f_Subscript ?_; intro qk))
  k_with "isTrue Compare" => ((refine f_Compare ?_; intro qk))
  k_with "exec If" => ((refine f_If ?_; intro qk))
  k_with "eval Call" => (((fail_if_success (with_reducible show wpAny _ _ (eval (Expr.Call (Expr.Attribute _ _ _) _ _ _) _) _ _ _)); refine f_Call ?_; intro qk))
  k_with "spliced" => ((refine f_args ?_; intro qk))
  k_with "callWith" => ((refine f_method1 ?_; intro qk))
  k_with "exec Return some" => ((refine f_Return ?_; intro qk))
  k_with "eval Tuple" => ((refine f_Tuple ?_; intro qk))
  k_with "eval List" => ((refine f_List ?_; intro qk))
  k_with "eval IfExp" => ((refine f_IfExp ?_; intro qk))
  k_with "storeName" => ((k_here; k_dflt (refine' f_store ?F ?N ?_ ?a ?b; (case F => k_asm); (case N => k_asm); (case a => rfl); (case b => rfl); k_whole; intro m' h' F' N'; (try k_sweep))))
  k_with "M map1" => (first
    | (refine map_same ?_; with_unfolding_all rfl)
    | ((repeat' (refine List.forall_mem_cons.mpr (And.intro ?_ ?_))); (all_goals first | rfl | exact List.forall_mem_nil _)))
  k_with "M map2" => (first
    | (refine SameOut.both (b := fun _ => none) ?_ ?_ <;> (repeat (refine SameOut.upd ?_ (by with_unfolding_all rfl))) <;> exact SameOut.lookup rfl)
    | (refine' SameOut.both (b := ?kb) ?k1 ?k2; (case k1 => ((repeat (refine SameOut.upd ?_ (by with_unfolding_all rfl))); exact SameOut.refl)); (case k2 => ((repeat (refine SameOut.upd ?_ (by with_unfolding_all rfl))); exact SameOut.refl)))
    | (refine' SameOut.both (b := ?kb) ?k1 ?k2; (case k2 => ((repeat (refine SameOut.upd ?_ (by with_unfolding_all rfl))); exact SameOut.refl)); (case k1 => ((repeat (refine SameOut.skip ?_)); (repeat (refine SameOut.upd ?_ (by with_unfolding_all rfl))); exact SameOut.refl)))
    | (intro y hy; (repeat (refine (if_neg (ne_of_out hy (by with_unfolding_all rfl))).trans ?_)); (refine Eq.symm ?_); (repeat (refine (if_neg (ne_of_out hy (by with_unfolding_all rfl))).trans ?_)); first | rfl | exact lookup_out rfl hy | exact (lookup_out rfl hy).symm | exact (lookup_out rfl hy).trans (lookup_out rfl hy).symm))
  k_with "M fill" => ((
    have kk : PySem.Challenge.rw_pm0034_02 = PySem.Challenge.rw_pm0034_02 ∧ KK.heap_1 = KK.heap_1 := ⟨rfl, rfl⟩
    revert kk
    k_fill
    intro kk
    clear kk))
  k_with "M enter" => ((
    refine wpAny_call ?_
    k_dflt (refine' code_def ?k1 ?k2 ?k3 ?k4 ?k5 ?kA ?kF ?kK ?k6 ?k7 ?k8 ?k9 ?kB ?_ ?c2 ?c3 ?c4 ?c5; (case kA => exact rfl); (case kF => exact rfl); (case kK => assumption); (case k1 => k_asm); (case k2 => k_asm); (case k3 => k_asm); (case k4 => k_asm); (case k5 => k_asm); (case k6 => k_is); (case k7 => k_is); (case k8 => ((try dsimp only); omega)); (case k9 => first | exact BindsTo.of_eq rfl | (refine' kp_binds ?kx ?ke; (case kx => first | (refine' myIn ?kf ?ki; (case kf => with_reducible assumption); (case ki => with_reducible assumption)) | k_in); (case ke => exact fun _ => rfl)) | exact binds_K (by first | (refine' myIn ?kf ?ki; (case kf => with_reducible assumption); (case ki => with_reducible assumption)) | k_in) rfl (by k_is) rfl rfl rfl); (case c5 => decide); (case kB => exact locs rfl); (case c2 => exact rfl); (case c3 => exact rfl); (case c4 => exact rfl); k_whole; intro g' L' h' FG' F' N' B' X' T'; (have D' := kts_dict B' (by assumption) FG' rfl); (try dsimp only); (try k_lift B'); (refine let_AE (f := execs _) ?_; intro vk ak); (refine f_QE ?_; intro qk ek))))
  k_with "M enter0" => ((
    refine wpAny_call ?_
    k_dflt (refine' code_defS0X ?k1 ?k2 ?k3 ?k4 ?k5 ?kA ?kF ?kK ?k6 ?k7 ?k8 ?k9 ?kB ?_ ?c2 ?c3 ?c4 ?c5; (case kA => exact rfl); (case kF => exact rfl); (case kK => assumption); (case k1 => k_asm); (case k2 => k_asm); (case k3 => k_asm); (case k4 => k_asm); (case k5 => k_asm); (case k6 => k_is); (case k7 => k_is); (case k8 => ((try dsimp only); omega)); (case k9 => first | exact BindsTo.of_eq rfl | (refine' kp_binds ?kx ?ke; (case kx => first | (refine' myIn ?kf ?ki; (case kf => with_reducible assumption); (case ki => with_reducible assumption)) | k_in); (case ke => exact fun _ => rfl)) | exact binds_K (by first | (refine' myIn ?kf ?ki; (case kf => with_reducible assumption); (case ki => with_reducible assumption)) | k_in) rfl (by k_is) rfl rfl rfl); (case c5 => decide); (case kB => exact locs rfl); (case c2 => exact rfl); (case c3 => exact rfl); (case c4 => exact rfl); k_whole; intro g' L' h' FG' F' N' B' X' T' D'; (try dsimp only); (try k_lift B'); (refine let_AE (f := execs _) ?_; intro vk ak); (refine f_QE ?_; intro qk ek))))
  trivial
local macro_rules | `(tactic| k_mem) => `(tactic| first | with_reducible assumption | (refine mem_in ?_; with_reducible assumption))
theorem lines_WO_1 : True := by
  k_with "subscriptTail Name Constant ref int" => ((k_here; refine item_tupleT (News.isTup (by assumption) (by k_mem)) (by decide) (by decide) (by rfl) (by rfl) ?_))
  k_with "subscriptTail Name Constant ref int" => ((k_here; (with_reducible rename StrsAre _ _ => hSA); refine item_strsA (News.isList (by assumption) (by k_mem)) hSA (by decide) (by first | omega | (simp only [List.length_map]; omega)) (by decide) ?_; intro t'))
  k_with "call type:ValueError" => ((refine call_ValueError_made ?_; intro _ _ _))
  k_with "exec While Compare Name cons nil" => (refine Hold.mk ?_)
  k_with "exec While Compare" => (refine Hold.mk ?_)
  k_with "exec While Compare cons nil" => (refine Hold.mk ?_)
  k_with "exec While" => (refine Hold.mk ?_)
  k_with "binaryOp FloorDiv int int" => ((k_here; (with_reducible refine floordiv_pos ?kb1 ?kb2 ?_); (case kb1 => decide); (case kb2 => decide +kernel)))
  k_with "WhlIf" => ((refine whlIf_dec ?_ ?_ <;> intro _))
  k_with "subscriptTail Name Name ref int" => ((k_here; first
    | ((with_reducible rename StrsAre _ _ => hSA); refine item_strsA (News.isList (by assumption) (by k_mem)) hSA (by omega) (by omega) (by omega) ?_; intro t')
    | ((with_reducible rename IntsAre _ _ => hSA); refine item_intsA (News.isList (by assumption) (by k_mem)) hSA (by omega) (by omega) (by omega) ?_; intro t')))
  k_with "call builtin:len" => ((k_here; (with_reducible show wpAny _ _ (call (Value.builtin "len") [Value.ref _]) _ _ _); first
    | ((with_reducible rename StrsAre _ _ => hSA); refine len_strsA (News.isList (by assumption) (by k_mem)) hSA (by omega) ?_)
    | ((with_reducible rename IntsAre _ _ => hSA); refine len_intsA (News.isList (by assumption) (by k_mem)) hSA (by omega) ?_)))
  k_with "binaryOp Add str str" => ((k_here; (with_reducible show wpAny _ _ (binaryOp Operator.Add (Value.str _ _) (Value.str _ _)) _ _ _); refine add_lb (K := 800000) (L := 800000) ?kb ?kd ?ke ?_; (case kb => omega); (case kd => omega); (case ke => decide); intro _ _ hk hl; (try dsimp only at hk)))
  k_with "call builtin:str.replace" => ((k_here; (with_reducible show wpAny _ _ (call (Value.builtin "str.replace") [Value.str _ _, Value.str _ _, Value.str _ _]) _ _ _); refine rep_dbl ?a1 ?a2 ?a3 ?a4 ?_; (case a1 => ((show @Ne Nat _ _); first | omega | ((try dsimp only); omega))); (case a2 => ((show @Ne Nat _ _); first | omega | ((try dsimp only); omega))); (case a3 => ((show @Ne Nat _ _); first | omega | ((try dsimp only); omega))); (case a4 => omega); intro _ _ hk hr; (try dsimp only at hk)))
  k_with "call ref" => (((with_reducible show wpAny _ _ (call (Value.ref 143) [Value.str (ndT _ _ _) _]) _ _ _); refine' parts_nd ?kB ?kX ?kT ?kXB ?kTB ?kD ?kh ?kd ?ku ?kF ?kN ?k5 ?k6 ?k7 ?_; (case kB => assumption); (case kX => assumption); (case kT => assumption); (case kXB => assumption); (case kTB => assumption); (case kD => assumption); (case kh => rfl); (case kd => ((try dsimp only); omega)); (case ku => ((try dsimp only); omega)); (case kF => with_reducible assumption); (case kN => with_reducible assumption); (case k5 => with_reducible assumption); (case k6 => with_reducible assumption); (case k7 => with_reducible assumption); intro dP tP tP' tP'' hP tkP FP NP ltP))
  k_with "call ref" => (((with_reducible show wpAny _ _ (call (Value.ref 108) [Value.str (ndT _ _ _) _]) _ _ _); refine' port_nd ?kB ?kX ?kT ?kXB ?kTB ?kD ?kh ?kd ?ku ?kF ?kN ?k5 ?k7 ?_; (case kB => assumption); (case kX => assumption); (case kT => assumption); (case kXB => assumption); (case kTB => assumption); (case kD => assumption); (case kh => rfl); (case kd => ((try dsimp only); omega)); (case ku => ((try dsimp only); omega)); (case kF => with_reducible assumption); (case kN => with_reducible assumption); (case k5 => with_reducible assumption); (case k7 => with_reducible assumption); intro tP hP tkP FP NP))
  k_with "call ref" => (((with_reducible show wpAny _ _ (call (Value.ref 136) _) _ _ _); refine' node_spec ?kB ?kX ?kT ?kXB ?kTB ?kD ?kh ?kd ?ku ?kF ?kN ?k5 ?k6 ?k7 ?_; (case kB => assumption); (case kX => assumption); (case kT => assumption); (case kXB => assumption); (case kTB => assumption); (case kD => assumption); (case kh => rfl); (case kd => ((try dsimp only); omega)); (case ku => ((try dsimp only); omega)); (case kF => with_reducible assumption); (case kN => with_reducible assumption); (case k5 => first | assumption | omega | decide); (case k6 => first | assumption | omega | decide); (case k7 => first | assumption | omega | decide); intro tP hP tkP FP NP))
  trivial
theorem without_good {t : Tr} {p : Nat} (h : t.Good) (hp : p < t.size) : (withoutT t p).Good := by
  rw [Tr.good_iff] at h ⊢
  intro y hy
  exact h y (without_mem hp hy)
theorem without_size {t : Tr} {p : Nat} (hp : p < t.size) : (withoutT t p).size + 1 = t.size := by
  rw [← Tr.row_len, without_row hp, List.length_eraseIdx_of_lt (by rw [Tr.row_len]; exact hp), Tr.row_len]; omega
theorem without_len {t : Tr} {p : Nat} (h : t.Good) (hp : p < t.size) (hs : t.size ≤ 15) : (withoutT t p).txt.length ≤ 70000 :=
  Tr.le7 (without_good h hp) (by have := without_size hp; omega)
theorem wo_at {l x : Tr} {r : PStr} : (withoutT (.node l r x) l.size) = joinT l x := by
  unfold withoutT; rw [if_pos rfl]
theorem wo_left {l x : Tr} {r : PStr} {p : Nat} (h : p < l.size) : (withoutT (.node l r x) p).txt = ndT r (withoutT l p).txt x.txt := by
  conv => lhs; unfold withoutT
  rw [if_neg (Nat.ne_of_lt h), if_pos h]; rfl
theorem wo_right {l x : Tr} {r : PStr} {p : Nat} (h : ¬ p < l.size) (h' : p ≠ l.size) : (withoutT (.node l r x) p).txt = ndT r l.txt (withoutT x (p - l.size - 1)).txt := by
  conv => lhs; unfold withoutT
  rw [if_neg h', if_neg h]; rfl
/-- _law_without on a tree's text -/
structure WithoutOk (t : Tr) : Prop where
  go : ∀ {w : World} {p : Program} {loose : List PStr} {mean : ExcName → Option Value} {mg mb : PStr → Option Value} {dp un : Nat} {gd : Option (List Code)} {cn : PStr} {cs : Scope} {a : Addr} {ccd : Value} {cl : List (PStr × Addr)} {outer : List Env} {A₀ : Around} {base h₀ : Heap} {L : Addr} {m : PStr → Option Value} {s : Shared} {Q E : Value → Shared → Prop} {news : Ldg} (B : Below A₀ base outer h₀) (X : (KK.heap_1 w.params).In h₀) (T : Top p loose mean mg mb h₀) (XB : (KK.heap_1 w.params).In base) (TB : Top p loose mean mg mb base) (D : KtsDicts (outer.filterMap (·.frame)) h₀) (hck : cs.kind = .function) {t1 t2 : Tok} {pl : Nat} {pi : Int}, dp + 30 + 5 * t.size < recursionLimit → un + 300 + 50 * t.size < cLine → Fr h₀ L s.heap m → News h₀ L s.heap news → t.Good → t.size ≤ 15 → pi = (pl : Int) → pl < t.size →
   (∀ t' h' tk, Fr h₀ L h' m → News h₀ L h' news → Q (.str (withoutT t pl).txt t') { s with heap := h', toks := tk }) →
   wpAny (model PySem.Challenge.rw_pm0034_02.row.prog w) (ktrTop dp un gd cn cs L a ccd cl outer) (call (.ref 164) [.str t.txt t1, .int pi t2]) Q E s
theorem lines_WO_2 : True := by
  k_with "call ref" => (((with_reducible show wpAny _ _ (call (Value.ref 164) _) _ _ _); refine Hold.mk ?_))
  k_with "call ref" => (((with_reducible show wpAny _ _ (call (Value.ref 157) _) _ _ _); refine Hold.mk ?_))
  k_with "call builtin:str.count" => ((k_here; (refine count_tr ?kg ?_); (case kg => with_reducible assumption)))
  trivial
theorem count_tr {prog : Program} {w : World} {A : Around} {E : Value → Shared → Prop} {s : Shared} {l : Tr} {t u : Tok} {Q : Value → Shared → Prop} (h : l.Good) (hq : Q (.int (l.size : Int) s.toks) { s with toks := s.toks + 1 }) : wpAny (model prog w) A (call (.builtin "str.count") [.str l.txt t, .str p229s u]) Q E s :=
  SC.count (by rw [Tr.count h]; exact hq)
section
variable {w : World} {p : Program} {loose : List PStr} {mean : ExcName → Option Value} {mg mb : PStr → Option Value}
    {dp un : Nat} {gd : Option (List Code)} {cn : PStr} {cs : Scope} {a : Addr} {ccd : Value} {cl : List (PStr × Addr)} {outer : List Env} {A₀ : Around} {base h₀ : Heap} {L : Addr} {m : PStr → Option Value}
    {s : Shared} {Q E : Value → Shared → Prop} {news : Ldg}
    (B : Below A₀ base outer h₀) (X : (KK.heap_1 w.params).In h₀) (T : Top p loose mean mg mb h₀) (XB : (KK.heap_1 w.params).In base) (TB : Top p loose mean mg mb base) (D : KtsDicts (outer.filterMap (·.frame)) h₀) (hck : cs.kind = .function)
include B X T XB TB D hck
theorem without_node {r : PStr} {l x : Tr} {t1 t2 : Tok} {pl : Nat} {pi : Int} (IHl : WithoutOk l) (IHx : WithoutOk x)
   (hd5 : dp + 30 + 5 * (l.size + 1 + x.size) < recursionLimit) (hu5 : un + 300 + 50 * (l.size + 1 + x.size) < cLine) (F : Fr h₀ L s.heap m) (N : News h₀ L s.heap news)
   (hg : (Tr.node l r x).Good) (hs : l.size + 1 + x.size ≤ 15) (hpi : pi = (pl : Int)) (hp : pl < l.size + 1 + x.size)
   (hret : ∀ t h' tk, Fr h₀ L h' m → News h₀ L h' news → Q (.str (withoutT (.node l r x) pl).txt t) { s with heap := h', toks := tk }) :
   wpAny (model PySem.Challenge.rw_pm0034_02.row.prog w) (ktrTop dp un gd cn cs L a ccd cl outer) (call (.ref 164) [.str (ndT r l.txt x.txt) t1, .int pi t2]) Q E s := by
  walk_at "M fill"
  subst hpi
  obtain ⟨hgl, hr, hgx⟩ := id hg
  have hx := Tr.headOk hgx
  have hl : (ndT r l.txt x.txt).length ≤ 70000 := Tr.le7 hg (by show l.size + 1 + x.size ≤ 15; omega)
  have hls := nd_lens hl
  have hrl := hr.len
  have hll : ∀ q, q < l.size → (withoutT l q).txt.length ≤ 70000 := fun q hq => without_len hgl hq (by omega)
  have hxl : ∀ q, q < x.size → (withoutT x q).txt.length ≤ 70000 := fun q hq => without_len hgx hq (by omega)
  walk_at "M enter"
  k_steps
  · have hpe : pl = l.size := by omega
    refine Hold.out ?_
    rw [hpe, wo_at] at hret
    refine' (join_all l x).go ?kB ?kX ?kT ?kXB ?kTB ?kD ?kh ?kd ?ku ?kF ?kN ?k5 ?k6 ?k7 ?_; (case kB => assumption); (case kX => assumption); (case kT => assumption); (case kXB => assumption); (case kTB => assumption); (case kD => assumption); (case kh => rfl); (case kd => ((try dsimp only [Tr.size]); omega)); (case ku => ((try dsimp only [Tr.size]); omega)); (case kF => with_reducible assumption); (case kN => with_reducible assumption); (case k5 => exact hgl); (case k6 => exact hgx); (case k7 => omega)
    intro tH hH tkH FH NH
    k_steps
    (show Q _ _)
    exact hret _ _ _ (by assumption) (news_drop1 (by assumption))
  · have hpe : pl < l.size := by omega
    have hlp := hll pl hpe
    refine Hold.out ?_
    rw [wo_left hpe] at hret
    refine' IHl.go (pl := pl) ?kB ?kX ?kT ?kXB ?kTB ?kD ?kh ?kd ?ku ?kF ?kN ?k5 ?k6 ?k7 ?k8 ?_; (case kB => assumption); (case kX => assumption); (case kT => assumption); (case kXB => assumption); (case kTB => assumption); (case kD => assumption); (case kh => rfl); (case kd => ((try dsimp only [Tr.size]); omega)); (case ku => ((try dsimp only [Tr.size]); omega)); (case kF => with_reducible assumption); (case kN => with_reducible assumption); (case k5 => exact hgl); (case k6 => omega); (case k7 => rfl); (case k8 => exact hpe)
    intro tH hH tkH FH NH
    k_steps
    (show Q _ _)
    exact hret _ _ _ (by assumption) (news_drop1 (by assumption))
  · have hpe : ¬ pl < l.size := by omega
    have hpn : pl ≠ l.size := by omega
    have hxp := hxl (pl - l.size - 1) (by omega)
    refine Hold.out ?_
    rw [wo_right hpe hpn] at hret
    refine' IHx.go (pl := pl - l.size - 1) ?kB ?kX ?kT ?kXB ?kTB ?kD ?kh ?kd ?ku ?kF ?kN ?k5 ?k6 ?k7 ?k8 ?_; (case kB => assumption); (case kX => assumption); (case kT => assumption); (case kXB => assumption); (case kTB => assumption); (case kD => assumption); (case kh => rfl); (case kd => ((try dsimp only [Tr.size]); omega)); (case ku => ((try dsimp only [Tr.size]); omega)); (case kF => with_reducible assumption); (case kN => with_reducible assumption); (case k5 => exact hgx); (case k6 => omega); (case k7 => omega); (case k8 => omega)
    intro tH hH tkH FH NH
    k_steps
    (show Q _ _)
    exact hret _ _ _ (by assumption) (news_drop1 (by assumption))
end
theorem without_all : ∀ t : Tr, WithoutOk t
  | .nil => ⟨fun B X T XB TB D hck _ _ _ _ h1 h2 F N _ _ _ hp hret => absurd hp (Nat.not_lt_zero _)⟩
  | .node l r x => ⟨fun B X T XB TB D hck _ _ _ _ h1 h2 F N hg hs hpi hp hret => without_node B X T XB TB D hck (without_all l) (without_all x) h1 h2 F N hg hs hpi hp hret⟩
end
section
theorem lines_TE_0 : True := by
  k_with_none
  k_with "execs cons" => ((refine f_execs ?_; intro qk))
  k_with "eval BinOp" => ((refine f_BinOp ?_; intro qk))
  k_with "exec Assign" => ((refine f_Assign ?_; intro qk))
  k_with "eval Subscript" => ((refine f_Subscript ?_; intro qk))
  k_with "isTrue Compare" => ((refine f_Compare ?_; intro qk))
  k_with "exec If" => ((refine f_If ?_; intro qk))
  k_with "eval Call" => (((fail_if_success (with_reducible show wpAny _ _ (eval (Expr.Call (Expr.Attribute _ _ _) _ _ _) _) _ _ _)); refine f_Call ?_; intro qk))
  k_with "spliced" => ((refine f_args ?_; intro qk))
  k_with "callWith" => ((refine f_method1 ?_; intro qk))
  k_with "exec Return some" => ((refine f_Return ?_; intro qk))
  k_with "eval Tuple" => ((refine f_Tuple ?_; intro qk))
  k_with "eval List" => ((refine f_List ?_; intro qk))
  k_with "eval IfExp" => ((refine f_IfExp ?_; intro qk))
  k_with "storeName" => ((k_here; k_dflt (refine' f_store ?F ?N ?_ ?a ?b; (case F => k_asm); (case N => k_asm); (case a => rfl); (case b => rfl); k_whole; intro m' h' F' N'; (try k_sweep))))
  k_with "M map1" => (first
    | (refine map_same ?_; with_unfolding_all rfl)
    | ((repeat' (refine List.forall_mem_cons.mpr (And.intro ?_ ?_))); (all_goals first | rfl | exact List.forall_mem_nil _)))
  k_with "M map2" => (first
    | (refine SameOut.both (b := fun _ => none) ?_ ?_ <;> (repeat (refine SameOut.upd ?_ (by with_unfolding_all rfl))) <;> exact SameOut.lookup rfl)
    | (refine' SameOut.both (b := ?kb) ?k1 ?k2; (case k1 => ((repeat (refine SameOut.upd ?_ (by with_unfolding_all rfl))); exact SameOut.refl)); (case k2 => ((repeat (refine SameOut.upd ?_ (by with_unfolding_all rfl))); exact SameOut.refl)))
    | (refine' SameOut.both (b := ?kb) ?k1 ?k2; (case k2 => ((repeat (refine SameOut.upd ?_ (by with_unfolding_all rfl))); exact SameOut.refl)); (case k1 => ((repeat (refine SameOut.skip ?_)); (repeat (refine SameOut.upd ?_ (by with_unfolding_all rfl))); exact SameOut.refl)))
    | (intro y hy; (repeat (refine (if_neg (ne_of_out hy (by with_unfolding_all rfl))).trans ?_)); (refine Eq.symm ?_); (repeat (refine (if_neg (ne_of_out hy (by with_unfolding_all rfl))).trans ?_)); first | rfl | exact lookup_out rfl hy | exact (lookup_out rfl hy).symm | exact (lookup_out rfl hy).trans (lookup_out rfl hy).symm))
  k_with "M fill" => ((
    have kk : PySem.Challenge.rw_pm0034_02 = PySem.Challenge.rw_pm0034_02 ∧ KK.heap_1 = KK.heap_1 := ⟨rfl, rfl⟩
    revert kk
    k_fill
    intro kk
    clear kk))
  k_with "M enter" => ((
    refine wpAny_call ?_
    k_dflt (refine' code_def ?k1 ?k2 ?k3 ?k4 ?k5 ?kA ?kF ?kK ?k6 ?k7 ?k8 ?k9 ?kB ?_ ?c2 ?c3 ?c4 ?c5; (case kA => exact rfl); (case kF => exact rfl); (case kK => assumption); (case k1 => k_asm); (case k2 => k_asm); (case k3 => k_asm); (case k4 => k_asm); (case k5 => k_asm); (case k6 => k_is); (case k7 => k_is); (case k8 => ((try dsimp only); omega)); (case k9 => first | exact BindsTo.of_eq rfl | (refine' kp_binds ?kx ?ke; (case kx => first | (refine' myIn ?kf ?ki; (case kf => with_reducible assumption); (case ki => with_reducible assumption)) | k_in); (case ke => exact fun _ => rfl)) | exact binds_K (by first | (refine' myIn ?kf ?ki; (case kf => with_reducible assumption); (case ki => with_reducible assumption)) | k_in) rfl (by k_is) rfl rfl rfl); (case c5 => decide); (case kB => exact locs rfl); (case c2 => exact rfl); (case c3 => exact rfl); (case c4 => exact rfl); k_whole; intro g' L' h' FG' F' N' B' X' T'; (have D' := kts_dict B' (by assumption) FG' rfl); (try dsimp only); (try k_lift B'); (refine let_AE (f := execs _) ?_; intro vk ak); (refine f_QE ?_; intro qk ek))))
  k_with "M enter0" => ((
    refine wpAny_call ?_
    k_dflt (refine' code_defS0X ?k1 ?k2 ?k3 ?k4 ?k5 ?kA ?kF ?kK ?k6 ?k7 ?k8 ?k9 ?kB ?_ ?c2 ?c3 ?c4 ?c5; (case kA => exact rfl); (case kF => exact rfl); (case kK => assumption); (case k1 => k_asm); (case k2 => k_asm); (case k3 => k_asm); (case k4 => k_asm); (case k5 => k_asm); (case k6 => k_is); (case k7 => k_is); (case k8 => ((try dsimp only); omega)); (case k9 => first | exact BindsTo.of_eq rfl | (refine' kp_binds ?kx ?ke; (case kx => first | (refine' myIn ?kf ?ki; (case kf => with_reducible assumption); (case ki => with_reducible assumption)) | k_in); (case ke => exact fun _ => rfl)) | exact binds_K (by first | (refine' myIn ?kf ?ki; (case kf => with_reducible assumption); (case ki => with_reducible assumption)) | k_in) rfl (by k_is) rfl rfl rfl); (case c5 => decide); (case kB => exact locs rfl); (case c2 => exact rfl); (case c3 => exact rfl); (case c4 => exact rfl); k_whole; intro g' L' h' FG' F' N' B' X' T' D'; (try dsimp only); (try k_lift B'); (refine let_AE (f := execs _) ?_; intro vk ak); (refine f_QE ?_; intro qk ek))))
  trivial
local macro_rules | `(tactic| k_mem) => `(tactic| first | with_reducible assumption | (refine mem_in ?_; with_reducible assumption))
theorem lines_TE_1 : True := by
  k_with "subscriptTail Name Constant ref int" => ((k_here; refine item_tupleT (News.isTup (by assumption) (by k_mem)) (by decide) (by decide) (by rfl) (by rfl) ?_))
  k_with "subscriptTail Name Constant ref int" => ((k_here; (with_reducible rename StrsAre _ _ => hSA); refine item_strsA (News.isList (by assumption) (by k_mem)) hSA (by decide) (by first | omega | (simp only [List.length_map]; omega)) (by decide) ?_; intro t'))
  k_with "call type:ValueError" => ((refine call_ValueError_made ?_; intro _ _ _))
  k_with "exec While Compare Name cons nil" => (refine Hold.mk ?_)
  k_with "exec While Compare" => (refine Hold.mk ?_)
  k_with "exec While Compare cons nil" => (refine Hold.mk ?_)
  k_with "exec While" => (refine Hold.mk ?_)
  k_with "binaryOp FloorDiv int int" => ((k_here; (with_reducible refine floordiv_pos ?kb1 ?kb2 ?_); (case kb1 => decide); (case kb2 => decide +kernel)))
  k_with "WhlIf" => ((refine whlIf_dec ?_ ?_ <;> intro _))
  k_with "subscriptTail Name Name ref int" => ((k_here; first
    | ((with_reducible rename StrsAre _ _ => hSA); refine item_strsA (News.isList (by assumption) (by k_mem)) hSA (by omega) (by omega) (by omega) ?_; intro t')
    | ((with_reducible rename IntsAre _ _ => hSA); refine item_intsA (News.isList (by assumption) (by k_mem)) hSA (by omega) (by omega) (by omega) ?_; intro t')))
  k_with "call builtin:len" => ((k_here; (with_reducible show wpAny _ _ (call (Value.builtin "len") [Value.ref _]) _ _ _); first
    | ((with_reducible rename StrsAre _ _ => hSA); refine len_strsA (News.isList (by assumption) (by k_mem)) hSA (by omega) ?_)
    | ((with_reducible rename IntsAre _ _ => hSA); refine len_intsA (News.isList (by assumption) (by k_mem)) hSA (by omega) ?_)))
  k_with "binaryOp Add str str" => ((k_here; (with_reducible show wpAny _ _ (binaryOp Operator.Add (Value.str _ _) (Value.str _ _)) _ _ _); refine add_lb (K := 800000) (L := 800000) ?kb ?kd ?ke ?_; (case kb => omega); (case kd => omega); (case ke => decide); intro _ _ hk hl; (try dsimp only at hk)))
  k_with "call builtin:str.replace" => ((k_here; (with_reducible show wpAny _ _ (call (Value.builtin "str.replace") [Value.str _ _, Value.str _ _, Value.str _ _]) _ _ _); refine rep_dbl ?a1 ?a2 ?a3 ?a4 ?_; (case a1 => ((show @Ne Nat _ _); first | omega | ((try dsimp only); omega))); (case a2 => ((show @Ne Nat _ _); first | omega | ((try dsimp only); omega))); (case a3 => ((show @Ne Nat _ _); first | omega | ((try dsimp only); omega))); (case a4 => omega); intro _ _ hk hr; (try dsimp only at hk)))
  k_with "call ref" => (((with_reducible show wpAny _ _ (call (Value.ref 143) [Value.str (ndT _ _ _) _]) _ _ _); refine' parts_nd ?kB ?kX ?kT ?kXB ?kTB ?kD ?kh ?kd ?ku ?kF ?kN ?k5 ?k6 ?k7 ?_; (case kB => assumption); (case kX => assumption); (case kT => assumption); (case kXB => assumption); (case kTB => assumption); (case kD => assumption); (case kh => rfl); (case kd => ((try dsimp only); omega)); (case ku => ((try dsimp only); omega)); (case kF => with_reducible assumption); (case kN => with_reducible assumption); (case k5 => with_reducible assumption); (case k6 => with_reducible assumption); (case k7 => with_reducible assumption); intro dP tP tP' tP'' hP tkP FP NP ltP))
  k_with "call ref" => (((with_reducible show wpAny _ _ (call (Value.ref 108) [Value.str (ndT _ _ _) _]) _ _ _); refine' port_nd ?kB ?kX ?kT ?kXB ?kTB ?kD ?kh ?kd ?ku ?kF ?kN ?k5 ?k7 ?_; (case kB => assumption); (case kX => assumption); (case kT => assumption); (case kXB => assumption); (case kTB => assumption); (case kD => assumption); (case kh => rfl); (case kd => ((try dsimp only); omega)); (case ku => ((try dsimp only); omega)); (case kF => with_reducible assumption); (case kN => with_reducible assumption); (case k5 => with_reducible assumption); (case k7 => with_reducible assumption); intro tP hP tkP FP NP))
  k_with "call ref" => (((with_reducible show wpAny _ _ (call (Value.ref 136) _) _ _ _); refine' node_spec ?kB ?kX ?kT ?kXB ?kTB ?kD ?kh ?kd ?ku ?kF ?kN ?k5 ?k6 ?k7 ?_; (case kB => assumption); (case kX => assumption); (case kT => assumption); (case kXB => assumption); (case kTB => assumption); (case kD => assumption); (case kh => rfl); (case kd => ((try dsimp only); omega)); (case ku => ((try dsimp only); omega)); (case kF => with_reducible assumption); (case kN => with_reducible assumption); (case k5 => first | assumption | omega | decide); (case k6 => first | assumption | omega | decide); (case k7 => first | assumption | omega | decide); intro tP hP tkP FP NP))
  trivial
/-- the lambda's code object stands -/
structure LamIn (news : Ldg) : Prop where
  c : ∃ c' oc vs tq, (166, tabObj #[rawInt 154, rawInt 31, .ref c']) ∈ news ∧ (c', oc) ∈ news ∧ oc.data = .fields vs ∧ vs[1]? = some (.str (Str.ofString "_law_tree.<locals>.<lambda>") tq)
/-- _law_tree on a row -/
structure TreeOk (t : Tr) : Prop where
  go : ∀ {w : World} {p : Program} {loose : List PStr} {mean : ExcName → Option Value} {mg mb : PStr → Option Value} {dp un : Nat} {gd : Option (List Code)} {cn : PStr} {cs : Scope} {a : Addr} {ccd : Value} {cl : List (PStr × Addr)} {outer : List Env} {A₀ : Around} {base h₀ : Heap} {L : Addr} {m : PStr → Option Value} {s : Shared} {Q E : Value → Shared → Prop} {news : Ldg} (B : Below A₀ base outer h₀) (X : (KK.heap_1 w.params).In h₀) (T : Top p loose mean mg mb h₀) (XB : (KK.heap_1 w.params).In base) (TB : Top p loose mean mg mb base) (D : KtsDicts (outer.filterMap (·.frame)) h₀) (hck : cs.kind = .function) {d : Addr} {vs : List Value} {ep : Nat}, dp + 30 + 5 * t.size < recursionLimit → un + 300 + 50 * t.size < cLine → Fr h₀ L s.heap m → News h₀ L s.heap news → LamIn news → (d, lstOf vs ep) ∈ news → StrsAre vs t.row → t.Good → t.Hp → t.size ≤ 15 →
   (∀ t' h' tk, Fr h₀ L h' m → News h₀ L h' news → Q (.str t.txt t') { s with heap := h', toks := tk }) →
   wpAny (model PySem.Challenge.rw_pm0034_02.row.prog w) (ktrTop dp un gd cn cs L a ccd cl outer) (call (.ref 171) [.ref d]) Q E s
theorem lines_TE_2 : True := by
  k_with "call ref" => (((with_reducible show wpAny _ _ (call (Value.ref 171) _) _ _ _); refine Hold.mk ?_))
  k_with "compareOp Eq ref ref" => ((k_here; (with_reducible show wpAny _ _ (compareOp CmpOp.Eq (Value.ref _) (Value.ref _)) _ _ _); (refine' eq_nil_L ?N ?x ?y ?u ?_); (case N => with_reducible assumption); (case x => (refine List.Mem.tail _ ?_; k_mem)); (case y => exact .head _); (case u => dsimp only [ak]; first | units_room | k_room | ((try dsimp only); omega))))
  trivial
theorem RepR.let4y {y : PStr} (h : RepR y) : Txt.item y 4 = ⟨#[letOf y]⟩ := by
  obtain ⟨c, m, e, _⟩ := h.shape
  have e1 : letOf y = c := by unfold letOf; rw [e]; rfl
  rw [e1]
  exact (item_list (r := y) (i := 4) (t := 32 :: (m ++ [41])) (by rw [e]; rfl)).1
theorem RepR.len5y {y : PStr} (h : RepR y) : 5 ≤ y.length := by
  obtain ⟨c, m, e, _⟩ := h.shape
  rw [len_list, e]; simp
theorem lines_TE_3 : True := by
  k_with "eval Lambda" => ((k_here; k_dflt (refine' kla_eval ?d0 ?_; (case d0 => exact rfl)); refine Hold.mk ?_))
  trivial
section
variable {w : World} {p : Program} {loose : List PStr} {mean : ExcName → Option Value} {mg mb : PStr → Option Value}
    {dp un : Nat} {gd : Option (List Code)} {cn : PStr} {cs : Scope} {a : Addr} {ccd : Value} {cl : List (PStr × Addr)} {outer : List Env} {A₀ : Around} {base h₀ : Heap} {L : Addr} {m : PStr → Option Value}
    {s : Shared} {Q E : Value → Shared → Prop} {news : Ldg}
    (B : Below A₀ base outer h₀) (X : (KK.heap_1 w.params).In h₀) (T : Top p loose mean mg mb h₀) (XB : (KK.heap_1 w.params).In base) (TB : Top p loose mean mg mb base) (D : KtsDicts (outer.filterMap (·.frame)) h₀) (hck : cs.kind = .function)
include B X T XB TB D hck
theorem tree_nil {d : Addr} {ep : Nat} (hd5 : dp + 30 < recursionLimit) (hu5 : un + 300 < cLine) (F : Fr h₀ L s.heap m) (N : News h₀ L s.heap news) (hd : (d, lstOf [] ep) ∈ news)
   (hret : ∀ t h' tk, Fr h₀ L h' m → News h₀ L h' news → Q (.str Str.empty t) { s with heap := h', toks := tk }) :
   wpAny (model PySem.Challenge.rw_pm0034_02.row.prog w) (ktrTop dp un gd cn cs L a ccd cl outer) (call (.ref 171) [.ref d]) Q E s := by
  walk_at "M fill"
  have e0 : Str.empty = Str.ofString "" := by decide +kernel
  rw [e0] at hret
  walk_at "M enter"
  k_steps
  (show Q _ _)
  exact hret _ _ _ (by assumption) (news_drop1 (by assumption))
end
section
variable {w : World} {p : Program} {loose : List PStr} {mean : ExcName → Option Value} {mg mb : PStr → Option Value}
    {dp un : Nat} {gd : Option (List Code)} {cn : PStr} {cs : Scope} {a : Addr} {ccd : Value} {cl : List (PStr × Addr)} {outer : List Env} {A₀ : Around} {base h₀ : Heap} {L : Addr} {m : PStr → Option Value}
    {s : Shared} {Q E : Value → Shared → Prop} {news : Ldg}
    (B : Below A₀ base outer h₀) (X : (KK.heap_1 w.params).In h₀) (T : Top p loose mean mg mb h₀) (XB : (KK.heap_1 w.params).In base) (TB : Top p loose mean mg mb base) (D : KtsDicts (outer.filterMap (·.frame)) h₀) (hck : cs.kind = .function)
include B X T XB TB D hck
theorem tree_node {r : PStr} {l x : Tr} {d : Addr} {v1 v2 : List Value} {t0 : Tok} {ep : Nat} (IHl : TreeOk l) (IHx : TreeOk x)
   (hd5 : dp + 30 + 5 * (l.size + 1 + x.size) < recursionLimit) (hu5 : un + 300 + 50 * (l.size + 1 + x.size) < cLine) (F : Fr h₀ L s.heap m) (N : News h₀ L s.heap news) (hL : LamIn news)
   (hd : (d, lstOf (v1 ++ .str r t0 :: v2) ep) ∈ news) (h1 : StrsAre v1 l.row) (h2 : StrsAre v2 x.row) (hg : (Tr.node l r x).Good) (hh : (Tr.node l r x).Hp) (hs : l.size + 1 + x.size ≤ 15)
   (hret : ∀ t h' tk, Fr h₀ L h' m → News h₀ L h' news → Q (.str (ndT r l.txt x.txt) t) { s with heap := h', toks := tk }) :
   wpAny (model PySem.Challenge.rw_pm0034_02.row.prog w) (ktrTop dp un gd cn cs L a ccd cl outer) (call (.ref 171) [.ref d]) Q E s := by
  walk_at "M fill"
  obtain ⟨hgl, hr, hgx⟩ := id hg
  have hrl := hr.len
  have hll := Tr.le7 hgl (by omega)
  have hxl := Tr.le7 hgx (by omega)
  obtain ⟨c', oc, vs, tq, hL1, hL2, hL3, hL4⟩ := hL
  walk_at "M enter"
  k_steps
  refine Hold.out ?_
  k_dflt (refine' kla_hit (c' := c') (c := 170) (P := 166) ?kF ?kN ?kT ?kC ?kcd ?kmem ?kt ?kn ?kcl ?_)
  case kF => with_reducible assumption
  case kN => with_reducible assumption
  case kT => assumption
  case kC => exact codeHd_of_K (by assumption) (by kernel_rfl)
  case kcd => exact rfl
  case kmem => exact .tail _ hL1
  case kt => exact trivial
  case kn => exact rfl
  case kcl => exact rfl
  intro fL ctL hL tkL FL NL ltL
  k_steps
  kmk_kw
  with_unfolding_all refine' min_tr (l := l) (x := x) ?m0 ?mF ?mN ?mx h1 h2 hh ?mt ?mq
  case m0 => with_unfolding_all rfl
  case mF => with_reducible assumption
  case mN => with_reducible assumption
  case mx => (refine List.Mem.tail _ ?_; refine List.Mem.tail _ ?_; exact hd)
  case mt =>
    intro y ty hy tky own hym Fy Ny
    have hyR : RepR y := (Tr.good_iff _).mp hg y hym
    have hy4 : Txt.item y 4 = ⟨#[letOf y]⟩ := hyR.let4y
    have hy5 : 5 ≤ y.length := hyR.len5y
    have hyl := hyR.len
    refine wpAny_call ?_
    k_dflt (refine' kla_code ?k1 ?k2 ?k3 ?k4 ?k5 ?kA ?kF ?kK ?k6 ?k7 ?k8 ?k9 ?kB ?_ ?c2 ?c3 ?c4 ?c5)
    case kA => exact rfl
    case kF => exact rfl
    case kK => exact rfl
    case k1 => assumption
    case k2 => exact Fy
    case k3 => assumption
    case k4 => exact Ny
    case k5 => assumption
    case k6 => exact .head _
    case k7 => exact codeRec_news Ny (List.mem_append_left _ (.tail _ (.tail _ hL2))) hL3 hL4
    case k8 => first | (show dp + 1 < recursionLimit; omega) | (show dp + 2 < recursionLimit; omega) | (show dp + 3 < recursionLimit; omega)
    case k9 => exact rfl
    case c5 => decide
    case kB => exact locs rfl
    case c2 => exact rfl
    case c3 => exact rfl
    case c4 => exact rfl
    intro g2 L2 h2' FG2 F2' N2' B2' X2' T2'
    k_steps
    exact ⟨_, _, _, rfl, by rw [hy4], by assumption, by assumption⟩
  case mq =>
    intro hq tkq Fq Nq
    have hlr := l.row_len
    k_steps
    k_here
    refine' index_mid (a := l.row) (b := x.row) ?iN ?ix h1 h2 rfl ?if' ?iz ?_
    case iN => with_reducible assumption
    case ix => (refine List.Mem.tail _ ?_; refine List.Mem.tail _ ?_; exact hd)
    case if' => exact fun j z hj => (Tr.first hh).1 j z (by omega)
    case iz => omega
    k_steps
    k_here
    refine' item_mid (a := l.row) ?jN ?jx h1 rfl ?jz ?_
    case jN => with_reducible assumption
    case jx => (refine List.Mem.tail _ ?_; refine List.Mem.tail _ ?_; exact hd)
    case jz => omega
    k_steps
    k_here
    refine' slice_LA (zs := v1) ?zF ?zN ?zl ?zp ?zq ?zz (pick_l h1) ?_
    case zF => k_asm
    case zN => k_asm
    case zl => (refine List.Mem.tail _ ?_; refine List.Mem.tail _ ?_; exact hd)
    case zp => kmk_part
    case zq => kmk_part
    case zz => (rw [List.length_append, List.length_cons, h1.len_eq, h2.len_eq, l.row_len, x.row_len]; omega)
    intro D1 hD1 FD1 ND1 lD1
    k_steps
    refine Hold.out ?_
    refine' IHl.go ?kB ?kX ?kT ?kXB ?kTB ?kD ?kh ?kd ?ku ?kF ?kN ?kL ?kx ?k5 ?k6 ?k7 ?k8 ?_; (case kB => assumption); (case kX => assumption); (case kT => assumption); (case kXB => assumption); (case kTB => assumption); (case kD => assumption); (case kh => rfl); (case kd => ((try dsimp only [Tr.size]); omega)); (case ku => ((try dsimp only [Tr.size]); omega)); (case kF => with_reducible assumption); (case kN => with_reducible assumption)
    case kL => exact ⟨c', oc, vs, tq, .tail _ (.tail _ (.tail _ hL1)), .tail _ (.tail _ (.tail _ hL2)), hL3, hL4⟩
    case kx => exact .head _
    case k5 => exact h1
    case k6 => exact hgl
    case k7 => exact hh.1
    case k8 => omega
    intro tA hA tkA FA NA
    k_steps
    k_here
    refine' slice_LA (zs := v2) ?zF ?zN ?zl ?zp ?zq ?zz (pick_r h1) ?_
    case zF => k_asm
    case zN => k_asm
    case zl => (refine List.Mem.tail _ ?_; refine List.Mem.tail _ ?_; refine List.Mem.tail _ ?_; exact hd)
    case zp => kmk_part
    case zq => kmk_part
    case zz => (rw [List.length_append, List.length_cons, h1.len_eq, h2.len_eq, l.row_len, x.row_len]; omega)
    intro D2 hD2 FD2 ND2 lD2
    k_steps
    refine Hold.out ?_
    refine' IHx.go ?kB ?kX ?kT ?kXB ?kTB ?kD ?kh ?kd ?ku ?kF ?kN ?kL ?kx ?k5 ?k6 ?k7 ?k8 ?_; (case kB => assumption); (case kX => assumption); (case kT => assumption); (case kXB => assumption); (case kTB => assumption); (case kD => assumption); (case kh => rfl); (case kd => ((try dsimp only [Tr.size]); omega)); (case ku => ((try dsimp only [Tr.size]); omega)); (case kF => with_reducible assumption); (case kN => with_reducible assumption)
    case kL => exact ⟨c', oc, vs, tq, .tail _ (.tail _ (.tail _ (.tail _ hL1))), .tail _ (.tail _ (.tail _ (.tail _ hL2))), hL3, hL4⟩
    case kx => exact .head _
    case k5 => exact h2
    case k6 => exact hgx
    case k7 => exact hh.2.1
    case k8 => omega
    intro tB hB tkB FB NB
    k_steps
    (show Q _ _)
    exact hret _ _ _ (by assumption) (news_drop1 (news_drop1 (news_drop1 (news_drop1 (by assumption)))))
end
theorem tree_all : ∀ t : Tr, TreeOk t
  | .nil => ⟨fun B X T XB TB D hck _ vs _ h1 h2 F N _ hd hS _ _ _ hret => by
      have e : vs = [] := by cases hS; rfl
      subst e
      exact tree_nil B X T XB TB D hck (by omega) (by omega) F N hd hret⟩
  | .node l r x => ⟨fun B X T XB TB D hck _ vs _ h1 h2 F N hL hd hS hg hh hs hret => by
      obtain ⟨v1, t0, v2, rfl, s1, s2⟩ := strs_split (a := l.row) hS
      exact tree_node B X T XB TB D hck (tree_all l) (tree_all x) h1 h2 F N hL hd s1 s2 hg hh hs hret⟩
end
section
theorem lines_TF_0 : True := by
  k_with_none
  k_with "execs cons" => ((refine f_execs ?_; intro qk))
  k_with "eval BinOp" => ((refine f_BinOp ?_; intro qk))
  k_with "exec Assign" => ((refine f_Assign ?_; intro qk))
  k_with "eval Subscript" => ((refine f_Subscript ?_; intro qk))
  k_with "isTrue Compare" => ((refine f_Compare ?_; intro qk))
  k_with "exec If" => ((refine f_If ?_; intro qk))
  k_with "eval Call" => (((fail_if_success (with_reducible show wpAny _ _ (eval (Expr.Call (Expr.Attribute _ _ _) _ _ _) _) _ _ _)); refine f_Call ?_; intro qk))
  k_with "spliced" => ((refine f_args ?_; intro qk))
  k_with "callWith" => ((refine f_method1 ?_; intro qk))
  k_with "exec Return some" => ((refine f_Return ?_; intro qk))
  k_with "eval Tuple" => ((refine f_Tuple ?_; intro qk))
  k_with "eval List" => ((refine f_List ?_; intro qk))
  k_with "eval IfExp" => ((refine f_IfExp ?_; intro qk))
  k_with "storeName" => ((k_here; k_dflt (refine' f_store ?F ?N ?_ ?a ?b; (case F => k_asm); (case N => k_asm); (case a => rfl); (case b => rfl); k_whole; intro m' h' F' N'; (try k_sweep))))
  k_with "M map1" => (first
    | (refine map_same ?_; with_unfolding_all rfl)
    | ((repeat' (refine List.forall_mem_cons.mpr (And.intro ?_ ?_))); (all_goals first | rfl | exact List.forall_mem_nil _)))
  k_with "M map2" => (first
    | (refine SameOut.both (b := fun _ => none) ?_ ?_ <;> (repeat (refine SameOut.upd ?_ (by with_unfolding_all rfl))) <;> exact SameOut.lookup rfl)
    | (refine' SameOut.both (b := ?kb) ?k1 ?k2; (case k1 => ((repeat (refine SameOut.upd ?_ (by with_unfolding_all rfl))); exact SameOut.refl)); (case k2 => ((repeat (refine SameOut.upd ?_ (by with_unfolding_all rfl))); exact SameOut.refl)))
    | (refine' SameOut.both (b := ?kb) ?k1 ?k2; (case k2 => ((repeat (refine SameOut.upd ?_ (by with_unfolding_all rfl))); exact SameOut.refl)); (case k1 => ((repeat (refine SameOut.skip ?_)); (repeat (refine SameOut.upd ?_ (by with_unfolding_all rfl))); exact SameOut.refl)))
    | (intro y hy; (repeat (refine (if_neg (ne_of_out hy (by with_unfolding_all rfl))).trans ?_)); (refine Eq.symm ?_); (repeat (refine (if_neg (ne_of_out hy (by with_unfolding_all rfl))).trans ?_)); first | rfl | exact lookup_out rfl hy | exact (lookup_out rfl hy).symm | exact (lookup_out rfl hy).trans (lookup_out rfl hy).symm))
  k_with "M fill" => ((
    have kk : PySem.Challenge.rw_pm0034_02 = PySem.Challenge.rw_pm0034_02 ∧ KK.heap_1 = KK.heap_1 := ⟨rfl, rfl⟩
    revert kk
    k_fill
    intro kk
    clear kk))
  k_with "M enter" => ((
    refine wpAny_call ?_
    k_dflt (refine' code_def ?k1 ?k2 ?k3 ?k4 ?k5 ?kA ?kF ?kK ?k6 ?k7 ?k8 ?k9 ?kB ?_ ?c2 ?c3 ?c4 ?c5; (case kA => exact rfl); (case kF => exact rfl); (case kK => assumption); (case k1 => k_asm); (case k2 => k_asm); (case k3 => k_asm); (case k4 => k_asm); (case k5 => k_asm); (case k6 => k_is); (case k7 => k_is); (case k8 => ((try dsimp only); omega)); (case k9 => first | exact BindsTo.of_eq rfl | (refine' kp_binds ?kx ?ke; (case kx => first | (refine' myIn ?kf ?ki; (case kf => with_reducible assumption); (case ki => with_reducible assumption)) | k_in); (case ke => exact fun _ => rfl)) | exact binds_K (by first | (refine' myIn ?kf ?ki; (case kf => with_reducible assumption); (case ki => with_reducible assumption)) | k_in) rfl (by k_is) rfl rfl rfl); (case c5 => decide); (case kB => exact locs rfl); (case c2 => exact rfl); (case c3 => exact rfl); (case c4 => exact rfl); k_whole; intro g' L' h' FG' F' N' B' X' T'; (have D' := kts_dict B' (by assumption) FG' rfl); (try dsimp only); (try k_lift B'); (refine let_AE (f := execs _) ?_; intro vk ak); (refine f_QE ?_; intro qk ek))))
  k_with "M enter0" => ((
    refine wpAny_call ?_
    k_dflt (refine' code_defS0X ?k1 ?k2 ?k3 ?k4 ?k5 ?kA ?kF ?kK ?k6 ?k7 ?k8 ?k9 ?kB ?_ ?c2 ?c3 ?c4 ?c5; (case kA => exact rfl); (case kF => exact rfl); (case kK => assumption); (case k1 => k_asm); (case k2 => k_asm); (case k3 => k_asm); (case k4 => k_asm); (case k5 => k_asm); (case k6 => k_is); (case k7 => k_is); (case k8 => ((try dsimp only); omega)); (case k9 => first | exact BindsTo.of_eq rfl | (refine' kp_binds ?kx ?ke; (case kx => first | (refine' myIn ?kf ?ki; (case kf => with_reducible assumption); (case ki => with_reducible assumption)) | k_in); (case ke => exact fun _ => rfl)) | exact binds_K (by first | (refine' myIn ?kf ?ki; (case kf => with_reducible assumption); (case ki => with_reducible assumption)) | k_in) rfl (by k_is) rfl rfl rfl); (case c5 => decide); (case kB => exact locs rfl); (case c2 => exact rfl); (case c3 => exact rfl); (case c4 => exact rfl); k_whole; intro g' L' h' FG' F' N' B' X' T' D'; (try dsimp only); (try k_lift B'); (refine let_AE (f := execs _) ?_; intro vk ak); (refine f_QE ?_; intro qk ek))))
  trivial
local macro_rules | `(tactic| k_mem) => `(tactic| first | with_reducible assumption | (refine mem_in ?_; with_reducible assumption))
theorem lines_TF_1 : True := by
  k_with "subscriptTail Name Constant ref int" => ((k_here; refine item_tupleT (News.isTup (by assumption) (by k_mem)) (by decide) (by decide) (by rfl) (by rfl) ?_))
  k_with "subscriptTail Name Constant ref int" => ((k_here; (with_reducible rename StrsAre _ _ => hSA); refine item_strsA (News.isList (by assumption) (by k_mem)) hSA (by decide) (by first | omega | (simp only [List.length_map]; omega)) (by decide) ?_; intro t'))
  k_with "call type:ValueError" => ((refine call_ValueError_made ?_; intro _ _ _))
  k_with "exec While Compare Name cons nil" => (refine Hold.mk ?_)
  k_with "exec While Compare" => (refine Hold.mk ?_)
  k_with "exec While Compare cons nil" => (refine Hold.mk ?_)
  k_with "exec While" => (refine Hold.mk ?_)
  k_with "binaryOp FloorDiv int int" => ((k_here; (with_reducible refine floordiv_pos ?kb1 ?kb2 ?_); (case kb1 => decide); (case kb2 => decide +kernel)))
  k_with "WhlIf" => ((refine whlIf_dec ?_ ?_ <;> intro _))
  k_with "subscriptTail Name Name ref int" => ((k_here; first
    | ((with_reducible rename StrsAre _ _ => hSA); refine item_strsA (News.isList (by assumption) (by k_mem)) hSA (by omega) (by omega) (by omega) ?_; intro t')
    | ((with_reducible rename IntsAre _ _ => hSA); refine item_intsA (News.isList (by assumption) (by k_mem)) hSA (by omega) (by omega) (by omega) ?_; intro t')))
  k_with "call builtin:len" => ((k_here; (with_reducible show wpAny _ _ (call (Value.builtin "len") [Value.ref _]) _ _ _); first
    | ((with_reducible rename StrsAre _ _ => hSA); refine len_strsA (News.isList (by assumption) (by k_mem)) hSA (by omega) ?_)
    | ((with_reducible rename IntsAre _ _ => hSA); refine len_intsA (News.isList (by assumption) (by k_mem)) hSA (by omega) ?_)))
  k_with "binaryOp Add str str" => ((k_here; (with_reducible show wpAny _ _ (binaryOp Operator.Add (Value.str _ _) (Value.str _ _)) _ _ _); refine add_lb (K := 800000) (L := 800000) ?kb ?kd ?ke ?_; (case kb => omega); (case kd => omega); (case ke => decide); intro _ _ hk hl; (try dsimp only at hk)))
  k_with "call builtin:str.replace" => ((k_here; (with_reducible show wpAny _ _ (call (Value.builtin "str.replace") [Value.str _ _, Value.str _ _, Value.str _ _]) _ _ _); refine rep_dbl ?a1 ?a2 ?a3 ?a4 ?_; (case a1 => ((show @Ne Nat _ _); first | omega | ((try dsimp only); omega))); (case a2 => ((show @Ne Nat _ _); first | omega | ((try dsimp only); omega))); (case a3 => ((show @Ne Nat _ _); first | omega | ((try dsimp only); omega))); (case a4 => omega); intro _ _ hk hr; (try dsimp only at hk)))
  k_with "call ref" => (((with_reducible show wpAny _ _ (call (Value.ref 143) [Value.str (ndT _ _ _) _]) _ _ _); refine' parts_nd ?kB ?kX ?kT ?kXB ?kTB ?kD ?kh ?kd ?ku ?kF ?kN ?k5 ?k6 ?k7 ?_; (case kB => assumption); (case kX => assumption); (case kT => assumption); (case kXB => assumption); (case kTB => assumption); (case kD => assumption); (case kh => rfl); (case kd => ((try dsimp only); omega)); (case ku => ((try dsimp only); omega)); (case kF => with_reducible assumption); (case kN => with_reducible assumption); (case k5 => with_reducible assumption); (case k6 => with_reducible assumption); (case k7 => with_reducible assumption); intro dP tP tP' tP'' hP tkP FP NP ltP))
  k_with "call ref" => (((with_reducible show wpAny _ _ (call (Value.ref 108) [Value.str (ndT _ _ _) _]) _ _ _); refine' port_nd ?kB ?kX ?kT ?kXB ?kTB ?kD ?kh ?kd ?ku ?kF ?kN ?k5 ?k7 ?_; (case kB => assumption); (case kX => assumption); (case kT => assumption); (case kXB => assumption); (case kTB => assumption); (case kD => assumption); (case kh => rfl); (case kd => ((try dsimp only); omega)); (case ku => ((try dsimp only); omega)); (case kF => with_reducible assumption); (case kN => with_reducible assumption); (case k5 => with_reducible assumption); (case k7 => with_reducible assumption); intro tP hP tkP FP NP))
  k_with "call ref" => (((with_reducible show wpAny _ _ (call (Value.ref 136) _) _ _ _); refine' node_spec ?kB ?kX ?kT ?kXB ?kTB ?kD ?kh ?kd ?ku ?kF ?kN ?k5 ?k6 ?k7 ?_; (case kB => assumption); (case kX => assumption); (case kT => assumption); (case kXB => assumption); (case kTB => assumption); (case kD => assumption); (case kh => rfl); (case kd => ((try dsimp only); omega)); (case ku => ((try dsimp only); omega)); (case kF => with_reducible assumption); (case kN => with_reducible assumption); (case k5 => first | assumption | omega | decide); (case k6 => first | assumption | omega | decide); (case k7 => first | assumption | omega | decide); intro tP hP tkP FP NP))
  k_with "call ref" => (((with_reducible show wpAny _ _ (call (Value.ref 171) _) _ _ _); refine Hold.mk ?_))
  k_with "compareOp Eq ref ref" => ((k_here; (with_reducible show wpAny _ _ (compareOp CmpOp.Eq (Value.ref _) (Value.ref _)) _ _ _); (refine' eq_nil_L ?N ?x ?y ?u ?_); (case N => with_reducible assumption); (case x => (refine List.Mem.tail _ ?_; k_mem)); (case y => exact .head _); (case u => dsimp only [ak]; first | units_room | k_room | ((try dsimp only); omega))))
  k_with "eval Lambda" => ((k_here; k_dflt (refine' kla_eval ?d0 ?_; (case d0 => exact rfl)); refine Hold.mk ?_))
  trivial
theorem first_sub {a b c d e f : Addr × Obj} {l : Ldg} : ∀ p ∈ d :: f :: l, p ∈ a :: b :: c :: d :: e :: f :: l := by
  intro p hp
  rcases List.mem_cons.mp hp with rfl | hp
  · exact .tail _ (.tail _ (.tail _ (.head _)))
  rcases List.mem_cons.mp hp with rfl | hp
  · exact .tail _ (.tail _ (.tail _ (.tail _ (.tail _ (.head _)))))
  · exact .tail _ (.tail _ (.tail _ (.tail _ (.tail _ (.tail _ hp)))))
section
variable {w : World} {p : Program} {loose : List PStr} {mean : ExcName → Option Value} {mg mb : PStr → Option Value}
    {dp un : Nat} {gd : Option (List Code)} {cn : PStr} {cs : Scope} {a : Addr} {ccd : Value} {cl : List (PStr × Addr)} {outer : List Env} {A₀ : Around} {base h₀ : Heap} {L : Addr} {m : PStr → Option Value}
    {s : Shared} {Q E : Value → Shared → Prop} {news : Ldg}
    (B : Below A₀ base outer h₀) (X : (KK.heap_1 w.params).In h₀) (T : Top p loose mean mg mb h₀) (XB : (KK.heap_1 w.params).In base) (TB : Top p loose mean mg mb base) (D : KtsDicts (outer.filterMap (·.frame)) h₀) (hck : cs.kind = .function)
include B X T XB TB D hck
theorem tree_first {r : PStr} {l x : Tr} {d : Addr} {v1 v2 : List Value} {t0 : Tok} {ep : Nat} (IHl : TreeOk l) (IHx : TreeOk x)
   (hd5 : dp + 30 + 5 * (l.size + 1 + x.size) < recursionLimit) (hu5 : un + 300 + 50 * (l.size + 1 + x.size) < cLine) (F : Fr h₀ L s.heap m) (N : News h₀ L s.heap ((166, tabObj #[]) :: news)) (h166 : ∀ p ∈ news, p.1 ≠ 166)
   (hd : (d, lstOf (v1 ++ .str r t0 :: v2) ep) ∈ news) (h1 : StrsAre v1 l.row) (h2 : StrsAre v2 x.row) (hg : (Tr.node l r x).Good) (hh : (Tr.node l r x).Hp) (hs : l.size + 1 + x.size ≤ 15)
   (hret : ∀ t h' tk c' oc vs tq, oc.data = .fields vs → vs[1]? = some (.str (Str.ofString "_law_tree.<locals>.<lambda>") tq) → (∀ p ∈ news, p.1 ≠ c') → (c' : Nat) ≠ 166 → Fr h₀ L h' m → News h₀ L h' ((c', oc) :: (166, tabObj #[rawInt 154, rawInt 31, .ref c']) :: news) → Q (.str (ndT r l.txt x.txt) t) { s with heap := h', toks := tk }) :
   wpAny (model PySem.Challenge.rw_pm0034_02.row.prog w) (ktrTop dp un gd cn cs L a ccd cl outer) (call (.ref 171) [.ref d]) Q E s := by
  walk_at "M fill"
  obtain ⟨hgl, hr, hgx⟩ := id hg
  have hrl := hr.len
  have hll := Tr.le7 hgl (by omega)
  have hxl := Tr.le7 hgx (by omega)
  walk_at "M enter"
  k_steps
  refine Hold.out ?_
  (with_reducible rename (_ ∧ AllLt _ news) => hlt)
  k_dflt (refine' kla_nest (c := 170) (P := 166) (ps := #[]) ?kF ?kN ?kT ?kC ?kcd ?kU ?kt ?kn ?kcl ?_)
  case kF => with_reducible assumption
  case kN => with_reducible assumption
  case kT => assumption
  case kC => exact codeHd_of_K (by assumption) (by kernel_rfl)
  case kcd => exact rfl
  case kU => exact UpdF.tail (Nat.ne_of_gt hlt.1) (UpdF.head h166)
  case kt => exact trivial
  case kn => exact rfl
  case kcl => exact rfl
  intro fL c' oc vs tq ctL hL tkL FL NL hL3 hL4 lc lf
  have lc1 : ∀ p ∈ news, p.1 ≠ c' := fun p hp => Nat.ne_of_lt (lc p (.tail _ (.tail _ hp)))
  have lc2 : (c' : Nat) ≠ 166 := Nat.ne_of_gt (lc _ (.tail _ (.head _)))
  dsimp only at NL
  k_steps
  kmk_kw
  with_unfolding_all refine' min_tr (l := l) (x := x) ?m0 ?mF ?mN ?mx h1 h2 hh ?mt ?mq
  case m0 => with_unfolding_all rfl
  case mF => with_reducible assumption
  case mN => with_reducible assumption
  case mx => exact .tail _ (.tail _ (.tail _ (.tail _ hd)))
  case mt =>
    intro y ty hy tky own hym Fy Ny
    have hyR : RepR y := (Tr.good_iff _).mp hg y hym
    have hy4 : Txt.item y 4 = ⟨#[letOf y]⟩ := hyR.let4y
    have hy5 : 5 ≤ y.length := hyR.len5y
    have hyl := hyR.len
    refine wpAny_call ?_
    k_dflt (refine' kla_code ?k1 ?k2 ?k3 ?k4 ?k5 ?kA ?kF ?kK ?k6 ?k7 ?k8 ?k9 ?kB ?_ ?c2 ?c3 ?c4 ?c5)
    case kA => exact rfl
    case kF => exact rfl
    case kK => exact rfl
    case k1 => assumption
    case k2 => exact Fy
    case k3 => assumption
    case k4 => exact Ny
    case k5 => assumption
    case k6 => exact .head _
    case k7 => exact codeRec_news Ny (List.mem_append_left _ (.tail _ (.head _))) hL3 hL4
    case k8 => first | (show dp + 1 < recursionLimit; omega) | (show dp + 2 < recursionLimit; omega) | (show dp + 3 < recursionLimit; omega)
    case k9 => exact rfl
    case c5 => decide
    case kB => exact locs rfl
    case c2 => exact rfl
    case c3 => exact rfl
    case c4 => exact rfl
    intro g2 L2 h2' FG2 F2' N2' B2' X2' T2'
    k_steps
    exact ⟨_, _, _, rfl, by rw [hy4], by assumption, by assumption⟩
  case mq =>
    intro hq tkq Fq Nq
    have hlr := l.row_len
    k_steps
    k_here
    refine' index_mid (a := l.row) (b := x.row) ?iN ?ix h1 h2 rfl ?if' ?iz ?_
    case iN => with_reducible assumption
    case ix => exact .tail _ (.tail _ (.tail _ (.tail _ hd)))
    case if' => exact fun j z hj => (Tr.first hh).1 j z (by omega)
    case iz => omega
    k_steps
    k_here
    refine' item_mid (a := l.row) ?jN ?jx h1 rfl ?jz ?_
    case jN => with_reducible assumption
    case jx => exact .tail _ (.tail _ (.tail _ (.tail _ hd)))
    case jz => omega
    k_steps
    k_here
    refine' slice_LA (zs := v1) ?zF ?zN ?zl ?zp ?zq ?zz (pick_l h1) ?_
    case zF => k_asm
    case zN => k_asm
    case zl => exact .tail _ (.tail _ (.tail _ (.tail _ hd)))
    case zp => kmk_part
    case zq => kmk_part
    case zz => (rw [List.length_append, List.length_cons, h1.len_eq, h2.len_eq, l.row_len, x.row_len]; omega)
    intro D1 hD1 FD1 ND1 lD1
    k_steps
    refine Hold.out ?_
    refine' IHl.go ?kB ?kX ?kT ?kXB ?kTB ?kD ?kh ?kd ?ku ?kF ?kN ?kL ?kx ?k5 ?k6 ?k7 ?k8 ?_; (case kB => assumption); (case kX => assumption); (case kT => assumption); (case kXB => assumption); (case kTB => assumption); (case kD => assumption); (case kh => rfl); (case kd => ((try dsimp only [Tr.size]); omega)); (case ku => ((try dsimp only [Tr.size]); omega)); (case kF => with_reducible assumption); (case kN => with_reducible assumption)
    case kL => exact ⟨c', oc, vs, tq, .tail _ (.tail _ (.tail _ (.tail _ (.head _)))), .tail _ (.tail _ (.head _)), hL3, hL4⟩
    case kx => exact .head _
    case k5 => exact h1
    case k6 => exact hgl
    case k7 => exact hh.1
    case k8 => omega
    intro tA hA tkA FA NA
    k_steps
    k_here
    refine' slice_LA (zs := v2) ?zF ?zN ?zl ?zp ?zq ?zz (pick_r h1) ?_
    case zF => k_asm
    case zN => k_asm
    case zl => exact .tail _ (.tail _ (.tail _ (.tail _ (.tail _ hd))))
    case zp => kmk_part
    case zq => kmk_part
    case zz => (rw [List.length_append, List.length_cons, h1.len_eq, h2.len_eq, l.row_len, x.row_len]; omega)
    intro D2 hD2 FD2 ND2 lD2
    k_steps
    refine Hold.out ?_
    refine' IHx.go ?kB ?kX ?kT ?kXB ?kTB ?kD ?kh ?kd ?ku ?kF ?kN ?kL ?kx ?k5 ?k6 ?k7 ?k8 ?_; (case kB => assumption); (case kX => assumption); (case kT => assumption); (case kXB => assumption); (case kTB => assumption); (case kD => assumption); (case kh => rfl); (case kd => ((try dsimp only [Tr.size]); omega)); (case ku => ((try dsimp only [Tr.size]); omega)); (case kF => with_reducible assumption); (case kN => with_reducible assumption)
    case kL => exact ⟨c', oc, vs, tq, .tail _ (.tail _ (.tail _ (.tail _ (.tail _ (.head _))))), .tail _ (.tail _ (.tail _ (.head _))), hL3, hL4⟩
    case kx => exact .head _
    case k5 => exact h2
    case k6 => exact hgx
    case k7 => exact hh.2.1
    case k8 => omega
    intro tB hB tkB FB NB
    k_steps
    (show Q _ _)
    exact hret _ _ _ c' oc vs tq hL3 hL4 lc1 lc2 (by assumption) (news_sub (by assumption) first_sub)
end
end
section
theorem lines_RP_0 : True := by
  k_with_none
  k_with "execs cons" => ((refine f_execs ?_; intro qk))
  k_with "eval BinOp" => ((refine f_BinOp ?_; intro qk))
  k_with "exec Assign" => ((refine f_Assign ?_; intro qk))
  k_with "eval Subscript" => ((refine f_Subscript ?_; intro qk))
  k_with "isTrue Compare" => ((refine f_Compare ?_; intro qk))
  k_with "exec If" => ((refine f_If ?_; intro qk))
  k_with "eval Call" => (((fail_if_success (with_reducible show wpAny _ _ (eval (Expr.Call (Expr.Attribute _ _ _) _ _ _) _) _ _ _)); refine f_Call ?_; intro qk))
  k_with "spliced" => ((refine f_args ?_; intro qk))
  k_with "callWith" => ((refine f_method1 ?_; intro qk))
  k_with "exec Return some" => ((refine f_Return ?_; intro qk))
  k_with "eval Tuple" => ((refine f_Tuple ?_; intro qk))
  k_with "eval List" => ((refine f_List ?_; intro qk))
  k_with "eval IfExp" => ((refine f_IfExp ?_; intro qk))
  k_with "storeName" => ((k_here; k_dflt (refine' f_store ?F ?N ?_ ?a ?b; (case F => k_asm); (case N => k_asm); (case a => rfl); (case b => rfl); k_whole; intro m' h' F' N'; (try k_sweep))))
  k_with "M map1" => (first
    | (refine map_same ?_; with_unfolding_all rfl)
    | ((repeat' (refine List.forall_mem_cons.mpr (And.intro ?_ ?_))); (all_goals first | rfl | exact List.forall_mem_nil _)))
  k_with "M map2" => (first
    | (refine SameOut.both (b := fun _ => none) ?_ ?_ <;> (repeat (refine SameOut.upd ?_ (by with_unfolding_all rfl))) <;> exact SameOut.lookup rfl)
    | (refine' SameOut.both (b := ?kb) ?k1 ?k2; (case k1 => ((repeat (refine SameOut.upd ?_ (by with_unfolding_all rfl))); exact SameOut.refl)); (case k2 => ((repeat (refine SameOut.upd ?_ (by with_unfolding_all rfl))); exact SameOut.refl)))
    | (refine' SameOut.both (b := ?kb) ?k1 ?k2; (case k2 => ((repeat (refine SameOut.upd ?_ (by with_unfolding_all rfl))); exact SameOut.refl)); (case k1 => ((repeat (refine SameOut.skip ?_)); (repeat (refine SameOut.upd ?_ (by with_unfolding_all rfl))); exact SameOut.refl)))
    | (intro y hy; (repeat (refine (if_neg (ne_of_out hy (by with_unfolding_all rfl))).trans ?_)); (refine Eq.symm ?_); (repeat (refine (if_neg (ne_of_out hy (by with_unfolding_all rfl))).trans ?_)); first | rfl | exact lookup_out rfl hy | exact (lookup_out rfl hy).symm | exact (lookup_out rfl hy).trans (lookup_out rfl hy).symm))
  k_with "M fill" => ((
    have kk : PySem.Challenge.rw_pm0034_02 = PySem.Challenge.rw_pm0034_02 ∧ KK.heap_1 = KK.heap_1 := ⟨rfl, rfl⟩
    revert kk
    k_fill
    intro kk
    clear kk))
  k_with "M enter" => ((
    refine wpAny_call ?_
    k_dflt (refine' code_def ?k1 ?k2 ?k3 ?k4 ?k5 ?kA ?kF ?kK ?k6 ?k7 ?k8 ?k9 ?kB ?_ ?c2 ?c3 ?c4 ?c5; (case kA => exact rfl); (case kF => exact rfl); (case kK => assumption); (case k1 => k_asm); (case k2 => k_asm); (case k3 => k_asm); (case k4 => k_asm); (case k5 => k_asm); (case k6 => k_is); (case k7 => k_is); (case k8 => ((try dsimp only); omega)); (case k9 => first | exact BindsTo.of_eq rfl | (refine' kp_binds ?kx ?ke; (case kx => first | (refine' myIn ?kf ?ki; (case kf => with_reducible assumption); (case ki => with_reducible assumption)) | k_in); (case ke => exact fun _ => rfl)) | exact binds_K (by first | (refine' myIn ?kf ?ki; (case kf => with_reducible assumption); (case ki => with_reducible assumption)) | k_in) rfl (by k_is) rfl rfl rfl); (case c5 => decide); (case kB => exact locs rfl); (case c2 => exact rfl); (case c3 => exact rfl); (case c4 => exact rfl); k_whole; intro g' L' h' FG' F' N' B' X' T'; (have D' := kts_dict B' (by assumption) FG' rfl); (try dsimp only); (try k_lift B'); (refine let_AE (f := execs _) ?_; intro vk ak); (refine f_QE ?_; intro qk ek))))
  k_with "M enter0" => ((
    refine wpAny_call ?_
    k_dflt (refine' code_defS0X ?k1 ?k2 ?k3 ?k4 ?k5 ?kA ?kF ?kK ?k6 ?k7 ?k8 ?k9 ?kB ?_ ?c2 ?c3 ?c4 ?c5; (case kA => exact rfl); (case kF => exact rfl); (case kK => assumption); (case k1 => k_asm); (case k2 => k_asm); (case k3 => k_asm); (case k4 => k_asm); (case k5 => k_asm); (case k6 => k_is); (case k7 => k_is); (case k8 => ((try dsimp only); omega)); (case k9 => first | exact BindsTo.of_eq rfl | (refine' kp_binds ?kx ?ke; (case kx => first | (refine' myIn ?kf ?ki; (case kf => with_reducible assumption); (case ki => with_reducible assumption)) | k_in); (case ke => exact fun _ => rfl)) | exact binds_K (by first | (refine' myIn ?kf ?ki; (case kf => with_reducible assumption); (case ki => with_reducible assumption)) | k_in) rfl (by k_is) rfl rfl rfl); (case c5 => decide); (case kB => exact locs rfl); (case c2 => exact rfl); (case c3 => exact rfl); (case c4 => exact rfl); k_whole; intro g' L' h' FG' F' N' B' X' T' D'; (try dsimp only); (try k_lift B'); (refine let_AE (f := execs _) ?_; intro vk ak); (refine f_QE ?_; intro qk ek))))
  trivial
local macro_rules | `(tactic| k_mem) => `(tactic| first | with_reducible assumption | (refine mem_in ?_; with_reducible assumption))
theorem lines_RP_1 : True := by
  k_with "subscriptTail Name Constant ref int" => ((k_here; refine item_tupleT (News.isTup (by assumption) (by k_mem)) (by decide) (by decide) (by rfl) (by rfl) ?_))
  k_with "subscriptTail Name Constant ref int" => ((k_here; (with_reducible rename StrsAre _ _ => hSA); refine item_strsA (News.isList (by assumption) (by k_mem)) hSA (by decide) (by first | omega | (simp only [List.length_map]; omega)) (by decide) ?_; intro t'))
  k_with "call type:ValueError" => ((refine call_ValueError_made ?_; intro _ _ _))
  k_with "exec While Compare Name cons nil" => (refine Hold.mk ?_)
  k_with "exec While Compare" => (refine Hold.mk ?_)
  k_with "exec While Compare cons nil" => (refine Hold.mk ?_)
  k_with "exec While" => (refine Hold.mk ?_)
  k_with "binaryOp FloorDiv int int" => ((k_here; (with_reducible refine floordiv_pos ?kb1 ?kb2 ?_); (case kb1 => decide); (case kb2 => decide +kernel)))
  k_with "WhlIf" => ((refine whlIf_dec ?_ ?_ <;> intro _))
  k_with "subscriptTail Name Name ref int" => ((k_here; first
    | ((with_reducible rename StrsAre _ _ => hSA); refine item_strsA (News.isList (by assumption) (by k_mem)) hSA (by omega) (by omega) (by omega) ?_; intro t')
    | ((with_reducible rename IntsAre _ _ => hSA); refine item_intsA (News.isList (by assumption) (by k_mem)) hSA (by omega) (by omega) (by omega) ?_; intro t')))
  k_with "call builtin:len" => ((k_here; (with_reducible show wpAny _ _ (call (Value.builtin "len") [Value.ref _]) _ _ _); first
    | ((with_reducible rename StrsAre _ _ => hSA); refine len_strsA (News.isList (by assumption) (by k_mem)) hSA (by omega) ?_)
    | ((with_reducible rename IntsAre _ _ => hSA); refine len_intsA (News.isList (by assumption) (by k_mem)) hSA (by omega) ?_)))
  k_with "binaryOp Add str str" => ((k_here; (with_reducible show wpAny _ _ (binaryOp Operator.Add (Value.str _ _) (Value.str _ _)) _ _ _); refine add_lb (K := 800000) (L := 800000) ?kb ?kd ?ke ?_; (case kb => omega); (case kd => omega); (case ke => decide); intro _ _ hk hl; (try dsimp only at hk)))
  k_with "call builtin:str.replace" => ((k_here; (with_reducible show wpAny _ _ (call (Value.builtin "str.replace") [Value.str _ _, Value.str _ _, Value.str _ _]) _ _ _); refine rep_dbl ?a1 ?a2 ?a3 ?a4 ?_; (case a1 => ((show @Ne Nat _ _); first | omega | ((try dsimp only); omega))); (case a2 => ((show @Ne Nat _ _); first | omega | ((try dsimp only); omega))); (case a3 => ((show @Ne Nat _ _); first | omega | ((try dsimp only); omega))); (case a4 => omega); intro _ _ hk hr; (try dsimp only at hk)))
  k_with "exec If" => (((fail_if_success (with_reducible show wpAny _ _ _ (TokGe _ _) _ _)); refine tok_wrap (Nat.le_refl _) ?_))
  k_with "isTrue UnaryOp" => (((fail_if_success (with_reducible show wpAny _ _ _ (TokGe _ _) _ _)); refine tok_wrap (Nat.le_refl _) ?_))
  k_with "eval Subscript" => (((fail_if_success (with_reducible show wpAny _ _ _ (TokGe _ _) _ _)); refine tok_wrap (Nat.le_refl _) ?_))
  k_with "TokGe" => ((intro hk; (try dsimp only at hk)))
  k_with "exec Assign" => (((fail_if_success (with_reducible show wpAny _ _ _ (TokGe _ _) _ _)); refine tok_wrap (Nat.le_refl _) ?_))
  k_with "call builtin:str.replace" => ((k_here; (with_reducible show wpAny _ _ (call (Value.builtin "str.replace") [Value.str _ _, Value.str _ _, Value.str _ _]) _ _ _); refine' rep_lb ?a1 ?a2 ?a3 ?a4 ?a5 ?a6 ?_; (case a1 => ((show @Ne Nat _ _); first | omega | ((try dsimp only); omega))); (case a2 => ((show @Ne Nat _ _); first | omega | ((try dsimp only); omega))); (case a3 => ((show @Ne Nat _ _); first | omega | ((try dsimp only); omega))); (case a4 => assumption); (case a5 => first | exact dr4_len _ | exact sh7_len _); (case a6 => omega); intro _ _ hk hr; (try dsimp only at hk)))
  k_with "subscriptTail" => ((k_here; (with_reducible show wpAny _ _ (subscriptTail _ _ (Value.ref _) (Value.int _ _)) _ _ _); refine' item_tupN (News.isTup ?iN ?iM) ?i0 ?i1 ?i2 ?_; (case iN => assumption); (case iM => k_mem); (case i0 => exact (fmod_nn (by decide)).1); (case i1 => exact (fmod_nn (by decide)).2); (case i2 => exact Nat.le_of_ble_eq_true rfl); intro _ hx4; first | (obtain ⟨t4, rfl⟩ := four_at hx4) | (obtain ⟨t4, rfl⟩ := seven_at hx4)))
  trivial
theorem rbad_1 {n : Int} {po le : PStr} (h : (n / 40).fmod 7 = 1) : rbad ((n / 40).fmod 7).toNat po le = Str.ofString "228 " ++ le ++ Str.ofString " " ++ Txt.replace (sh7 ((n / 40).fmod 7).toNat) (Str.ofString "#") po := by
  unfold rbad; rw [if_pos (by omega)]
theorem rbad_n {n : Int} {po le : PStr} (h : (n / 40).fmod 7 ≠ 1) : rbad ((n / 40).fmod 7).toNat po le = Str.ofString "229 " ++ le ++ Str.ofString " " ++ Txt.replace (sh7 ((n / 40).fmod 7).toNat) (Str.ofString "#") po := by
  unfold rbad; rw [if_neg (by omega)]
theorem dbad_2 {n : Int} {po le : PStr} (h : (n / 40).fmod 7 = 2) : dbad ((n / 40).fmod 7).toNat po le = Str.ofString "value invalid literal for int() with base 10: 'x" ++ po ++ Str.ofString "'" := by
  unfold dbad; rw [if_pos (by omega)]
theorem dbad_1 {n : Int} {po le : PStr} (h : (n / 40).fmod 7 = 1) : dbad ((n / 40).fmod 7).toNat po le = Str.ofString "reply " ++ rbad ((n / 40).fmod 7).toNat po le := by
  unfold dbad; rw [if_neg (by omega), if_pos (by omega)]
theorem dbad_n {n : Int} {po le : PStr} (h : (n / 40).fmod 7 ≠ 1) (h2 : (n / 40).fmod 7 ≠ 2) : dbad ((n / 40).fmod 7).toNat po le = Str.ofString "proto " ++ rbad ((n / 40).fmod 7).toNat po le := by
  unfold dbad; rw [if_neg (by omega), if_neg (by omega)]
section
variable {w : World} {p : Program} {loose : List PStr} {mean : ExcName → Option Value} {mg mb : PStr → Option Value}
    {dp un : Nat} {gd : Option (List Code)} {cn : PStr} {cs : Scope} {a : Addr} {ccd : Value} {cl : List (PStr × Addr)} {outer : List Env} {A₀ : Around} {base h₀ : Heap} {L : Addr} {m : PStr → Option Value}
    {s : Shared} {Q E : Value → Shared → Prop} {news : Ldg}
    (B : Below A₀ base outer h₀) (X : (KK.heap_1 w.params).In h₀) (T : Top p loose mean mg mb h₀) (XB : (KK.heap_1 w.params).In base) (TB : Top p loose mean mg mb base) (D : KtsDicts (outer.filterMap (·.frame)) h₀) (hck : cs.kind = .function)
include B X T XB TB D hck
theorem reply_good {n : Int} {po le : PStr} {t0 tn tl : Tok} {t1 : Nat} (hd5 : dp + 5 < recursionLimit) (hu5 : un + 50 < cLine) (F : Fr h₀ L s.heap m) (N : News h₀ L s.heap news)
   (hpo : po.length ≤ 8) (hle : le.length = 1) (hne : (Str.ofString "#" == po) = false) (ht1 : 1 ≤ t1 ∧ t1 < s.toks)
   (hret : ∀ d t h' tk, Fr h₀ L h' m → News h₀ L h' ((d, lstOf [.str (rgood ((n / 40).fmod 4).toNat po le) t, .none] 0) :: news) → (∀ p ∈ news, p.1 < d) → Q (.ref d) { s with heap := h', toks := tk }) :
   wpAny (model PySem.Challenge.rw_pm0034_02.row.prog w) (ktrTop dp un gd cn cs L a ccd cl outer) (call (.ref 129) [.bool false, .int n tn, .str po t1, .str le tl]) Q E s := by
  walk_at "M fill"
  have l0 : (Str.ofString "229 ").length = 4 := by decide +kernel
  have l1 : (Str.ofString " ").length = 1 := by decide +kernel
  walk_at "M enter"
  k_steps
  (show Q _ _)
  (with_reducible rename (_ ∧ AllLt _ news) => hlt)
  exact hret _ _ _ _ (by assumption) (news_d2 (by assumption)) (ktn_ltOf hlt.2)
end
section
variable {w : World} {p : Program} {loose : List PStr} {mean : ExcName → Option Value} {mg mb : PStr → Option Value}
    {dp un : Nat} {gd : Option (List Code)} {cn : PStr} {cs : Scope} {a : Addr} {ccd : Value} {cl : List (PStr × Addr)} {outer : List Env} {A₀ : Around} {base h₀ : Heap} {L : Addr} {m : PStr → Option Value}
    {s : Shared} {Q E : Value → Shared → Prop} {news : Ldg}
    (B : Below A₀ base outer h₀) (X : (KK.heap_1 w.params).In h₀) (T : Top p loose mean mg mb h₀) (XB : (KK.heap_1 w.params).In base) (TB : Top p loose mean mg mb base) (D : KtsDicts (outer.filterMap (·.frame)) h₀) (hck : cs.kind = .function)
include B X T XB TB D hck
theorem reply_bad {n : Int} {po le : PStr} {t0 tn tl : Tok} {t1 : Nat} (hd5 : dp + 5 < recursionLimit) (hu5 : un + 50 < cLine) (F : Fr h₀ L s.heap m) (N : News h₀ L s.heap news)
   (hpo : po.length ≤ 8) (hle : le.length = 1) (hne : (Str.ofString "#" == po) = false) (ht1 : 1 ≤ t1 ∧ t1 < s.toks)
   (hret : ∀ d t u h' tk, Fr h₀ L h' m → News h₀ L h' ((d, lstOf [.str (rbad ((n / 40).fmod 7).toNat po le) t, .str (dbad ((n / 40).fmod 7).toNat po le) u] 0) :: news) → (∀ p ∈ news, p.1 < d) → Q (.ref d) { s with heap := h', toks := tk }) :
   wpAny (model PySem.Challenge.rw_pm0034_02.row.prog w) (ktrTop dp un gd cn cs L a ccd cl outer) (call (.ref 129) [.bool true, .int n tn, .str po t1, .str le tl]) Q E s := by
  walk_at "M fill"
  have l0 : (Str.ofString "229 ").length = 4 := by decide +kernel
  have l1 : (Str.ofString " ").length = 1 := by decide +kernel
  have l2 : (Str.ofString "228 ").length = 4 := by decide +kernel
  have l3 : (Str.ofString "value invalid literal for int() with base 10: 'x").length = 48 := by decide +kernel
  have l4 : (Str.ofString "'").length = 1 := by decide +kernel
  have l5 : (Str.ofString "reply ").length = 6 := by decide +kernel
  have l6 : (Str.ofString "proto ").length = 6 := by decide +kernel
  walk_at "M enter"
  k_steps
  all_goals (
    (show Q _ _)
    first
    | (exfalso; omega)
    | (rw [dbad_2 (by assumption), rbad_n (by omega)] at hret; (with_reducible rename (_ ∧ AllLt _ news) => hlt); exact hret _ _ _ _ _ (by assumption) (news_d2 (by assumption)) (ktn_ltOf hlt.2))
    | (rw [dbad_1 (by assumption), rbad_1 (by assumption)] at hret; (with_reducible rename (_ ∧ AllLt _ news) => hlt); exact hret _ _ _ _ _ (by assumption) (news_d2 (by assumption)) (ktn_ltOf hlt.2))
    | (rw [dbad_n (by assumption) (by assumption), rbad_n (by assumption)] at hret; (with_reducible rename (_ ∧ AllLt _ news) => hlt); exact hret _ _ _ _ _ (by assumption) (news_d2 (by assumption)) (ktn_ltOf hlt.2)))
end
end
section
theorem lines_T2A_0 : True := by
  k_with_none
  k_with "execs cons" => ((refine f_execs ?_; intro qk))
  k_with "eval BinOp" => ((refine f_BinOp ?_; intro qk))
  k_with "exec Assign" => ((refine f_Assign ?_; intro qk))
  k_with "eval Subscript" => ((refine f_Subscript ?_; intro qk))
  k_with "isTrue Compare" => ((refine f_Compare ?_; intro qk))
  k_with "exec If" => ((refine f_If ?_; intro qk))
  k_with "eval Call" => (((fail_if_success (with_reducible show wpAny _ _ (eval (Expr.Call (Expr.Attribute _ _ _) _ _ _) _) _ _ _)); refine f_Call ?_; intro qk))
  k_with "spliced" => ((refine f_args ?_; intro qk))
  k_with "callWith" => ((refine f_method1 ?_; intro qk))
  k_with "exec Return some" => ((refine f_Return ?_; intro qk))
  k_with "eval Tuple" => ((refine f_Tuple ?_; intro qk))
  k_with "eval List" => ((refine f_List ?_; intro qk))
  k_with "eval IfExp" => ((refine f_IfExp ?_; intro qk))
  k_with "storeName" => ((k_here; k_dflt (refine' f_store ?F ?N ?_ ?a ?b; (case F => k_asm); (case N => k_asm); (case a => rfl); (case b => rfl); k_whole; intro m' h' F' N'; (try k_sweep))))
  k_with "M map1" => (first
    | (refine map_same ?_; with_unfolding_all rfl)
    | ((repeat' (refine List.forall_mem_cons.mpr (And.intro ?_ ?_))); (all_goals first | rfl | exact List.forall_mem_nil _)))
  k_with "M map2" => (first
    | (refine SameOut.both (b := fun _ => none) ?_ ?_ <;> (repeat (refine SameOut.upd ?_ (by with_unfolding_all rfl))) <;> exact SameOut.lookup rfl)
    | (refine' SameOut.both (b := ?kb) ?k1 ?k2; (case k1 => ((repeat (refine SameOut.upd ?_ (by with_unfolding_all rfl))); exact SameOut.refl)); (case k2 => ((repeat (refine SameOut.upd ?_ (by with_unfolding_all rfl))); exact SameOut.refl)))
    | (refine' SameOut.both (b := ?kb) ?k1 ?k2; (case k2 => ((repeat (refine SameOut.upd ?_ (by with_unfolding_all rfl))); exact SameOut.refl)); (case k1 => ((repeat (refine SameOut.skip ?_)); (repeat (refine SameOut.upd ?_ (by with_unfolding_all rfl))); exact SameOut.refl)))
    | (intro y hy; (repeat (refine (if_neg (ne_of_out hy (by with_unfolding_all rfl))).trans ?_)); (refine Eq.symm ?_); (repeat (refine (if_neg (ne_of_out hy (by with_unfolding_all rfl))).trans ?_)); first | rfl | exact lookup_out rfl hy | exact (lookup_out rfl hy).symm | exact (lookup_out rfl hy).trans (lookup_out rfl hy).symm))
  k_with "M fill" => ((
    have kk : PySem.Challenge.rw_pm0034_02 = PySem.Challenge.rw_pm0034_02 ∧ KK.heap_1 = KK.heap_1 := ⟨rfl, rfl⟩
    revert kk
    k_fill
    intro kk
    clear kk))
  k_with "M enter" => ((
    refine wpAny_call ?_
    k_dflt (refine' code_def ?k1 ?k2 ?k3 ?k4 ?k5 ?kA ?kF ?kK ?k6 ?k7 ?k8 ?k9 ?kB ?_ ?c2 ?c3 ?c4 ?c5; (case kA => exact rfl); (case kF => exact rfl); (case kK => assumption); (case k1 => k_asm); (case k2 => k_asm); (case k3 => k_asm); (case k4 => k_asm); (case k5 => k_asm); (case k6 => k_is); (case k7 => k_is); (case k8 => ((try dsimp only); omega)); (case k9 => first | exact BindsTo.of_eq rfl | (refine' kp_binds ?kx ?ke; (case kx => first | (refine' myIn ?kf ?ki; (case kf => with_reducible assumption); (case ki => with_reducible assumption)) | k_in); (case ke => exact fun _ => rfl)) | exact binds_K (by first | (refine' myIn ?kf ?ki; (case kf => with_reducible assumption); (case ki => with_reducible assumption)) | k_in) rfl (by k_is) rfl rfl rfl); (case c5 => decide); (case kB => exact locs rfl); (case c2 => exact rfl); (case c3 => exact rfl); (case c4 => exact rfl); k_whole; intro g' L' h' FG' F' N' B' X' T'; (have D' := kts_dict B' (by assumption) FG' rfl); (try dsimp only); (try k_lift B'); (refine let_AE (f := execs _) ?_; intro vk ak); (refine f_QE ?_; intro qk ek))))
  k_with "M enter0" => ((
    refine wpAny_call ?_
    k_dflt (refine' code_defS0X ?k1 ?k2 ?k3 ?k4 ?k5 ?kA ?kF ?kK ?k6 ?k7 ?k8 ?k9 ?kB ?_ ?c2 ?c3 ?c4 ?c5; (case kA => exact rfl); (case kF => exact rfl); (case kK => assumption); (case k1 => k_asm); (case k2 => k_asm); (case k3 => k_asm); (case k4 => k_asm); (case k5 => k_asm); (case k6 => k_is); (case k7 => k_is); (case k8 => ((try dsimp only); omega)); (case k9 => first | exact BindsTo.of_eq rfl | (refine' kp_binds ?kx ?ke; (case kx => first | (refine' myIn ?kf ?ki; (case kf => with_reducible assumption); (case ki => with_reducible assumption)) | k_in); (case ke => exact fun _ => rfl)) | exact binds_K (by first | (refine' myIn ?kf ?ki; (case kf => with_reducible assumption); (case ki => with_reducible assumption)) | k_in) rfl (by k_is) rfl rfl rfl); (case c5 => decide); (case kB => exact locs rfl); (case c2 => exact rfl); (case c3 => exact rfl); (case c4 => exact rfl); k_whole; intro g' L' h' FG' F' N' B' X' T' D'; (try dsimp only); (try k_lift B'); (refine let_AE (f := execs _) ?_; intro vk ak); (refine f_QE ?_; intro qk ek))))
  trivial
local macro_rules | `(tactic| k_mem) => `(tactic| first | with_reducible assumption | (refine mem_in ?_; with_reducible assumption))
theorem lines_T2A_1 : True := by
  k_with "subscriptTail Name Constant ref int" => ((k_here; refine item_tupleT (News.isTup (by assumption) (by k_mem)) (by decide) (by decide) (by rfl) (by rfl) ?_))
  k_with "subscriptTail Name Constant ref int" => ((k_here; (with_reducible rename StrsAre _ _ => hSA); refine item_strsA (News.isList (by assumption) (by k_mem)) hSA (by decide) (by first | omega | (simp only [List.length_map]; omega)) (by decide) ?_; intro t'))
  k_with "call type:ValueError" => ((refine call_ValueError_made ?_; intro _ _ _))
  k_with "exec While Compare Name cons nil" => (refine Hold.mk ?_)
  k_with "exec While Compare" => (refine Hold.mk ?_)
  k_with "exec While Compare cons nil" => (refine Hold.mk ?_)
  k_with "exec While" => (refine Hold.mk ?_)
  k_with "binaryOp FloorDiv int int" => ((k_here; (with_reducible refine floordiv_pos ?kb1 ?kb2 ?_); (case kb1 => decide); (case kb2 => decide +kernel)))
  k_with "WhlIf" => ((refine whlIf_dec ?_ ?_ <;> intro _))
  k_with "subscriptTail Name Name ref int" => ((k_here; first
    | ((with_reducible rename StrsAre _ _ => hSA); refine item_strsA (News.isList (by assumption) (by k_mem)) hSA (by omega) (by omega) (by omega) ?_; intro t')
    | ((with_reducible rename IntsAre _ _ => hSA); refine item_intsA (News.isList (by assumption) (by k_mem)) hSA (by omega) (by omega) (by omega) ?_; intro t')))
  k_with "call builtin:len" => ((k_here; (with_reducible show wpAny _ _ (call (Value.builtin "len") [Value.ref _]) _ _ _); first
    | ((with_reducible rename StrsAre _ _ => hSA); refine len_strsA (News.isList (by assumption) (by k_mem)) hSA (by omega) ?_)
    | ((with_reducible rename IntsAre _ _ => hSA); refine len_intsA (News.isList (by assumption) (by k_mem)) hSA (by omega) ?_)))
  k_with "subscriptTail Name Constant ref int" => ((k_here; refine item_listL (News.isList (by assumption) (by k_mem)) (by decide) (by decide) (by rfl) ?_))
  trivial
local macro_rules | `(tactic| k_mem) => `(tactic| first | with_reducible assumption | (refine mem_in ?_; with_reducible assumption))
theorem lines_T2A_2 : True := by
  k_with "call builtin:len" => ((k_here; (with_reducible show wpAny _ _ (call (Value.builtin "len") [Value.ref _]) _ _ _); k_dflt (refine' len_L ?kN ?kM ?kz ?_; (case kN => with_reducible assumption); (case kM => k_mem); (case kz => omega))))
  k_with "CompSrcT" => ((refine Hold.mk ?_))
  k_with "CompSrc" => ((refine Hold.mk ?_))
  k_with "subscriptTail Name Constant ref int" => ((k_here; refine item_listL (News.isList (by assumption) (by k_mem)) (by decide) (by decide) (by rfl) ?_))
  trivial
section
variable {w : World} {p : Program} {loose : List PStr} {mean : ExcName → Option Value} {mg mb : PStr → Option Value}
    {dp un : Nat} {gd : Option (List Code)} {a : Addr} {ccd : Value} {c1 c2 : Addr} {A₀ : Around} {base h₀ : Heap} {L : Addr}
    {s : Shared} {news : Ldg}
    (B : Below A₀ base [] h₀) (X : (KK.heap_1 w.params).In h₀) (T : Top p loose mean mg mb h₀) (XB : (KK.heap_1 w.params).In base) (TB : Top p loose mean mg mb base)
include B X T XB TB
theorem t2_a {dn dk : Addr} {nvs kvs : List Value} {ns : List Int} {row : List PStr} {o1 : Obj} {cv : Option Value} {ek : Nat} {jk : PStr → Option Value} {Q : Flow → Shared → Prop} {E : Value → Shared → Prop} {i : Nat} {ti : Tok}
   (hd5 : dp + 60 < recursionLimit) (hu5 : un + 500 < cLine) (hi : i < ns.length)
   (F : Fr h₀ L s.heap (fun y => if y = Str.ofString "turn" then some (.int i ti) else if y = Str.ofString "numbers" then some (.ref dn) else if y = Str.ofString "kept" then some (.ref dk) else jk y))
   (N : News h₀ L s.heap ((c1, o1) :: news)) (hne : ∀ p ∈ news, p.1 ≠ c1) (ho1 : o1.data = .cell cv) (hdn : (dn, lstOf nvs 0) ∈ news) (hns : IntsAre nvs ns) (hnl : ns.length ≤ 15)
   (hdk : (dk, lstOf kvs ek) ∈ news) (hK : KpAre news kvs row) (hrl : row.length ≤ 15)
   (hret : ∀ h' tk t1 t2 t3 t4 o1', o1'.data = .cell (some (.int ((ns.getD i 0 / 8).fmod 5 * 6) t4)) → Fr h₀ L h' (fun y => if y = Str.ofString "upto" then some (.int (uptoT ((ns.getD i 0 / 8).fmod 5 * 6) row) t3) else if y = Str.ofString "less" then some (.int (lessT ((ns.getD i 0 / 8).fmod 5 * 6) row) t2) else if y = Str.ofString "deed" then some (.int ((ns.getD i 0).fmod 8) t1)
      else if y = Str.ofString "turn" then some (.int i ti) else if y = Str.ofString "numbers" then some (.ref dn) else if y = Str.ofString "kept" then some (.ref dk) else jk y) → News h₀ L h' ((c1, o1') :: news) → Q .next { s with heap := h', toks := tk }) :
   wpAny (model PySem.Challenge.rw_pm0034_02.row.prog w) (ktrTop dp un gd (Str.ofString "law") lawScope2 L a ccd (cells2 c1 c2) []) (execs (turn2.take 4) (envX (Str.ofString "law") lawScope2 L a ccd (cells2 c1 c2))) Q E s := by
  walk_at "M fill"
  have hkl : kvs.length ≤ 15 := by rw [hK.length]; exact hrl
  show wpAny _ (ktrTop _ _ _ _ (Scope.mk _ _ _ _ _) _ _ _ _ _) (execs (_ :: _ :: _ :: _ :: []) (envX _ (Scope.mk _ _ _ _ _) _ _ _ _)) _ _ _
  k_steps
  k_here
  k_dflt (refine' storeX_C ?sF ?sN ?sc (UpdF.head hne) ho1 ?_ ?sa ?sb)
  case sa => rfl
  case sb => rfl
  case sF => k_asm
  case sN => k_asm
  case sc => rfl
  intro h2 o2 F2 N2 ho2
  have hz : kvs.toArray.size ≤ sizeLine := by rw [List.size_toArray]; exact Nat.le_trans (m := 1000) (by omega) (by decide)
  k_steps
  refine Hold.out ?_
  refine LCt.CompSrcT.ledger (its := kvs.toArray) (k := ek) rfl (by assumption) (by assumption) (.tail _ hdk) hz ?_
  intro g
  refine compT_ind (fun j ys nw => nw = (c1, o2) :: news ∧ ys.length = ((row.take j).filter fun y => decide (portOf y < (ns.getD i 0 / 8).fmod 5 * 6)).length) ⟨rfl, rfl⟩ ?turn ?fin
  case turn =>
    rintro j v I oI C oC D' m₂ ys nw h tk E' hi hv ⟨rfl, hI⟩ hC hx kF kN off ne
    obtain ⟨r, y, t, u, e, rfl, hy, hr⟩ := hK.at j v (by simpa using hv)
    have hft := filter_take (q := fun y => decide (portOf y < (ns.getD i 0 / 8).fmod 5 * 6)) hy
    have hr3 : (r, lstOf [.int (portOf y) t, .str y u] e) ∈ (I, oI) :: (C, oC) :: (D', LCg.lst ys) :: (c1, o2) :: news := .tail _ (.tail _ (.tail _ (.tail _ hr)))
    (with_reducible show wpAny _ _ _ _ _ _)
    k_fold
    k_steps
    · exact LCg.CompEnd.intro kF kN ((c1, o2) :: news) (fun p hp => hp) off (.inr ⟨_, .tail _ hdk, rfl, _, rfl⟩) ⟨rfl, by rw [List.length_append, hI, hft, if_pos (decide_eq_true (by assumption))]; rfl⟩
    · exact LCg.CompEnd.intro kF kN ((c1, o2) :: news) (fun p hp => hp) off (.inr ⟨_, .tail _ hdk, rfl, _, rfl⟩) ⟨rfl, by rw [hI, hft, if_neg (fun c => absurd (of_decide_eq_true c) (by assumption))]; rfl⟩
  case fin =>
    rintro ys nw ⟨rfl, hI⟩
    intro D' h tk kF kN off
    rw [List.take_of_length_le (by rw [← hK.length, List.size_toArray]; exact Nat.le_refl _)] at hI
    have hyl : ys.length ≤ 1000 := by rw [hI]; exact Nat.le_trans (List.length_filter_le ..) (by omega)
    k_steps
    (with_reducible rename News _ _ _ _ => kN0)
    have kN1 := news_drop1 kN0
    clear kN0
    refine Hold.out ?_
    refine LCt.CompSrcT.ledger (its := kvs.toArray) (k := ek) rfl (by assumption) (by assumption) (.tail _ hdk) hz ?_
    intro g
    refine compT_ind (fun j ys nw => nw = (c1, o2) :: news ∧ ys.length = ((row.take j).filter fun y => decide (portOf y ≤ (ns.getD i 0 / 8).fmod 5 * 6)).length) ⟨rfl, rfl⟩ ?turn ?fin
    case turn =>
      rintro j v I oI C oC D' m₂ ys nw h tk E' hi hv ⟨rfl, hI⟩ hC hx kF kN off ne
      obtain ⟨r, y, t, u, e, rfl, hy, hr⟩ := hK.at j v (by simpa using hv)
      have hft := filter_take (q := fun y => decide (portOf y ≤ (ns.getD i 0 / 8).fmod 5 * 6)) hy
      have hr3 : (r, lstOf [.int (portOf y) t, .str y u] e) ∈ (I, oI) :: (C, oC) :: (D', LCg.lst ys) :: (c1, o2) :: news := .tail _ (.tail _ (.tail _ (.tail _ hr)))
      (with_reducible show wpAny _ _ _ _ _ _)
      k_fold
      k_steps
      · exact LCg.CompEnd.intro kF kN ((c1, o2) :: news) (fun p hp => hp) off (.inr ⟨_, .tail _ hdk, rfl, _, rfl⟩) ⟨rfl, by rw [List.length_append, hI, hft, if_pos (decide_eq_true (by assumption))]; rfl⟩
      · exact LCg.CompEnd.intro kF kN ((c1, o2) :: news) (fun p hp => hp) off (.inr ⟨_, .tail _ hdk, rfl, _, rfl⟩) ⟨rfl, by rw [hI, hft, if_neg (fun c => absurd (of_decide_eq_true c) (by assumption))]; rfl⟩
    case fin =>
      rintro ys nw ⟨rfl, hI⟩
      intro D' h tk kF kN off
      rw [List.take_of_length_le (by rw [← hK.length, List.size_toArray]; exact Nat.le_refl _)] at hI
      have hyl : ys.length ≤ 1000 := by rw [hI]; exact Nat.le_trans (List.length_filter_le ..) (by omega)
      k_steps
      (with_reducible rename News _ _ _ _ => kN2)
      (with_reducible rename Fr _ _ _ _ => kF2)
      rename _ = (List.filter (fun y => decide (portOf y < _)) row).length => hq1
      rename _ = (List.filter (fun y => decide (portOf y ≤ _)) row).length => hq2
      unfold lessT uptoT at hret
      rw [← hq1, ← hq2] at hret
      exact hret _ _ _ _ _ _ o2 ho2 kF2 (news_drop1 kN2)
end
end
section
theorem lines_T2D_0 : True := by
  k_with_none
  k_with "execs cons" => ((refine f_execs ?_; intro qk))
  k_with "eval BinOp" => ((refine f_BinOp ?_; intro qk))
  k_with "exec Assign" => ((refine f_Assign ?_; intro qk))
  k_with "eval Subscript" => ((refine f_Subscript ?_; intro qk))
  k_with "isTrue Compare" => ((refine f_Compare ?_; intro qk))
  k_with "exec If" => ((refine f_If ?_; intro qk))
  k_with "eval Call" => (((fail_if_success (with_reducible show wpAny _ _ (eval (Expr.Call (Expr.Attribute _ _ _) _ _ _) _) _ _ _)); refine f_Call ?_; intro qk))
  k_with "spliced" => ((refine f_args ?_; intro qk))
  k_with "callWith" => ((refine f_method1 ?_; intro qk))
  k_with "exec Return some" => ((refine f_Return ?_; intro qk))
  k_with "eval Tuple" => ((refine f_Tuple ?_; intro qk))
  k_with "eval List" => ((refine f_List ?_; intro qk))
  k_with "eval IfExp" => ((refine f_IfExp ?_; intro qk))
  k_with "storeName" => ((k_here; k_dflt (refine' f_store ?F ?N ?_ ?a ?b; (case F => k_asm); (case N => k_asm); (case a => rfl); (case b => rfl); k_whole; intro m' h' F' N'; (try k_sweep))))
  k_with "M map1" => (first
    | (refine map_same ?_; with_unfolding_all rfl)
    | ((repeat' (refine List.forall_mem_cons.mpr (And.intro ?_ ?_))); (all_goals first | rfl | exact List.forall_mem_nil _)))
  k_with "M map2" => (first
    | (refine SameOut.both (b := fun _ => none) ?_ ?_ <;> (repeat (refine SameOut.upd ?_ (by with_unfolding_all rfl))) <;> exact SameOut.lookup rfl)
    | (refine' SameOut.both (b := ?kb) ?k1 ?k2; (case k1 => ((repeat (refine SameOut.upd ?_ (by with_unfolding_all rfl))); exact SameOut.refl)); (case k2 => ((repeat (refine SameOut.upd ?_ (by with_unfolding_all rfl))); exact SameOut.refl)))
    | (refine' SameOut.both (b := ?kb) ?k1 ?k2; (case k2 => ((repeat (refine SameOut.upd ?_ (by with_unfolding_all rfl))); exact SameOut.refl)); (case k1 => ((repeat (refine SameOut.skip ?_)); (repeat (refine SameOut.upd ?_ (by with_unfolding_all rfl))); exact SameOut.refl)))
    | (intro y hy; (repeat (refine (if_neg (ne_of_out hy (by with_unfolding_all rfl))).trans ?_)); (refine Eq.symm ?_); (repeat (refine (if_neg (ne_of_out hy (by with_unfolding_all rfl))).trans ?_)); first | rfl | exact lookup_out rfl hy | exact (lookup_out rfl hy).symm | exact (lookup_out rfl hy).trans (lookup_out rfl hy).symm))
  k_with "M fill" => ((
    have kk : PySem.Challenge.rw_pm0034_02 = PySem.Challenge.rw_pm0034_02 ∧ KK.heap_1 = KK.heap_1 := ⟨rfl, rfl⟩
    revert kk
    k_fill
    intro kk
    clear kk))
  k_with "M enter" => ((
    refine wpAny_call ?_
    k_dflt (refine' code_def ?k1 ?k2 ?k3 ?k4 ?k5 ?kA ?kF ?kK ?k6 ?k7 ?k8 ?k9 ?kB ?_ ?c2 ?c3 ?c4 ?c5; (case kA => exact rfl); (case kF => exact rfl); (case kK => assumption); (case k1 => k_asm); (case k2 => k_asm); (case k3 => k_asm); (case k4 => k_asm); (case k5 => k_asm); (case k6 => k_is); (case k7 => k_is); (case k8 => ((try dsimp only); omega)); (case k9 => first | exact BindsTo.of_eq rfl | (refine' kp_binds ?kx ?ke; (case kx => first | (refine' myIn ?kf ?ki; (case kf => with_reducible assumption); (case ki => with_reducible assumption)) | k_in); (case ke => exact fun _ => rfl)) | exact binds_K (by first | (refine' myIn ?kf ?ki; (case kf => with_reducible assumption); (case ki => with_reducible assumption)) | k_in) rfl (by k_is) rfl rfl rfl); (case c5 => decide); (case kB => exact locs rfl); (case c2 => exact rfl); (case c3 => exact rfl); (case c4 => exact rfl); k_whole; intro g' L' h' FG' F' N' B' X' T'; (have D' := kts_dict B' (by assumption) FG' rfl); (try dsimp only); (try k_lift B'); (refine let_AE (f := execs _) ?_; intro vk ak); (refine f_QE ?_; intro qk ek))))
  k_with "M enter0" => ((
    refine wpAny_call ?_
    k_dflt (refine' code_defS0X ?k1 ?k2 ?k3 ?k4 ?k5 ?kA ?kF ?kK ?k6 ?k7 ?k8 ?k9 ?kB ?_ ?c2 ?c3 ?c4 ?c5; (case kA => exact rfl); (case kF => exact rfl); (case kK => assumption); (case k1 => k_asm); (case k2 => k_asm); (case k3 => k_asm); (case k4 => k_asm); (case k5 => k_asm); (case k6 => k_is); (case k7 => k_is); (case k8 => ((try dsimp only); omega)); (case k9 => first | exact BindsTo.of_eq rfl | (refine' kp_binds ?kx ?ke; (case kx => first | (refine' myIn ?kf ?ki; (case kf => with_reducible assumption); (case ki => with_reducible assumption)) | k_in); (case ke => exact fun _ => rfl)) | exact binds_K (by first | (refine' myIn ?kf ?ki; (case kf => with_reducible assumption); (case ki => with_reducible assumption)) | k_in) rfl (by k_is) rfl rfl rfl); (case c5 => decide); (case kB => exact locs rfl); (case c2 => exact rfl); (case c3 => exact rfl); (case c4 => exact rfl); k_whole; intro g' L' h' FG' F' N' B' X' T' D'; (try dsimp only); (try k_lift B'); (refine let_AE (f := execs _) ?_; intro vk ak); (refine f_QE ?_; intro qk ek))))
  trivial
local macro_rules | `(tactic| k_mem) => `(tactic| first | with_reducible assumption | (refine mem_in ?_; with_reducible assumption))
theorem lines_T2D_1 : True := by
  k_with "subscriptTail Name Constant ref int" => ((k_here; refine item_tupleT (News.isTup (by assumption) (by k_mem)) (by decide) (by decide) (by rfl) (by rfl) ?_))
  k_with "subscriptTail Name Constant ref int" => ((k_here; (with_reducible rename StrsAre _ _ => hSA); refine item_strsA (News.isList (by assumption) (by k_mem)) hSA (by decide) (by first | omega | (simp only [List.length_map]; omega)) (by decide) ?_; intro t'))
  k_with "call type:ValueError" => ((refine call_ValueError_made ?_; intro _ _ _))
  k_with "exec While Compare Name cons nil" => (refine Hold.mk ?_)
  k_with "exec While Compare" => (refine Hold.mk ?_)
  k_with "exec While Compare cons nil" => (refine Hold.mk ?_)
  k_with "exec While" => (refine Hold.mk ?_)
  k_with "binaryOp FloorDiv int int" => ((k_here; (with_reducible refine floordiv_pos ?kb1 ?kb2 ?_); (case kb1 => decide); (case kb2 => decide +kernel)))
  k_with "WhlIf" => ((refine whlIf_dec ?_ ?_ <;> intro _))
  k_with "subscriptTail Name Name ref int" => ((k_here; first
    | ((with_reducible rename StrsAre _ _ => hSA); refine item_strsA (News.isList (by assumption) (by k_mem)) hSA (by omega) (by omega) (by omega) ?_; intro t')
    | ((with_reducible rename IntsAre _ _ => hSA); refine item_intsA (News.isList (by assumption) (by k_mem)) hSA (by omega) (by omega) (by omega) ?_; intro t')))
  k_with "call builtin:len" => ((k_here; (with_reducible show wpAny _ _ (call (Value.builtin "len") [Value.ref _]) _ _ _); first
    | ((with_reducible rename StrsAre _ _ => hSA); refine len_strsA (News.isList (by assumption) (by k_mem)) hSA (by omega) ?_)
    | ((with_reducible rename IntsAre _ _ => hSA); refine len_intsA (News.isList (by assumption) (by k_mem)) hSA (by omega) ?_)))
  k_with "subscriptTail Name Constant ref int" => ((k_here; refine item_listL (News.isList (by assumption) (by k_mem)) (by decide) (by decide) (by rfl) ?_))
  trivial
local macro_rules | `(tactic| k_mem) => `(tactic| first | with_reducible assumption | (refine mem_in ?_; with_reducible assumption))
theorem lines_T2D_2 : True := by
  k_with "call builtin:len" => ((k_here; (with_reducible show wpAny _ _ (call (Value.builtin "len") [Value.ref _]) _ _ _); k_dflt (refine' len_L ?kN ?kM ?kz ?_; (case kN => with_reducible assumption); (case kM => k_mem); (case kz => omega))))
  k_with "CompSrcT" => ((refine Hold.mk ?_))
  k_with "CompSrc" => ((refine Hold.mk ?_))
  k_with "subscriptTail Name Constant ref int" => ((k_here; refine item_listL (News.isList (by assumption) (by k_mem)) (by decide) (by decide) (by rfl) ?_))
  k_with "call ref" => (((with_reducible show wpAny _ _ (call (Value.ref 101) _ _) _ _ _); refine' bisL_twok (hv := Value.none) (tl := 0) ?kB ?kX ?kT ?kXB ?kTB ?kD ?kh ?kd ?ku ?kF ?kN ?kra hrow ?kl rfl ?kv0 ?_ ?kx; (case kB => assumption); (case kX => assumption); (case kT => assumption); (case kXB => assumption); (case kTB => assumption); (case kD => assumption); (case kh => rfl); (case kd => ((try dsimp only [Tr.size]); omega)); (case ku => ((try dsimp only [Tr.size]); omega)); (case kF => with_reducible assumption); (case kN => with_reducible assumption); (case kra => k_mem); (case kl => omega); (case kv0 => (intro msg e; exact ok_no hbL.eq e)); (case kx => (intro ek r t1 g₂ e t h' tk hq; exact (ok_no hbL.eq hq).elim)); intro nB tB hB tkB eB FB NB; (have eB := ok_same eB hbL.eq; subst eB)))
  k_with "call ref" => (((with_reducible show wpAny _ _ (call (Value.ref 83) _ _) _ _ _); refine' bisR_twok (hv := Value.none) (tl := 0) ?kB ?kX ?kT ?kXB ?kTB ?kD ?kh ?kd ?ku ?kF ?kN ?kra hrow ?kl rfl ?kv0 ?_ ?kx; (case kB => assumption); (case kX => assumption); (case kT => assumption); (case kXB => assumption); (case kTB => assumption); (case kD => assumption); (case kh => rfl); (case kd => ((try dsimp only [Tr.size]); omega)); (case ku => ((try dsimp only [Tr.size]); omega)); (case kF => with_reducible assumption); (case kN => with_reducible assumption); (case kra => k_mem); (case kl => omega); (case kv0 => (intro msg e; exact ok_no hbR.eq e)); (case kx => (intro ek r t1 g₂ e t h' tk hq; exact (ok_no hbR.eq hq).elim)); intro nB tB hB tkB eB FB NB; (have eB := ok_same eB hbR.eq; subst eB)))
  k_with "call ref" => (((with_reducible show wpAny _ _ (call (Value.ref 164) _) _ _ _); refine Hold.mk ?_))
  k_with "call builtin:list.pop" => ((refine Hold.mk ?_))
  trivial
/-- a fact kept from the walk's eyes -/
structure EqOk {α β : Type} (x : Except α β) (y : β) : Prop where
  eq : x = .ok y
/-- the ledger of a turn -/
structure TurnNe (c1 dk dr : Addr) (led : Ldg) : Prop where
  a : dk ≠ c1
  b : dr ≠ c1
  c : dr ≠ dk
  l1 : ∀ p ∈ led, p.1 ≠ c1
  l2 : ∀ p ∈ led, p.1 ≠ dk
  l3 : ∀ p ∈ led, p.1 ≠ dr
theorem TurnNe.k {c1 dk dr : Addr} {led : Ldg} (h : TurnNe c1 dk dr led) {o1 ok or : Obj} : UpdF dk ok ((c1, o1) :: (dk, ok) :: (dr, or) :: led) (fun o => (c1, o1) :: (dk, o) :: (dr, or) :: led) :=
  UpdF.tail h.a.symm (UpdF.head fun p hp => by
    rcases List.mem_cons.mp hp with rfl | hp
    · exact h.c
    · exact h.l2 p hp)
theorem TurnNe.r {c1 dk dr : Addr} {led : Ldg} (h : TurnNe c1 dk dr led) {o1 ok or : Obj} : UpdF dr or ((c1, o1) :: (dk, ok) :: (dr, or) :: led) (fun o => (c1, o1) :: (dk, ok) :: (dr, o) :: led) :=
  UpdF.tail h.b.symm (UpdF.tail h.c.symm (UpdF.head h.l3))
section
variable {w : World} {p : Program} {loose : List PStr} {mean : ExcName → Option Value} {mg mb : PStr → Option Value}
    {dp un : Nat} {gd : Option (List Code)} {a : Addr} {ccd : Value} {c1 c2 : Addr} {A₀ : Around} {base h₀ : Heap} {L : Addr}
    {s : Shared} {news : Ldg}
    (B : Below A₀ base [] h₀) (X : (KK.heap_1 w.params).In h₀) (T : Top p loose mean mg mb h₀) (XB : (KK.heap_1 w.params).In base) (TB : Top p loose mean mg mb base)
include B X T XB TB
theorem t2_del6 {dk dr : Addr} {kvs rvs : List Value} {t : Tr} {o1 : Obj} {ek er i : Nat} {port : Int} {td tl tu tt tp : Tok} {led : Ldg} {jk : PStr → Option Value} {Q : Flow → Shared → Prop} {E : Value → Shared → Prop}
   (hd5 : dp + 200 < recursionLimit) (hu5 : un + 2000 < cLine) (hst : TrSt t i) (hi : i ≤ 15)
   (F : Fr h₀ L s.heap (fun y => if y = Str.ofString "deed" then some (.int 6 td) else if y = Str.ofString "less" then some (.int (lessT port t.row) tl) else if y = Str.ofString "upto" then some (.int (uptoT port t.row) tu) else if y = Str.ofString "kept" then some (.ref dk) else if y = Str.ofString "row" then some (.ref dr) else if y = Str.ofString "text" then some (.str t.txt tt) else jk y))
   (N : News h₀ L s.heap ((c1, o1) :: (dk, lstOf kvs ek) :: (dr, lstOf rvs er) :: led)) (hne : TurnNe c1 dk dr led) (ho1 : o1.data = .cell (some (.int port tp)))
   (hK : KpAre led kvs t.row) (hS : StrsAre rvs t.row)
   (hsame : ∀ h' tk pv, Fr h₀ L h' (fun y => if y = Str.ofString "place" then some pv else if y = Str.ofString "deed" then some (.int 6 td) else if y = Str.ofString "less" then some (.int (lessT port t.row) tl) else if y = Str.ofString "upto" then some (.int (uptoT port t.row) tu) else if y = Str.ofString "kept" then some (.ref dk) else if y = Str.ofString "row" then some (.ref dr) else if y = Str.ofString "text" then some (.str t.txt tt) else jk y) → News h₀ L h' ((c1, o1) :: (dk, lstOf kvs ek) :: (dr, lstOf rvs er) :: led) → Q .next { s with heap := h', toks := tk })
   (hdel : ∀ h' tk pv p t2, p < t.size → Fr h₀ L h' (fun y => if y = Str.ofString "text" then some (.str (withoutT t p).txt t2) else if y = Str.ofString "place" then some pv else if y = Str.ofString "deed" then some (.int 6 td) else if y = Str.ofString "less" then some (.int (lessT port t.row) tl) else if y = Str.ofString "upto" then some (.int (uptoT port t.row) tu) else if y = Str.ofString "kept" then some (.ref dk) else if y = Str.ofString "row" then some (.ref dr) else if y = Str.ofString "text" then some (.str t.txt tt) else jk y) → News h₀ L h' ((c1, o1) :: (dk, lstOf (kvs.eraseIdx p) (ek + 1)) :: (dr, lstOf (rvs.eraseIdx p) (er + 1)) :: led) → Q .next { s with heap := h', toks := tk }) :
   wpAny (model PySem.Challenge.rw_pm0034_02.row.prog w) (ktrTop dp un gd (Str.ofString "law") lawScope2 L a ccd (cells2 c1 c2) []) (execs (ifThen (turn2.drop 4)) (envX (Str.ofString "law") lawScope2 L a ccd (cells2 c1 c2))) Q E s := by
  walk_at "M fill"
  have D : KtsDicts (([] : List Env).filterMap (·.frame)) h₀ := fun b hb => nomatch hb
  have hck : lawScope2.kind = .function := by with_unfolding_all rfl
  have hrow := rowIs_of hS hst.rep
  have hsz := hst.size
  have hrl := t.row_len
  have hlu := less_upto (p := port) hst.srt
  have hul : uptoT port t.row ≤ t.row.length := upto_le
  have hbL : EqOk (bis false (fun i => p229 (t.row.getD i Str.empty)) port (t.row.length - 0) 0 t.row.length) (lessT port t.row) := ⟨bis_row0 hst.rep hst.srt⟩
  have hbR : EqOk (bis true (fun i => p229 (t.row.getD i Str.empty)) port (t.row.length - 0) 0 t.row.length) (uptoT port t.row) := ⟨bis_row0 hst.rep hst.srt⟩
  have hkl := hK.length
  have hrvl := hS.len_eq
  show wpAny _ (ktrTop _ _ _ _ (Scope.mk _ _ _ _ _) _ _ _ _ _) (execs (_ :: _ :: _ :: []) (envX _ (Scope.mk _ _ _ _ _) _ _ _ _)) _ _ _
  k_steps
  · exfalso; omega
  · have hp : lessT port t.row < t.size := by omega
    refine Hold.out ?_
    refine' pop_L (k := lessT port t.row) ?aF ?aN hne.k ?ax ?ak ?az ?_
    case aF => with_reducible assumption
    case aN => with_reducible assumption
    case ax => omega
    case ak => omega
    case az => omega
    intro hA FA NA
    k_steps
    refine Hold.out ?_
    refine' pop_L (k := lessT port t.row) ?aF ?aN hne.r ?ax ?ak ?az ?_
    case aF => with_reducible assumption
    case aN => with_reducible assumption
    case ax => omega
    case ak => omega
    case az => omega
    intro hB FB2 NB2
    k_steps
    refine Hold.out ?_
    refine' (without_all t).go (pl := lessT port t.row) ?kB ?kX ?kT ?kXB ?kTB ?kD ?kh ?kd ?ku ?kF ?kN ?k5 ?k6 ?k7 ?k8 ?_; (case kB => assumption); (case kX => assumption); (case kT => assumption); (case kXB => assumption); (case kTB => assumption); (case kD => assumption); (case kh => rfl); (case kd => ((try dsimp only [Tr.size]); omega)); (case ku => ((try dsimp only [Tr.size]); omega)); (case kF => with_reducible assumption); (case kN => with_reducible assumption); (case k5 => exact hst.good); (case k6 => omega); (case k7 => omega); (case k8 => exact hp)
    intro tW hW tkW FW NW
    k_steps
    exact hdel _ _ _ _ _ hp (by assumption) (by assumption)
  · exact hsame _ _ _ (by assumption) (by assumption)
end
section
variable {w : World} {p : Program} {loose : List PStr} {mean : ExcName → Option Value} {mg mb : PStr → Option Value}
    {dp un : Nat} {gd : Option (List Code)} {a : Addr} {ccd : Value} {c1 c2 : Addr} {A₀ : Around} {base h₀ : Heap} {L : Addr}
    {s : Shared} {news : Ldg}
    (B : Below A₀ base [] h₀) (X : (KK.heap_1 w.params).In h₀) (T : Top p loose mean mg mb h₀) (XB : (KK.heap_1 w.params).In base) (TB : Top p loose mean mg mb base)
include B X T XB TB
theorem t2_del7 {dk dr : Addr} {kvs rvs : List Value} {t : Tr} {o1 : Obj} {ek er i : Nat} {port : Int} {td tl tu tt tp : Tok} {led : Ldg} {jk : PStr → Option Value} {Q : Flow → Shared → Prop} {E : Value → Shared → Prop}
   (hd5 : dp + 200 < recursionLimit) (hu5 : un + 2000 < cLine) (hst : TrSt t i) (hi : i ≤ 15)
   (F : Fr h₀ L s.heap (fun y => if y = Str.ofString "deed" then some (.int 7 td) else if y = Str.ofString "less" then some (.int (lessT port t.row) tl) else if y = Str.ofString "upto" then some (.int (uptoT port t.row) tu) else if y = Str.ofString "kept" then some (.ref dk) else if y = Str.ofString "row" then some (.ref dr) else if y = Str.ofString "text" then some (.str t.txt tt) else jk y))
   (N : News h₀ L s.heap ((c1, o1) :: (dk, lstOf kvs ek) :: (dr, lstOf rvs er) :: led)) (hne : TurnNe c1 dk dr led) (ho1 : o1.data = .cell (some (.int port tp)))
   (hK : KpAre led kvs t.row) (hS : StrsAre rvs t.row)
   (hsame : ∀ h' tk pv, Fr h₀ L h' (fun y => if y = Str.ofString "place" then some pv else if y = Str.ofString "deed" then some (.int 7 td) else if y = Str.ofString "less" then some (.int (lessT port t.row) tl) else if y = Str.ofString "upto" then some (.int (uptoT port t.row) tu) else if y = Str.ofString "kept" then some (.ref dk) else if y = Str.ofString "row" then some (.ref dr) else if y = Str.ofString "text" then some (.str t.txt tt) else jk y) → News h₀ L h' ((c1, o1) :: (dk, lstOf kvs ek) :: (dr, lstOf rvs er) :: led) → Q .next { s with heap := h', toks := tk })
   (hdel : ∀ h' tk pv p t2, p < t.size → Fr h₀ L h' (fun y => if y = Str.ofString "text" then some (.str (withoutT t p).txt t2) else if y = Str.ofString "place" then some pv else if y = Str.ofString "deed" then some (.int 7 td) else if y = Str.ofString "less" then some (.int (lessT port t.row) tl) else if y = Str.ofString "upto" then some (.int (uptoT port t.row) tu) else if y = Str.ofString "kept" then some (.ref dk) else if y = Str.ofString "row" then some (.ref dr) else if y = Str.ofString "text" then some (.str t.txt tt) else jk y) → News h₀ L h' ((c1, o1) :: (dk, lstOf (kvs.eraseIdx p) (ek + 1)) :: (dr, lstOf (rvs.eraseIdx p) (er + 1)) :: led) → Q .next { s with heap := h', toks := tk }) :
   wpAny (model PySem.Challenge.rw_pm0034_02.row.prog w) (ktrTop dp un gd (Str.ofString "law") lawScope2 L a ccd (cells2 c1 c2) []) (execs (ifThen (turn2.drop 4)) (envX (Str.ofString "law") lawScope2 L a ccd (cells2 c1 c2))) Q E s := by
  walk_at "M fill"
  have D : KtsDicts (([] : List Env).filterMap (·.frame)) h₀ := fun b hb => nomatch hb
  have hck : lawScope2.kind = .function := by with_unfolding_all rfl
  have hrow := rowIs_of hS hst.rep
  have hsz := hst.size
  have hrl := t.row_len
  have hlu := less_upto (p := port) hst.srt
  have hul : uptoT port t.row ≤ t.row.length := upto_le
  have hbL : EqOk (bis false (fun i => p229 (t.row.getD i Str.empty)) port (t.row.length - 0) 0 t.row.length) (lessT port t.row) := ⟨bis_row0 hst.rep hst.srt⟩
  have hbR : EqOk (bis true (fun i => p229 (t.row.getD i Str.empty)) port (t.row.length - 0) 0 t.row.length) (uptoT port t.row) := ⟨bis_row0 hst.rep hst.srt⟩
  have hkl := hK.length
  have hrvl := hS.len_eq
  show wpAny _ (ktrTop _ _ _ _ (Scope.mk _ _ _ _ _) _ _ _ _ _) (execs (_ :: _ :: _ :: []) (envX _ (Scope.mk _ _ _ _ _) _ _ _ _)) _ _ _
  k_steps
  · exfalso; omega
  · have hp : (uptoT port t.row - 1) < t.size := by omega
    refine Hold.out ?_
    refine' pop_L (k := (uptoT port t.row - 1)) ?aF ?aN hne.k ?ax ?ak ?az ?_
    case aF => with_reducible assumption
    case aN => with_reducible assumption
    case ax => omega
    case ak => omega
    case az => omega
    intro hA FA NA
    k_steps
    refine Hold.out ?_
    refine' pop_L (k := (uptoT port t.row - 1)) ?aF ?aN hne.r ?ax ?ak ?az ?_
    case aF => with_reducible assumption
    case aN => with_reducible assumption
    case ax => omega
    case ak => omega
    case az => omega
    intro hB FB2 NB2
    k_steps
    refine Hold.out ?_
    refine' (without_all t).go (pl := (uptoT port t.row - 1)) ?kB ?kX ?kT ?kXB ?kTB ?kD ?kh ?kd ?ku ?kF ?kN ?k5 ?k6 ?k7 ?k8 ?_; (case kB => assumption); (case kX => assumption); (case kT => assumption); (case kXB => assumption); (case kTB => assumption); (case kD => assumption); (case kh => rfl); (case kd => ((try dsimp only [Tr.size]); omega)); (case ku => ((try dsimp only [Tr.size]); omega)); (case kF => with_reducible assumption); (case kN => with_reducible assumption); (case k5 => exact hst.good); (case k6 => omega); (case k7 => omega); (case k8 => exact hp)
    intro tW hW tkW FW NW
    k_steps
    exact hdel _ _ _ _ _ hp (by assumption) (by assumption)
  · exact hsame _ _ _ (by assumption) (by assumption)
end
end
section
theorem lines_T2E_0 : True := by
  k_with_none
  k_with "execs cons" => ((refine f_execs ?_; intro qk))
  k_with "eval BinOp" => ((refine f_BinOp ?_; intro qk))
  k_with "exec Assign" => ((refine f_Assign ?_; intro qk))
  k_with "eval Subscript" => ((refine f_Subscript ?_; intro qk))
  k_with "isTrue Compare" => ((refine f_Compare ?_; intro qk))
  k_with "exec If" => ((refine f_If ?_; intro qk))
  k_with "eval Call" => (((fail_if_success (with_reducible show wpAny _ _ (eval (Expr.Call (Expr.Attribute _ _ _) _ _ _) _) _ _ _)); refine f_Call ?_; intro qk))
  k_with "spliced" => ((refine f_args ?_; intro qk))
  k_with "callWith" => ((refine f_method1 ?_; intro qk))
  k_with "exec Return some" => ((refine f_Return ?_; intro qk))
  k_with "eval Tuple" => ((refine f_Tuple ?_; intro qk))
  k_with "eval List" => ((refine f_List ?_; intro qk))
  k_with "eval IfExp" => ((refine f_IfExp ?_; intro qk))
  k_with "storeName" => ((k_here; k_dflt (refine' f_store ?F ?N ?_ ?a ?b; (case F => k_asm); (case N => k_asm); (case a => rfl); (case b => rfl); k_whole; intro m' h' F' N'; (try k_sweep))))
  k_with "M map1" => (first
    | (refine map_same ?_; with_unfolding_all rfl)
    | ((repeat' (refine List.forall_mem_cons.mpr (And.intro ?_ ?_))); (all_goals first | rfl | exact List.forall_mem_nil _)))
  k_with "M map2" => (first
    | (refine SameOut.both (b := fun _ => none) ?_ ?_ <;> (repeat (refine SameOut.upd ?_ (by with_unfolding_all rfl))) <;> exact SameOut.lookup rfl)
    | (refine' SameOut.both (b := ?kb) ?k1 ?k2; (case k1 => ((repeat (refine SameOut.upd ?_ (by with_unfolding_all rfl))); exact SameOut.refl)); (case k2 => ((repeat (refine SameOut.upd ?_ (by with_unfolding_all rfl))); exact SameOut.refl)))
    | (refine' SameOut.both (b := ?kb) ?k1 ?k2; (case k2 => ((repeat (refine SameOut.upd ?_ (by with_unfolding_all rfl))); exact SameOut.refl)); (case k1 => ((repeat (refine SameOut.skip ?_)); (repeat (refine SameOut.upd ?_ (by with_unfolding_all rfl))); exact SameOut.refl)))
    | (intro y hy; (repeat (refine (if_neg (ne_of_out hy (by with_unfolding_all rfl))).trans ?_)); (refine Eq.symm ?_); (repeat (refine (if_neg (ne_of_out hy (by with_unfolding_all rfl))).trans ?_)); first | rfl | exact lookup_out rfl hy | exact (lookup_out rfl hy).symm | exact (lookup_out rfl hy).trans (lookup_out rfl hy).symm))
  k_with "M fill" => ((
    have kk : PySem.Challenge.rw_pm0034_02 = PySem.Challenge.rw_pm0034_02 ∧ KK.heap_1 = KK.heap_1 := ⟨rfl, rfl⟩
    revert kk
    k_fill
    intro kk
    clear kk))
  k_with "M enter" => ((
    refine wpAny_call ?_
    k_dflt (refine' code_def ?k1 ?k2 ?k3 ?k4 ?k5 ?kA ?kF ?kK ?k6 ?k7 ?k8 ?k9 ?kB ?_ ?c2 ?c3 ?c4 ?c5; (case kA => exact rfl); (case kF => exact rfl); (case kK => assumption); (case k1 => k_asm); (case k2 => k_asm); (case k3 => k_asm); (case k4 => k_asm); (case k5 => k_asm); (case k6 => k_is); (case k7 => k_is); (case k8 => ((try dsimp only); omega)); (case k9 => first | exact BindsTo.of_eq rfl | (refine' kp_binds ?kx ?ke; (case kx => first | (refine' myIn ?kf ?ki; (case kf => with_reducible assumption); (case ki => with_reducible assumption)) | k_in); (case ke => exact fun _ => rfl)) | exact binds_K (by first | (refine' myIn ?kf ?ki; (case kf => with_reducible assumption); (case ki => with_reducible assumption)) | k_in) rfl (by k_is) rfl rfl rfl); (case c5 => decide); (case kB => exact locs rfl); (case c2 => exact rfl); (case c3 => exact rfl); (case c4 => exact rfl); k_whole; intro g' L' h' FG' F' N' B' X' T'; (have D' := kts_dict B' (by assumption) FG' rfl); (try dsimp only); (try k_lift B'); (refine let_AE (f := execs _) ?_; intro vk ak); (refine f_QE ?_; intro qk ek))))
  k_with "M enter0" => ((
    refine wpAny_call ?_
    k_dflt (refine' code_defS0X ?k1 ?k2 ?k3 ?k4 ?k5 ?kA ?kF ?kK ?k6 ?k7 ?k8 ?k9 ?kB ?_ ?c2 ?c3 ?c4 ?c5; (case kA => exact rfl); (case kF => exact rfl); (case kK => assumption); (case k1 => k_asm); (case k2 => k_asm); (case k3 => k_asm); (case k4 => k_asm); (case k5 => k_asm); (case k6 => k_is); (case k7 => k_is); (case k8 => ((try dsimp only); omega)); (case k9 => first | exact BindsTo.of_eq rfl | (refine' kp_binds ?kx ?ke; (case kx => first | (refine' myIn ?kf ?ki; (case kf => with_reducible assumption); (case ki => with_reducible assumption)) | k_in); (case ke => exact fun _ => rfl)) | exact binds_K (by first | (refine' myIn ?kf ?ki; (case kf => with_reducible assumption); (case ki => with_reducible assumption)) | k_in) rfl (by k_is) rfl rfl rfl); (case c5 => decide); (case kB => exact locs rfl); (case c2 => exact rfl); (case c3 => exact rfl); (case c4 => exact rfl); k_whole; intro g' L' h' FG' F' N' B' X' T' D'; (try dsimp only); (try k_lift B'); (refine let_AE (f := execs _) ?_; intro vk ak); (refine f_QE ?_; intro qk ek))))
  trivial
local macro_rules | `(tactic| k_mem) => `(tactic| first | with_reducible assumption | (refine mem_in ?_; with_reducible assumption))
theorem lines_T2E_1 : True := by
  k_with "subscriptTail Name Constant ref int" => ((k_here; refine item_tupleT (News.isTup (by assumption) (by k_mem)) (by decide) (by decide) (by rfl) (by rfl) ?_))
  k_with "subscriptTail Name Constant ref int" => ((k_here; (with_reducible rename StrsAre _ _ => hSA); refine item_strsA (News.isList (by assumption) (by k_mem)) hSA (by decide) (by first | omega | (simp only [List.length_map]; omega)) (by decide) ?_; intro t'))
  k_with "call type:ValueError" => ((refine call_ValueError_made ?_; intro _ _ _))
  k_with "exec While Compare Name cons nil" => (refine Hold.mk ?_)
  k_with "exec While Compare" => (refine Hold.mk ?_)
  k_with "exec While Compare cons nil" => (refine Hold.mk ?_)
  k_with "exec While" => (refine Hold.mk ?_)
  k_with "binaryOp FloorDiv int int" => ((k_here; (with_reducible refine floordiv_pos ?kb1 ?kb2 ?_); (case kb1 => decide); (case kb2 => decide +kernel)))
  k_with "WhlIf" => ((refine whlIf_dec ?_ ?_ <;> intro _))
  k_with "subscriptTail Name Name ref int" => ((k_here; first
    | ((with_reducible rename StrsAre _ _ => hSA); refine item_strsA (News.isList (by assumption) (by k_mem)) hSA (by omega) (by omega) (by omega) ?_; intro t')
    | ((with_reducible rename IntsAre _ _ => hSA); refine item_intsA (News.isList (by assumption) (by k_mem)) hSA (by omega) (by omega) (by omega) ?_; intro t')))
  k_with "call builtin:len" => ((k_here; (with_reducible show wpAny _ _ (call (Value.builtin "len") [Value.ref _]) _ _ _); first
    | ((with_reducible rename StrsAre _ _ => hSA); refine len_strsA (News.isList (by assumption) (by k_mem)) hSA (by omega) ?_)
    | ((with_reducible rename IntsAre _ _ => hSA); refine len_intsA (News.isList (by assumption) (by k_mem)) hSA (by omega) ?_)))
  k_with "subscriptTail Name Constant ref int" => ((k_here; refine item_listL (News.isList (by assumption) (by k_mem)) (by decide) (by decide) (by rfl) ?_))
  trivial
local macro_rules | `(tactic| k_mem) => `(tactic| first | with_reducible assumption | (refine mem_in ?_; with_reducible assumption))
theorem lines_T2E_2 : True := by
  k_with "call builtin:len" => ((k_here; (with_reducible show wpAny _ _ (call (Value.builtin "len") [Value.ref _]) _ _ _); k_dflt (refine' len_L ?kN ?kM ?kz ?_; (case kN => with_reducible assumption); (case kM => k_mem); (case kz => omega))))
  k_with "CompSrcT" => ((refine Hold.mk ?_))
  k_with "CompSrc" => ((refine Hold.mk ?_))
  k_with "subscriptTail Name Constant ref int" => ((k_here; refine item_listL (News.isList (by assumption) (by k_mem)) (by decide) (by decide) (by rfl) ?_))
  k_with "call ref" => (((with_reducible show wpAny _ _ (call (Value.ref 129) _) _ _ _); refine Hold.mk ?_))
  trivial
/-- a port's text -/
structure PortOk (port : Int) : Prop where
  lo : 0 ≤ port
  hi : port ≤ 24
  len : (Str.ofString (toString port)).length ≤ 8
  ne : (Str.ofString "#" == Str.ofString (toString port)) = false
noncomputable abbrev pT (port : Int) : PStr := Str.ofString (toString port)
noncomputable abbrev hT (i : Nat) : PStr := ⟨#[(97 + (i : Int)).toNat]⟩
section
variable {w : World} {p : Program} {loose : List PStr} {mean : ExcName → Option Value} {mg mb : PStr → Option Value}
    {dp un : Nat} {gd : Option (List Code)} {a : Addr} {ccd : Value} {c1 c2 : Addr} {A₀ : Around} {base h₀ : Heap} {L : Addr}
    {s : Shared} {news : Ldg}
    (B : Below A₀ base [] h₀) (X : (KK.heap_1 w.params).In h₀) (T : Top p loose mean mg mb h₀) (XB : (KK.heap_1 w.params).In base) (TB : Top p loose mean mg mb base)
include B X T XB TB
theorem t2_e1 {dn : Addr} {nvs : List Value} {ns : List Int} {o1 : Obj} {i : Nat} {port : Int} {ti td tp : Tok} {jk : PStr → Option Value} {Q : Flow → Shared → Prop} {E : Value → Shared → Prop}
   (hd5 : dp + 200 < recursionLimit) (hu5 : un + 2000 < cLine) (hi : i < ns.length) (hpo : PortOk port)
   (F : Fr h₀ L s.heap (fun y => if y = Str.ofString "deed" then some (.int ((ns.getD i 0).fmod 8) td) else if y = Str.ofString "turn" then some (.int i ti) else if y = Str.ofString "numbers" then some (.ref dn) else jk y))
   (N : News h₀ L s.heap news) (hc1 : (c1, o1) ∈ news) (ho1 : o1.data = .cell (some (.int port tp))) (hdn : (dn, lstOf nvs 0) ∈ news) (hns : IntsAre nvs ns) (hnl : ns.length ≤ 15)
   (hgood : ¬ 3 < (ns.getD i 0).fmod 8 → ∀ h' tk tr th, Fr h₀ L h' (fun y => if y = Str.ofString "due" then some .none else if y = Str.ofString "reply" then some (.str (rgood ((ns.getD i 0 / 40).fmod 4).toNat (pT port) (hT i)) tr) else if y = Str.ofString "host" then some (.str (hT i) th) else if y = Str.ofString "deed" then some (.int ((ns.getD i 0).fmod 8) td) else if y = Str.ofString "turn" then some (.int i ti) else if y = Str.ofString "numbers" then some (.ref dn) else jk y) → News h₀ L h' news → Q .next { s with heap := h', toks := tk })
   (hbad : 3 < (ns.getD i 0).fmod 8 → ∀ h' tk tr te th, Fr h₀ L h' (fun y => if y = Str.ofString "due" then some (.str (dbad ((ns.getD i 0 / 40).fmod 7).toNat (pT port) (hT i)) te) else if y = Str.ofString "reply" then some (.str (rbad ((ns.getD i 0 / 40).fmod 7).toNat (pT port) (hT i)) tr) else if y = Str.ofString "host" then some (.str (hT i) th) else if y = Str.ofString "deed" then some (.int ((ns.getD i 0).fmod 8) td) else if y = Str.ofString "turn" then some (.int i ti) else if y = Str.ofString "numbers" then some (.ref dn) else jk y) → News h₀ L h' news → Q .next { s with heap := h', toks := tk }) :
   wpAny (model PySem.Challenge.rw_pm0034_02.row.prog w) (ktrTop dp un gd (Str.ofString "law") lawScope2 L a ccd (cells2 c1 c2) []) (execs ((ifElse (turn2.drop 4)).take 2) (envX (Str.ofString "law") lawScope2 L a ccd (cells2 c1 c2))) Q E s := by
  walk_at "M fill"
  have D : KtsDicts (([] : List Env).filterMap (·.frame)) h₀ := fun b hb => nomatch hb
  have hck : lawScope2.kind = .function := by with_unfolding_all rfl
  obtain ⟨hp0, hp1, hpl, hpn⟩ := hpo
  show wpAny _ (ktrTop _ _ _ _ (Scope.mk _ _ _ _ _) _ _ _ _ _) (execs (_ :: _ :: []) (envX _ (Scope.mk _ _ _ _ _) _ _ _ _)) _ _ _
  k_steps
  refine Hold.out ?_
  have ein : ns.getD ((i : Int)).toNat 0 = ns.getD i 0 := rfl
  rw [ein]
  by_cases hdd : 3 < (ns.getD i 0).fmod 8
  · rw [decide_eq_true hdd]
    refine' reply_bad (t0 := 0) ?kB ?kX ?kT ?kXB ?kTB ?kD ?kh ?kd ?ku ?kF ?kN hpl rfl hpn ?kt ?_; (case kB => assumption); (case kX => assumption); (case kT => assumption); (case kXB => assumption); (case kTB => assumption); (case kD => assumption); (case kh => rfl); (case kd => ((try dsimp only [Tr.size]); omega)); (case ku => ((try dsimp only [Tr.size]); omega)); (case kF => with_reducible assumption); (case kN => with_reducible assumption); (case kt => ((try dsimp only); omega))
    intro d t u h' tk F2 N2 l2
    k_steps
    exact hbad hdd _ _ _ _ _ (by assumption) (news_drop1 (by assumption))
  · rw [decide_eq_false hdd]
    refine' reply_good (t0 := 0) ?kB ?kX ?kT ?kXB ?kTB ?kD ?kh ?kd ?ku ?kF ?kN hpl rfl hpn ?kt ?_; (case kB => assumption); (case kX => assumption); (case kT => assumption); (case kXB => assumption); (case kTB => assumption); (case kD => assumption); (case kh => rfl); (case kd => ((try dsimp only [Tr.size]); omega)); (case ku => ((try dsimp only [Tr.size]); omega)); (case kF => with_reducible assumption); (case kN => with_reducible assumption); (case kt => ((try dsimp only); omega))
    intro d t h' tk F2 N2 l2
    k_steps
    exact hgood hdd _ _ _ _ (by assumption) (news_drop1 (by assumption))
end
end
section
theorem lines_T2F_0 : True := by
  k_with_none
  k_with "execs cons" => ((refine f_execs ?_; intro qk))
  k_with "eval BinOp" => ((refine f_BinOp ?_; intro qk))
  k_with "exec Assign" => ((refine f_Assign ?_; intro qk))
  k_with "eval Subscript" => ((refine f_Subscript ?_; intro qk))
  k_with "isTrue Compare" => ((refine f_Compare ?_; intro qk))
  k_with "exec If" => ((refine f_If ?_; intro qk))
  k_with "eval Call" => (((fail_if_success (with_reducible show wpAny _ _ (eval (Expr.Call (Expr.Attribute _ _ _) _ _ _) _) _ _ _)); refine f_Call ?_; intro qk))
  k_with "spliced" => ((refine f_args ?_; intro qk))
  k_with "callWith" => ((refine f_method1 ?_; intro qk))
  k_with "exec Return some" => ((refine f_Return ?_; intro qk))
  k_with "eval Tuple" => ((refine f_Tuple ?_; intro qk))
  k_with "eval List" => ((refine f_List ?_; intro qk))
  k_with "eval IfExp" => ((refine f_IfExp ?_; intro qk))
  k_with "storeName" => ((k_here; k_dflt (refine' f_store ?F ?N ?_ ?a ?b; (case F => k_asm); (case N => k_asm); (case a => rfl); (case b => rfl); k_whole; intro m' h' F' N'; (try k_sweep))))
  k_with "M map1" => (first
    | (refine map_same ?_; with_unfolding_all rfl)
    | ((repeat' (refine List.forall_mem_cons.mpr (And.intro ?_ ?_))); (all_goals first | rfl | exact List.forall_mem_nil _)))
  k_with "M map2" => (first
    | (refine SameOut.both (b := fun _ => none) ?_ ?_ <;> (repeat (refine SameOut.upd ?_ (by with_unfolding_all rfl))) <;> exact SameOut.lookup rfl)
    | (refine' SameOut.both (b := ?kb) ?k1 ?k2; (case k1 => ((repeat (refine SameOut.upd ?_ (by with_unfolding_all rfl))); exact SameOut.refl)); (case k2 => ((repeat (refine SameOut.upd ?_ (by with_unfolding_all rfl))); exact SameOut.refl)))
    | (refine' SameOut.both (b := ?kb) ?k1 ?k2; (case k2 => ((repeat (refine SameOut.upd ?_ (by with_unfolding_all rfl))); exact SameOut.refl)); (case k1 => ((repeat (refine SameOut.skip ?_)); (repeat (refine SameOut.upd ?_ (by with_unfolding_all rfl))); exact SameOut.refl)))
    | (intro y hy; (repeat (refine (if_neg (ne_of_out hy (by with_unfolding_all rfl))).trans ?_)); (refine Eq.symm ?_); (repeat (refine (if_neg (ne_of_out hy (by with_unfolding_all rfl))).trans ?_)); first | rfl | exact lookup_out rfl hy | exact (lookup_out rfl hy).symm | exact (lookup_out rfl hy).trans (lookup_out rfl hy).symm))
  k_with "M fill" => ((
    have kk : PySem.Challenge.rw_pm0034_02 = PySem.Challenge.rw_pm0034_02 ∧ KK.heap_1 = KK.heap_1 := ⟨rfl, rfl⟩
    revert kk
    k_fill
    intro kk
    clear kk))
  k_with "M enter" => ((
    refine wpAny_call ?_
    k_dflt (refine' code_def ?k1 ?k2 ?k3 ?k4 ?k5 ?kA ?kF ?kK ?k6 ?k7 ?k8 ?k9 ?kB ?_ ?c2 ?c3 ?c4 ?c5; (case kA => exact rfl); (case kF => exact rfl); (case kK => assumption); (case k1 => k_asm); (case k2 => k_asm); (case k3 => k_asm); (case k4 => k_asm); (case k5 => k_asm); (case k6 => k_is); (case k7 => k_is); (case k8 => ((try dsimp only); omega)); (case k9 => first | exact BindsTo.of_eq rfl | (refine' kp_binds ?kx ?ke; (case kx => first | (refine' myIn ?kf ?ki; (case kf => with_reducible assumption); (case ki => with_reducible assumption)) | k_in); (case ke => exact fun _ => rfl)) | exact binds_K (by first | (refine' myIn ?kf ?ki; (case kf => with_reducible assumption); (case ki => with_reducible assumption)) | k_in) rfl (by k_is) rfl rfl rfl); (case c5 => decide); (case kB => exact locs rfl); (case c2 => exact rfl); (case c3 => exact rfl); (case c4 => exact rfl); k_whole; intro g' L' h' FG' F' N' B' X' T'; (have D' := kts_dict B' (by assumption) FG' rfl); (try dsimp only); (try k_lift B'); (refine let_AE (f := execs _) ?_; intro vk ak); (refine f_QE ?_; intro qk ek))))
  k_with "M enter0" => ((
    refine wpAny_call ?_
    k_dflt (refine' code_defS0X ?k1 ?k2 ?k3 ?k4 ?k5 ?kA ?kF ?kK ?k6 ?k7 ?k8 ?k9 ?kB ?_ ?c2 ?c3 ?c4 ?c5; (case kA => exact rfl); (case kF => exact rfl); (case kK => assumption); (case k1 => k_asm); (case k2 => k_asm); (case k3 => k_asm); (case k4 => k_asm); (case k5 => k_asm); (case k6 => k_is); (case k7 => k_is); (case k8 => ((try dsimp only); omega)); (case k9 => first | exact BindsTo.of_eq rfl | (refine' kp_binds ?kx ?ke; (case kx => first | (refine' myIn ?kf ?ki; (case kf => with_reducible assumption); (case ki => with_reducible assumption)) | k_in); (case ke => exact fun _ => rfl)) | exact binds_K (by first | (refine' myIn ?kf ?ki; (case kf => with_reducible assumption); (case ki => with_reducible assumption)) | k_in) rfl (by k_is) rfl rfl rfl); (case c5 => decide); (case kB => exact locs rfl); (case c2 => exact rfl); (case c3 => exact rfl); (case c4 => exact rfl); k_whole; intro g' L' h' FG' F' N' B' X' T' D'; (try dsimp only); (try k_lift B'); (refine let_AE (f := execs _) ?_; intro vk ak); (refine f_QE ?_; intro qk ek))))
  trivial
local macro_rules | `(tactic| k_mem) => `(tactic| first | with_reducible assumption | (refine mem_in ?_; with_reducible assumption))
theorem lines_T2F_1 : True := by
  k_with "subscriptTail Name Constant ref int" => ((k_here; refine item_tupleT (News.isTup (by assumption) (by k_mem)) (by decide) (by decide) (by rfl) (by rfl) ?_))
  k_with "subscriptTail Name Constant ref int" => ((k_here; (with_reducible rename StrsAre _ _ => hSA); refine item_strsA (News.isList (by assumption) (by k_mem)) hSA (by decide) (by first | omega | (simp only [List.length_map]; omega)) (by decide) ?_; intro t'))
  k_with "call type:ValueError" => ((refine call_ValueError_made ?_; intro _ _ _))
  k_with "exec While Compare Name cons nil" => (refine Hold.mk ?_)
  k_with "exec While Compare" => (refine Hold.mk ?_)
  k_with "exec While Compare cons nil" => (refine Hold.mk ?_)
  k_with "exec While" => (refine Hold.mk ?_)
  k_with "binaryOp FloorDiv int int" => ((k_here; (with_reducible refine floordiv_pos ?kb1 ?kb2 ?_); (case kb1 => decide); (case kb2 => decide +kernel)))
  k_with "WhlIf" => ((refine whlIf_dec ?_ ?_ <;> intro _))
  k_with "subscriptTail Name Name ref int" => ((k_here; first
    | ((with_reducible rename StrsAre _ _ => hSA); refine item_strsA (News.isList (by assumption) (by k_mem)) hSA (by omega) (by omega) (by omega) ?_; intro t')
    | ((with_reducible rename IntsAre _ _ => hSA); refine item_intsA (News.isList (by assumption) (by k_mem)) hSA (by omega) (by omega) (by omega) ?_; intro t')))
  k_with "call builtin:len" => ((k_here; (with_reducible show wpAny _ _ (call (Value.builtin "len") [Value.ref _]) _ _ _); first
    | ((with_reducible rename StrsAre _ _ => hSA); refine len_strsA (News.isList (by assumption) (by k_mem)) hSA (by omega) ?_)
    | ((with_reducible rename IntsAre _ _ => hSA); refine len_intsA (News.isList (by assumption) (by k_mem)) hSA (by omega) ?_)))
  k_with "subscriptTail Name Constant ref int" => ((k_here; refine item_listL (News.isList (by assumption) (by k_mem)) (by decide) (by decide) (by rfl) ?_))
  trivial
local macro_rules | `(tactic| k_mem) => `(tactic| first | with_reducible assumption | (refine mem_in ?_; with_reducible assumption))
theorem lines_T2F_2 : True := by
  k_with "call builtin:len" => ((k_here; (with_reducible show wpAny _ _ (call (Value.builtin "len") [Value.ref _]) _ _ _); k_dflt (refine' len_L ?kN ?kM ?kz ?_; (case kN => with_reducible assumption); (case kM => k_mem); (case kz => omega))))
  k_with "CompSrcT" => ((refine Hold.mk ?_))
  k_with "CompSrc" => ((refine Hold.mk ?_))
  k_with "subscriptTail Name Constant ref int" => ((k_here; refine item_listL (News.isList (by assumption) (by k_mem)) (by decide) (by decide) (by rfl) ?_))
  k_with "call ref" => (((with_reducible show wpAny _ _ (call (Value.ref 150) _) _ _ _); refine Hold.mk ?_))
  k_with "call builtin:list.insert" => ((refine Hold.mk ?_))
  trivial
theorem lt_led {c1 dk dr q : Addr} {oa ob oc : Obj} {led : Ldg} (h : c1 < q ∧ dk < q ∧ dr < q ∧ AllLt q led) : ∀ p ∈ (c1, oa) :: (dk, ob) :: (dr, oc) :: led, p.1 < q := by
  intro p hp
  rcases List.mem_cons.mp hp with rfl | hp
  · exact h.1
  rcases List.mem_cons.mp hp with rfl | hp
  · exact h.2.1
  rcases List.mem_cons.mp hp with rfl | hp
  · exact h.2.2.1
  · exact ktn_ltOf h.2.2.2 p hp
section
variable {w : World} {p : Program} {loose : List PStr} {mean : ExcName → Option Value} {mg mb : PStr → Option Value}
    {dp un : Nat} {gd : Option (List Code)} {a : Addr} {ccd : Value} {c1 c2 : Addr} {A₀ : Around} {base h₀ : Heap} {L : Addr}
    {s : Shared} {news : Ldg}
    (B : Below A₀ base [] h₀) (X : (KK.heap_1 w.params).In h₀) (T : Top p loose mean mg mb h₀) (XB : (KK.heap_1 w.params).In base) (TB : Top p loose mean mg mb base)
include B X T XB TB
theorem t2_e3 {dk dr : Addr} {kvs rvs : List Value} {t : Tr} {o1 : Obj} {ek er i : Nat} {port d : Int} {new : PStr} {tr td tl tu tt tp : Tok} {led : Ldg} {jk : PStr → Option Value} {Q : Flow → Shared → Prop} {E : Value → Shared → Prop}
   (hd5 : dp + 200 < recursionLimit) (hu5 : un + 2000 < cLine) (hst : TrSt t i) (hi : i ≤ 14) (hn : RepR new) (hkl : kvs.length ≤ 15)
   (F : Fr h₀ L s.heap (fun y => if y = Str.ofString "due" then some .none else if y = Str.ofString "reply" then some (.str new tr) else if y = Str.ofString "deed" then some (.int d td) else if y = Str.ofString "less" then some (.int (lessT port t.row) tl) else if y = Str.ofString "upto" then some (.int (uptoT port t.row) tu) else if y = Str.ofString "kept" then some (.ref dk) else if y = Str.ofString "text" then some (.str t.txt tt) else jk y))
   (N : News h₀ L s.heap ((c1, o1) :: (dk, lstOf kvs ek) :: (dr, lstOf rvs er) :: led)) (hne : TurnNe c1 dk dr led) (ho1 : o1.data = .cell (some (.int port tp)))
   (hret : ∀ h' tk q t2 pl, pl = (plT (!decide (d.fmod 2 ≠ 0)) port t.row : Int) → (∀ p ∈ (c1, o1) :: (dk, lstOf kvs ek) :: (dr, lstOf rvs er) :: led, p.1 < q) → Fr h₀ L h' (fun y => if y = Str.ofString "text" then some (.str (hungT (decide (d.fmod 2 ≠ 0)) new port t).txt t2) else if y = Str.ofString "due" then some .none else if y = Str.ofString "reply" then some (.str new tr) else if y = Str.ofString "deed" then some (.int d td) else if y = Str.ofString "less" then some (.int (lessT port t.row) tl) else if y = Str.ofString "upto" then some (.int (uptoT port t.row) tu) else if y = Str.ofString "kept" then some (.ref dk) else if y = Str.ofString "text" then some (.str t.txt tt) else jk y) → News h₀ L h' ((q, lstOf [.int port tp, .str new tr] 0) :: (c1, o1) :: (dk, lstOf (kl_ins kvs pl (.ref q)) (ek + 1)) :: (dr, lstOf rvs er) :: led) → Q .next { s with heap := h', toks := tk }) :
   wpAny (model PySem.Challenge.rw_pm0034_02.row.prog w) (ktrTop dp un gd (Str.ofString "law") lawScope2 L a ccd (cells2 c1 c2) []) (execs ((ifElse (turn2.drop 4)).drop 3) (envX (Str.ofString "law") lawScope2 L a ccd (cells2 c1 c2))) Q E s := by
  walk_at "M fill"
  have D : KtsDicts (([] : List Env).filterMap (·.frame)) h₀ := fun b hb => nomatch hb
  have hck : lawScope2.kind = .function := by with_unfolding_all rfl
  have hsz := hst.size
  have hll : lessT port t.row ≤ t.row.length := less_le
  have hul : uptoT port t.row ≤ t.row.length := upto_le
  have hrl := t.row_len
  show wpAny _ (ktrTop _ _ _ _ (Scope.mk _ _ _ _ _) _ _ _ _ _) (execs (_ :: []) (envX _ (Scope.mk _ _ _ _ _) _ _ _ _)) _ _ _
  k_steps
  all_goals (
    refine Hold.out ?_
    (with_reducible rename (_ ∧ _ ∧ _ ∧ AllLt _ led) => hlt)
    refine' insert_L ?aF ?aN ?aU ?a0 ?a1 ?az ?_
    case aF => with_reducible assumption
    case aN => with_reducible assumption
    case aU => exact UpdF.tail (Nat.ne_of_gt hlt.2.1) hne.k
    case a0 => omega
    case a1 => omega
    case az => omega
    intro hA FA NA
    k_steps
    refine Hold.out ?_
    refine' (hung_all (ai := d.fmod 2) (pt := port) (new := new) t).go ?kB ?kX ?kT ?kXB ?kTB ?kD ?kh ?kd ?ku ?kF ?kN ?k5 ?k6 ?k7 ?_; (case kB => assumption); (case kX => assumption); (case kT => assumption); (case kXB => assumption); (case kTB => assumption); (case kD => assumption); (case kh => rfl); (case kd => ((try dsimp only [Tr.size]); omega)); (case ku => ((try dsimp only [Tr.size]); omega)); (case kF => with_reducible assumption); (case kN => with_reducible assumption); (case k5 => exact hst.good); (case k6 => exact hn); (case k7 => omega)
    intro tW hW tkW FW NW
    k_steps)
  · refine hret _ _ _ _ _ ?_ (lt_led hlt) (by assumption) (by assumption)
    rw [decide_eq_true (by assumption)]; rfl
  · refine hret _ _ _ _ _ ?_ (lt_led hlt) (by assumption) (by assumption)
    rw [decide_eq_false (fun c => c (by assumption))]; rfl
end
end
section
theorem lines_T2G_0 : True := by
  k_with_none
  k_with "execs cons" => ((refine f_execs ?_; intro qk))
  k_with "eval BinOp" => ((refine f_BinOp ?_; intro qk))
  k_with "exec Assign" => ((refine f_Assign ?_; intro qk))
  k_with "eval Subscript" => ((refine f_Subscript ?_; intro qk))
  k_with "isTrue Compare" => ((refine f_Compare ?_; intro qk))
  k_with "exec If" => ((refine f_If ?_; intro qk))
  k_with "eval Call" => (((fail_if_success (with_reducible show wpAny _ _ (eval (Expr.Call (Expr.Attribute _ _ _) _ _ _) _) _ _ _)); refine f_Call ?_; intro qk))
  k_with "spliced" => ((refine f_args ?_; intro qk))
  k_with "callWith" => ((refine f_method1 ?_; intro qk))
  k_with "exec Return some" => ((refine f_Return ?_; intro qk))
  k_with "eval Tuple" => ((refine f_Tuple ?_; intro qk))
  k_with "eval List" => ((refine f_List ?_; intro qk))
  k_with "eval IfExp" => ((refine f_IfExp ?_; intro qk))
  k_with "storeName" => ((k_here; k_dflt (refine' f_store ?F ?N ?_ ?a ?b; (case F => k_asm); (case N => k_asm); (case a => rfl); (case b => rfl); k_whole; intro m' h' F' N'; (try k_sweep))))
  k_with "M map1" => (first
    | (refine map_same ?_; with_unfolding_all rfl)
    | ((repeat' (refine List.forall_mem_cons.mpr (And.intro ?_ ?_))); (all_goals first | rfl | exact List.forall_mem_nil _)))
  k_with "M map2" => (first
    | (refine SameOut.both (b := fun _ => none) ?_ ?_ <;> (repeat (refine SameOut.upd ?_ (by with_unfolding_all rfl))) <;> exact SameOut.lookup rfl)
    | (refine' SameOut.both (b := ?kb) ?k1 ?k2; (case k1 => ((repeat (refine SameOut.upd ?_ (by with_unfolding_all rfl))); exact SameOut.refl)); (case k2 => ((repeat (refine SameOut.upd ?_ (by with_unfolding_all rfl))); exact SameOut.refl)))
    | (refine' SameOut.both (b := ?kb) ?k1 ?k2; (case k2 => ((repeat (refine SameOut.upd ?_ (by with_unfolding_all rfl))); exact SameOut.refl)); (case k1 => ((repeat (refine SameOut.skip ?_)); (repeat (refine SameOut.upd ?_ (by with_unfolding_all rfl))); exact SameOut.refl)))
    | (intro y hy; (repeat (refine (if_neg (ne_of_out hy (by with_unfolding_all rfl))).trans ?_)); (refine Eq.symm ?_); (repeat (refine (if_neg (ne_of_out hy (by with_unfolding_all rfl))).trans ?_)); first | rfl | exact lookup_out rfl hy | exact (lookup_out rfl hy).symm | exact (lookup_out rfl hy).trans (lookup_out rfl hy).symm))
  k_with "M fill" => ((
    have kk : PySem.Challenge.rw_pm0034_02 = PySem.Challenge.rw_pm0034_02 ∧ KK.heap_1 = KK.heap_1 := ⟨rfl, rfl⟩
    revert kk
    k_fill
    intro kk
    clear kk))
  k_with "M enter" => ((
    refine wpAny_call ?_
    k_dflt (refine' code_def ?k1 ?k2 ?k3 ?k4 ?k5 ?kA ?kF ?kK ?k6 ?k7 ?k8 ?k9 ?kB ?_ ?c2 ?c3 ?c4 ?c5; (case kA => exact rfl); (case kF => exact rfl); (case kK => assumption); (case k1 => k_asm); (case k2 => k_asm); (case k3 => k_asm); (case k4 => k_asm); (case k5 => k_asm); (case k6 => k_is); (case k7 => k_is); (case k8 => ((try dsimp only); omega)); (case k9 => first | exact BindsTo.of_eq rfl | (refine' kp_binds ?kx ?ke; (case kx => first | (refine' myIn ?kf ?ki; (case kf => with_reducible assumption); (case ki => with_reducible assumption)) | k_in); (case ke => exact fun _ => rfl)) | exact binds_K (by first | (refine' myIn ?kf ?ki; (case kf => with_reducible assumption); (case ki => with_reducible assumption)) | k_in) rfl (by k_is) rfl rfl rfl); (case c5 => decide); (case kB => exact locs rfl); (case c2 => exact rfl); (case c3 => exact rfl); (case c4 => exact rfl); k_whole; intro g' L' h' FG' F' N' B' X' T'; (have D' := kts_dict B' (by assumption) FG' rfl); (try dsimp only); (try k_lift B'); (refine let_AE (f := execs _) ?_; intro vk ak); (refine f_QE ?_; intro qk ek))))
  k_with "M enter0" => ((
    refine wpAny_call ?_
    k_dflt (refine' code_defS0X ?k1 ?k2 ?k3 ?k4 ?k5 ?kA ?kF ?kK ?k6 ?k7 ?k8 ?k9 ?kB ?_ ?c2 ?c3 ?c4 ?c5; (case kA => exact rfl); (case kF => exact rfl); (case kK => assumption); (case k1 => k_asm); (case k2 => k_asm); (case k3 => k_asm); (case k4 => k_asm); (case k5 => k_asm); (case k6 => k_is); (case k7 => k_is); (case k8 => ((try dsimp only); omega)); (case k9 => first | exact BindsTo.of_eq rfl | (refine' kp_binds ?kx ?ke; (case kx => first | (refine' myIn ?kf ?ki; (case kf => with_reducible assumption); (case ki => with_reducible assumption)) | k_in); (case ke => exact fun _ => rfl)) | exact binds_K (by first | (refine' myIn ?kf ?ki; (case kf => with_reducible assumption); (case ki => with_reducible assumption)) | k_in) rfl (by k_is) rfl rfl rfl); (case c5 => decide); (case kB => exact locs rfl); (case c2 => exact rfl); (case c3 => exact rfl); (case c4 => exact rfl); k_whole; intro g' L' h' FG' F' N' B' X' T' D'; (try dsimp only); (try k_lift B'); (refine let_AE (f := execs _) ?_; intro vk ak); (refine f_QE ?_; intro qk ek))))
  trivial
local macro_rules | `(tactic| k_mem) => `(tactic| first | with_reducible assumption | (refine mem_in ?_; with_reducible assumption))
theorem lines_T2G_1 : True := by
  k_with "subscriptTail Name Constant ref int" => ((k_here; refine item_tupleT (News.isTup (by assumption) (by k_mem)) (by decide) (by decide) (by rfl) (by rfl) ?_))
  k_with "subscriptTail Name Constant ref int" => ((k_here; (with_reducible rename StrsAre _ _ => hSA); refine item_strsA (News.isList (by assumption) (by k_mem)) hSA (by decide) (by first | omega | (simp only [List.length_map]; omega)) (by decide) ?_; intro t'))
  k_with "call type:ValueError" => ((refine call_ValueError_made ?_; intro _ _ _))
  k_with "exec While Compare Name cons nil" => (refine Hold.mk ?_)
  k_with "exec While Compare" => (refine Hold.mk ?_)
  k_with "exec While Compare cons nil" => (refine Hold.mk ?_)
  k_with "exec While" => (refine Hold.mk ?_)
  k_with "binaryOp FloorDiv int int" => ((k_here; (with_reducible refine floordiv_pos ?kb1 ?kb2 ?_); (case kb1 => decide); (case kb2 => decide +kernel)))
  k_with "WhlIf" => ((refine whlIf_dec ?_ ?_ <;> intro _))
  k_with "subscriptTail Name Name ref int" => ((k_here; first
    | ((with_reducible rename StrsAre _ _ => hSA); refine item_strsA (News.isList (by assumption) (by k_mem)) hSA (by omega) (by omega) (by omega) ?_; intro t')
    | ((with_reducible rename IntsAre _ _ => hSA); refine item_intsA (News.isList (by assumption) (by k_mem)) hSA (by omega) (by omega) (by omega) ?_; intro t')))
  k_with "call builtin:len" => ((k_here; (with_reducible show wpAny _ _ (call (Value.builtin "len") [Value.ref _]) _ _ _); first
    | ((with_reducible rename StrsAre _ _ => hSA); refine len_strsA (News.isList (by assumption) (by k_mem)) hSA (by omega) ?_)
    | ((with_reducible rename IntsAre _ _ => hSA); refine len_intsA (News.isList (by assumption) (by k_mem)) hSA (by omega) ?_)))
  k_with "subscriptTail Name Constant ref int" => ((k_here; refine item_listL (News.isList (by assumption) (by k_mem)) (by decide) (by decide) (by rfl) ?_))
  trivial
local macro_rules | `(tactic| k_mem) => `(tactic| first | with_reducible assumption | (refine mem_in ?_; with_reducible assumption))
theorem lines_T2G_2 : True := by
  k_with "call builtin:len" => ((k_here; (with_reducible show wpAny _ _ (call (Value.builtin "len") [Value.ref _]) _ _ _); k_dflt (refine' len_L ?kN ?kM ?kz ?_; (case kN => with_reducible assumption); (case kM => k_mem); (case kz => omega))))
  k_with "CompSrcT" => ((refine Hold.mk ?_))
  k_with "CompSrc" => ((refine Hold.mk ?_))
  k_with "subscriptTail Name Constant ref int" => ((k_here; refine item_listL (News.isList (by assumption) (by k_mem)) (by decide) (by decide) (by rfl) ?_))
  k_with "call ref" => (((with_reducible show wpAny _ _ (call (Value.ref 115) _) _ _ _); refine Hold.mk ?_))
  k_with "call ref" => (((with_reducible show wpAny _ _ (call (Value.ref 58) _) _ _ _); refine Hold.mk ?_))
  trivial
theorem TurnNe.r3 {c1 dk dr : Addr} {led : Ldg} (h : TurnNe c1 dk dr led) {o1 ok or : Obj} : UpdF dr or ((c1, o1) :: (dk, ok) :: (dr, or) :: led) (fun o => (c1, o1) :: (dk, ok) :: (dr, o) :: led) := h.r
theorem fm2 (d : Int) : d.fmod 2 = 1 ∨ d.fmod 2 = 0 := by
  have h1 := Int.fmod_nonneg_of_pos d (show (0 : Int) < 2 by decide)
  have h2 := Int.fmod_lt_of_pos d (show (0 : Int) < 2 by decide)
  omega
theorem ins_row0 {r : Bool} {new : PStr} {l : List PStr} (hn : RepR new) (hg : ∀ y ∈ l, RepR y) (hs : Srt l) : insZ r (fun i => p229 (l.getD i Str.empty)) (p229 new) 0 l.length = .ok (plT r (portOf new) l) := by
  rw [hn.p0]
  exact bis_row hg hs
structure BadOk (x : PStr) (ek : EK) (msg : PStr) : Prop where
  eq : p229 x = .error (ek, msg)
theorem err_is {α ε : Type} {x y : ε} (h : (Except.error x : Except ε α) = .error y) : x = y := by cases h; rfl
section
variable {w : World} {p : Program} {loose : List PStr} {mean : ExcName → Option Value} {mg mb : PStr → Option Value}
    {dp un : Nat} {gd : Option (List Code)} {a : Addr} {ccd : Value} {c1 c2 : Addr} {A₀ : Around} {base h₀ : Heap} {L : Addr}
    {s : Shared} {news : Ldg}
    (B : Below A₀ base [] h₀) (X : (KK.heap_1 w.params).In h₀) (T : Top p loose mean mg mb h₀) (XB : (KK.heap_1 w.params).In base) (TB : Top p loose mean mg mb base)
include B X T XB TB
theorem t2_e2g {dk dr : Addr} {kvs rvs : List Value} {t : Tr} {o1 : Obj} {ek er i : Nat} {d : Int} {new hs : PStr} {tr td th tp : Tok} {led : Ldg} {jk : PStr → Option Value} {Q : Flow → Shared → Prop} {E : Value → Shared → Prop}
   (hd5 : dp + 200 < recursionLimit) (hu5 : un + 2000 < cLine) (hst : TrSt t i) (hi : i ≤ 14) (hn : RepR new) (hhs : hs.length ≤ 10)
   (F : Fr h₀ L s.heap (fun y => if y = Str.ofString "due" then some .none else if y = Str.ofString "reply" then some (.str new tr) else if y = Str.ofString "host" then some (.str hs th) else if y = Str.ofString "deed" then some (.int d td) else if y = Str.ofString "row" then some (.ref dr) else jk y))
   (N : News h₀ L s.heap ((c1, o1) :: (dk, lstOf kvs ek) :: (dr, lstOf rvs er) :: led)) (hne : TurnNe c1 dk dr led) (ho1 : o1.data = .cell (some (.int (portOf new) tp))) (hS : StrsAre rvs t.row)
   (hret : ∀ h' tk, Fr h₀ L h' (fun y => if y = Str.ofString "due" then some .none else if y = Str.ofString "reply" then some (.str new tr) else if y = Str.ofString "host" then some (.str hs th) else if y = Str.ofString "deed" then some (.int d td) else if y = Str.ofString "row" then some (.ref dr) else jk y) → News h₀ L h' ((c1, o1) :: (dk, lstOf kvs ek) :: (dr, lstOf (kl_ins rvs (plT (d.fmod 2 == 0) (portOf new) t.row) (.str new tr)) (er + 1)) :: led) → Q .next { s with heap := h', toks := tk }) :
   wpAny (model PySem.Challenge.rw_pm0034_02.row.prog w) (ktrTop dp un gd (Str.ofString "law") lawScope2 L a ccd (cells2 c1 c2) []) (execs (((ifElse (turn2.drop 4)).drop 2).take 1) (envX (Str.ofString "law") lawScope2 L a ccd (cells2 c1 c2))) Q E s := by
  walk_at "M fill"
  have D : KtsDicts (([] : List Env).filterMap (·.frame)) h₀ := fun b hb => nomatch hb
  have hck : lawScope2.kind = .function := by with_unfolding_all rfl
  have hrow := rowIs_of hS hst.rep
  have hsz := hst.size
  have hrl := t.row_len
  have hins : EqOk (insZ (d.fmod 2 == 0) (fun i => p229 (t.row.getD i Str.empty)) (p229 new) 0 t.row.length) (plT (d.fmod 2 == 0) (portOf new) t.row) := ⟨ins_row0 hn hst.rep hst.srt⟩
  have hb0 : EqOk (bisZ (d.fmod 2 == 0) (fun i => p229 (t.row.getD i Str.empty)) (portOf new) 0 t.row.length) (plT (d.fmod 2 == 0) (portOf new) t.row) := ⟨bis_row hst.rep hst.srt⟩
  have hp0 : EqOk (p229 new) (portOf new) := ⟨hn.p0⟩
  have hnl := hn.len
  show wpAny _ (ktrTop _ _ _ _ (Scope.mk _ _ _ _ _) _ _ _ _ _) (execs (_ :: []) (envX _ (Scope.mk _ _ _ _ _) _ _ _ _)) _ _ _
  k_steps
  refine Hold.out ?_
  refine' told2 (gN := fun o => (c1, o1) :: (dk, lstOf kvs ek) :: (dr, o) :: led) B X T XB TB hck ?kd ?ku ?kF ?kN (fm2 d) hne.r3 hrow (.inl ⟨new, tr, rfl, rfl, rfl, ?kz⟩) ?kl ?kv ?kw ?_ ?kx
  case kd => omega
  case ku => omega
  case kF => with_reducible assumption
  case kN => with_reducible assumption
  case kz => omega
  case kl => omega
  case kv => exact fun msg e => ok_no hp0.eq e
  case kw => exact fun x e _ msg e2 => by rw [ok_same e hp0.eq] at e2; exact ok_no hb0.eq e2
  case kx => exact fun ek r t h' tk e => (ok_no hins.eq e).elim
  intro n h' tk e F2 N2
  have e := ok_same e hins.eq
  subst e
  k_steps
  refine Hold.out ?_
  refine' parse229_long (hs := hs) (i := 9) ?kB ?kX ?kT ?kXB ?kTB ?kD ?kh ?kd ?ku ?kF ?kN ?k5 ?k6 ?kp ?kv ?_ ?kx
  case kB => assumption
  case kX => assumption
  case kT => assumption
  case kXB => assumption
  case kTB => assumption
  case kD => assumption
  case kh => rfl
  case kd => omega
  case ku => omega
  case kF => with_reducible assumption
  case kN => with_reducible assumption
  case k5 => omega
  case k6 => exact Nat.le_trans (p229in_len _) (by omega)
  case kp => exact .head _
  case kv => exact fun msg e => ok_no hp0.eq e
  case kx => exact fun k g₂ e t h' tk e' => (ok_no hp0.eq e').elim
  intro n ra tn hn2 tkn e3 F3 N3 l3
  have e3 := ok_same e3 hp0.eq
  subst e3
  k_steps
  (show (_ : Value → Shared → Prop) _ _)
  k_steps
  k_here
  k_dflt (refine' ne_tup_same ?zN ?za (.head _) ?zu ?_)
  case zN => k_asm
  case za => exact .tail _ (.head _)
  case zu => first | units_room | k_room | ((try dsimp only); omega)
  k_steps
  first
  | exact hret _ _ (by assumption) (news_drop1 (news_drop1 (by assumption)))
  | exact hret _ _ (by assumption) (news_drop1 (news_drop1 (news_drop1 (by assumption))))
end
section
variable {w : World} {p : Program} {loose : List PStr} {mean : ExcName → Option Value} {mg mb : PStr → Option Value}
    {dp un : Nat} {gd : Option (List Code)} {a : Addr} {ccd : Value} {c1 c2 : Addr} {A₀ : Around} {base h₀ : Heap} {L : Addr}
    {s : Shared} {news : Ldg}
    (B : Below A₀ base [] h₀) (X : (KK.heap_1 w.params).In h₀) (T : Top p loose mean mg mb h₀) (XB : (KK.heap_1 w.params).In base) (TB : Top p loose mean mg mb base)
include B X T XB TB
theorem t2_e2b {dr : Addr} {rvs : List Value} {t : Tr} {er i : Nat} {d : Int} {bad due msg : PStr} {ek : EK} {tr td te : Tok} {jk : PStr → Option Value} {Q : Flow → Shared → Prop} {E : Value → Shared → Prop}
   (hd5 : dp + 200 < recursionLimit) (hu5 : un + 2000 < cLine) (hst : TrSt t i) (hi : i ≤ 14) (hbl : bad.length ≤ 640) (hk : ek ≠ .value) (hp : p229 bad = .error (ek, msg)) (hdue : toldTxt ek msg = due) (hne : ∀ p ∈ news, p.1 ≠ dr)
   (F : Fr h₀ L s.heap (fun y => if y = Str.ofString "due" then some (.str due te) else if y = Str.ofString "reply" then some (.str bad tr) else if y = Str.ofString "deed" then some (.int d td) else if y = Str.ofString "row" then some (.ref dr) else jk y))
   (N : News h₀ L s.heap ((dr, lstOf rvs er) :: news)) (hS : StrsAre rvs t.row)
   (hret : ∀ h' tk, Fr h₀ L h' (fun y => if y = Str.ofString "due" then some (.str due te) else if y = Str.ofString "reply" then some (.str bad tr) else if y = Str.ofString "deed" then some (.int d td) else if y = Str.ofString "row" then some (.ref dr) else jk y) → News h₀ L h' ((dr, lstOf rvs er) :: news) → Q .next { s with heap := h', toks := tk }) :
   wpAny (model PySem.Challenge.rw_pm0034_02.row.prog w) (ktrTop dp un gd (Str.ofString "law") lawScope2 L a ccd (cells2 c1 c2) []) (execs (((ifElse (turn2.drop 4)).drop 2).take 1) (envX (Str.ofString "law") lawScope2 L a ccd (cells2 c1 c2))) Q E s := by
  walk_at "M fill"
  have D : KtsDicts (([] : List Env).filterMap (·.frame)) h₀ := fun b hb => nomatch hb
  have hck : lawScope2.kind = .function := by with_unfolding_all rfl
  have hrow := rowIs_of hS hst.rep
  have hsz := hst.size
  have hrl := t.row_len
  have hp' : BadOk bad ek msg := ⟨hp⟩
  clear hp
  show wpAny _ (ktrTop _ _ _ _ (Scope.mk _ _ _ _ _) _ _ _ _ _) (execs (_ :: []) (envX _ (Scope.mk _ _ _ _ _) _ _ _ _)) _ _ _
  k_steps
  refine Hold.out ?_
  refine' told2 (gN := fun o => (dr, o) :: news) B X T XB TB hck ?kd ?ku ?kF ?kN (fm2 d) (UpdF.head hne) hrow (.inl ⟨bad, tr, rfl, rfl, rfl, hbl⟩) ?kl ?kv ?kw ?kr ?_
  case kd => omega
  case ku => omega
  case kF => with_reducible assumption
  case kN => with_reducible assumption
  case kl => omega
  case kv => exact fun msg2 e => hk (congrArg Prod.fst (err_is (hp'.eq.symm.trans e)))
  case kw => exact fun x e => (ok_no e hp'.eq).elim
  case kr => exact fun n h' tk e => (ok_no e (by unfold insZ; rw [hp'.eq])).elim
  intro ek2 r2 t2 h' tk e F2 N2
  have e2 := err_is (e.symm.trans (show insZ _ _ (p229 bad) _ _ = .error (ek, msg) by unfold insZ; rw [hp'.eq]))
  obtain ⟨rfl, rfl⟩ := Prod.mk.inj e2
  rw [hdue]
  k_steps
  · exact absurd (by assumption : (due != due) = true) (by simp)
  · exact hret _ _ (by assumption) (by assumption)
end
section
variable {w : World} {p : Program} {loose : List PStr} {mean : ExcName → Option Value} {mg mb : PStr → Option Value}
    {dp un : Nat} {gd : Option (List Code)} {cn : PStr} {cs : Scope} {a : Addr} {ccd : Value} {cl : List (PStr × Addr)} {A₀ : Around} {base h₀ : Heap} {L : Addr} {m : PStr → Option Value}
    {s : Shared} {Q E : Value → Shared → Prop} {news : Ldg}
    (B : Below A₀ base [] h₀) (X : (KK.heap_1 w.params).In h₀) (T : Top p loose mean mg mb h₀) (XB : (KK.heap_1 w.params).In base) (TB : Top p loose mean mg mb base) (hck : cs.kind = .function)
include B X T XB TB hck
theorem told2_val {ra : Addr} {xr : PStr} {wh : Int} {tw xt : Tok} {msg : PStr} (hd5 : dp + 40 < recursionLimit) (hu5 : un + 300 < cLine) (F : Fr h₀ L s.heap m) (N : News h₀ L s.heap news)
   (hw : wh = 1 ∨ wh = 0) (hx640 : xr.length ≤ 640) (hxrp : RepOk xr) (hkx : p229 xr = .error (.value, msg))
   (hexc : ∀ t h' tk, Fr h₀ L h' m → News h₀ L h' news → Q (.str (toldTxt .value msg) t) { s with heap := h', toks := tk }) :
   wpC (model PySem.Challenge.rw_pm0034_02.row.prog w) (ktrTop dp un gd cn cs L a ccd cl []) (call (.ref 115) [.int wh tw, .ref ra, .str xr xt]) Q E s := by
  rcases hw with rfl | rfl
  · exact told2_val1 B X T XB TB hck hd5 hu5 F N hx640 hxrp hkx hexc
  · exact told2_val0 B X T XB TB hck hd5 hu5 F N hx640 hxrp hkx hexc
end
section
variable {w : World} {p : Program} {loose : List PStr} {mean : ExcName → Option Value} {mg mb : PStr → Option Value}
    {dp un : Nat} {gd : Option (List Code)} {a : Addr} {ccd : Value} {c1 c2 : Addr} {A₀ : Around} {base h₀ : Heap} {L : Addr}
    {s : Shared} {news : Ldg}
    (B : Below A₀ base [] h₀) (X : (KK.heap_1 w.params).In h₀) (T : Top p loose mean mg mb h₀) (XB : (KK.heap_1 w.params).In base) (TB : Top p loose mean mg mb base)
include B X T XB TB
theorem t2_e2v {dr : Addr} {rvs : List Value} {i : Nat} {d : Int} {bad due msg : PStr} {er : Nat} {tr td te : Tok} {jk : PStr → Option Value} {Q : Flow → Shared → Prop} {E : Value → Shared → Prop}
   (hd5 : dp + 200 < recursionLimit) (hu5 : un + 2000 < cLine) (hi : i ≤ 14) (hbl : bad.length ≤ 640) (hrp : RepOk bad) (hp : p229 bad = .error (.value, msg)) (hdue : toldTxt .value msg = due)
   (F : Fr h₀ L s.heap (fun y => if y = Str.ofString "due" then some (.str due te) else if y = Str.ofString "reply" then some (.str bad tr) else if y = Str.ofString "deed" then some (.int d td) else if y = Str.ofString "row" then some (.ref dr) else jk y))
   (N : News h₀ L s.heap ((dr, lstOf rvs er) :: news))
   (hret : ∀ h' tk, Fr h₀ L h' (fun y => if y = Str.ofString "due" then some (.str due te) else if y = Str.ofString "reply" then some (.str bad tr) else if y = Str.ofString "deed" then some (.int d td) else if y = Str.ofString "row" then some (.ref dr) else jk y) → News h₀ L h' ((dr, lstOf rvs er) :: news) → Q .next { s with heap := h', toks := tk }) :
   wpC (model PySem.Challenge.rw_pm0034_02.row.prog w) (ktrTop dp un gd (Str.ofString "law") lawScope2 L a ccd (cells2 c1 c2) []) (execs (((ifElse (turn2.drop 4)).drop 2).take 1) (envX (Str.ofString "law") lawScope2 L a ccd (cells2 c1 c2))) Q E s := by
  walk_at "M fill"
  have D : KtsDicts (([] : List Env).filterMap (·.frame)) h₀ := fun b hb => nomatch hb
  have hck : lawScope2.kind = .function := by with_unfolding_all rfl
  have hp' : BadOk bad .value msg := ⟨hp⟩
  clear hp
  show wpC _ (ktrTop _ _ _ _ (Scope.mk _ _ _ _ _) _ _ _ _ _) (execs (_ :: []) (envX _ (Scope.mk _ _ _ _ _) _ _ _ _)) _ _ _
  refine execs_C ?_
  refine if_C ?_
  refine isTrue_or_C ?_
  refine isTrue_compare_C ?_
  refine call_name_C ?_
  k_fold
  k_steps
  refine callWith_K_C (by k_asm) (by k_is) ?_
  k_fold
  k_steps
  refine' told2_val B X T XB TB hck ?kd ?ku ?kF ?kN (fm2 d) hbl hrp hp'.eq ?_
  case kd => omega
  case ku => omega
  case kF => with_reducible assumption
  case kN => with_reducible assumption
  intro t2 h' tk F2 N2
  rw [hdue]
  k_steps
  · refine absurd (by assumption : (due != due) = true) (by simp)
  · refine or_one_C ?_
    k_fold
    k_steps
    refine wpC_any (wpAny_execs_nil ?_)
    first
    | exact hret _ _ (by assumption) (by assumption)
    | (refine wpC_any (wpAny_execs_nil ?_); exact hret _ _ (by assumption) (by assumption))
end
end
section
theorem lines_T2Z_0 : True := by
  k_with_none
  k_with "execs cons" => ((refine f_execs ?_; intro qk))
  k_with "eval BinOp" => ((refine f_BinOp ?_; intro qk))
  k_with "exec Assign" => ((refine f_Assign ?_; intro qk))
  k_with "eval Subscript" => ((refine f_Subscript ?_; intro qk))
  k_with "isTrue Compare" => ((refine f_Compare ?_; intro qk))
  k_with "exec If" => ((refine f_If ?_; intro qk))
  k_with "eval Call" => (((fail_if_success (with_reducible show wpAny _ _ (eval (Expr.Call (Expr.Attribute _ _ _) _ _ _) _) _ _ _)); refine f_Call ?_; intro qk))
  k_with "spliced" => ((refine f_args ?_; intro qk))
  k_with "callWith" => ((refine f_method1 ?_; intro qk))
  k_with "exec Return some" => ((refine f_Return ?_; intro qk))
  k_with "eval Tuple" => ((refine f_Tuple ?_; intro qk))
  k_with "eval List" => ((refine f_List ?_; intro qk))
  k_with "eval IfExp" => ((refine f_IfExp ?_; intro qk))
  k_with "storeName" => ((k_here; k_dflt (refine' f_store ?F ?N ?_ ?a ?b; (case F => k_asm); (case N => k_asm); (case a => rfl); (case b => rfl); k_whole; intro m' h' F' N'; (try k_sweep))))
  k_with "M map1" => (first
    | (refine map_same ?_; with_unfolding_all rfl)
    | ((repeat' (refine List.forall_mem_cons.mpr (And.intro ?_ ?_))); (all_goals first | rfl | exact List.forall_mem_nil _)))
  k_with "M map2" => (first
    | (refine SameOut.both (b := fun _ => none) ?_ ?_ <;> (repeat (refine SameOut.upd ?_ (by with_unfolding_all rfl))) <;> exact SameOut.lookup rfl)
    | (refine' SameOut.both (b := ?kb) ?k1 ?k2; (case k1 => ((repeat (refine SameOut.upd ?_ (by with_unfolding_all rfl))); exact SameOut.refl)); (case k2 => ((repeat (refine SameOut.upd ?_ (by with_unfolding_all rfl))); exact SameOut.refl)))
    | (refine' SameOut.both (b := ?kb) ?k1 ?k2; (case k2 => ((repeat (refine SameOut.upd ?_ (by with_unfolding_all rfl))); exact SameOut.refl)); (case k1 => ((repeat (refine SameOut.skip ?_)); (repeat (refine SameOut.upd ?_ (by with_unfolding_all rfl))); exact SameOut.refl)))
    | (intro y hy; (repeat (refine (if_neg (ne_of_out hy (by with_unfolding_all rfl))).trans ?_)); (refine Eq.symm ?_); (repeat (refine (if_neg (ne_of_out hy (by with_unfolding_all rfl))).trans ?_)); first | rfl | exact lookup_out rfl hy | exact (lookup_out rfl hy).symm | exact (lookup_out rfl hy).trans (lookup_out rfl hy).symm))
  k_with "M fill" => ((
    have kk : PySem.Challenge.rw_pm0034_02 = PySem.Challenge.rw_pm0034_02 ∧ KK.heap_1 = KK.heap_1 := ⟨rfl, rfl⟩
    revert kk
    k_fill
    intro kk
    clear kk))
  k_with "M enter" => ((
    refine wpAny_call ?_
    k_dflt (refine' code_def ?k1 ?k2 ?k3 ?k4 ?k5 ?kA ?kF ?kK ?k6 ?k7 ?k8 ?k9 ?kB ?_ ?c2 ?c3 ?c4 ?c5; (case kA => exact rfl); (case kF => exact rfl); (case kK => assumption); (case k1 => k_asm); (case k2 => k_asm); (case k3 => k_asm); (case k4 => k_asm); (case k5 => k_asm); (case k6 => k_is); (case k7 => k_is); (case k8 => ((try dsimp only); omega)); (case k9 => first | exact BindsTo.of_eq rfl | (refine' kp_binds ?kx ?ke; (case kx => first | (refine' myIn ?kf ?ki; (case kf => with_reducible assumption); (case ki => with_reducible assumption)) | k_in); (case ke => exact fun _ => rfl)) | exact binds_K (by first | (refine' myIn ?kf ?ki; (case kf => with_reducible assumption); (case ki => with_reducible assumption)) | k_in) rfl (by k_is) rfl rfl rfl); (case c5 => decide); (case kB => exact locs rfl); (case c2 => exact rfl); (case c3 => exact rfl); (case c4 => exact rfl); k_whole; intro g' L' h' FG' F' N' B' X' T'; (have D' := kts_dict B' (by assumption) FG' rfl); (try dsimp only); (try k_lift B'); (refine let_AE (f := execs _) ?_; intro vk ak); (refine f_QE ?_; intro qk ek))))
  k_with "M enter0" => ((
    refine wpAny_call ?_
    k_dflt (refine' code_defS0X ?k1 ?k2 ?k3 ?k4 ?k5 ?kA ?kF ?kK ?k6 ?k7 ?k8 ?k9 ?kB ?_ ?c2 ?c3 ?c4 ?c5; (case kA => exact rfl); (case kF => exact rfl); (case kK => assumption); (case k1 => k_asm); (case k2 => k_asm); (case k3 => k_asm); (case k4 => k_asm); (case k5 => k_asm); (case k6 => k_is); (case k7 => k_is); (case k8 => ((try dsimp only); omega)); (case k9 => first | exact BindsTo.of_eq rfl | (refine' kp_binds ?kx ?ke; (case kx => first | (refine' myIn ?kf ?ki; (case kf => with_reducible assumption); (case ki => with_reducible assumption)) | k_in); (case ke => exact fun _ => rfl)) | exact binds_K (by first | (refine' myIn ?kf ?ki; (case kf => with_reducible assumption); (case ki => with_reducible assumption)) | k_in) rfl (by k_is) rfl rfl rfl); (case c5 => decide); (case kB => exact locs rfl); (case c2 => exact rfl); (case c3 => exact rfl); (case c4 => exact rfl); k_whole; intro g' L' h' FG' F' N' B' X' T' D'; (try dsimp only); (try k_lift B'); (refine let_AE (f := execs _) ?_; intro vk ak); (refine f_QE ?_; intro qk ek))))
  trivial
local macro_rules | `(tactic| k_mem) => `(tactic| first | with_reducible assumption | (refine mem_in ?_; with_reducible assumption))
theorem lines_T2Z_1 : True := by
  k_with "subscriptTail Name Constant ref int" => ((k_here; refine item_tupleT (News.isTup (by assumption) (by k_mem)) (by decide) (by decide) (by rfl) (by rfl) ?_))
  k_with "subscriptTail Name Constant ref int" => ((k_here; (with_reducible rename StrsAre _ _ => hSA); refine item_strsA (News.isList (by assumption) (by k_mem)) hSA (by decide) (by first | omega | (simp only [List.length_map]; omega)) (by decide) ?_; intro t'))
  k_with "call type:ValueError" => ((refine call_ValueError_made ?_; intro _ _ _))
  k_with "exec While Compare Name cons nil" => (refine Hold.mk ?_)
  k_with "exec While Compare" => (refine Hold.mk ?_)
  k_with "exec While Compare cons nil" => (refine Hold.mk ?_)
  k_with "exec While" => (refine Hold.mk ?_)
  k_with "binaryOp FloorDiv int int" => ((k_here; (with_reducible refine floordiv_pos ?kb1 ?kb2 ?_); (case kb1 => decide); (case kb2 => decide +kernel)))
  k_with "WhlIf" => ((refine whlIf_dec ?_ ?_ <;> intro _))
  k_with "subscriptTail Name Name ref int" => ((k_here; first
    | ((with_reducible rename StrsAre _ _ => hSA); refine item_strsA (News.isList (by assumption) (by k_mem)) hSA (by omega) (by omega) (by omega) ?_; intro t')
    | ((with_reducible rename IntsAre _ _ => hSA); refine item_intsA (News.isList (by assumption) (by k_mem)) hSA (by omega) (by omega) (by omega) ?_; intro t')))
  k_with "call builtin:len" => ((k_here; (with_reducible show wpAny _ _ (call (Value.builtin "len") [Value.ref _]) _ _ _); first
    | ((with_reducible rename StrsAre _ _ => hSA); refine len_strsA (News.isList (by assumption) (by k_mem)) hSA (by omega) ?_)
    | ((with_reducible rename IntsAre _ _ => hSA); refine len_intsA (News.isList (by assumption) (by k_mem)) hSA (by omega) ?_)))
  k_with "subscriptTail Name Constant ref int" => ((k_here; refine item_listL (News.isList (by assumption) (by k_mem)) (by decide) (by decide) (by rfl) ?_))
  trivial
local macro_rules | `(tactic| k_mem) => `(tactic| first | with_reducible assumption | (refine mem_in ?_; with_reducible assumption))
theorem lines_T2Z_2 : True := by
  k_with "call builtin:len" => ((k_here; (with_reducible show wpAny _ _ (call (Value.builtin "len") [Value.ref _]) _ _ _); k_dflt (refine' len_L ?kN ?kM ?kz ?_; (case kN => with_reducible assumption); (case kM => k_mem); (case kz => omega))))
  k_with "CompSrcT" => ((refine Hold.mk ?_))
  k_with "CompSrc" => ((refine Hold.mk ?_))
  k_with "subscriptTail Name Constant ref int" => ((k_here; refine item_listL (News.isList (by assumption) (by k_mem)) (by decide) (by decide) (by rfl) ?_))
  k_with "call ref" => (((with_reducible show wpAny _ _ (call (Value.ref 171) _) _ _ _); refine Hold.mk ?_))
  k_with "compareOp NotEq ref ref" => ((refine Hold.mk ?_))
  k_with "compareOp NotEq str str" => ((first | with_reducible refine ne_str_same ?_ | refine ne_str_of (by rfl) ?_))
  trivial
theorem strs_snoc {vs : List Value} {ys : List PStr} {y : PStr} {u : Tok} (h : StrsAre vs ys) : StrsAre (vs ++ [.str y u]) (ys ++ [y]) := by
  induction h with
  | nil => exact .cons y u .nil
  | cons k t _ ih => exact .cons k t ih
theorem tab_up {a b : Addr × Obj} {l : Ldg} : ∀ p ∈ b :: a :: l, p ∈ a :: b :: l := by
  intro p hp
  rcases List.mem_cons.mp hp with rfl | hp
  · exact .tail _ (.head _)
  rcases List.mem_cons.mp hp with rfl | hp
  · exact .head _
  · exact .tail _ (.tail _ hp)
theorem tab_dn {a b c : Addr × Obj} {l : Ldg} : ∀ p ∈ a :: b :: l, p ∈ a :: b :: c :: l := by
  intro p hp
  rcases List.mem_cons.mp hp with rfl | hp
  · exact .head _
  rcases List.mem_cons.mp hp with rfl | hp
  · exact .tail _ (.head _)
  · exact .tail _ (.tail _ (.tail _ hp))
section
variable {w : World} {p : Program} {loose : List PStr} {mean : ExcName → Option Value} {mg mb : PStr → Option Value}
    {dp un : Nat} {gd : Option (List Code)} {a : Addr} {ccd : Value} {c1 c2 : Addr} {A₀ : Around} {base h₀ : Heap} {L : Addr}
    {s : Shared} {news : Ldg}
    (B : Below A₀ base [] h₀) (X : (KK.heap_1 w.params).In h₀) (T : Top p loose mean mg mb h₀) (XB : (KK.heap_1 w.params).In base) (TB : Top p loose mean mg mb base)
include B X T XB TB
theorem t2_z {dk dr : Addr} {kvs rvs : List Value} {t : Tr} {ek er i : Nat} {tb : Array Value} {tt : Tok} {jk : PStr → Option Value} {Q : Flow → Shared → Prop} {E : Value → Shared → Prop}
   (hd5 : dp + 200 < recursionLimit) (hu5 : un + 2000 < cLine) (hst : TrSt t i) (hi : i ≤ 15) (h166 : ∀ p ∈ news, p.1 ≠ 166)
   (F : Fr h₀ L s.heap (fun y => if y = Str.ofString "row" then some (.ref dr) else if y = Str.ofString "kept" then some (.ref dk) else if y = Str.ofString "text" then some (.str t.txt tt) else jk y))
   (N : News h₀ L s.heap ((166, tabObj tb) :: news)) (hlam : tb = #[] ∨ LamIn ((166, tabObj tb) :: news)) (hdk : (dk, lstOf kvs ek) ∈ news) (hdr : (dr, lstOf rvs er) ∈ news) (hK : KpAre news kvs t.row) (hS : StrsAre rvs t.row)
   (hold : ∀ h' tk, Fr h₀ L h' (fun y => if y = Str.ofString "row" then some (.ref dr) else if y = Str.ofString "kept" then some (.ref dk) else if y = Str.ofString "text" then some (.str t.txt tt) else jk y) → News h₀ L h' ((166, tabObj tb) :: news) → Q .next { s with heap := h', toks := tk })
   (hnew : ∀ h' tk c' oc vs tq, oc.data = .fields vs → vs[1]? = some (.str (Str.ofString "_law_tree.<locals>.<lambda>") tq) → (∀ p ∈ news, p.1 ≠ c') → (c' : Nat) ≠ 166 → Fr h₀ L h' (fun y => if y = Str.ofString "row" then some (.ref dr) else if y = Str.ofString "kept" then some (.ref dk) else if y = Str.ofString "text" then some (.str t.txt tt) else jk y) → News h₀ L h' ((c', oc) :: (166, tabObj #[rawInt 154, rawInt 31, .ref c']) :: news) → Q .next { s with heap := h', toks := tk }) :
   wpAny (model PySem.Challenge.rw_pm0034_02.row.prog w) (ktrTop dp un gd (Str.ofString "law") lawScope2 L a ccd (cells2 c1 c2) []) (execs ((turn2.drop 5).take 1) (envX (Str.ofString "law") lawScope2 L a ccd (cells2 c1 c2))) Q E s := by
  walk_at "M fill"
  have D : KtsDicts (([] : List Env).filterMap (·.frame)) h₀ := fun b hb => nomatch hb
  have hck : lawScope2.kind = .function := by with_unfolding_all rfl
  have hsz := hst.size
  have hrl := t.row_len
  have hkl := hK.length
  have hz : kvs.toArray.size ≤ sizeLine := by rw [List.size_toArray]; exact Nat.le_trans (m := 1000) (by omega) (by decide)
  show wpAny _ (ktrTop _ _ _ _ (Scope.mk _ _ _ _ _) _ _ _ _ _) (execs (_ :: []) (envX _ (Scope.mk _ _ _ _ _) _ _ _ _)) _ _ _
  k_steps
  refine Hold.out ?_
  refine LCg.CompSrc.ledger (its := kvs.toArray) (k := ek) rfl (by assumption) N (.tail _ hdk) hz ?_
  intro g
  refine comp_ind (fun j ys nw => nw = (166, tabObj tb) :: news ∧ StrsAre ys (t.row.take j)) ⟨rfl, .nil⟩ ?turn ?fin
  case turn =>
    rintro j v I oI C oC D' m₂ ys nw h tk E' hi hv ⟨rfl, hI⟩ hC hx kF kN off ne
    obtain ⟨r, y, t9, u, e, rfl, hy, hr⟩ := hK.at j v (by simpa using hv)
    have hr3 : (r, lstOf [.int (portOf y) t9, .str y u] e) ∈ (I, oI) :: (C, oC) :: (D', LCg.lst ys) :: (166, tabObj tb) :: news := .tail _ (.tail _ (.tail _ (.tail _ hr)))
    (with_reducible show wpAny _ _ _ _ _ _)
    k_fold
    k_steps
    refine LCg.CompEnd.intro kF kN ((166, tabObj tb) :: news) (fun p hp => hp) off (.inr ⟨_, .tail _ hdk, rfl, _, rfl⟩) ⟨rfl, ?_⟩
    rw [List.take_add_one, hy]
    exact strs_snoc hI
  case fin =>
    rintro ys nw ⟨rfl, hI⟩
    intro D' h tk kF kN off
    rw [List.take_of_length_le (by rw [← hK.length, List.size_toArray]; exact Nat.le_refl _)] at hI
    k_steps
    refine Hold.out ?_
    refine ne_strs_L kN (.tail _ (.tail _ hdr)) (.head _) hS hI (by first | units_room | k_room | ((try dsimp only); omega)) ?_
    rw [decide_eq_true rfl]
    k_steps
    refine Hold.out ?_
    rcases hlam with rfl | hlam
    · cases t with
      | nil =>
        have e : rvs = [] := by cases hS; rfl
        subst e
        refine tree_nil B X T XB TB D hck (by omega) (by omega) kF kN (.tail _ (.tail _ hdr)) ?_
        intro t7 h7 tk7 F7 N7
        k_steps
        exact hold _ _ F7 (news_drop1 N7)
      | node l r x =>
        obtain ⟨v1, t0, v2, rfl, s1, s2⟩ := strs_split (a := l.row) hS
        have hsz2 : l.size + 1 + x.size ≤ 15 := by have : (Tr.node l r x).size = l.size + 1 + x.size := rfl; omega
        refine tree_first B X T XB TB D hck (tree_all l) (tree_all x) (by omega) (by omega) kF (news := (D', LCg.lst ys) :: news) (news_sub kN tab_up) ?_ (.tail _ hdr) s1 s2 hst.good hst.hp hsz2 ?_
        · intro p hp
          rcases List.mem_cons.mp hp with rfl | hp
          · exact Ne.symm off.1
          · exact h166 p hp
        · intro t7 h7 tk7 c' oc vs tq a3 a4 lc1 lc2 F7 N7
          have e7 : ndT r l.txt x.txt = (Tr.node l r x).txt := rfl
          rw [e7]
          k_steps
          exact hnew _ _ c' oc vs tq a3 a4 (fun p hp => lc1 p (.tail _ hp)) lc2 F7 (news_sub N7 tab_dn)
    · refine' (tree_all t).go ?kB ?kX ?kT ?kXB ?kTB ?kD ?kh ?kd ?ku ?kF ?kN ?k3 ?k4 ?k5 ?k6 ?k7 ?k8 ?_; (case kB => assumption); (case kX => assumption); (case kT => assumption); (case kXB => assumption); (case kTB => assumption); (case kD => assumption); (case kh => rfl); (case kd => ((try dsimp only [Tr.size]); omega)); (case ku => ((try dsimp only [Tr.size]); omega)); (case kF => with_reducible assumption); (case kN => with_reducible assumption)
      case k3 => obtain ⟨c', oc, vs, tq, a1, a2, a3, a4⟩ := hlam; exact ⟨c', oc, vs, tq, .tail _ a1, .tail _ a2, a3, a4⟩
      case k4 => exact .tail _ (.tail _ hdr)
      case k5 => exact hS
      case k6 => exact hst.good
      case k7 => exact hst.hp
      case k8 => omega
      intro t7 h7 tk7 F7 N7
      k_steps
      exact hold _ _ F7 (news_drop1 N7)
end
end
section
theorem lines_T2H_0 : True := by
  k_with_none
  k_with "execs cons" => ((refine f_execs ?_; intro qk))
  k_with "eval BinOp" => ((refine f_BinOp ?_; intro qk))
  k_with "exec Assign" => ((refine f_Assign ?_; intro qk))
  k_with "eval Subscript" => ((refine f_Subscript ?_; intro qk))
  k_with "isTrue Compare" => ((refine f_Compare ?_; intro qk))
  k_with "exec If" => ((refine f_If ?_; intro qk))
  k_with "eval Call" => (((fail_if_success (with_reducible show wpAny _ _ (eval (Expr.Call (Expr.Attribute _ _ _) _ _ _) _) _ _ _)); refine f_Call ?_; intro qk))
  k_with "spliced" => ((refine f_args ?_; intro qk))
  k_with "callWith" => ((refine f_method1 ?_; intro qk))
  k_with "exec Return some" => ((refine f_Return ?_; intro qk))
  k_with "eval Tuple" => ((refine f_Tuple ?_; intro qk))
  k_with "eval List" => ((refine f_List ?_; intro qk))
  k_with "eval IfExp" => ((refine f_IfExp ?_; intro qk))
  k_with "storeName" => ((k_here; k_dflt (refine' f_store ?F ?N ?_ ?a ?b; (case F => k_asm); (case N => k_asm); (case a => rfl); (case b => rfl); k_whole; intro m' h' F' N'; (try k_sweep))))
  k_with "M map1" => (first
    | (refine map_same ?_; with_unfolding_all rfl)
    | ((repeat' (refine List.forall_mem_cons.mpr (And.intro ?_ ?_))); (all_goals first | rfl | exact List.forall_mem_nil _)))
  k_with "M map2" => (first
    | (refine SameOut.both (b := fun _ => none) ?_ ?_ <;> (repeat (refine SameOut.upd ?_ (by with_unfolding_all rfl))) <;> exact SameOut.lookup rfl)
    | (refine' SameOut.both (b := ?kb) ?k1 ?k2; (case k1 => ((repeat (refine SameOut.upd ?_ (by with_unfolding_all rfl))); exact SameOut.refl)); (case k2 => ((repeat (refine SameOut.upd ?_ (by with_unfolding_all rfl))); exact SameOut.refl)))
    | (refine' SameOut.both (b := ?kb) ?k1 ?k2; (case k2 => ((repeat (refine SameOut.upd ?_ (by with_unfolding_all rfl))); exact SameOut.refl)); (case k1 => ((repeat (refine SameOut.skip ?_)); (repeat (refine SameOut.upd ?_ (by with_unfolding_all rfl))); exact SameOut.refl)))
    | (intro y hy; (repeat (refine (if_neg (ne_of_out hy (by with_unfolding_all rfl))).trans ?_)); (refine Eq.symm ?_); (repeat (refine (if_neg (ne_of_out hy (by with_unfolding_all rfl))).trans ?_)); first | rfl | exact lookup_out rfl hy | exact (lookup_out rfl hy).symm | exact (lookup_out rfl hy).trans (lookup_out rfl hy).symm))
  k_with "M fill" => ((
    have kk : PySem.Challenge.rw_pm0034_02 = PySem.Challenge.rw_pm0034_02 ∧ KK.heap_1 = KK.heap_1 := ⟨rfl, rfl⟩
    revert kk
    k_fill
    intro kk
    clear kk))
  k_with "M enter" => ((
    refine wpAny_call ?_
    k_dflt (refine' code_def ?k1 ?k2 ?k3 ?k4 ?k5 ?kA ?kF ?kK ?k6 ?k7 ?k8 ?k9 ?kB ?_ ?c2 ?c3 ?c4 ?c5; (case kA => exact rfl); (case kF => exact rfl); (case kK => assumption); (case k1 => k_asm); (case k2 => k_asm); (case k3 => k_asm); (case k4 => k_asm); (case k5 => k_asm); (case k6 => k_is); (case k7 => k_is); (case k8 => ((try dsimp only); omega)); (case k9 => first | exact BindsTo.of_eq rfl | (refine' kp_binds ?kx ?ke; (case kx => first | (refine' myIn ?kf ?ki; (case kf => with_reducible assumption); (case ki => with_reducible assumption)) | k_in); (case ke => exact fun _ => rfl)) | exact binds_K (by first | (refine' myIn ?kf ?ki; (case kf => with_reducible assumption); (case ki => with_reducible assumption)) | k_in) rfl (by k_is) rfl rfl rfl); (case c5 => decide); (case kB => exact locs rfl); (case c2 => exact rfl); (case c3 => exact rfl); (case c4 => exact rfl); k_whole; intro g' L' h' FG' F' N' B' X' T'; (have D' := kts_dict B' (by assumption) FG' rfl); (try dsimp only); (try k_lift B'); (refine let_AE (f := execs _) ?_; intro vk ak); (refine f_QE ?_; intro qk ek))))
  k_with "M enter0" => ((
    refine wpAny_call ?_
    k_dflt (refine' code_defS0X ?k1 ?k2 ?k3 ?k4 ?k5 ?kA ?kF ?kK ?k6 ?k7 ?k8 ?k9 ?kB ?_ ?c2 ?c3 ?c4 ?c5; (case kA => exact rfl); (case kF => exact rfl); (case kK => assumption); (case k1 => k_asm); (case k2 => k_asm); (case k3 => k_asm); (case k4 => k_asm); (case k5 => k_asm); (case k6 => k_is); (case k7 => k_is); (case k8 => ((try dsimp only); omega)); (case k9 => first | exact BindsTo.of_eq rfl | (refine' kp_binds ?kx ?ke; (case kx => first | (refine' myIn ?kf ?ki; (case kf => with_reducible assumption); (case ki => with_reducible assumption)) | k_in); (case ke => exact fun _ => rfl)) | exact binds_K (by first | (refine' myIn ?kf ?ki; (case kf => with_reducible assumption); (case ki => with_reducible assumption)) | k_in) rfl (by k_is) rfl rfl rfl); (case c5 => decide); (case kB => exact locs rfl); (case c2 => exact rfl); (case c3 => exact rfl); (case c4 => exact rfl); k_whole; intro g' L' h' FG' F' N' B' X' T' D'; (try dsimp only); (try k_lift B'); (refine let_AE (f := execs _) ?_; intro vk ak); (refine f_QE ?_; intro qk ek))))
  trivial
local macro_rules | `(tactic| k_mem) => `(tactic| first | with_reducible assumption | (refine mem_in ?_; with_reducible assumption))
theorem lines_T2H_1 : True := by
  k_with "subscriptTail Name Constant ref int" => ((k_here; refine item_tupleT (News.isTup (by assumption) (by k_mem)) (by decide) (by decide) (by rfl) (by rfl) ?_))
  k_with "subscriptTail Name Constant ref int" => ((k_here; (with_reducible rename StrsAre _ _ => hSA); refine item_strsA (News.isList (by assumption) (by k_mem)) hSA (by decide) (by first | omega | (simp only [List.length_map]; omega)) (by decide) ?_; intro t'))
  k_with "call type:ValueError" => ((refine call_ValueError_made ?_; intro _ _ _))
  k_with "exec While Compare Name cons nil" => (refine Hold.mk ?_)
  k_with "exec While Compare" => (refine Hold.mk ?_)
  k_with "exec While Compare cons nil" => (refine Hold.mk ?_)
  k_with "exec While" => (refine Hold.mk ?_)
  k_with "binaryOp FloorDiv int int" => ((k_here; (with_reducible refine floordiv_pos ?kb1 ?kb2 ?_); (case kb1 => decide); (case kb2 => decide +kernel)))
  k_with "WhlIf" => ((refine whlIf_dec ?_ ?_ <;> intro _))
  k_with "subscriptTail Name Name ref int" => ((k_here; first
    | ((with_reducible rename StrsAre _ _ => hSA); refine item_strsA (News.isList (by assumption) (by k_mem)) hSA (by omega) (by omega) (by omega) ?_; intro t')
    | ((with_reducible rename IntsAre _ _ => hSA); refine item_intsA (News.isList (by assumption) (by k_mem)) hSA (by omega) (by omega) (by omega) ?_; intro t')))
  k_with "call builtin:len" => ((k_here; (with_reducible show wpAny _ _ (call (Value.builtin "len") [Value.ref _]) _ _ _); first
    | ((with_reducible rename StrsAre _ _ => hSA); refine len_strsA (News.isList (by assumption) (by k_mem)) hSA (by omega) ?_)
    | ((with_reducible rename IntsAre _ _ => hSA); refine len_intsA (News.isList (by assumption) (by k_mem)) hSA (by omega) ?_)))
  k_with "subscriptTail Name Constant ref int" => ((k_here; refine item_listL (News.isList (by assumption) (by k_mem)) (by decide) (by decide) (by rfl) ?_))
  trivial
local macro_rules | `(tactic| k_mem) => `(tactic| first | with_reducible assumption | (refine mem_in ?_; with_reducible assumption))
theorem lines_T2H_2 : True := by
  k_with "call builtin:len" => ((k_here; (with_reducible show wpAny _ _ (call (Value.builtin "len") [Value.ref _]) _ _ _); k_dflt (refine' len_L ?kN ?kM ?kz ?_; (case kN => with_reducible assumption); (case kM => k_mem); (case kz => omega))))
  k_with "CompSrcT" => ((refine Hold.mk ?_))
  k_with "CompSrc" => ((refine Hold.mk ?_))
  k_with "subscriptTail Name Constant ref int" => ((k_here; refine item_listL (News.isList (by assumption) (by k_mem)) (by decide) (by decide) (by rfl) ?_))
  trivial
section
variable {w : World} {p : Program} {loose : List PStr} {mean : ExcName → Option Value} {mg mb : PStr → Option Value}
    {dp un : Nat} {gd : Option (List Code)} {a : Addr} {ccd : Value} {c1 c2 : Addr} {A₀ : Around} {base h₀ : Heap} {L : Addr}
    {s : Shared} {news : Ldg}
    (B : Below A₀ base [] h₀) (X : (KK.heap_1 w.params).In h₀) (T : Top p loose mean mg mb h₀) (XB : (KK.heap_1 w.params).In base) (TB : Top p loose mean mg mb base)
include B X T XB TB
theorem t2_if {d : Int} {td : Tok} {jk : PStr → Option Value} {Q : Flow → Shared → Prop} {E : Value → Shared → Prop}
   (F : Fr h₀ L s.heap (fun y => if y = Str.ofString "deed" then some (.int d td) else jk y)) (N : News h₀ L s.heap news)
   (h1 : 5 < d → ∀ tk, wpC (model PySem.Challenge.rw_pm0034_02.row.prog w) (ktrTop dp un gd (Str.ofString "law") lawScope2 L a ccd (cells2 c1 c2) []) (execs (ifThen (turn2.drop 4)) (envX (Str.ofString "law") lawScope2 L a ccd (cells2 c1 c2))) Q E { s with toks := tk })
   (h2 : ¬ 5 < d → ∀ tk, wpC (model PySem.Challenge.rw_pm0034_02.row.prog w) (ktrTop dp un gd (Str.ofString "law") lawScope2 L a ccd (cells2 c1 c2) []) (execs (ifElse (turn2.drop 4)) (envX (Str.ofString "law") lawScope2 L a ccd (cells2 c1 c2))) Q E { s with toks := tk }) :
   wpC (model PySem.Challenge.rw_pm0034_02.row.prog w) (ktrTop dp un gd (Str.ofString "law") lawScope2 L a ccd (cells2 c1 c2) []) (execs ((turn2.drop 4).take 1) (envX (Str.ofString "law") lawScope2 L a ccd (cells2 c1 c2))) Q E s := by
  walk_at "M fill"
  refine ifS_C ?_
  refine wpC_any ?_
  show wpAny _ (ktrTop _ _ _ _ (Scope.mk _ _ _ _ _) _ _ _ _ _) (isTrue _ (envX _ (Scope.mk _ _ _ _ _) _ _ _ _) _) _ _ _
  k_fold
  k_steps
  · exact h1 (by assumption) _
  · exact h2 (by assumption) _
end
section
variable {w : World} {p : Program} {loose : List PStr} {mean : ExcName → Option Value} {mg mb : PStr → Option Value}
    {dp un : Nat} {gd : Option (List Code)} {a : Addr} {ccd : Value} {c1 c2 : Addr} {A₀ : Around} {base h₀ : Heap} {L : Addr}
    {s : Shared} {news : Ldg}
    (B : Below A₀ base [] h₀) (X : (KK.heap_1 w.params).In h₀) (T : Top p loose mean mg mb h₀) (XB : (KK.heap_1 w.params).In base) (TB : Top p loose mean mg mb base)
include B X T XB TB
theorem t2_e3n {due : PStr} {te : Tok} {jk : PStr → Option Value} {Q : Flow → Shared → Prop} {E : Value → Shared → Prop}
   (F : Fr h₀ L s.heap (fun y => if y = Str.ofString "due" then some (.str due te) else jk y)) (N : News h₀ L s.heap news)
   (hret : ∀ tk, Q .next { s with toks := tk }) :
   wpAny (model PySem.Challenge.rw_pm0034_02.row.prog w) (ktrTop dp un gd (Str.ofString "law") lawScope2 L a ccd (cells2 c1 c2) []) (execs ((ifElse (turn2.drop 4)).drop 3) (envX (Str.ofString "law") lawScope2 L a ccd (cells2 c1 c2))) Q E s := by
  walk_at "M fill"
  show wpAny _ (ktrTop _ _ _ _ (Scope.mk _ _ _ _ _) _ _ _ _ _) (execs (_ :: []) (envX _ (Scope.mk _ _ _ _ _) _ _ _ _)) _ _ _
  k_steps
  exact hret _
end
end
section
theorem lines_T2I_0 : True := by
  k_with_none
  k_with "execs cons" => ((refine f_execs ?_; intro qk))
  k_with "eval BinOp" => ((refine f_BinOp ?_; intro qk))
  k_with "exec Assign" => ((refine f_Assign ?_; intro qk))
  k_with "eval Subscript" => ((refine f_Subscript ?_; intro qk))
  k_with "isTrue Compare" => ((refine f_Compare ?_; intro qk))
  k_with "exec If" => ((refine f_If ?_; intro qk))
  k_with "eval Call" => (((fail_if_success (with_reducible show wpAny _ _ (eval (Expr.Call (Expr.Attribute _ _ _) _ _ _) _) _ _ _)); refine f_Call ?_; intro qk))
  k_with "spliced" => ((refine f_args ?_; intro qk))
  k_with "callWith" => ((refine f_method1 ?_; intro qk))
  k_with "exec Return some" => ((refine f_Return ?_; intro qk))
  k_with "eval Tuple" => ((refine f_Tuple ?_; intro qk))
  k_with "eval List" => ((refine f_List ?_; intro qk))
  k_with "eval IfExp" => ((refine f_IfExp ?_; intro qk))
  k_with "storeName" => ((k_here; k_dflt (refine' f_store ?F ?N ?_ ?a ?b; (case F => k_asm); (case N => k_asm); (case a => rfl); (case b => rfl); k_whole; intro m' h' F' N'; (try k_sweep))))
  k_with "M map1" => (first
    | (refine map_same ?_; with_unfolding_all rfl)
    | ((repeat' (refine List.forall_mem_cons.mpr (And.intro ?_ ?_))); (all_goals first | rfl | exact List.forall_mem_nil _)))
  k_with "M map2" => (first
    | (refine SameOut.both (b := fun _ => none) ?_ ?_ <;> (repeat (refine SameOut.upd ?_ (by with_unfolding_all rfl))) <;> exact SameOut.lookup rfl)
    | (refine' SameOut.both (b := ?kb) ?k1 ?k2; (case k1 => ((repeat (refine SameOut.upd ?_ (by with_unfolding_all rfl))); exact SameOut.refl)); (case k2 => ((repeat (refine SameOut.upd ?_ (by with_unfolding_all rfl))); exact SameOut.refl)))
    | (refine' SameOut.both (b := ?kb) ?k1 ?k2; (case k2 => ((repeat (refine SameOut.upd ?_ (by with_unfolding_all rfl))); exact SameOut.refl)); (case k1 => ((repeat (refine SameOut.skip ?_)); (repeat (refine SameOut.upd ?_ (by with_unfolding_all rfl))); exact SameOut.refl)))
    | (intro y hy; (repeat (refine (if_neg (ne_of_out hy (by with_unfolding_all rfl))).trans ?_)); (refine Eq.symm ?_); (repeat (refine (if_neg (ne_of_out hy (by with_unfolding_all rfl))).trans ?_)); first | rfl | exact lookup_out rfl hy | exact (lookup_out rfl hy).symm | exact (lookup_out rfl hy).trans (lookup_out rfl hy).symm))
  k_with "M fill" => ((
    have kk : PySem.Challenge.rw_pm0034_02 = PySem.Challenge.rw_pm0034_02 ∧ KK.heap_1 = KK.heap_1 := ⟨rfl, rfl⟩
    revert kk
    k_fill
    intro kk
    clear kk))
  k_with "M enter" => ((
    refine wpAny_call ?_
    k_dflt (refine' code_def ?k1 ?k2 ?k3 ?k4 ?k5 ?kA ?kF ?kK ?k6 ?k7 ?k8 ?k9 ?kB ?_ ?c2 ?c3 ?c4 ?c5; (case kA => exact rfl); (case kF => exact rfl); (case kK => assumption); (case k1 => k_asm); (case k2 => k_asm); (case k3 => k_asm); (case k4 => k_asm); (case k5 => k_asm); (case k6 => k_is); (case k7 => k_is); (case k8 => ((try dsimp only); omega)); (case k9 => first | exact BindsTo.of_eq rfl | (refine' kp_binds ?kx ?ke; (case kx => first | (refine' myIn ?kf ?ki; (case kf => with_reducible assumption); (case ki => with_reducible assumption)) | k_in); (case ke => exact fun _ => rfl)) | exact binds_K (by first | (refine' myIn ?kf ?ki; (case kf => with_reducible assumption); (case ki => with_reducible assumption)) | k_in) rfl (by k_is) rfl rfl rfl); (case c5 => decide); (case kB => exact locs rfl); (case c2 => exact rfl); (case c3 => exact rfl); (case c4 => exact rfl); k_whole; intro g' L' h' FG' F' N' B' X' T'; (have D' := kts_dict B' (by assumption) FG' rfl); (try dsimp only); (try k_lift B'); (refine let_AE (f := execs _) ?_; intro vk ak); (refine f_QE ?_; intro qk ek))))
  k_with "M enter0" => ((
    refine wpAny_call ?_
    k_dflt (refine' code_defS0X ?k1 ?k2 ?k3 ?k4 ?k5 ?kA ?kF ?kK ?k6 ?k7 ?k8 ?k9 ?kB ?_ ?c2 ?c3 ?c4 ?c5; (case kA => exact rfl); (case kF => exact rfl); (case kK => assumption); (case k1 => k_asm); (case k2 => k_asm); (case k3 => k_asm); (case k4 => k_asm); (case k5 => k_asm); (case k6 => k_is); (case k7 => k_is); (case k8 => ((try dsimp only); omega)); (case k9 => first | exact BindsTo.of_eq rfl | (refine' kp_binds ?kx ?ke; (case kx => first | (refine' myIn ?kf ?ki; (case kf => with_reducible assumption); (case ki => with_reducible assumption)) | k_in); (case ke => exact fun _ => rfl)) | exact binds_K (by first | (refine' myIn ?kf ?ki; (case kf => with_reducible assumption); (case ki => with_reducible assumption)) | k_in) rfl (by k_is) rfl rfl rfl); (case c5 => decide); (case kB => exact locs rfl); (case c2 => exact rfl); (case c3 => exact rfl); (case c4 => exact rfl); k_whole; intro g' L' h' FG' F' N' B' X' T' D'; (try dsimp only); (try k_lift B'); (refine let_AE (f := execs _) ?_; intro vk ak); (refine f_QE ?_; intro qk ek))))
  trivial
local macro_rules | `(tactic| k_mem) => `(tactic| first | with_reducible assumption | (refine mem_in ?_; with_reducible assumption))
theorem lines_T2I_1 : True := by
  k_with "subscriptTail Name Constant ref int" => ((k_here; refine item_tupleT (News.isTup (by assumption) (by k_mem)) (by decide) (by decide) (by rfl) (by rfl) ?_))
  k_with "subscriptTail Name Constant ref int" => ((k_here; (with_reducible rename StrsAre _ _ => hSA); refine item_strsA (News.isList (by assumption) (by k_mem)) hSA (by decide) (by first | omega | (simp only [List.length_map]; omega)) (by decide) ?_; intro t'))
  k_with "call type:ValueError" => ((refine call_ValueError_made ?_; intro _ _ _))
  k_with "exec While Compare Name cons nil" => (refine Hold.mk ?_)
  k_with "exec While Compare" => (refine Hold.mk ?_)
  k_with "exec While Compare cons nil" => (refine Hold.mk ?_)
  k_with "exec While" => (refine Hold.mk ?_)
  k_with "binaryOp FloorDiv int int" => ((k_here; (with_reducible refine floordiv_pos ?kb1 ?kb2 ?_); (case kb1 => decide); (case kb2 => decide +kernel)))
  k_with "WhlIf" => ((refine whlIf_dec ?_ ?_ <;> intro _))
  k_with "subscriptTail Name Name ref int" => ((k_here; first
    | ((with_reducible rename StrsAre _ _ => hSA); refine item_strsA (News.isList (by assumption) (by k_mem)) hSA (by omega) (by omega) (by omega) ?_; intro t')
    | ((with_reducible rename IntsAre _ _ => hSA); refine item_intsA (News.isList (by assumption) (by k_mem)) hSA (by omega) (by omega) (by omega) ?_; intro t')))
  k_with "call builtin:len" => ((k_here; (with_reducible show wpAny _ _ (call (Value.builtin "len") [Value.ref _]) _ _ _); first
    | ((with_reducible rename StrsAre _ _ => hSA); refine len_strsA (News.isList (by assumption) (by k_mem)) hSA (by omega) ?_)
    | ((with_reducible rename IntsAre _ _ => hSA); refine len_intsA (News.isList (by assumption) (by k_mem)) hSA (by omega) ?_)))
  k_with "subscriptTail Name Constant ref int" => ((k_here; refine item_listL (News.isList (by assumption) (by k_mem)) (by decide) (by decide) (by rfl) ?_))
  trivial
local macro_rules | `(tactic| k_mem) => `(tactic| first | with_reducible assumption | (refine mem_in ?_; with_reducible assumption))
theorem lines_T2I_2 : True := by
  k_with "call builtin:len" => ((k_here; (with_reducible show wpAny _ _ (call (Value.builtin "len") [Value.ref _]) _ _ _); k_dflt (refine' len_L ?kN ?kM ?kz ?_; (case kN => with_reducible assumption); (case kM => k_mem); (case kz => omega))))
  k_with "CompSrcT" => ((refine Hold.mk ?_))
  k_with "CompSrc" => ((refine Hold.mk ?_))
  k_with "subscriptTail Name Constant ref int" => ((k_here; refine item_listL (News.isList (by assumption) (by k_mem)) (by decide) (by decide) (by rfl) ?_))
  k_with "M fr2" => ((intro y hy; (repeat (refine (if_neg (ne_of_out hy (by with_unfolding_all rfl))).trans ?_)); (refine Eq.symm ?_); (repeat (refine (if_neg (ne_of_out hy (by with_unfolding_all rfl))).trans ?_)); rfl))
  trivial
theorem fm8 {d : Int} (h : 5 < d.fmod 8) : d.fmod 8 = 6 ∨ d.fmod 8 = 7 := by
  have := Int.fmod_lt_of_pos d (show (0 : Int) < 8 by decide)
  omega
theorem fmd {d k : Int} (h : 0 < k) : 0 ≤ d.fmod k ∧ d.fmod k < k := ⟨Int.fmod_nonneg_of_pos d h, Int.fmod_lt_of_pos d h⟩
theorem hT_eq (i : Nat) : hT i = ⟨#[97 + i]⟩ := by
  show (⟨#[(97 + (i : Int)).toNat]⟩ : PStr) = _
  congr 2
theorem fm2_eq (d : Int) : (d.fmod 2 == 0) = !decide (d.fmod 2 ≠ 0) := by
  by_cases h : d.fmod 2 = 0
  · rw [h]; rfl
  · rw [decide_eq_true h]; simpa using h
theorem port_ok {j : Nat} (hj : j < 5) : PortOk ((j : Int) * 6) := by
  have := pos_at hj
  exact ⟨by omega, by omega, this.1, this.2⟩
theorem mem_r1 {a b r : Addr × Obj} {l : Ldg} : ∀ p ∈ r :: a :: b :: l, p ∈ a :: b :: r :: l := by
  intro p hp
  rcases List.mem_cons.mp hp with rfl | hp
  · exact .tail _ (.tail _ (.head _))
  rcases List.mem_cons.mp hp with rfl | hp
  · exact .head _
  rcases List.mem_cons.mp hp with rfl | hp
  · exact .tail _ (.head _)
  · exact .tail _ (.tail _ (.tail _ hp))
theorem mem_r2 {a b r : Addr × Obj} {l : Ldg} : ∀ p ∈ a :: b :: r :: l, p ∈ r :: a :: b :: l := by
  intro p hp
  rcases List.mem_cons.mp hp with rfl | hp
  · exact .tail _ (.head _)
  rcases List.mem_cons.mp hp with rfl | hp
  · exact .tail _ (.tail _ (.head _))
  rcases List.mem_cons.mp hp with rfl | hp
  · exact .head _
  · exact .tail _ (.tail _ (.tail _ hp))
/-- the end of a deed -/
structure DeedEnd (t' : Tr) (i : Nat) (c1 dk dr : Addr) (led mid ext : Ldg) (kvs' rvs' : List Value) : Prop where
  st : TrSt t' (i + 1)
  K : KpAre (ext ++ mid) kvs' t'.row
  S : StrsAre rvs' t'.row
  up : ∀ p ∈ ext, (@LT.lt Nat _ c1 p.1 ∧ @LT.lt Nat _ dk p.1 ∧ @LT.lt Nat _ dr p.1) ∧ ∀ q ∈ led, @LT.lt Nat _ q.1 p.1
section
variable {w : World} {p : Program} {loose : List PStr} {mean : ExcName → Option Value} {mg mb : PStr → Option Value}
    {dp un : Nat} {gd : Option (List Code)} {a : Addr} {ccd : Value} {c1 c2 : Addr} {A₀ : Around} {base h₀ : Heap} {L : Addr}
    {s : Shared} {news : Ldg}
    (B : Below A₀ base [] h₀) (X : (KK.heap_1 w.params).In h₀) (T : Top p loose mean mg mb h₀) (XB : (KK.heap_1 w.params).In base) (TB : Top p loose mean mg mb base)
include B X T XB TB
theorem turn2_b {dn dk dr : Addr} {nvs kvs rvs : List Value} {ns : List Int} {t : Tr} {o1 : Obj} {ek er i j : Nat} {ti tt td tl tu tp : Tok} {led mid : Ldg} {jk : PStr → Option Value} {Q : Flow → Shared → Prop} {E : Value → Shared → Prop}
   (hd5 : dp + 200 < recursionLimit) (hu5 : un + 2000 < cLine) (hi : i < ns.length) (hst : TrSt t i) (hj : j < 5)
   (F : Fr h₀ L s.heap (fun y => if y = Str.ofString "deed" then some (.int ((ns.getD i 0).fmod 8) td) else if y = Str.ofString "less" then some (.int (lessT ((j : Int) * 6) t.row) tl) else if y = Str.ofString "upto" then some (.int (uptoT ((j : Int) * 6) t.row) tu) else if y = Str.ofString "turn" then some (.int i ti) else if y = Str.ofString "numbers" then some (.ref dn) else if y = Str.ofString "kept" then some (.ref dk) else if y = Str.ofString "row" then some (.ref dr) else if y = Str.ofString "text" then some (.str t.txt tt) else jk y))
   (N : News h₀ L s.heap ((c1, o1) :: (dk, lstOf kvs ek) :: (dr, lstOf rvs er) :: led)) (hne : TurnNe c1 dk dr led) (ho1 : o1.data = .cell (some (.int ((j : Int) * 6) tp)))
   (hdn : (dn, lstOf nvs 0) ∈ led) (hns : IntsAre nvs ns) (hnl : ns.length ≤ 15) (hsub : ∀ p ∈ mid, p ∈ led) (hK : KpAre mid kvs t.row) (hS : StrsAre rvs t.row)
   (hret : ∀ (h' : Heap) (tk : Nat) (t' : Tr) (kvs' : List Value) (ek' : Nat) (rvs' : List Value) (er' : Nat) (tt' : Tok) (jk' : PStr → Option Value) (ext : Ldg), DeedEnd t' i c1 dk dr led mid ext kvs' rvs' →
      Fr h₀ L h' (fun y => if y = Str.ofString "numbers" then some (.ref dn) else if y = Str.ofString "kept" then some (.ref dk) else if y = Str.ofString "row" then some (.ref dr) else if y = Str.ofString "text" then some (.str t'.txt tt') else jk' y) → News h₀ L h' ((c1, o1) :: (dk, lstOf kvs' ek') :: (dr, lstOf rvs' er') :: (ext ++ led)) → Q .next { s with heap := h', toks := tk }) :
   wpC (model PySem.Challenge.rw_pm0034_02.row.prog w) (ktrTop dp un gd (Str.ofString "law") lawScope2 L a ccd (cells2 c1 c2) []) (execs ((turn2.drop 4).take 1) (envX (Str.ofString "law") lawScope2 L a ccd (cells2 c1 c2))) Q E s := by
  have hpo := port_ok hj
  have hrl := t.row_len
  have hsz := hst.size
  have hkl := hK.length
  obtain ⟨M0, eM0, F0⟩ := fr_ext F
  refine t2_if B X T XB TB (jk := M0) (fr_map [Str.ofString "deed"] F0 (by subst eM0; walk_at "M map1") (by walk_at "M fr2")) N ?_ ?_
  · intro h5 tk0
    refine wpC_any ?_
    rcases fm8 h5 with e8 | e8
    · rw [e8] at eM0
      refine t2_del6 B X T XB TB (s := { s with toks := tk0 }) (jk := M0) (t := t) (i := i) (port := (j : Int) * 6) hd5 hu5 hst (by omega) (fr_map [Str.ofString "deed", Str.ofString "less", Str.ofString "upto", Str.ofString "kept", Str.ofString "row", Str.ofString "text"] F0 (by subst eM0; walk_at "M map1") (by walk_at "M fr2")) N hne ho1 (hK.mono hsub) hS ?_ ?_
      · intro h' tk pv F2 N2
        obtain ⟨M2, eM2, F2⟩ := fr_ext F2
        exact hret h' tk t kvs ek rvs er tt M2 [] ⟨hst.up, hK, hS, fun p hp => nomatch hp⟩ (fr_map [Str.ofString "numbers", Str.ofString "kept", Str.ofString "row", Str.ofString "text"] F2 (by subst eM2 eM0; walk_at "M map1") (by walk_at "M fr2")) N2
      · intro h' tk pv p t2 hp F2 N2
        obtain ⟨M2, eM2, F2⟩ := fr_ext F2
        have hrow : (withoutT t p).row = t.row.eraseIdx p := without_row hp
        exact hret h' tk (withoutT t p) _ _ _ _ t2 M2 [] ⟨hst.del hp, by rw [hrow]; exact hK.eraseIdx p, by rw [hrow]; exact strs_erase p hS, fun p hp => nomatch hp⟩ (fr_map [Str.ofString "numbers", Str.ofString "kept", Str.ofString "row", Str.ofString "text"] F2 (by subst eM2 eM0; walk_at "M map1") (by walk_at "M fr2")) N2
    · rw [e8] at eM0
      refine t2_del7 B X T XB TB (s := { s with toks := tk0 }) (jk := M0) (t := t) (i := i) (port := (j : Int) * 6) hd5 hu5 hst (by omega) (fr_map [Str.ofString "deed", Str.ofString "less", Str.ofString "upto", Str.ofString "kept", Str.ofString "row", Str.ofString "text"] F0 (by subst eM0; walk_at "M map1") (by walk_at "M fr2")) N hne ho1 (hK.mono hsub) hS ?_ ?_
      · intro h' tk pv F2 N2
        obtain ⟨M2, eM2, F2⟩ := fr_ext F2
        exact hret h' tk t kvs ek rvs er tt M2 [] ⟨hst.up, hK, hS, fun p hp => nomatch hp⟩ (fr_map [Str.ofString "numbers", Str.ofString "kept", Str.ofString "row", Str.ofString "text"] F2 (by subst eM2 eM0; walk_at "M map1") (by walk_at "M fr2")) N2
      · intro h' tk pv p t2 hp F2 N2
        obtain ⟨M2, eM2, F2⟩ := fr_ext F2
        have hrow : (withoutT t p).row = t.row.eraseIdx p := without_row hp
        exact hret h' tk (withoutT t p) _ _ _ _ t2 M2 [] ⟨hst.del hp, by rw [hrow]; exact hK.eraseIdx p, by rw [hrow]; exact strs_erase p hS, fun p hp => nomatch hp⟩ (fr_map [Str.ofString "numbers", Str.ofString "kept", Str.ofString "row", Str.ofString "text"] F2 (by subst eM2 eM0; walk_at "M map1") (by walk_at "M fr2")) N2
  · intro h5 tk0
    show wpC (model PySem.Challenge.rw_pm0034_02.row.prog w) (ktrTop dp un gd (Str.ofString "law") lawScope2 L a ccd (cells2 c1 c2) []) (execs ((ifElse (turn2.drop 4)).drop 0) (envX (Str.ofString "law") lawScope2 L a ccd (cells2 c1 c2))) Q E _
    refine chunk_any 2 ?_
    refine t2_e1 B X T XB TB (s := { s with toks := tk0 }) (jk := M0) (i := i) (port := (j : Int) * 6) hd5 hu5 hi hpo (fr_map [Str.ofString "deed", Str.ofString "turn", Str.ofString "numbers"] F0 (by subst eM0; walk_at "M map1") (by walk_at "M fr2")) N (.head _) ho1 (.tail _ (.tail _ (.tail _ hdn))) hns hnl ?_ ?_
    · -- a good one
      intro h3 h1 tk1 tr th F1 N1
      show wpC (model PySem.Challenge.rw_pm0034_02.row.prog w) (ktrTop dp un gd (Str.ofString "law") lawScope2 L a ccd (cells2 c1 c2) []) (execs ((ifElse (turn2.drop 4)).drop 2) (envX (Str.ofString "law") lawScope2 L a ccd (cells2 c1 c2))) Q E _
      have hk4 := fmd (d := ns.getD i 0 / 40) (show (0 : Int) < 4 by decide)
      have hg := good_rep (c := 97 + i) (by omega) (k := ((ns.getD i 0 / 40).fmod 4).toNat) (j := j) (by omega) hj
      rw [← hT_eq] at hg
      obtain ⟨hrep, hport, hlet⟩ := hg
      have epo : pT ((j : Int) * 6) = poT j := rfl
      rw [epo] at F1
      generalize hnew : rgood ((ns.getD i 0 / 40).fmod 4).toNat (poT j) (hT i) = new at *
      obtain ⟨M1, eM1, F1⟩ := fr_ext F1
      refine chunk_any 1 ?_
      refine t2_e2g B X T XB TB (jk := M1) (i := i) (t := t) (new := new) (hs := hT i) hd5 hu5 hst (by omega) hrep (by rw [hT_eq]; exact (show (1 : Nat) ≤ 10 by decide)) (fr_map [Str.ofString "due", Str.ofString "reply", Str.ofString "host", Str.ofString "deed", Str.ofString "row"] F1 (by subst eM1 eM0; walk_at "M map1") (by walk_at "M fr2")) N1 hne (by rw [hport]; exact ho1) hS ?_
      intro h2 tk2 F2 N2
      show wpC (model PySem.Challenge.rw_pm0034_02.row.prog w) (ktrTop dp un gd (Str.ofString "law") lawScope2 L a ccd (cells2 c1 c2) []) (execs ((ifElse (turn2.drop 4)).drop 3) (envX (Str.ofString "law") lawScope2 L a ccd (cells2 c1 c2))) Q E _
      refine wpC_any ?_
      obtain ⟨M2, eM2, F2⟩ := fr_ext F2
      refine t2_e3 B X T XB TB (jk := M2) (i := i) (t := t) (new := new) (port := (j : Int) * 6) (d := (ns.getD i 0).fmod 8) hd5 hu5 hst (by omega) hrep (by omega) (fr_map [Str.ofString "due", Str.ofString "reply", Str.ofString "deed", Str.ofString "less", Str.ofString "upto", Str.ofString "kept", Str.ofString "text"] F2 (by subst eM2 eM1 eM0; walk_at "M map1") (by walk_at "M fr2")) N2 hne ho1 ?_
      intro h4 tk4 q t4 pl hpl hlt F4 N4
      obtain ⟨M4, eM4, F4⟩ := fr_ext F4
      have hrow := hst.ins_row (new := new) (decide (((ns.getD i 0).fmod 8).fmod 2 ≠ 0))
      have hple : plT (!decide (((ns.getD i 0).fmod 8).fmod 2 ≠ 0)) ((j : Int) * 6) t.row ≤ t.row.length := pl_le
      rw [hport] at hrow N4
      refine hret h4 tk4 (hungT (decide (((ns.getD i 0).fmod 8).fmod 2 ≠ 0)) new ((j : Int) * 6) t) (kl_ins kvs pl (.ref q)) (ek + 1) (kl_ins rvs (plT (((ns.getD i 0).fmod 8).fmod 2 == 0) ((j : Int) * 6) t.row) (.str new tr)) (er + 1) t4 M4 [(q, lstOf [.int ((j : Int) * 6) tp, .str new tr] 0)] ⟨?_, ?_, ?_, ?_⟩ (fr_map [Str.ofString "numbers", Str.ofString "kept", Str.ofString "row", Str.ofString "text"] F4 (by subst eM4 eM2 eM1 eM0; walk_at "M map1") (by walk_at "M fr2")) (news_sub N4 ?_)
      · have := hst.ins (new := new) (decide (((ns.getD i 0).fmod 8).fmod 2 ≠ 0)) hrep hlet
        rw [hport] at this
        exact this
      · rw [hrow]
        refine kp_put (r := q) (t := tp) (u := tr) (e := 0) (hK.mono fun p hp => .tail _ hp) hpl hple ?_
        rw [hport]; exact .head _
      · rw [hrow]
        exact strs_put hS (by rw [fm2_eq]) hple
      · intro p hp
        obtain rfl := List.mem_singleton.mp hp
        exact ⟨⟨hlt _ (.head _), hlt _ (.tail _ (.head _)), hlt _ (.tail _ (.tail _ (.head _)))⟩, fun x hx => hlt _ (.tail _ (.tail _ (.tail _ hx)))⟩
      · intro p hp
        rcases List.mem_cons.mp hp with rfl | hp
        · exact .tail _ (.head _)
        rcases List.mem_cons.mp hp with rfl | hp
        · exact .tail _ (.tail _ (.head _))
        rcases List.mem_cons.mp hp with rfl | hp
        · exact .tail _ (.tail _ (.tail _ (.head _)))
        rcases List.mem_cons.mp hp with rfl | hp
        · exact .head _
        · exact .tail _ (.tail _ (.tail _ (.tail _ hp)))
    · -- a spoiled one
      intro h3 h1 tk1 tr te th F1 N1
      show wpC (model PySem.Challenge.rw_pm0034_02.row.prog w) (ktrTop dp un gd (Str.ofString "law") lawScope2 L a ccd (cells2 c1 c2) []) (execs ((ifElse (turn2.drop 4)).drop 2) (envX (Str.ofString "law") lawScope2 L a ccd (cells2 c1 c2))) Q E _
      have hk7 := fmd (d := ns.getD i 0 / 40) (show (0 : Int) < 7 by decide)
      obtain ⟨kd, msg, hp, htx, hbl, hrp⟩ := bad_rep (c := 97 + i) (j := j) (by omega) hj (w := ((ns.getD i 0 / 40).fmod 7).toNat) (by omega)
      have epo : pT ((j : Int) * 6) = poT j := rfl
      rw [epo, hT_eq] at F1
      generalize hnew : rbad ((ns.getD i 0 / 40).fmod 7).toNat (poT j) ⟨#[97 + i]⟩ = bad at *
      generalize hdue : dbad ((ns.getD i 0 / 40).fmod 7).toNat (poT j) ⟨#[97 + i]⟩ = due at *
      have fin : ∀ (h2 : Heap) (tk2 : Nat) (jk2 : PStr → Option Value), Fr h₀ L h2 (fun y => if y = Str.ofString "due" then some (.str due te) else if y = Str.ofString "reply" then some (.str bad tr) else if y = Str.ofString "deed" then some (.int ((ns.getD i 0).fmod 8) td) else if y = Str.ofString "row" then some (.ref dr) else jk2 y) → jk2 = (fun y => if y = Str.ofString "due" then some (.str due te) else if y = Str.ofString "reply" then some (.str bad tr) else if y = Str.ofString "host" then some (.str ⟨#[97 + i]⟩ th) else if y = Str.ofString "deed" then some (.int ((ns.getD i 0).fmod 8) td) else if y = Str.ofString "turn" then some (.int i ti) else if y = Str.ofString "numbers" then some (.ref dn) else M0 y) →
          News h₀ L h2 ((c1, o1) :: (dk, lstOf kvs ek) :: (dr, lstOf rvs er) :: led) → wpC (model PySem.Challenge.rw_pm0034_02.row.prog w) (ktrTop dp un gd (Str.ofString "law") lawScope2 L a ccd (cells2 c1 c2) []) (execs ((ifElse (turn2.drop 4)).drop 3) (envX (Str.ofString "law") lawScope2 L a ccd (cells2 c1 c2))) Q E { s with heap := h2, toks := tk2 } := by
        intro h2 tk2 jk2 F2 ej N2
        refine wpC_any ?_
        obtain ⟨M2, eM2, F2⟩ := fr_ext F2
        refine t2_e3n B X T XB TB (s := { s with heap := h2, toks := tk2 }) (jk := M2) (due := due) (te := te) (fr_map [Str.ofString "due"] F2 (by subst eM2; walk_at "M map1") (by walk_at "M fr2")) N2 ?_
        intro tk3
        exact hret h2 tk3 t kvs ek rvs er tt M2 [] ⟨hst.up, hK, hS, fun p hp => nomatch hp⟩ (fr_map [Str.ofString "numbers", Str.ofString "kept", Str.ofString "row", Str.ofString "text"] F2 (by subst eM2 ej eM0; walk_at "M map1") (by walk_at "M fr2")) N2
      obtain ⟨M1, eM1, F1⟩ := fr_ext F1
      have FF := fr_map (M' := fun y => if y = Str.ofString "due" then some (.str due te) else if y = Str.ofString "reply" then some (.str bad tr) else if y = Str.ofString "deed" then some (.int ((ns.getD i 0).fmod 8) td) else if y = Str.ofString "row" then some (.ref dr) else M1 y) [Str.ofString "due", Str.ofString "reply", Str.ofString "deed", Str.ofString "row"] F1 (by subst eM1 eM0; walk_at "M map1") (by walk_at "M fr2")
      by_cases hv : kd = .value
      · subst hv
        refine chunk_C 1 ?_
        refine t2_e2v B X T XB TB (jk := M1) (i := i) (bad := bad) (due := due) (news := (c1, o1) :: (dk, lstOf kvs ek) :: led) hd5 hu5 (by omega) hbl (hrp rfl) hp htx FF (news_sub N1 mem_r1) ?_
        intro h2 tk2 F2 N2
        exact fin h2 tk2 M1 F2 eM1 (news_sub N2 mem_r2)
      · refine chunk_any 1 ?_
        refine t2_e2b B X T XB TB (jk := M1) (i := i) (t := t) (bad := bad) (due := due) (news := (c1, o1) :: (dk, lstOf kvs ek) :: led) hd5 hu5 hst (by omega) hbl hv hp htx ?_ FF (news_sub N1 mem_r1) hS ?_
        · intro p hp
          rcases List.mem_cons.mp hp with rfl | hp
          · exact hne.b.symm
          rcases List.mem_cons.mp hp with rfl | hp
          · exact hne.c.symm
          · exact hne.l3 p hp
        intro h2 tk2 F2 N2
        exact fin h2 tk2 M1 F2 eM1 (news_sub N2 mem_r2)
end
end
section
theorem lines_T2J_0 : True := by
  k_with_none
  k_with "execs cons" => ((refine f_execs ?_; intro qk))
  k_with "eval BinOp" => ((refine f_BinOp ?_; intro qk))
  k_with "exec Assign" => ((refine f_Assign ?_; intro qk))
  k_with "eval Subscript" => ((refine f_Subscript ?_; intro qk))
  k_with "isTrue Compare" => ((refine f_Compare ?_; intro qk))
  k_with "exec If" => ((refine f_If ?_; intro qk))
  k_with "eval Call" => (((fail_if_success (with_reducible show wpAny _ _ (eval (Expr.Call (Expr.Attribute _ _ _) _ _ _) _) _ _ _)); refine f_Call ?_; intro qk))
  k_with "spliced" => ((refine f_args ?_; intro qk))
  k_with "callWith" => ((refine f_method1 ?_; intro qk))
  k_with "exec Return some" => ((refine f_Return ?_; intro qk))
  k_with "eval Tuple" => ((refine f_Tuple ?_; intro qk))
  k_with "eval List" => ((refine f_List ?_; intro qk))
  k_with "eval IfExp" => ((refine f_IfExp ?_; intro qk))
  k_with "storeName" => ((k_here; k_dflt (refine' f_store ?F ?N ?_ ?a ?b; (case F => k_asm); (case N => k_asm); (case a => rfl); (case b => rfl); k_whole; intro m' h' F' N'; (try k_sweep))))
  k_with "M map1" => (first
    | (refine map_same ?_; with_unfolding_all rfl)
    | ((repeat' (refine List.forall_mem_cons.mpr (And.intro ?_ ?_))); (all_goals first | rfl | exact List.forall_mem_nil _)))
  k_with "M map2" => (first
    | (refine SameOut.both (b := fun _ => none) ?_ ?_ <;> (repeat (refine SameOut.upd ?_ (by with_unfolding_all rfl))) <;> exact SameOut.lookup rfl)
    | (refine' SameOut.both (b := ?kb) ?k1 ?k2; (case k1 => ((repeat (refine SameOut.upd ?_ (by with_unfolding_all rfl))); exact SameOut.refl)); (case k2 => ((repeat (refine SameOut.upd ?_ (by with_unfolding_all rfl))); exact SameOut.refl)))
    | (refine' SameOut.both (b := ?kb) ?k1 ?k2; (case k2 => ((repeat (refine SameOut.upd ?_ (by with_unfolding_all rfl))); exact SameOut.refl)); (case k1 => ((repeat (refine SameOut.skip ?_)); (repeat (refine SameOut.upd ?_ (by with_unfolding_all rfl))); exact SameOut.refl)))
    | (intro y hy; (repeat (refine (if_neg (ne_of_out hy (by with_unfolding_all rfl))).trans ?_)); (refine Eq.symm ?_); (repeat (refine (if_neg (ne_of_out hy (by with_unfolding_all rfl))).trans ?_)); first | rfl | exact lookup_out rfl hy | exact (lookup_out rfl hy).symm | exact (lookup_out rfl hy).trans (lookup_out rfl hy).symm))
  k_with "M fill" => ((
    have kk : PySem.Challenge.rw_pm0034_02 = PySem.Challenge.rw_pm0034_02 ∧ KK.heap_1 = KK.heap_1 := ⟨rfl, rfl⟩
    revert kk
    k_fill
    intro kk
    clear kk))
  k_with "M enter" => ((
    refine wpAny_call ?_
    k_dflt (refine' code_def ?k1 ?k2 ?k3 ?k4 ?k5 ?kA ?kF ?kK ?k6 ?k7 ?k8 ?k9 ?kB ?_ ?c2 ?c3 ?c4 ?c5; (case kA => exact rfl); (case kF => exact rfl); (case kK => assumption); (case k1 => k_asm); (case k2 => k_asm); (case k3 => k_asm); (case k4 => k_asm); (case k5 => k_asm); (case k6 => k_is); (case k7 => k_is); (case k8 => ((try dsimp only); omega)); (case k9 => first | exact BindsTo.of_eq rfl | (refine' kp_binds ?kx ?ke; (case kx => first | (refine' myIn ?kf ?ki; (case kf => with_reducible assumption); (case ki => with_reducible assumption)) | k_in); (case ke => exact fun _ => rfl)) | exact binds_K (by first | (refine' myIn ?kf ?ki; (case kf => with_reducible assumption); (case ki => with_reducible assumption)) | k_in) rfl (by k_is) rfl rfl rfl); (case c5 => decide); (case kB => exact locs rfl); (case c2 => exact rfl); (case c3 => exact rfl); (case c4 => exact rfl); k_whole; intro g' L' h' FG' F' N' B' X' T'; (have D' := kts_dict B' (by assumption) FG' rfl); (try dsimp only); (try k_lift B'); (refine let_AE (f := execs _) ?_; intro vk ak); (refine f_QE ?_; intro qk ek))))
  k_with "M enter0" => ((
    refine wpAny_call ?_
    k_dflt (refine' code_defS0X ?k1 ?k2 ?k3 ?k4 ?k5 ?kA ?kF ?kK ?k6 ?k7 ?k8 ?k9 ?kB ?_ ?c2 ?c3 ?c4 ?c5; (case kA => exact rfl); (case kF => exact rfl); (case kK => assumption); (case k1 => k_asm); (case k2 => k_asm); (case k3 => k_asm); (case k4 => k_asm); (case k5 => k_asm); (case k6 => k_is); (case k7 => k_is); (case k8 => ((try dsimp only); omega)); (case k9 => first | exact BindsTo.of_eq rfl | (refine' kp_binds ?kx ?ke; (case kx => first | (refine' myIn ?kf ?ki; (case kf => with_reducible assumption); (case ki => with_reducible assumption)) | k_in); (case ke => exact fun _ => rfl)) | exact binds_K (by first | (refine' myIn ?kf ?ki; (case kf => with_reducible assumption); (case ki => with_reducible assumption)) | k_in) rfl (by k_is) rfl rfl rfl); (case c5 => decide); (case kB => exact locs rfl); (case c2 => exact rfl); (case c3 => exact rfl); (case c4 => exact rfl); k_whole; intro g' L' h' FG' F' N' B' X' T' D'; (try dsimp only); (try k_lift B'); (refine let_AE (f := execs _) ?_; intro vk ak); (refine f_QE ?_; intro qk ek))))
  trivial
local macro_rules | `(tactic| k_mem) => `(tactic| first | with_reducible assumption | (refine mem_in ?_; with_reducible assumption))
theorem lines_T2J_1 : True := by
  k_with "subscriptTail Name Constant ref int" => ((k_here; refine item_tupleT (News.isTup (by assumption) (by k_mem)) (by decide) (by decide) (by rfl) (by rfl) ?_))
  k_with "subscriptTail Name Constant ref int" => ((k_here; (with_reducible rename StrsAre _ _ => hSA); refine item_strsA (News.isList (by assumption) (by k_mem)) hSA (by decide) (by first | omega | (simp only [List.length_map]; omega)) (by decide) ?_; intro t'))
  k_with "call type:ValueError" => ((refine call_ValueError_made ?_; intro _ _ _))
  k_with "exec While Compare Name cons nil" => (refine Hold.mk ?_)
  k_with "exec While Compare" => (refine Hold.mk ?_)
  k_with "exec While Compare cons nil" => (refine Hold.mk ?_)
  k_with "exec While" => (refine Hold.mk ?_)
  k_with "binaryOp FloorDiv int int" => ((k_here; (with_reducible refine floordiv_pos ?kb1 ?kb2 ?_); (case kb1 => decide); (case kb2 => decide +kernel)))
  k_with "WhlIf" => ((refine whlIf_dec ?_ ?_ <;> intro _))
  k_with "subscriptTail Name Name ref int" => ((k_here; first
    | ((with_reducible rename StrsAre _ _ => hSA); refine item_strsA (News.isList (by assumption) (by k_mem)) hSA (by omega) (by omega) (by omega) ?_; intro t')
    | ((with_reducible rename IntsAre _ _ => hSA); refine item_intsA (News.isList (by assumption) (by k_mem)) hSA (by omega) (by omega) (by omega) ?_; intro t')))
  k_with "call builtin:len" => ((k_here; (with_reducible show wpAny _ _ (call (Value.builtin "len") [Value.ref _]) _ _ _); first
    | ((with_reducible rename StrsAre _ _ => hSA); refine len_strsA (News.isList (by assumption) (by k_mem)) hSA (by omega) ?_)
    | ((with_reducible rename IntsAre _ _ => hSA); refine len_intsA (News.isList (by assumption) (by k_mem)) hSA (by omega) ?_)))
  k_with "subscriptTail Name Constant ref int" => ((k_here; refine item_listL (News.isList (by assumption) (by k_mem)) (by decide) (by decide) (by rfl) ?_))
  trivial
local macro_rules | `(tactic| k_mem) => `(tactic| first | with_reducible assumption | (refine mem_in ?_; with_reducible assumption))
theorem lines_T2J_2 : True := by
  k_with "call builtin:len" => ((k_here; (with_reducible show wpAny _ _ (call (Value.builtin "len") [Value.ref _]) _ _ _); k_dflt (refine' len_L ?kN ?kM ?kz ?_; (case kN => with_reducible assumption); (case kM => k_mem); (case kz => omega))))
  k_with "CompSrcT" => ((refine Hold.mk ?_))
  k_with "CompSrc" => ((refine Hold.mk ?_))
  k_with "subscriptTail Name Constant ref int" => ((k_here; refine item_listL (News.isList (by assumption) (by k_mem)) (by decide) (by decide) (by rfl) ?_))
  k_with "M fr2" => ((intro y hy; (repeat (refine (if_neg (ne_of_out hy (by with_unfolding_all rfl))).trans ?_)); (refine Eq.symm ?_); (repeat (refine (if_neg (ne_of_out hy (by with_unfolding_all rfl))).trans ?_)); rfl))
  trivial
/-- what changes from turn to turn -/
structure S2 where
  t : Tr
  kvs : List Value
  rvs : List Value
  ek : Nat
  er : Nat
  tt : Tok
  o1 : Obj
  tb : Array Value
  mid : Ldg
  jk : PStr → Option Value
noncomputable def m2 (dn dk dr : Addr) (σ : S2) : PStr → Option Value := fun y =>
  if y = Str.ofString "numbers" then some (.ref dn) else if y = Str.ofString "kept" then some (.ref dk) else if y = Str.ofString "row" then some (.ref dr) else if y = Str.ofString "text" then some (.str σ.t.txt σ.tt) else σ.jk y
noncomputable def l2 (c1 dk dr : Addr) (σ : S2) : Ldg := (c1, σ.o1) :: (dk, lstOf σ.kvs σ.ek) :: (dr, lstOf σ.rvs σ.er) :: (166, tabObj σ.tb) :: σ.mid
structure Ok2 (c1 dn dk dr : Addr) (nvs : List Value) (mid0 : Ldg) (i : Nat) (σ : S2) : Prop where
  st : TrSt σ.t i
  K : KpAre σ.mid σ.kvs σ.t.row
  S : StrsAre σ.rvs σ.t.row
  o1 : ∃ cv, σ.o1.data = .cell cv
  lam : σ.tb = #[] ∨ LamIn ((166, tabObj σ.tb) :: σ.mid)
  ne : TurnNe c1 dk dr ((166, tabObj σ.tb) :: σ.mid)
  n166 : ∀ p ∈ σ.mid, p.1 ≠ 166
  dn : (dn, lstOf nvs 0) ∈ σ.mid
  sub : ∀ p ∈ mid0, p ∈ σ.mid
theorem LamIn.mono {l l' : Ldg} (h : LamIn l) (s : ∀ p ∈ l, p ∈ l') : LamIn l' := by
  obtain ⟨c', oc, vs, tq, h1, h2, h3, h4⟩ := h
  exact ⟨c', oc, vs, tq, s _ h1, s _ h2, h3, h4⟩
theorem up_j1 {o a b c d : Addr × Obj} {l : Ldg} : ∀ p ∈ a :: b :: c :: d :: o :: l, p ∈ o :: a :: b :: c :: d :: l := by
  intro p hp
  simp only [List.mem_cons] at hp ⊢
  rcases hp with h | h | h | h | h | h
  · exact .inr (.inl h)
  · exact .inr (.inr (.inl h))
  · exact .inr (.inr (.inr (.inl h)))
  · exact .inr (.inr (.inr (.inr (.inl h))))
  · exact .inl h
  · exact .inr (.inr (.inr (.inr (.inr h))))
theorem up_j2 {o a b c d : Addr × Obj} {e l : Ldg} : ∀ p ∈ d :: a :: b :: c :: (e ++ o :: l), p ∈ a :: b :: c :: (e ++ d :: o :: l) := by
  intro p hp
  simp only [List.mem_cons, List.mem_append] at hp ⊢
  rcases hp with h | h | h | h | h | h | h
  · exact .inr (.inr (.inr (.inr (.inl h))))
  · exact .inl h
  · exact .inr (.inl h)
  · exact .inr (.inr (.inl h))
  · exact .inr (.inr (.inr (.inl h)))
  · exact .inr (.inr (.inr (.inr (.inr (.inl h)))))
  · exact .inr (.inr (.inr (.inr (.inr (.inr h)))))
theorem up_j3 {o a b c d : Addr × Obj} {e l : Ldg} : ∀ p ∈ o :: a :: b :: c :: d :: (e ++ l), p ∈ d :: a :: b :: c :: (e ++ o :: l) := by
  intro p hp
  simp only [List.mem_cons, List.mem_append] at hp ⊢
  rcases hp with h | h | h | h | h | h | h
  · exact .inr (.inr (.inr (.inr (.inr (.inl h)))))
  · exact .inr (.inl h)
  · exact .inr (.inr (.inl h))
  · exact .inr (.inr (.inr (.inl h)))
  · exact .inl h
  · exact .inr (.inr (.inr (.inr (.inl h))))
  · exact .inr (.inr (.inr (.inr (.inr (.inr h)))))
theorem up_j4 {o a b c d n : Addr × Obj} {e l : Ldg} : ∀ p ∈ o :: a :: b :: c :: d :: (n :: (e ++ l)), p ∈ n :: d :: a :: b :: c :: (e ++ o :: l) := by
  intro p hp
  simp only [List.mem_cons, List.mem_append] at hp ⊢
  rcases hp with h | h | h | h | h | h | h | h
  · exact .inr (.inr (.inr (.inr (.inr (.inr (.inl h))))))
  · exact .inr (.inr (.inl h))
  · exact .inr (.inr (.inr (.inl h)))
  · exact .inr (.inr (.inr (.inr (.inl h))))
  · exact .inr (.inl h)
  · exact .inl h
  · exact .inr (.inr (.inr (.inr (.inr (.inl h)))))
  · exact .inr (.inr (.inr (.inr (.inr (.inr (.inr h))))))
theorem mid_up {o : Addr × Obj} {e l : Ldg} : ∀ p ∈ e ++ l, p ∈ e ++ o :: l := by
  intro p hp
  rcases List.mem_append.mp hp with h | h
  · exact List.mem_append_left _ h
  · exact List.mem_append_right _ (.tail _ h)
section
variable {w : World} {p : Program} {loose : List PStr} {mean : ExcName → Option Value} {mg mb : PStr → Option Value}
    {dp un : Nat} {gd : Option (List Code)} {a : Addr} {ccd : Value} {c1 c2 : Addr} {A₀ : Around} {base h₀ : Heap} {L : Addr}
    {s : Shared} {news : Ldg}
    (B : Below A₀ base [] h₀) (X : (KK.heap_1 w.params).In h₀) (T : Top p loose mean mg mb h₀) (XB : (KK.heap_1 w.params).In base) (TB : Top p loose mean mg mb base)
include B X T XB TB
theorem turn2_all {dn dk dr : Addr} {nvs : List Value} {ns : List Int} {σ : S2} {i : Nat} {ti : Tok} {own : Addr × Obj} {mid0 : Ldg} {Q : Flow → Shared → Prop} {E : Value → Shared → Prop}
   (hd5 : dp + 200 < recursionLimit) (hu5 : un + 2000 < cLine) (hi : i < ns.length) (hC : Ok2 c1 dn dk dr nvs mid0 i σ) (hown : ∀ p ∈ l2 c1 dk dr σ, p.1 ≠ own.1) (hns : IntsAre nvs ns) (hnl : ns.length ≤ 15)
   (F : Fr h₀ L s.heap (fun y => if y = Str.ofString "turn" then some (.int i ti) else m2 dn dk dr σ y)) (N : News h₀ L s.heap (own :: l2 c1 dk dr σ))
   (hret : ∀ (h' : Heap) (tk : Nat) (σ' : S2), Ok2 c1 dn dk dr nvs mid0 (i + 1) σ' → (∀ p ∈ l2 c1 dk dr σ', p.1 ≠ own.1) → Fr h₀ L h' (m2 dn dk dr σ') → News h₀ L h' (own :: l2 c1 dk dr σ') → Q .next { s with heap := h', toks := tk }) :
   wpC (model PySem.Challenge.rw_pm0034_02.row.prog w) (ktrTop dp un gd (Str.ofString "law") lawScope2 L a ccd (cells2 c1 c2) []) (execs turn2 (envX (Str.ofString "law") lawScope2 L a ccd (cells2 c1 c2))) Q E s := by
  obtain ⟨t, kvs, rvs, ek, er, tt, o1, tb, mid, jk⟩ := σ
  obtain ⟨hst, hK, hS, ⟨cv, ho1⟩, hlam, hne, h166, hdn, hsub⟩ := hC
  dsimp only at hst hK hS ho1 hlam hne h166 hdn hsub
  unfold l2 at N hown
  unfold m2 at F
  dsimp only at N hown F
  have hrl := t.row_len
  have hsz := hst.size
  have n1 : c1 ≠ 166 := (hne.l1 _ (.head _)).symm
  have nk : dk ≠ 166 := (hne.l2 _ (.head _)).symm
  have nr : dr ≠ 166 := (hne.l3 _ (.head _)).symm
  have w1 : own.1 ≠ c1 := (hown _ (.head _)).symm
  have wk : own.1 ≠ dk := (hown _ (.tail _ (.head _))).symm
  have wr : own.1 ≠ dr := (hown _ (.tail _ (.tail _ (.head _)))).symm
  have w166 : own.1 ≠ 166 := (hown _ (.tail _ (.tail _ (.tail _ (.head _))))).symm
  have hne2 : TurnNe c1 dk dr ((166, tabObj tb) :: own :: mid) := ⟨hne.a, hne.b, hne.c, fun p hp => by
      rcases List.mem_cons.mp hp with rfl | hp
      · exact n1.symm
      rcases List.mem_cons.mp hp with rfl | hp
      · exact w1
      · exact hne.l1 p (.tail _ hp), fun p hp => by
      rcases List.mem_cons.mp hp with rfl | hp
      · exact nk.symm
      rcases List.mem_cons.mp hp with rfl | hp
      · exact wk
      · exact hne.l2 p (.tail _ hp), fun p hp => by
      rcases List.mem_cons.mp hp with rfl | hp
      · exact nr.symm
      rcases List.mem_cons.mp hp with rfl | hp
      · exact wr
      · exact hne.l3 p (.tail _ hp)⟩
  have hb5 := fmd (d := ns.getD i 0 / 8) (show (0 : Int) < 5 by decide)
  obtain ⟨j, ej⟩ := Int.eq_ofNat_of_zero_le hb5.1
  have hj : j < 5 := by omega
  show wpC (model PySem.Challenge.rw_pm0034_02.row.prog w) (ktrTop dp un gd (Str.ofString "law") lawScope2 L a ccd (cells2 c1 c2) []) (execs (turn2.drop 0) (envX (Str.ofString "law") lawScope2 L a ccd (cells2 c1 c2))) Q E s
  obtain ⟨M0, eM0, F0⟩ := fr_ext F
  refine chunk_any 4 ?_
  refine t2_a B X T XB TB (o1 := o1) (cv := cv) (jk := M0) (row := t.row) (news := (dk, lstOf kvs ek) :: (dr, lstOf rvs er) :: (166, tabObj tb) :: own :: mid) (by omega) (by omega) hi (fr_map [Str.ofString "turn", Str.ofString "numbers", Str.ofString "kept"] F0 (by subst eM0; walk_at "M map1") (by walk_at "M fr2")) (news_sub N up_j1) ?_ ho1 (.tail _ (.tail _ (.tail _ (.tail _ hdn)))) hns hnl (.head _) (hK.mono fun p hp => .tail _ (.tail _ (.tail _ (.tail _ hp)))) (by omega) ?_
  · intro p hp
    rcases List.mem_cons.mp hp with rfl | hp
    · exact hne.a
    rcases List.mem_cons.mp hp with rfl | hp
    · exact hne.b
    · exact hne2.l1 p hp
  intro h1 k1 t1 t2 t3 t4 o1' ho1' F1 N1
  show wpC (model PySem.Challenge.rw_pm0034_02.row.prog w) (ktrTop dp un gd (Str.ofString "law") lawScope2 L a ccd (cells2 c1 c2) []) (execs (turn2.drop 4) (envX (Str.ofString "law") lawScope2 L a ccd (cells2 c1 c2))) Q E _
  rw [ej] at ho1' F1
  obtain ⟨M1, eM1, F1⟩ := fr_ext F1
  refine chunk_C 1 ?_
  refine turn2_b B X T XB TB (i := i) (t := t) (jk := M1) (dn := dn) (dk := dk) (dr := dr) (tt := tt) (led := (166, tabObj tb) :: own :: mid) (mid := mid) hd5 hu5 hi hst hj (fr_map [Str.ofString "deed", Str.ofString "less", Str.ofString "upto", Str.ofString "turn", Str.ofString "numbers", Str.ofString "kept", Str.ofString "row", Str.ofString "text"] F1 (by subst eM1 eM0; walk_at "M map1") (by walk_at "M fr2")) N1 hne2 ho1' (.tail _ (.tail _ hdn)) hns hnl (fun p hp => .tail _ (.tail _ hp)) hK hS ?_
  intro h2 k2 t' kvs' ek' rvs' er' tt' jk2 ext hE F2 N2
  show wpC (model PySem.Challenge.rw_pm0034_02.row.prog w) (ktrTop dp un gd (Str.ofString "law") lawScope2 L a ccd (cells2 c1 c2) []) (execs (turn2.drop 5) (envX (Str.ofString "law") lawScope2 L a ccd (cells2 c1 c2))) Q E _
  obtain ⟨hst', hK', hS', hup⟩ := hE
  have u166 : ∀ p ∈ ext, p.1 ≠ 166 := fun p hp => Nat.ne_of_gt ((hup p hp).2 _ (.head _))
  have uown : ∀ p ∈ ext, p.1 ≠ own.1 := fun p hp => Nat.ne_of_gt ((hup p hp).2 _ (.tail _ (.head _)))
  have hmid : ∀ p ∈ ext ++ mid, p.1 ≠ c1 ∧ p.1 ≠ dk ∧ p.1 ≠ dr ∧ p.1 ≠ 166 ∧ p.1 ≠ own.1 := fun p hp => by
    rcases List.mem_append.mp hp with h | h
    · have := (hup p h).1
      exact ⟨Nat.ne_of_gt this.1, Nat.ne_of_gt this.2.1, Nat.ne_of_gt this.2.2, u166 p h, uown p h⟩
    · exact ⟨hne.l1 p (.tail _ h), hne.l2 p (.tail _ h), hne.l3 p (.tail _ h), h166 p h, hown p (.tail _ (.tail _ (.tail _ (.tail _ h))))⟩
  refine chunk_any 1 ?_
  refine t2_z B X T XB TB (dk := dk) (dr := dr) (t := t') (i := i + 1) (jk := fun y => if y = Str.ofString "numbers" then some (.ref dn) else jk2 y) (tb := tb) (news := (c1, o1') :: (dk, lstOf kvs' ek') :: (dr, lstOf rvs' er') :: (ext ++ own :: mid)) hd5 hu5 hst' (by omega) ?_ (fr_map [Str.ofString "numbers", Str.ofString "row", Str.ofString "kept", Str.ofString "text"] F2 (by walk_at "M map1") (by walk_at "M fr2")) (news_sub N2 up_j2) ?_ (.tail _ (.head _)) (.tail _ (.tail _ (.head _))) (hK'.mono fun p hp => .tail _ (.tail _ (.tail _ (mid_up p hp)))) hS' ?_ ?_
  · intro p hp
    rcases List.mem_cons.mp hp with rfl | hp
    · exact n1
    rcases List.mem_cons.mp hp with rfl | hp
    · exact nk
    rcases List.mem_cons.mp hp with rfl | hp
    · exact nr
    rcases List.mem_append.mp hp with h | h
    · exact u166 p h
    rcases List.mem_cons.mp h with rfl | h
    · exact w166
    · exact h166 p h
  · rcases hlam with rfl | hlam
    · exact .inl rfl
    · refine .inr (hlam.mono fun p hp => ?_)
      rcases List.mem_cons.mp hp with rfl | hp
      · exact .head _
      · exact .tail _ (.tail _ (.tail _ (.tail _ (List.mem_append_right _ (.tail _ hp)))))
  · intro h3 k3 F3 N3
    show wpC (model PySem.Challenge.rw_pm0034_02.row.prog w) (ktrTop dp un gd (Str.ofString "law") lawScope2 L a ccd (cells2 c1 c2) []) (execs [] (envX (Str.ofString "law") lawScope2 L a ccd (cells2 c1 c2))) Q E _
    refine wpC_any (wpAny_execs_nil ?_)
    refine hret h3 k3 ⟨t', kvs', rvs', ek', er', tt', o1', tb, ext ++ mid, jk2⟩ ⟨hst', hK', hS', ⟨_, ho1'⟩, ?_, ⟨hne.a, hne.b, hne.c, ?_, ?_, ?_⟩, ?_, List.mem_append_right _ hdn, fun p hp => List.mem_append_right _ (hsub p hp)⟩ ?_ (by unfold m2; exact fr_map [Str.ofString "numbers", Str.ofString "row", Str.ofString "kept", Str.ofString "text"] F3 (by walk_at "M map1") (by walk_at "M fr2")) (news_sub N3 up_j3)
    · rcases hlam with rfl | hlam
      · exact .inl rfl
      · refine .inr (hlam.mono fun p hp => ?_)
        rcases List.mem_cons.mp hp with rfl | hp
        · exact .head _
        · exact .tail _ (List.mem_append_right _ hp)
    · intro p hp
      rcases List.mem_cons.mp hp with rfl | hp
      · exact n1.symm
      · exact (hmid p hp).1
    · intro p hp
      rcases List.mem_cons.mp hp with rfl | hp
      · exact nk.symm
      · exact (hmid p hp).2.1
    · intro p hp
      rcases List.mem_cons.mp hp with rfl | hp
      · exact nr.symm
      · exact (hmid p hp).2.2.1
    · exact fun p hp => (hmid p hp).2.2.2.1
    · intro p hp
      unfold l2 at hp
      rcases List.mem_cons.mp hp with rfl | hp
      · exact w1.symm
      rcases List.mem_cons.mp hp with rfl | hp
      · exact wk.symm
      rcases List.mem_cons.mp hp with rfl | hp
      · exact wr.symm
      rcases List.mem_cons.mp hp with rfl | hp
      · exact w166.symm
      · exact (hmid p hp).2.2.2.2
  · intro h3 k3 c' oc vs tq hoc hvs hfresh hc166 F3 N3
    show wpC (model PySem.Challenge.rw_pm0034_02.row.prog w) (ktrTop dp un gd (Str.ofString "law") lawScope2 L a ccd (cells2 c1 c2) []) (execs [] (envX (Str.ofString "law") lawScope2 L a ccd (cells2 c1 c2))) Q E _
    refine wpC_any (wpAny_execs_nil ?_)
    have q1 : c1 ≠ c' := hfresh _ (.head _)
    have q2 : dk ≠ c' := hfresh _ (.tail _ (.head _))
    have q3 : dr ≠ c' := hfresh _ (.tail _ (.tail _ (.head _)))
    have q4 : own.1 ≠ c' := hfresh own (.tail _ (.tail _ (.tail _ (List.mem_append_right _ (.head _)))))
    refine hret h3 k3 ⟨t', kvs', rvs', ek', er', tt', o1', #[rawInt 154, rawInt 31, .ref c'], (c', oc) :: (ext ++ mid), jk2⟩ ⟨hst', hK'.mono (fun p hp => .tail _ hp), hS', ⟨_, ho1'⟩, .inr ⟨c', oc, vs, tq, .head _, .tail _ (.head _), hoc, hvs⟩, ⟨hne.a, hne.b, hne.c, ?_, ?_, ?_⟩, ?_, .tail _ (List.mem_append_right _ hdn), fun p hp => .tail _ (List.mem_append_right _ (hsub p hp))⟩ ?_ (by unfold m2; exact fr_map [Str.ofString "numbers", Str.ofString "row", Str.ofString "kept", Str.ofString "text"] F3 (by walk_at "M map1") (by walk_at "M fr2")) (news_sub N3 up_j4)
    · intro p hp
      rcases List.mem_cons.mp hp with rfl | hp
      · exact n1.symm
      rcases List.mem_cons.mp hp with rfl | hp
      · exact q1.symm
      · exact (hmid p hp).1
    · intro p hp
      rcases List.mem_cons.mp hp with rfl | hp
      · exact nk.symm
      rcases List.mem_cons.mp hp with rfl | hp
      · exact q2.symm
      · exact (hmid p hp).2.1
    · intro p hp
      rcases List.mem_cons.mp hp with rfl | hp
      · exact nr.symm
      rcases List.mem_cons.mp hp with rfl | hp
      · exact q3.symm
      · exact (hmid p hp).2.2.1
    · intro p hp
      rcases List.mem_cons.mp hp with rfl | hp
      · exact hc166
      · exact (hmid p hp).2.2.2.1
    · intro p hp
      unfold l2 at hp
      rcases List.mem_cons.mp hp with rfl | hp
      · exact w1.symm
      rcases List.mem_cons.mp hp with rfl | hp
      · exact wk.symm
      rcases List.mem_cons.mp hp with rfl | hp
      · exact wr.symm
      rcases List.mem_cons.mp hp with rfl | hp
      · exact w166.symm
      rcases List.mem_cons.mp hp with rfl | hp
      · exact q4.symm
      · exact (hmid p hp).2.2.2.2
end
end
section
theorem lines_T2K_0 : True := by
  k_with_none
  k_with "execs cons" => ((refine f_execs ?_; intro qk))
  k_with "eval BinOp" => ((refine f_BinOp ?_; intro qk))
  k_with "exec Assign" => ((refine f_Assign ?_; intro qk))
  k_with "eval Subscript" => ((refine f_Subscript ?_; intro qk))
  k_with "isTrue Compare" => ((refine f_Compare ?_; intro qk))
  k_with "exec If" => ((refine f_If ?_; intro qk))
  k_with "eval Call" => (((fail_if_success (with_reducible show wpAny _ _ (eval (Expr.Call (Expr.Attribute _ _ _) _ _ _) _) _ _ _)); refine f_Call ?_; intro qk))
  k_with "spliced" => ((refine f_args ?_; intro qk))
  k_with "callWith" => ((refine f_method1 ?_; intro qk))
  k_with "exec Return some" => ((refine f_Return ?_; intro qk))
  k_with "eval Tuple" => ((refine f_Tuple ?_; intro qk))
  k_with "eval List" => ((refine f_List ?_; intro qk))
  k_with "eval IfExp" => ((refine f_IfExp ?_; intro qk))
  k_with "storeName" => ((k_here; k_dflt (refine' f_store ?F ?N ?_ ?a ?b; (case F => k_asm); (case N => k_asm); (case a => rfl); (case b => rfl); k_whole; intro m' h' F' N'; (try k_sweep))))
  k_with "M map1" => (first
    | (refine map_same ?_; with_unfolding_all rfl)
    | ((repeat' (refine List.forall_mem_cons.mpr (And.intro ?_ ?_))); (all_goals first | rfl | exact List.forall_mem_nil _)))
  k_with "M map2" => (first
    | (refine SameOut.both (b := fun _ => none) ?_ ?_ <;> (repeat (refine SameOut.upd ?_ (by with_unfolding_all rfl))) <;> exact SameOut.lookup rfl)
    | (refine' SameOut.both (b := ?kb) ?k1 ?k2; (case k1 => ((repeat (refine SameOut.upd ?_ (by with_unfolding_all rfl))); exact SameOut.refl)); (case k2 => ((repeat (refine SameOut.upd ?_ (by with_unfolding_all rfl))); exact SameOut.refl)))
    | (refine' SameOut.both (b := ?kb) ?k1 ?k2; (case k2 => ((repeat (refine SameOut.upd ?_ (by with_unfolding_all rfl))); exact SameOut.refl)); (case k1 => ((repeat (refine SameOut.skip ?_)); (repeat (refine SameOut.upd ?_ (by with_unfolding_all rfl))); exact SameOut.refl)))
    | (intro y hy; (repeat (refine (if_neg (ne_of_out hy (by with_unfolding_all rfl))).trans ?_)); (refine Eq.symm ?_); (repeat (refine (if_neg (ne_of_out hy (by with_unfolding_all rfl))).trans ?_)); first | rfl | exact lookup_out rfl hy | exact (lookup_out rfl hy).symm | exact (lookup_out rfl hy).trans (lookup_out rfl hy).symm))
  k_with "M fill" => ((
    have kk : PySem.Challenge.rw_pm0034_02 = PySem.Challenge.rw_pm0034_02 ∧ KK.heap_1 = KK.heap_1 := ⟨rfl, rfl⟩
    revert kk
    k_fill
    intro kk
    clear kk))
  k_with "M enter" => ((
    refine wpAny_call ?_
    k_dflt (refine' code_def ?k1 ?k2 ?k3 ?k4 ?k5 ?kA ?kF ?kK ?k6 ?k7 ?k8 ?k9 ?kB ?_ ?c2 ?c3 ?c4 ?c5; (case kA => exact rfl); (case kF => exact rfl); (case kK => assumption); (case k1 => k_asm); (case k2 => k_asm); (case k3 => k_asm); (case k4 => k_asm); (case k5 => k_asm); (case k6 => k_is); (case k7 => k_is); (case k8 => ((try dsimp only); omega)); (case k9 => first | exact BindsTo.of_eq rfl | (refine' kp_binds ?kx ?ke; (case kx => first | (refine' myIn ?kf ?ki; (case kf => with_reducible assumption); (case ki => with_reducible assumption)) | k_in); (case ke => exact fun _ => rfl)) | exact binds_K (by first | (refine' myIn ?kf ?ki; (case kf => with_reducible assumption); (case ki => with_reducible assumption)) | k_in) rfl (by k_is) rfl rfl rfl); (case c5 => decide); (case kB => exact locs rfl); (case c2 => exact rfl); (case c3 => exact rfl); (case c4 => exact rfl); k_whole; intro g' L' h' FG' F' N' B' X' T'; (have D' := kts_dict B' (by assumption) FG' rfl); (try dsimp only); (try k_lift B'); (refine let_AE (f := execs _) ?_; intro vk ak); (refine f_QE ?_; intro qk ek))))
  k_with "M enter0" => ((
    refine wpAny_call ?_
    k_dflt (refine' code_defS0X ?k1 ?k2 ?k3 ?k4 ?k5 ?kA ?kF ?kK ?k6 ?k7 ?k8 ?k9 ?kB ?_ ?c2 ?c3 ?c4 ?c5; (case kA => exact rfl); (case kF => exact rfl); (case kK => assumption); (case k1 => k_asm); (case k2 => k_asm); (case k3 => k_asm); (case k4 => k_asm); (case k5 => k_asm); (case k6 => k_is); (case k7 => k_is); (case k8 => ((try dsimp only); omega)); (case k9 => first | exact BindsTo.of_eq rfl | (refine' kp_binds ?kx ?ke; (case kx => first | (refine' myIn ?kf ?ki; (case kf => with_reducible assumption); (case ki => with_reducible assumption)) | k_in); (case ke => exact fun _ => rfl)) | exact binds_K (by first | (refine' myIn ?kf ?ki; (case kf => with_reducible assumption); (case ki => with_reducible assumption)) | k_in) rfl (by k_is) rfl rfl rfl); (case c5 => decide); (case kB => exact locs rfl); (case c2 => exact rfl); (case c3 => exact rfl); (case c4 => exact rfl); k_whole; intro g' L' h' FG' F' N' B' X' T' D'; (try dsimp only); (try k_lift B'); (refine let_AE (f := execs _) ?_; intro vk ak); (refine f_QE ?_; intro qk ek))))
  trivial
local macro_rules | `(tactic| k_mem) => `(tactic| first | with_reducible assumption | (refine mem_in ?_; with_reducible assumption))
theorem lines_T2K_1 : True := by
  k_with "subscriptTail Name Constant ref int" => ((k_here; refine item_tupleT (News.isTup (by assumption) (by k_mem)) (by decide) (by decide) (by rfl) (by rfl) ?_))
  k_with "subscriptTail Name Constant ref int" => ((k_here; (with_reducible rename StrsAre _ _ => hSA); refine item_strsA (News.isList (by assumption) (by k_mem)) hSA (by decide) (by first | omega | (simp only [List.length_map]; omega)) (by decide) ?_; intro t'))
  k_with "call type:ValueError" => ((refine call_ValueError_made ?_; intro _ _ _))
  k_with "exec While Compare Name cons nil" => (refine Hold.mk ?_)
  k_with "exec While Compare" => (refine Hold.mk ?_)
  k_with "exec While Compare cons nil" => (refine Hold.mk ?_)
  k_with "exec While" => (refine Hold.mk ?_)
  k_with "binaryOp FloorDiv int int" => ((k_here; (with_reducible refine floordiv_pos ?kb1 ?kb2 ?_); (case kb1 => decide); (case kb2 => decide +kernel)))
  k_with "WhlIf" => ((refine whlIf_dec ?_ ?_ <;> intro _))
  k_with "subscriptTail Name Name ref int" => ((k_here; first
    | ((with_reducible rename StrsAre _ _ => hSA); refine item_strsA (News.isList (by assumption) (by k_mem)) hSA (by omega) (by omega) (by omega) ?_; intro t')
    | ((with_reducible rename IntsAre _ _ => hSA); refine item_intsA (News.isList (by assumption) (by k_mem)) hSA (by omega) (by omega) (by omega) ?_; intro t')))
  k_with "call builtin:len" => ((k_here; (with_reducible show wpAny _ _ (call (Value.builtin "len") [Value.ref _]) _ _ _); first
    | ((with_reducible rename StrsAre _ _ => hSA); refine len_strsA (News.isList (by assumption) (by k_mem)) hSA (by omega) ?_)
    | ((with_reducible rename IntsAre _ _ => hSA); refine len_intsA (News.isList (by assumption) (by k_mem)) hSA (by omega) ?_)))
  k_with "subscriptTail Name Constant ref int" => ((k_here; refine item_listL (News.isList (by assumption) (by k_mem)) (by decide) (by decide) (by rfl) ?_))
  trivial
local macro_rules | `(tactic| k_mem) => `(tactic| first | with_reducible assumption | (refine mem_in ?_; with_reducible assumption))
theorem lines_T2K_2 : True := by
  k_with "call builtin:len" => ((k_here; (with_reducible show wpAny _ _ (call (Value.builtin "len") [Value.ref _]) _ _ _); k_dflt (refine' len_L ?kN ?kM ?kz ?_; (case kN => with_reducible assumption); (case kM => k_mem); (case kz => omega))))
  k_with "CompSrcT" => ((refine Hold.mk ?_))
  k_with "CompSrc" => ((refine Hold.mk ?_))
  k_with "subscriptTail Name Constant ref int" => ((k_here; refine item_listL (News.isList (by assumption) (by k_mem)) (by decide) (by decide) (by rfl) ?_))
  k_with "call builtin:len" => ((k_here; (with_reducible show wpAny _ _ (call (Value.builtin "len") [Value.ref _]) _ _ _); k_dflt (refine' len_intsA (News.isList ?kN ?kM) ?kI ?kf ?_; (case kN => with_reducible assumption); (case kM => k_mem); (case kI => with_reducible assumption); (case kf => omega))))
  k_with "pyIter ref" => ((refine Hold.mk ?_))
  trivial
section
variable {w : World} {p : Program} {loose : List PStr} {mean : ExcName → Option Value} {mg mb : PStr → Option Value}
    {dp un : Nat} {gd : Option (List Code)} {a : Addr} {ccd : Value} {c1 c2 : Addr} {A₀ : Around} {base h₀ : Heap} {L : Addr}
    {s : Shared} {news : Ldg}
    (B : Below A₀ base [] h₀) (X : (KK.heap_1 w.params).In h₀) (T : Top p loose mean mg mb h₀) (XB : (KK.heap_1 w.params).In base) (TB : Top p loose mean mg mb base)
include B X T XB TB
theorem law2_loop {dn dk dr : Addr} {nvs : List Value} {ns : List Int} {σ₀ : S2} {mid0 : Ldg} {Q : Flow → Shared → Prop} {E : Value → Shared → Prop}
   (hd5 : dp + 200 < recursionLimit) (hu5 : un + 2000 < cLine) (hE : PassesOwn (model PySem.Challenge.rw_pm0034_02.row.prog w) (ktrTop dp un gd (Str.ofString "law") lawScope2 L a ccd (cells2 c1 c2) []) (envX (Str.ofString "law") lawScope2 L a ccd (cells2 c1 c2)) E)
   (hC : Ok2 c1 dn dk dr nvs mid0 0 σ₀) (hns : IntsAre nvs ns) (hnl : ns.length ≤ 15)
   (F : Fr h₀ L s.heap (m2 dn dk dr σ₀)) (N : News h₀ L s.heap (l2 c1 dk dr σ₀))
   (hret : ∀ (h' : Heap) (tk : Nat) (σ' : S2), Ok2 c1 dn dk dr nvs mid0 ns.length σ' → Fr h₀ L h' (m2 dn dk dr σ') → News h₀ L h' (l2 c1 dk dr σ') → Q .next { s with heap := h', toks := tk }) :
   wpC (model PySem.Challenge.rw_pm0034_02.row.prog w) (ktrTop dp un gd (Str.ofString "law") lawScope2 L a ccd (cells2 c1 c2) []) (execs ((lawStmts2.drop 2).take 1) (envX (Str.ofString "law") lawScope2 L a ccd (cells2 c1 c2))) Q E s := by
  walk_at "M fill"
  have hdn : (dn, lstOf nvs 0) ∈ l2 c1 dk dr σ₀ := by unfold l2; exact .tail _ (.tail _ (.tail _ (.tail _ hC.dn)))
  show wpC _ (ktrTop _ _ _ _ (Scope.mk _ _ _ _ _) _ _ _ _ _) (execs (_ :: []) (envX _ (Scope.mk _ _ _ _ _) _ _ _ _)) _ _ _
  refine execs_C ?_
  refine' For_turns_C F ?_ ?hs ?hE
  case hE => exact hE
  case hs => intro x; rfl
  k_fold
  k_steps
  refine Hold.out ?_
  refine' pyIter_rangeC (fun i (σ : S2) => Ok2 c1 dn dk dr nvs mid0 i σ) (fun _ σ => m2 dn dk dr σ) (fun _ σ => l2 c1 dk dr σ) ns.length σ₀ [] (by assumption) (by assumption) (by assumption) rfl (by omega) hC (fun _ h => nomatch h) (fun _ _ => rfl) (fun q hq => by first | exact hq | exact .tail _ hq) ?turn ?done
  case done =>
    intro σ h tk hc kF kN
    refine wpC_any (wpAny_execs_nil ?_)
    exact hret _ _ _ hc kF kN
  case turn =>
    intro i σ h tk t own hi hc hne kF kN
    dsimp only at kF kN
    k_fold
    k_steps
    refine turn2_all (dn := dn) (dk := dk) (dr := dr) (σ := σ) (own := own) B X T XB TB hd5 hu5 hi hc hne hns hnl (by assumption) (by assumption) ?_
    intro h2 tk2 σ' hC' hown' F2 N2
    exact turnFr_next σ' [] F2 N2 hC' (fun _ h => nomatch h) (fun _ _ => rfl) (fun q hq => hq) hown'
end
end
section
theorem lines_HE_0 : True := by
  k_with_none
  k_with "execs cons" => ((refine f_execs ?_; intro qk))
  k_with "eval BinOp" => ((refine f_BinOp ?_; intro qk))
  k_with "exec Assign" => ((refine f_Assign ?_; intro qk))
  k_with "eval Subscript" => ((refine f_Subscript ?_; intro qk))
  k_with "isTrue Compare" => ((refine f_Compare ?_; intro qk))
  k_with "exec If" => ((refine f_If ?_; intro qk))
  k_with "eval Call" => (((fail_if_success (with_reducible show wpAny _ _ (eval (Expr.Call (Expr.Attribute _ _ _) _ _ _) _) _ _ _)); refine f_Call ?_; intro qk))
  k_with "spliced" => ((refine f_args ?_; intro qk))
  k_with "callWith" => ((refine f_method1 ?_; intro qk))
  k_with "exec Return some" => ((refine f_Return ?_; intro qk))
  k_with "eval Tuple" => ((refine f_Tuple ?_; intro qk))
  k_with "eval List" => ((refine f_List ?_; intro qk))
  k_with "eval IfExp" => ((refine f_IfExp ?_; intro qk))
  k_with "storeName" => ((k_here; k_dflt (refine' f_store ?F ?N ?_ ?a ?b; (case F => k_asm); (case N => k_asm); (case a => rfl); (case b => rfl); k_whole; intro m' h' F' N'; (try k_sweep))))
  k_with "M map1" => (first
    | (refine map_same ?_; with_unfolding_all rfl)
    | ((repeat' (refine List.forall_mem_cons.mpr (And.intro ?_ ?_))); (all_goals first | rfl | exact List.forall_mem_nil _)))
  k_with "M map2" => (first
    | (refine SameOut.both (b := fun _ => none) ?_ ?_ <;> (repeat (refine SameOut.upd ?_ (by with_unfolding_all rfl))) <;> exact SameOut.lookup rfl)
    | (refine' SameOut.both (b := ?kb) ?k1 ?k2; (case k1 => ((repeat (refine SameOut.upd ?_ (by with_unfolding_all rfl))); exact SameOut.refl)); (case k2 => ((repeat (refine SameOut.upd ?_ (by with_unfolding_all rfl))); exact SameOut.refl)))
    | (refine' SameOut.both (b := ?kb) ?k1 ?k2; (case k2 => ((repeat (refine SameOut.upd ?_ (by with_unfolding_all rfl))); exact SameOut.refl)); (case k1 => ((repeat (refine SameOut.skip ?_)); (repeat (refine SameOut.upd ?_ (by with_unfolding_all rfl))); exact SameOut.refl)))
    | (intro y hy; (repeat (refine (if_neg (ne_of_out hy (by with_unfolding_all rfl))).trans ?_)); (refine Eq.symm ?_); (repeat (refine (if_neg (ne_of_out hy (by with_unfolding_all rfl))).trans ?_)); first | rfl | exact lookup_out rfl hy | exact (lookup_out rfl hy).symm | exact (lookup_out rfl hy).trans (lookup_out rfl hy).symm))
  k_with "M fill" => ((
    have kk : PySem.Challenge.rw_pm0034_02 = PySem.Challenge.rw_pm0034_02 ∧ KK.heap_1 = KK.heap_1 := ⟨rfl, rfl⟩
    revert kk
    k_fill
    intro kk
    clear kk))
  k_with "M enter" => ((
    refine wpAny_call ?_
    k_dflt (refine' code_def ?k1 ?k2 ?k3 ?k4 ?k5 ?kA ?kF ?kK ?k6 ?k7 ?k8 ?k9 ?kB ?_ ?c2 ?c3 ?c4 ?c5; (case kA => exact rfl); (case kF => exact rfl); (case kK => assumption); (case k1 => k_asm); (case k2 => k_asm); (case k3 => k_asm); (case k4 => k_asm); (case k5 => k_asm); (case k6 => k_is); (case k7 => k_is); (case k8 => ((try dsimp only); omega)); (case k9 => first | exact BindsTo.of_eq rfl | (refine' kp_binds ?kx ?ke; (case kx => first | (refine' myIn ?kf ?ki; (case kf => with_reducible assumption); (case ki => with_reducible assumption)) | k_in); (case ke => exact fun _ => rfl)) | exact binds_K (by first | (refine' myIn ?kf ?ki; (case kf => with_reducible assumption); (case ki => with_reducible assumption)) | k_in) rfl (by k_is) rfl rfl rfl); (case c5 => decide); (case kB => exact locs rfl); (case c2 => exact rfl); (case c3 => exact rfl); (case c4 => exact rfl); k_whole; intro g' L' h' FG' F' N' B' X' T'; (have D' := kts_dict B' (by assumption) FG' rfl); (try dsimp only); (try k_lift B'); (refine let_AE (f := execs _) ?_; intro vk ak); (refine f_QE ?_; intro qk ek))))
  k_with "M enter0" => ((
    refine wpAny_call ?_
    k_dflt (refine' code_defS0X ?k1 ?k2 ?k3 ?k4 ?k5 ?kA ?kF ?kK ?k6 ?k7 ?k8 ?k9 ?kB ?_ ?c2 ?c3 ?c4 ?c5; (case kA => exact rfl); (case kF => exact rfl); (case kK => assumption); (case k1 => k_asm); (case k2 => k_asm); (case k3 => k_asm); (case k4 => k_asm); (case k5 => k_asm); (case k6 => k_is); (case k7 => k_is); (case k8 => ((try dsimp only); omega)); (case k9 => first | exact BindsTo.of_eq rfl | (refine' kp_binds ?kx ?ke; (case kx => first | (refine' myIn ?kf ?ki; (case kf => with_reducible assumption); (case ki => with_reducible assumption)) | k_in); (case ke => exact fun _ => rfl)) | exact binds_K (by first | (refine' myIn ?kf ?ki; (case kf => with_reducible assumption); (case ki => with_reducible assumption)) | k_in) rfl (by k_is) rfl rfl rfl); (case c5 => decide); (case kB => exact locs rfl); (case c2 => exact rfl); (case c3 => exact rfl); (case c4 => exact rfl); k_whole; intro g' L' h' FG' F' N' B' X' T' D'; (try dsimp only); (try k_lift B'); (refine let_AE (f := execs _) ?_; intro vk ak); (refine f_QE ?_; intro qk ek))))
  trivial
local macro_rules | `(tactic| k_mem) => `(tactic| first | with_reducible assumption | (refine mem_in ?_; with_reducible assumption))
theorem lines_HE_1 : True := by
  k_with "subscriptTail Name Constant ref int" => ((k_here; refine item_tupleT (News.isTup (by assumption) (by k_mem)) (by decide) (by decide) (by rfl) (by rfl) ?_))
  k_with "subscriptTail Name Constant ref int" => ((k_here; (with_reducible rename StrsAre _ _ => hSA); refine item_strsA (News.isList (by assumption) (by k_mem)) hSA (by decide) (by first | omega | (simp only [List.length_map]; omega)) (by decide) ?_; intro t'))
  k_with "call type:ValueError" => ((refine call_ValueError_made ?_; intro _ _ _))
  k_with "exec While Compare Name cons nil" => (refine Hold.mk ?_)
  k_with "exec While Compare" => (refine Hold.mk ?_)
  k_with "exec While Compare cons nil" => (refine Hold.mk ?_)
  k_with "exec While" => (refine Hold.mk ?_)
  k_with "binaryOp FloorDiv int int" => ((k_here; (with_reducible refine floordiv_pos ?kb1 ?kb2 ?_); (case kb1 => decide); (case kb2 => decide +kernel)))
  k_with "WhlIf" => ((refine whlIf_dec ?_ ?_ <;> intro _))
  k_with "subscriptTail Name Name ref int" => ((k_here; first
    | ((with_reducible rename StrsAre _ _ => hSA); refine item_strsA (News.isList (by assumption) (by k_mem)) hSA (by omega) (by omega) (by omega) ?_; intro t')
    | ((with_reducible rename IntsAre _ _ => hSA); refine item_intsA (News.isList (by assumption) (by k_mem)) hSA (by omega) (by omega) (by omega) ?_; intro t')))
  k_with "call builtin:len" => ((k_here; (with_reducible show wpAny _ _ (call (Value.builtin "len") [Value.ref _]) _ _ _); first
    | ((with_reducible rename StrsAre _ _ => hSA); refine len_strsA (News.isList (by assumption) (by k_mem)) hSA (by omega) ?_)
    | ((with_reducible rename IntsAre _ _ => hSA); refine len_intsA (News.isList (by assumption) (by k_mem)) hSA (by omega) ?_)))
  k_with "call type:str" => ((k_here; (with_reducible show wpAny _ _ (call (Value.type "str") [Value.ref _]) _ _ _); refine' str_own ?U ?X ?N ?G ?hs ?hm ?_; (case G => assumption); (case N => assumption); (case U => first | units_room | k_room | ((try dsimp only); omega)); (case X => first | (refine' myIn ?kf ?ki; (case kf => with_reducible assumption); (case ki => with_reducible assumption)) | k_in); (case hs => k_is); (case hm => k_is)))
  trivial
theorem p257_kind {r y : PStr} {k : EK} (h : p257 r = .error (k, y)) : k = .reply := by
  unfold p257 at h
  split at h
  · cases h; rfl
  · split at h <;> cases h
theorem lines_HE_2 : True := by
  k_with "call ref" => (((with_reducible show wpAny _ _ (call (Value.ref 65) _) _ _ _); refine' parse257_spec ?kB ?kX ?kT ?kXB ?kTB ?kD ?kh ?kd ?ku ?kF ?kN ?kl ?kr ?_; (case kB => assumption); (case kX => assumption); (case kT => assumption); (case kXB => assumption); (case kTB => assumption); (case kD => assumption); (case kh => rfl); (case kd => ((try dsimp only); omega)); (case ku => ((try dsimp only); omega)); (case kF => with_reducible assumption); (case kN => with_reducible assumption); (case kl => omega); (case kr => (intro y t h' tk hk; exact absurd hk (hok y))); (intro k _ _ _ _ _ hb; have hk := p257_kind hb; subst hk; dsimp only [clsOf])))
  trivial
section
variable {w : World} {p : Program} {loose : List PStr} {mean : ExcName → Option Value} {mg mb : PStr → Option Value}
    {dp un : Nat} {gd : Option (List Code)} {cn : PStr} {cs : Scope} {a : Addr} {ccd : Value} {cl : List (PStr × Addr)} {A₀ : Around} {base h₀ : Heap} {L : Addr} {m : PStr → Option Value}
    {s : Shared} {Q E : Value → Shared → Prop} {news : Ldg}
    (B : Below A₀ base [] h₀) (X : (KK.heap_1 w.params).In h₀) (T : Top p loose mean mg mb h₀) (XB : (KK.heap_1 w.params).In base) (TB : Top p loose mean mg mb base) (hck : cs.kind = .function)
include B X T XB TB hck
theorem held2 {x : PStr} {t1 : Tok} (hd5 : dp + 40 < recursionLimit) (hu5 : un + 300 < cLine) (F : Fr h₀ L s.heap m) (N : News h₀ L s.heap news)
   (hr : x.length ≤ 400000) (hok : ∀ y, p257 x ≠ .ok y)
   (hret : ∀ t h' tk, Fr h₀ L h' m → News h₀ L h' news → Q (.str x t) { s with heap := h', toks := tk }) :
   wpAny (model PySem.Challenge.rw_pm0034_02.row.prog w) (ktrTop dp un gd cn cs L a ccd cl []) (call (.ref 122) [.str x t1]) Q E s := by
  walk_at "M fill"
  walk_at "M enter0"
  k_steps
  (try walk_at "call ref")
  all_goals (try k_steps)
  (show Q (Value.str x _) _)
  exact hret _ _ _ (by assumption) (by assumption)
end
end
section
theorem lines_T2L_0 : True := by
  k_with_none
  k_with "execs cons" => ((refine f_execs ?_; intro qk))
  k_with "eval BinOp" => ((refine f_BinOp ?_; intro qk))
  k_with "exec Assign" => ((refine f_Assign ?_; intro qk))
  k_with "eval Subscript" => ((refine f_Subscript ?_; intro qk))
  k_with "isTrue Compare" => ((refine f_Compare ?_; intro qk))
  k_with "exec If" => ((refine f_If ?_; intro qk))
  k_with "eval Call" => (((fail_if_success (with_reducible show wpAny _ _ (eval (Expr.Call (Expr.Attribute _ _ _) _ _ _) _) _ _ _)); refine f_Call ?_; intro qk))
  k_with "spliced" => ((refine f_args ?_; intro qk))
  k_with "callWith" => ((refine f_method1 ?_; intro qk))
  k_with "exec Return some" => ((refine f_Return ?_; intro qk))
  k_with "eval Tuple" => ((refine f_Tuple ?_; intro qk))
  k_with "eval List" => ((refine f_List ?_; intro qk))
  k_with "eval IfExp" => ((refine f_IfExp ?_; intro qk))
  k_with "storeName" => ((k_here; k_dflt (refine' f_store ?F ?N ?_ ?a ?b; (case F => k_asm); (case N => k_asm); (case a => rfl); (case b => rfl); k_whole; intro m' h' F' N'; (try k_sweep))))
  k_with "M map1" => (first
    | (refine map_same ?_; with_unfolding_all rfl)
    | ((repeat' (refine List.forall_mem_cons.mpr (And.intro ?_ ?_))); (all_goals first | rfl | exact List.forall_mem_nil _)))
  k_with "M map2" => (first
    | (refine SameOut.both (b := fun _ => none) ?_ ?_ <;> (repeat (refine SameOut.upd ?_ (by with_unfolding_all rfl))) <;> exact SameOut.lookup rfl)
    | (refine' SameOut.both (b := ?kb) ?k1 ?k2; (case k1 => ((repeat (refine SameOut.upd ?_ (by with_unfolding_all rfl))); exact SameOut.refl)); (case k2 => ((repeat (refine SameOut.upd ?_ (by with_unfolding_all rfl))); exact SameOut.refl)))
    | (refine' SameOut.both (b := ?kb) ?k1 ?k2; (case k2 => ((repeat (refine SameOut.upd ?_ (by with_unfolding_all rfl))); exact SameOut.refl)); (case k1 => ((repeat (refine SameOut.skip ?_)); (repeat (refine SameOut.upd ?_ (by with_unfolding_all rfl))); exact SameOut.refl)))
    | (intro y hy; (repeat (refine (if_neg (ne_of_out hy (by with_unfolding_all rfl))).trans ?_)); (refine Eq.symm ?_); (repeat (refine (if_neg (ne_of_out hy (by with_unfolding_all rfl))).trans ?_)); first | rfl | exact lookup_out rfl hy | exact (lookup_out rfl hy).symm | exact (lookup_out rfl hy).trans (lookup_out rfl hy).symm))
  k_with "M fill" => ((
    have kk : PySem.Challenge.rw_pm0034_02 = PySem.Challenge.rw_pm0034_02 ∧ KK.heap_1 = KK.heap_1 := ⟨rfl, rfl⟩
    revert kk
    k_fill
    intro kk
    clear kk))
  k_with "M enter" => ((
    refine wpAny_call ?_
    k_dflt (refine' code_def ?k1 ?k2 ?k3 ?k4 ?k5 ?kA ?kF ?kK ?k6 ?k7 ?k8 ?k9 ?kB ?_ ?c2 ?c3 ?c4 ?c5; (case kA => exact rfl); (case kF => exact rfl); (case kK => assumption); (case k1 => k_asm); (case k2 => k_asm); (case k3 => k_asm); (case k4 => k_asm); (case k5 => k_asm); (case k6 => k_is); (case k7 => k_is); (case k8 => ((try dsimp only); omega)); (case k9 => first | exact BindsTo.of_eq rfl | (refine' kp_binds ?kx ?ke; (case kx => first | (refine' myIn ?kf ?ki; (case kf => with_reducible assumption); (case ki => with_reducible assumption)) | k_in); (case ke => exact fun _ => rfl)) | exact binds_K (by first | (refine' myIn ?kf ?ki; (case kf => with_reducible assumption); (case ki => with_reducible assumption)) | k_in) rfl (by k_is) rfl rfl rfl); (case c5 => decide); (case kB => exact locs rfl); (case c2 => exact rfl); (case c3 => exact rfl); (case c4 => exact rfl); k_whole; intro g' L' h' FG' F' N' B' X' T'; (have D' := kts_dict B' (by assumption) FG' rfl); (try dsimp only); (try k_lift B'); (refine let_AE (f := execs _) ?_; intro vk ak); (refine f_QE ?_; intro qk ek))))
  k_with "M enter0" => ((
    refine wpAny_call ?_
    k_dflt (refine' code_defS0X ?k1 ?k2 ?k3 ?k4 ?k5 ?kA ?kF ?kK ?k6 ?k7 ?k8 ?k9 ?kB ?_ ?c2 ?c3 ?c4 ?c5; (case kA => exact rfl); (case kF => exact rfl); (case kK => assumption); (case k1 => k_asm); (case k2 => k_asm); (case k3 => k_asm); (case k4 => k_asm); (case k5 => k_asm); (case k6 => k_is); (case k7 => k_is); (case k8 => ((try dsimp only); omega)); (case k9 => first | exact BindsTo.of_eq rfl | (refine' kp_binds ?kx ?ke; (case kx => first | (refine' myIn ?kf ?ki; (case kf => with_reducible assumption); (case ki => with_reducible assumption)) | k_in); (case ke => exact fun _ => rfl)) | exact binds_K (by first | (refine' myIn ?kf ?ki; (case kf => with_reducible assumption); (case ki => with_reducible assumption)) | k_in) rfl (by k_is) rfl rfl rfl); (case c5 => decide); (case kB => exact locs rfl); (case c2 => exact rfl); (case c3 => exact rfl); (case c4 => exact rfl); k_whole; intro g' L' h' FG' F' N' B' X' T' D'; (try dsimp only); (try k_lift B'); (refine let_AE (f := execs _) ?_; intro vk ak); (refine f_QE ?_; intro qk ek))))
  trivial
local macro_rules | `(tactic| k_mem) => `(tactic| first | with_reducible assumption | (refine mem_in ?_; with_reducible assumption))
theorem lines_T2L_1 : True := by
  k_with "subscriptTail Name Constant ref int" => ((k_here; refine item_tupleT (News.isTup (by assumption) (by k_mem)) (by decide) (by decide) (by rfl) (by rfl) ?_))
  k_with "subscriptTail Name Constant ref int" => ((k_here; (with_reducible rename StrsAre _ _ => hSA); refine item_strsA (News.isList (by assumption) (by k_mem)) hSA (by decide) (by first | omega | (simp only [List.length_map]; omega)) (by decide) ?_; intro t'))
  k_with "call type:ValueError" => ((refine call_ValueError_made ?_; intro _ _ _))
  k_with "exec While Compare Name cons nil" => (refine Hold.mk ?_)
  k_with "exec While Compare" => (refine Hold.mk ?_)
  k_with "exec While Compare cons nil" => (refine Hold.mk ?_)
  k_with "exec While" => (refine Hold.mk ?_)
  k_with "binaryOp FloorDiv int int" => ((k_here; (with_reducible refine floordiv_pos ?kb1 ?kb2 ?_); (case kb1 => decide); (case kb2 => decide +kernel)))
  k_with "WhlIf" => ((refine whlIf_dec ?_ ?_ <;> intro _))
  k_with "subscriptTail Name Name ref int" => ((k_here; first
    | ((with_reducible rename StrsAre _ _ => hSA); refine item_strsA (News.isList (by assumption) (by k_mem)) hSA (by omega) (by omega) (by omega) ?_; intro t')
    | ((with_reducible rename IntsAre _ _ => hSA); refine item_intsA (News.isList (by assumption) (by k_mem)) hSA (by omega) (by omega) (by omega) ?_; intro t')))
  k_with "call builtin:len" => ((k_here; (with_reducible show wpAny _ _ (call (Value.builtin "len") [Value.ref _]) _ _ _); first
    | ((with_reducible rename StrsAre _ _ => hSA); refine len_strsA (News.isList (by assumption) (by k_mem)) hSA (by omega) ?_)
    | ((with_reducible rename IntsAre _ _ => hSA); refine len_intsA (News.isList (by assumption) (by k_mem)) hSA (by omega) ?_)))
  k_with "subscriptTail Name Constant ref int" => ((k_here; refine item_listL (News.isList (by assumption) (by k_mem)) (by decide) (by decide) (by rfl) ?_))
  trivial
local macro_rules | `(tactic| k_mem) => `(tactic| first | with_reducible assumption | (refine mem_in ?_; with_reducible assumption))
theorem lines_T2L_2 : True := by
  k_with "call builtin:len" => ((k_here; (with_reducible show wpAny _ _ (call (Value.builtin "len") [Value.ref _]) _ _ _); k_dflt (refine' len_L ?kN ?kM ?kz ?_; (case kN => with_reducible assumption); (case kM => k_mem); (case kz => omega))))
  k_with "CompSrcT" => ((refine Hold.mk ?_))
  k_with "CompSrc" => ((refine Hold.mk ?_))
  k_with "subscriptTail Name Constant ref int" => ((k_here; refine item_listL (News.isList (by assumption) (by k_mem)) (by decide) (by decide) (by rfl) ?_))
  k_with "binaryOp Add str str" => ((k_here; (with_reducible show wpAny _ _ (binaryOp Operator.Add (Value.str _ _) (Value.str _ _)) _ _ _); refine add_lb (K := 800000) (L := 800000) ?kb ?kd ?ke ?_; (case kb => omega); (case kd => omega); (case ke => decide); intro _ _ hk hl; (try dsimp only at hk)))
  k_with "call builtin:str.replace" => ((k_here; (with_reducible show wpAny _ _ (call (Value.builtin "str.replace") [Value.str _ _, Value.str _ _, Value.str _ _]) _ _ _); refine rep_dbl ?a1 ?a2 ?a3 ?a4 ?_; (case a1 => ((show @Ne Nat _ _); first | omega | ((try dsimp only); omega))); (case a2 => ((show @Ne Nat _ _); first | omega | ((try dsimp only); omega))); (case a3 => ((show @Ne Nat _ _); first | omega | ((try dsimp only); omega))); (case a4 => omega); intro _ _ hk hr; (try dsimp only at hk)))
  k_with "exec Assign cons ListComp" => ((refine Hold.mk ?_))
  k_with "SrcTup" => ((refine Hold.mk ?_))
  k_with "subscriptTail Name Constant ref int" => ((k_here; refine item_listL (News.isList (by assumption) (by k_mem)) (by decide) (by decide) (by rfl) ?_))
  trivial
section
variable {w : World} {p : Program} {loose : List PStr} {mean : ExcName → Option Value} {mg mb : PStr → Option Value}
    {dp un : Nat} {gd : Option (List Code)} {a : Addr} {ccd : Value} {c1 c2 : Addr} {A₀ : Around} {base h₀ : Heap} {L : Addr}
    {s : Shared} {news : Ldg}
    (B : Below A₀ base [] h₀) (X : (KK.heap_1 w.params).In h₀) (T : Top p loose mean mg mb h₀) (XB : (KK.heap_1 w.params).In base) (TB : Top p loose mean mg mb base)
include B X T XB TB
theorem law2_p3 {o2 : Obj} {cv : Option Value} {x : PStr} {tt : Tok} {jk : PStr → Option Value} {Q : Flow → Shared → Prop} {E : Value → Shared → Prop}
   (hd5 : dp + 200 < recursionLimit) (hu5 : un + 2000 < cLine) (hx : x.length ≤ 67000) (ht : 1 ≤ s.toks)
   (F : Fr h₀ L s.heap (fun y => if y = Str.ofString "text" then some (.str x tt) else jk y)) (N : News h₀ L s.heap ((c2, o2) :: news)) (hne : ∀ p ∈ news, p.1 ≠ c2) (ho2 : o2.data = .cell cv)
   (hret : ∀ (h' : Heap) (tk : Nat) (o2' : Obj) (t2 : Tok), o2'.data = .cell (some (.str (dblT x) t2)) → Fr h₀ L h' (fun y => if y = Str.ofString "text" then some (.str x tt) else jk y) → News h₀ L h' ((c2, o2') :: news) → Q .next { s with heap := h', toks := tk }) :
   wpAny (model PySem.Challenge.rw_pm0034_02.row.prog w) (ktrTop dp un gd (Str.ofString "law") lawScope2 L a ccd (cells2 c1 c2) []) (execs ((lawStmts2.drop 3).take 1) (envX (Str.ofString "law") lawScope2 L a ccd (cells2 c1 c2))) Q E s := by
  walk_at "M fill"
  show wpAny _ (ktrTop _ _ _ _ (Scope.mk _ _ _ _ _) _ _ _ _ _) (execs (_ :: []) (envX _ (Scope.mk _ _ _ _ _) _ _ _ _)) _ _ _
  k_steps
  k_here
  k_dflt (refine' storeX_C ?sF ?sN ?sc (UpdF.head hne) ho2 ?_ ?sa ?sb)
  case sa => rfl
  case sb => rfl
  case sF => k_asm
  case sN => k_asm
  case sc => rfl
  intro h2 o2' F2 N2 ho2'
  k_steps
  exact hret _ _ o2' _ ho2' (by assumption) (by assumption)
end
theorem sub_c1 {x : Addr × Obj} {l l' : Ldg} (h : ∀ p ∈ l, p ∈ l') : ∀ p ∈ x :: l, p ∈ x :: l' := by
  intro p hp
  rcases List.mem_cons.mp hp with rfl | hp
  · exact .head _
  · exact .tail _ (h p hp)
noncomputable def heads4 : List PStr := [Str.ofString "", Str.ofString "157 \"", Str.ofString "227 \"", Str.ofString "259 \""]
theorem heads_at {a b c d : Tok} {i : Nat} {v : Value} (h : [Value.str (Str.ofString "") a, .str (Str.ofString "157 \"") b, .str (Str.ofString "227 \"") c, .str (Str.ofString "259 \"") d][i]? = some v) : ∃ t, v = .str (heads4.getD i Str.empty) t ∧ heads4[i]? = some (heads4.getD i Str.empty) ∧ (heads4.getD i Str.empty).length ≤ 5 := by
  match i, h with
  | 0, h => cases h; exact ⟨_, rfl, rfl, by show (Str.ofString "").length ≤ 5; decide +kernel⟩
  | 1, h => cases h; exact ⟨_, rfl, rfl, by show (Str.ofString "157 \"").length ≤ 5; decide +kernel⟩
  | 2, h => cases h; exact ⟨_, rfl, rfl, by show (Str.ofString "227 \"").length ≤ 5; decide +kernel⟩
  | 3, h => cases h; exact ⟨_, rfl, rfl, by show (Str.ofString "259 \"").length ≤ 5; decide +kernel⟩
  | n + 4, h => simp at h
section
variable {w : World} {p : Program} {loose : List PStr} {mean : ExcName → Option Value} {mg mb : PStr → Option Value}
    {dp un : Nat} {gd : Option (List Code)} {a : Addr} {ccd : Value} {c1 c2 : Addr} {A₀ : Around} {base h₀ : Heap} {L : Addr}
    {s : Shared} {news : Ldg}
    (B : Below A₀ base [] h₀) (X : (KK.heap_1 w.params).In h₀) (T : Top p loose mean mg mb h₀) (XB : (KK.heap_1 w.params).In base) (TB : Top p loose mean mg mb base)
include B X T XB TB
theorem law2_p4 {o2 : Obj} {x : PStr} {tt : Tok} {m : PStr → Option Value} {Q : Flow → Shared → Prop} {E : Value → Shared → Prop}
   (hd5 : dp + 200 < recursionLimit) (hu5 : un + 2000 < cLine) (hx : x.length ≤ 134000)
   (F : Fr h₀ L s.heap m) (N : News h₀ L s.heap news) (hc2 : (c2, o2) ∈ news) (ho2 : o2.data = .cell (some (.str x tt)))
   (hret : ∀ (h' : Heap) (tk : Nat) (d : Addr) (vs : List Value), StrsAre vs (heads4.map (· ++ x)) → Fr h₀ L h' (fun y => if y = Str.ofString "others" then some (.ref d) else m y) → News h₀ L h' ((d, lstOf vs vs.length) :: news) → Q .next { s with heap := h', toks := tk }) :
   wpAny (model PySem.Challenge.rw_pm0034_02.row.prog w) (ktrTop dp un gd (Str.ofString "law") lawScope2 L a ccd (cells2 c1 c2) []) (execs ((lawStmts2.drop 4).take 1) (envX (Str.ofString "law") lawScope2 L a ccd (cells2 c1 c2))) Q E s := by
  walk_at "M fill"
  show wpAny _ (ktrTop _ _ _ _ (Scope.mk _ _ _ _ _) _ _ _ _ _) (execs (_ :: []) (envX _ (Scope.mk _ _ _ _ _) _ _ _ _)) _ _ _
  k_steps
  refine Hold.out ?_
  refine assign_comp_tup F rfl (by with_unfolding_all rfl) (by with_unfolding_all rfl) (by decide) (by rfl) (by decide) (by rfl) (by rfl) (by rfl) ?_
  k_steps
  refine Hold.out ?_
  (with_reducible rename Fr _ _ _ _ => kF0)
  (with_reducible rename News _ _ _ _ => kN0)
  refine srcTup rfl kF0 kN0 (.head _) (show (4 : Nat) ≤ 1000 by decide) ?_
  intro g
  refine comp_ind (fun i ys nw => (∀ p ∈ (_, _) :: news, p ∈ nw) ∧ (∀ p ∈ nw, p ∈ (_, _) :: news) ∧ StrsAre ys ((heads4.take i).map (· ++ x))) ⟨fun p hp => hp, fun p hp => hp, .nil⟩ ?turn ?fin
  case turn =>
    rintro i v I oI C oC D' m₂ ys nw h tk E' hi hv ⟨hI, hI2, hS⟩ hC hx2 kF kN off ne
    obtain ⟨tv, rfl, hg, hl5⟩ := heads_at hv
    have hc2' := hI _ (.tail _ hc2)
    (with_reducible show wpAny _ _ _ _ _ _)
    k_fold
    k_steps
    refine LCg.CompEnd.intro kF kN nw (fun p hp => hp) off (hI _ (.head _)) ⟨hI, hI2, ?_⟩
    rw [List.take_add_one, hg, List.map_append]
    exact strs_snoc hS
  case fin =>
    rintro ys nw ⟨hI, hI2, hS⟩
    intro D' h tk kF kN off
    k_steps
    exact hret _ _ D' ys hS (by assumption) (news_sub (by assumption) (sub_c1 fun p hp => hI _ (.tail _ hp)))
end
end
section
theorem lines_T2M_0 : True := by
  k_with_none
  k_with "execs cons" => ((refine f_execs ?_; intro qk))
  k_with "eval BinOp" => ((refine f_BinOp ?_; intro qk))
  k_with "exec Assign" => ((refine f_Assign ?_; intro qk))
  k_with "eval Subscript" => ((refine f_Subscript ?_; intro qk))
  k_with "isTrue Compare" => ((refine f_Compare ?_; intro qk))
  k_with "exec If" => ((refine f_If ?_; intro qk))
  k_with "eval Call" => (((fail_if_success (with_reducible show wpAny _ _ (eval (Expr.Call (Expr.Attribute _ _ _) _ _ _) _) _ _ _)); refine f_Call ?_; intro qk))
  k_with "spliced" => ((refine f_args ?_; intro qk))
  k_with "callWith" => ((refine f_method1 ?_; intro qk))
  k_with "exec Return some" => ((refine f_Return ?_; intro qk))
  k_with "eval Tuple" => ((refine f_Tuple ?_; intro qk))
  k_with "eval List" => ((refine f_List ?_; intro qk))
  k_with "eval IfExp" => ((refine f_IfExp ?_; intro qk))
  k_with "storeName" => ((k_here; k_dflt (refine' f_store ?F ?N ?_ ?a ?b; (case F => k_asm); (case N => k_asm); (case a => rfl); (case b => rfl); k_whole; intro m' h' F' N'; (try k_sweep))))
  k_with "M map1" => (first
    | (refine map_same ?_; with_unfolding_all rfl)
    | ((repeat' (refine List.forall_mem_cons.mpr (And.intro ?_ ?_))); (all_goals first | rfl | exact List.forall_mem_nil _)))
  k_with "M map2" => (first
    | (refine SameOut.both (b := fun _ => none) ?_ ?_ <;> (repeat (refine SameOut.upd ?_ (by with_unfolding_all rfl))) <;> exact SameOut.lookup rfl)
    | (refine' SameOut.both (b := ?kb) ?k1 ?k2; (case k1 => ((repeat (refine SameOut.upd ?_ (by with_unfolding_all rfl))); exact SameOut.refl)); (case k2 => ((repeat (refine SameOut.upd ?_ (by with_unfolding_all rfl))); exact SameOut.refl)))
    | (refine' SameOut.both (b := ?kb) ?k1 ?k2; (case k2 => ((repeat (refine SameOut.upd ?_ (by with_unfolding_all rfl))); exact SameOut.refl)); (case k1 => ((repeat (refine SameOut.skip ?_)); (repeat (refine SameOut.upd ?_ (by with_unfolding_all rfl))); exact SameOut.refl)))
    | (intro y hy; (repeat (refine (if_neg (ne_of_out hy (by with_unfolding_all rfl))).trans ?_)); (refine Eq.symm ?_); (repeat (refine (if_neg (ne_of_out hy (by with_unfolding_all rfl))).trans ?_)); first | rfl | exact lookup_out rfl hy | exact (lookup_out rfl hy).symm | exact (lookup_out rfl hy).trans (lookup_out rfl hy).symm))
  k_with "M fill" => ((
    have kk : PySem.Challenge.rw_pm0034_02 = PySem.Challenge.rw_pm0034_02 ∧ KK.heap_1 = KK.heap_1 := ⟨rfl, rfl⟩
    revert kk
    k_fill
    intro kk
    clear kk))
  k_with "M enter" => ((
    refine wpAny_call ?_
    k_dflt (refine' code_def ?k1 ?k2 ?k3 ?k4 ?k5 ?kA ?kF ?kK ?k6 ?k7 ?k8 ?k9 ?kB ?_ ?c2 ?c3 ?c4 ?c5; (case kA => exact rfl); (case kF => exact rfl); (case kK => assumption); (case k1 => k_asm); (case k2 => k_asm); (case k3 => k_asm); (case k4 => k_asm); (case k5 => k_asm); (case k6 => k_is); (case k7 => k_is); (case k8 => ((try dsimp only); omega)); (case k9 => first | exact BindsTo.of_eq rfl | (refine' kp_binds ?kx ?ke; (case kx => first | (refine' myIn ?kf ?ki; (case kf => with_reducible assumption); (case ki => with_reducible assumption)) | k_in); (case ke => exact fun _ => rfl)) | exact binds_K (by first | (refine' myIn ?kf ?ki; (case kf => with_reducible assumption); (case ki => with_reducible assumption)) | k_in) rfl (by k_is) rfl rfl rfl); (case c5 => decide); (case kB => exact locs rfl); (case c2 => exact rfl); (case c3 => exact rfl); (case c4 => exact rfl); k_whole; intro g' L' h' FG' F' N' B' X' T'; (have D' := kts_dict B' (by assumption) FG' rfl); (try dsimp only); (try k_lift B'); (refine let_AE (f := execs _) ?_; intro vk ak); (refine f_QE ?_; intro qk ek))))
  k_with "M enter0" => ((
    refine wpAny_call ?_
    k_dflt (refine' code_defS0X ?k1 ?k2 ?k3 ?k4 ?k5 ?kA ?kF ?kK ?k6 ?k7 ?k8 ?k9 ?kB ?_ ?c2 ?c3 ?c4 ?c5; (case kA => exact rfl); (case kF => exact rfl); (case kK => assumption); (case k1 => k_asm); (case k2 => k_asm); (case k3 => k_asm); (case k4 => k_asm); (case k5 => k_asm); (case k6 => k_is); (case k7 => k_is); (case k8 => ((try dsimp only); omega)); (case k9 => first | exact BindsTo.of_eq rfl | (refine' kp_binds ?kx ?ke; (case kx => first | (refine' myIn ?kf ?ki; (case kf => with_reducible assumption); (case ki => with_reducible assumption)) | k_in); (case ke => exact fun _ => rfl)) | exact binds_K (by first | (refine' myIn ?kf ?ki; (case kf => with_reducible assumption); (case ki => with_reducible assumption)) | k_in) rfl (by k_is) rfl rfl rfl); (case c5 => decide); (case kB => exact locs rfl); (case c2 => exact rfl); (case c3 => exact rfl); (case c4 => exact rfl); k_whole; intro g' L' h' FG' F' N' B' X' T' D'; (try dsimp only); (try k_lift B'); (refine let_AE (f := execs _) ?_; intro vk ak); (refine f_QE ?_; intro qk ek))))
  trivial
local macro_rules | `(tactic| k_mem) => `(tactic| first | with_reducible assumption | (refine mem_in ?_; with_reducible assumption))
theorem lines_T2M_1 : True := by
  k_with "subscriptTail Name Constant ref int" => ((k_here; refine item_tupleT (News.isTup (by assumption) (by k_mem)) (by decide) (by decide) (by rfl) (by rfl) ?_))
  k_with "subscriptTail Name Constant ref int" => ((k_here; (with_reducible rename StrsAre _ _ => hSA); refine item_strsA (News.isList (by assumption) (by k_mem)) hSA (by decide) (by first | omega | (simp only [List.length_map]; omega)) (by decide) ?_; intro t'))
  k_with "call type:ValueError" => ((refine call_ValueError_made ?_; intro _ _ _))
  k_with "exec While Compare Name cons nil" => (refine Hold.mk ?_)
  k_with "exec While Compare" => (refine Hold.mk ?_)
  k_with "exec While Compare cons nil" => (refine Hold.mk ?_)
  k_with "exec While" => (refine Hold.mk ?_)
  k_with "binaryOp FloorDiv int int" => ((k_here; (with_reducible refine floordiv_pos ?kb1 ?kb2 ?_); (case kb1 => decide); (case kb2 => decide +kernel)))
  k_with "WhlIf" => ((refine whlIf_dec ?_ ?_ <;> intro _))
  k_with "subscriptTail Name Name ref int" => ((k_here; first
    | ((with_reducible rename StrsAre _ _ => hSA); refine item_strsA (News.isList (by assumption) (by k_mem)) hSA (by omega) (by omega) (by omega) ?_; intro t')
    | ((with_reducible rename IntsAre _ _ => hSA); refine item_intsA (News.isList (by assumption) (by k_mem)) hSA (by omega) (by omega) (by omega) ?_; intro t')))
  k_with "call builtin:len" => ((k_here; (with_reducible show wpAny _ _ (call (Value.builtin "len") [Value.ref _]) _ _ _); first
    | ((with_reducible rename StrsAre _ _ => hSA); refine len_strsA (News.isList (by assumption) (by k_mem)) hSA (by omega) ?_)
    | ((with_reducible rename IntsAre _ _ => hSA); refine len_intsA (News.isList (by assumption) (by k_mem)) hSA (by omega) ?_)))
  k_with "subscriptTail Name Constant ref int" => ((k_here; refine item_listL (News.isList (by assumption) (by k_mem)) (by decide) (by decide) (by rfl) ?_))
  trivial
local macro_rules | `(tactic| k_mem) => `(tactic| first | with_reducible assumption | (refine mem_in ?_; with_reducible assumption))
theorem lines_T2M_2 : True := by
  k_with "call builtin:len" => ((k_here; (with_reducible show wpAny _ _ (call (Value.builtin "len") [Value.ref _]) _ _ _); k_dflt (refine' len_L ?kN ?kM ?kz ?_; (case kN => with_reducible assumption); (case kM => k_mem); (case kz => omega))))
  k_with "CompSrcT" => ((refine Hold.mk ?_))
  k_with "CompSrc" => ((refine Hold.mk ?_))
  k_with "subscriptTail Name Constant ref int" => ((k_here; refine item_listL (News.isList (by assumption) (by k_mem)) (by decide) (by decide) (by rfl) ?_))
  k_with "binaryOp Add str str" => ((k_here; (with_reducible show wpAny _ _ (binaryOp Operator.Add (Value.str _ _) (Value.str _ _)) _ _ _); refine add_lb (K := 800000) (L := 800000) ?kb ?kd ?ke ?_; (case kb => omega); (case kd => omega); (case ke => decide); intro _ _ hk hl; (try dsimp only at hk)))
  k_with "call builtin:str.replace" => ((k_here; (with_reducible show wpAny _ _ (call (Value.builtin "str.replace") [Value.str _ _, Value.str _ _, Value.str _ _]) _ _ _); refine rep_dbl ?a1 ?a2 ?a3 ?a4 ?_; (case a1 => ((show @Ne Nat _ _); first | omega | ((try dsimp only); omega))); (case a2 => ((show @Ne Nat _ _); first | omega | ((try dsimp only); omega))); (case a3 => ((show @Ne Nat _ _); first | omega | ((try dsimp only); omega))); (case a4 => omega); intro _ _ hk hr; (try dsimp only at hk)))
  k_with "CompSrc" => ((refine Hold.mk ?_))
  k_with "eval ListComp" => ((k_here; (with_reducible show wpAny _ _ (eval (Expr.ListComp _ [⟨_, Expr.Tuple _ _ _, _, _⟩] _ _) _) _ _ _); refine Hold.mk ?_))
  k_with "SrcTup" => ((refine Hold.mk ?_))
  k_with "compareOp NotEq ref ref" => ((refine Hold.mk ?_))
  k_with "call ref" => (((with_reducible show wpAny _ _ (call (Value.ref 122) _) _ _ _); refine Hold.mk ?_))
  k_with "call ref" => (((with_reducible show wpAny _ _ (call (Value.ref 65) _) _ _ _); refine Hold.mk ?_))
  trivial
theorem strs_get : ∀ {vs : List Value} {ys : List PStr} {i : Nat} {v : Value}, StrsAre vs ys → vs[i]? = some v → ∃ y t, v = .str y t ∧ ys[i]? = some y
  | _, _, 0, _, .cons y t _, h => ⟨y, t, (Option.some.inj h).symm, rfl⟩
  | _, _, i + 1, _, .cons _ _ r, h => strs_get (i := i) r (by simpa using h)
theorem ld_ext1 {h₀ h : Heap} {L : Addr} {x : Addr × Obj} {l : Ldg} (N : News h₀ L h (x :: l)) : ∃ l', x ∈ l' ∧ (∀ p ∈ l, p ∈ l') ∧ News h₀ L h l' := ⟨_, .head _, fun _ h => .tail _ h, N⟩
noncomputable def heads3 : List PStr := [Str.ofString "257", Str.ofString "257 ", Str.ofString "257-\""]
theorem heads3_at {a b c : Tok} {i : Nat} {v : Value} (h : [Value.str (Str.ofString "257") a, .str (Str.ofString "257 ") b, .str (Str.ofString "257-\"") c][i]? = some v) : ∃ t, v = .str (heads3.getD i Str.empty) t ∧ heads3[i]? = some (heads3.getD i Str.empty) ∧ (heads3.getD i Str.empty).length ≤ 5 := by
  match i, h with
  | 0, h => cases h; exact ⟨_, rfl, rfl, by show (Str.ofString "257").length ≤ 5; decide +kernel⟩
  | 1, h => cases h; exact ⟨_, rfl, rfl, by show (Str.ofString "257 ").length ≤ 5; decide +kernel⟩
  | 2, h => cases h; exact ⟨_, rfl, rfl, by show (Str.ofString "257-\"").length ≤ 5; decide +kernel⟩
  | n + 3, h => simp at h
section
variable {w : World} {p : Program} {loose : List PStr} {mean : ExcName → Option Value} {mg mb : PStr → Option Value}
    {dp un : Nat} {gd : Option (List Code)} {a : Addr} {ccd : Value} {c1 c2 : Addr} {A₀ : Around} {base h₀ : Heap} {L : Addr}
    {s : Shared} {news : Ldg}
    (B : Below A₀ base [] h₀) (X : (KK.heap_1 w.params).In h₀) (T : Top p loose mean mg mb h₀) (XB : (KK.heap_1 w.params).In base) (TB : Top p loose mean mg mb base)
include B X T XB TB
theorem law2_p5 {o2 : Obj} {x : PStr} {tt : Tok} {dv : Addr} {vs : List Value} {ys : List PStr} {ev : Nat} {jk : PStr → Option Value} {Q : Flow → Shared → Prop} {E : Value → Shared → Prop}
   (hd5 : dp + 200 < recursionLimit) (hu5 : un + 2000 < cLine) (hx : x.length ≤ 134000)
   (F : Fr h₀ L s.heap (fun y => if y = Str.ofString "others" then some (.ref dv) else jk y)) (N : News h₀ L s.heap news) (hc2 : (c2, o2) ∈ news) (ho2 : o2.data = .cell (some (.str x tt)))
   (hdv : (dv, lstOf vs ev) ∈ news) (hS : StrsAre vs ys) (hyl : ys.length ≤ 10) (hy : ∀ y ∈ ys, y.length ≤ 140000 ∧ ∀ z, p257 y ≠ .ok z) (h3 : ∀ y ∈ heads3, p257 (y ++ x) = .ok (Str.ofString ""))
   (hret : ∀ (h' : Heap) (tk : Nat), Fr h₀ L h' (fun y => if y = Str.ofString "others" then some (.ref dv) else jk y) → News h₀ L h' news → Q .next { s with heap := h', toks := tk }) :
   wpAny (model PySem.Challenge.rw_pm0034_02.row.prog w) (ktrTop dp un gd (Str.ofString "law") lawScope2 L a ccd (cells2 c1 c2) []) (execs ((lawStmts2.drop 5).take 1) (envX (Str.ofString "law") lawScope2 L a ccd (cells2 c1 c2))) Q E s := by
  walk_at "M fill"
  have D : KtsDicts (([] : List Env).filterMap (·.frame)) h₀ := fun b hb => nomatch hb
  have hck : lawScope2.kind = .function := by with_unfolding_all rfl
  have hvl := hS.len_eq
  have hz : vs.toArray.size ≤ sizeLine := by rw [List.size_toArray]; exact Nat.le_trans (m := 1000) (by omega) (by decide)
  show wpAny _ (ktrTop _ _ _ _ (Scope.mk _ _ _ _ _) _ _ _ _ _) (execs (_ :: []) (envX _ (Scope.mk _ _ _ _ _) _ _ _ _)) _ _ _
  k_steps
  refine Hold.out ?_
  refine LCg.CompSrc.ledger (its := vs.toArray) (k := ev) rfl (by assumption) N hdv hz ?_
  intro g
  refine comp_ind (fun i zs nw => nw = news ∧ StrsAre zs (ys.take i)) ⟨rfl, .nil⟩ ?turn ?fin
  case turn =>
    rintro i v I oI C oC D' m₂ zs nw h tk E' hi hv ⟨rfl, hI⟩ hC hx2 kF kN off ne
    obtain ⟨y, t, rfl, hyi⟩ := strs_get hS (by simpa using hv)
    obtain ⟨hy1, hy2⟩ := hy y (List.mem_of_getElem? hyi)
    (with_reducible show wpAny _ _ _ _ _ _)
    k_fold
    k_steps
    refine Hold.out ?_
    refine held2 B X T XB TB hck (by omega) (by omega) kF kN (by omega) hy2 ?_
    intro t2 h2 tk2 F2 N2
    refine LCg.CompEnd.intro F2 N2 nw (fun p hp => hp) off (.inr ⟨_, hdv, rfl, _, rfl⟩) ⟨rfl, ?_⟩
    rw [List.take_add_one, hyi]
    exact strs_snoc hI
  case fin =>
    rintro zs nw ⟨rfl, hI⟩
    intro D' h tk kF kN off
    rw [List.take_of_length_le (by rw [← hvl, List.size_toArray]; exact Nat.le_refl _)] at hI
    k_steps
    refine Hold.out ?_
    refine ne_strs_L kN (.head _) (.tail _ hdv) hI hS (by first | units_room | k_room | ((try dsimp only); omega)) ?_
    rw [decide_eq_true rfl]
    k_steps
    refine Hold.out ?_
    have F2 := kF
    refine comp_tup F2 (by with_unfolding_all rfl) (by decide) (by rfl) (by decide) (by rfl) ?_
    k_steps
    refine Hold.out ?_
    (with_reducible rename News _ _ _ _ => kN0)
    (with_reducible rename Fr _ _ _ _ => kF0)
    obtain ⟨LL, hm, hsub0, kN1⟩ := ld_ext1 kN0
    have hsub : ∀ p ∈ nw, p ∈ LL := fun p hp => hsub0 _ (.tail _ hp)
    refine srcTup rfl kF0 kN1 hm (show (3 : Nat) ≤ 1000 by decide) ?_
    intro g2
    refine comp_ind (fun i zs nw2 => nw2 = LL ∧ StrsAre zs ((heads3.take i).map (fun _ => Str.ofString ""))) ⟨rfl, .nil⟩ ?turn ?fin
    case turn =>
      rintro i v I oI C oC D3 m₃ zs3 nw3 h3' tk3 E3 hi3 hv3 ⟨rfl, hI3⟩ hC3 hx3 kF3 kN3 off3 ne3
      obtain ⟨tv, rfl, hg3, hl5⟩ := heads3_at hv3
      have hp3 := h3 _ (List.mem_of_getElem? hg3)
      have hp3' : Reads (heads3.getD i Str.empty ++ x) (Str.ofString "") := ⟨hp3⟩
      clear hp3
      have hc2' := hsub _ hc2
      clear kN0 kN1
      (with_reducible show wpAny _ _ _ _ _ _)
      k_fold
      k_steps
      refine Hold.out ?_
      refine' parse257_spec B X T XB TB D hck ?kd ?ku kF3 kN3 ?kl ?_ ?kx
      case kd => omega
      case ku => omega
      case kl => omega
      case kx => exact fun k g₂ e t h' tk hk => (ok_no hp3'.eq hk).elim
      intro xq tq hq tkq hkq Fq Nq
      have eq := ok_same hp3'.eq hkq
      subst eq
      refine LCg.CompEnd.intro Fq Nq nw3 (fun p hp => hp) off3 hm ⟨rfl, ?_⟩
      rw [List.take_add_one, hg3, List.map_append]
      exact strs_snoc hI3
    case fin =>
      rintro zs3 nw3 ⟨rfl, hI3⟩
      replace hI3 : StrsAre zs3 (heads3.map (fun _ => Str.ofString "")) := hI3
      intro D3 h3' tk3 kF3 kN3 off3
      k_steps
      refine Hold.out ?_
      (with_reducible rename News _ _ _ _ => kN4)
      refine ne_strs_L (ys := heads3.map (fun _ => Str.ofString "")) kN4 (.tail _ (.head _)) (.head _) hI3 (.cons _ _ (.cons _ _ (.cons _ _ .nil))) (by first | units_room | k_room | ((try dsimp only); omega)) ?_
      rw [decide_eq_true rfl]
      k_steps
      (with_reducible rename News _ _ _ _ => kN5)
      exact hret _ _ (by assumption) (fun p hp => kN5 _ (.tail _ (.tail _ (hsub _ hp))))
end
end
section
theorem lines_T2N_0 : True := by
  k_with_none
  k_with "execs cons" => ((refine f_execs ?_; intro qk))
  k_with "eval BinOp" => ((refine f_BinOp ?_; intro qk))
  k_with "exec Assign" => ((refine f_Assign ?_; intro qk))
  k_with "eval Subscript" => ((refine f_Subscript ?_; intro qk))
  k_with "isTrue Compare" => ((refine f_Compare ?_; intro qk))
  k_with "exec If" => ((refine f_If ?_; intro qk))
  k_with "eval Call" => (((fail_if_success (with_reducible show wpAny _ _ (eval (Expr.Call (Expr.Attribute _ _ _) _ _ _) _) _ _ _)); refine f_Call ?_; intro qk))
  k_with "spliced" => ((refine f_args ?_; intro qk))
  k_with "callWith" => ((refine f_method1 ?_; intro qk))
  k_with "exec Return some" => ((refine f_Return ?_; intro qk))
  k_with "eval Tuple" => ((refine f_Tuple ?_; intro qk))
  k_with "eval List" => ((refine f_List ?_; intro qk))
  k_with "eval IfExp" => ((refine f_IfExp ?_; intro qk))
  k_with "storeName" => ((k_here; k_dflt (refine' f_store ?F ?N ?_ ?a ?b; (case F => k_asm); (case N => k_asm); (case a => rfl); (case b => rfl); k_whole; intro m' h' F' N'; (try k_sweep))))
  k_with "M map1" => (first
    | (refine map_same ?_; with_unfolding_all rfl)
    | ((repeat' (refine List.forall_mem_cons.mpr (And.intro ?_ ?_))); (all_goals first | rfl | exact List.forall_mem_nil _)))
  k_with "M map2" => (first
    | (refine SameOut.both (b := fun _ => none) ?_ ?_ <;> (repeat (refine SameOut.upd ?_ (by with_unfolding_all rfl))) <;> exact SameOut.lookup rfl)
    | (refine' SameOut.both (b := ?kb) ?k1 ?k2; (case k1 => ((repeat (refine SameOut.upd ?_ (by with_unfolding_all rfl))); exact SameOut.refl)); (case k2 => ((repeat (refine SameOut.upd ?_ (by with_unfolding_all rfl))); exact SameOut.refl)))
    | (refine' SameOut.both (b := ?kb) ?k1 ?k2; (case k2 => ((repeat (refine SameOut.upd ?_ (by with_unfolding_all rfl))); exact SameOut.refl)); (case k1 => ((repeat (refine SameOut.skip ?_)); (repeat (refine SameOut.upd ?_ (by with_unfolding_all rfl))); exact SameOut.refl)))
    | (intro y hy; (repeat (refine (if_neg (ne_of_out hy (by with_unfolding_all rfl))).trans ?_)); (refine Eq.symm ?_); (repeat (refine (if_neg (ne_of_out hy (by with_unfolding_all rfl))).trans ?_)); first | rfl | exact lookup_out rfl hy | exact (lookup_out rfl hy).symm | exact (lookup_out rfl hy).trans (lookup_out rfl hy).symm))
  k_with "M fill" => ((
    have kk : PySem.Challenge.rw_pm0034_02 = PySem.Challenge.rw_pm0034_02 ∧ KK.heap_1 = KK.heap_1 := ⟨rfl, rfl⟩
    revert kk
    k_fill
    intro kk
    clear kk))
  k_with "M enter" => ((
    refine wpAny_call ?_
    k_dflt (refine' code_def ?k1 ?k2 ?k3 ?k4 ?k5 ?kA ?kF ?kK ?k6 ?k7 ?k8 ?k9 ?kB ?_ ?c2 ?c3 ?c4 ?c5; (case kA => exact rfl); (case kF => exact rfl); (case kK => assumption); (case k1 => k_asm); (case k2 => k_asm); (case k3 => k_asm); (case k4 => k_asm); (case k5 => k_asm); (case k6 => k_is); (case k7 => k_is); (case k8 => ((try dsimp only); omega)); (case k9 => first | exact BindsTo.of_eq rfl | (refine' kp_binds ?kx ?ke; (case kx => first | (refine' myIn ?kf ?ki; (case kf => with_reducible assumption); (case ki => with_reducible assumption)) | k_in); (case ke => exact fun _ => rfl)) | exact binds_K (by first | (refine' myIn ?kf ?ki; (case kf => with_reducible assumption); (case ki => with_reducible assumption)) | k_in) rfl (by k_is) rfl rfl rfl); (case c5 => decide); (case kB => exact locs rfl); (case c2 => exact rfl); (case c3 => exact rfl); (case c4 => exact rfl); k_whole; intro g' L' h' FG' F' N' B' X' T'; (have D' := kts_dict B' (by assumption) FG' rfl); (try dsimp only); (try k_lift B'); (refine let_AE (f := execs _) ?_; intro vk ak); (refine f_QE ?_; intro qk ek))))
  k_with "M enter0" => ((
    refine wpAny_call ?_
    k_dflt (refine' code_defS0X ?k1 ?k2 ?k3 ?k4 ?k5 ?kA ?kF ?kK ?k6 ?k7 ?k8 ?k9 ?kB ?_ ?c2 ?c3 ?c4 ?c5; (case kA => exact rfl); (case kF => exact rfl); (case kK => assumption); (case k1 => k_asm); (case k2 => k_asm); (case k3 => k_asm); (case k4 => k_asm); (case k5 => k_asm); (case k6 => k_is); (case k7 => k_is); (case k8 => ((try dsimp only); omega)); (case k9 => first | exact BindsTo.of_eq rfl | (refine' kp_binds ?kx ?ke; (case kx => first | (refine' myIn ?kf ?ki; (case kf => with_reducible assumption); (case ki => with_reducible assumption)) | k_in); (case ke => exact fun _ => rfl)) | exact binds_K (by first | (refine' myIn ?kf ?ki; (case kf => with_reducible assumption); (case ki => with_reducible assumption)) | k_in) rfl (by k_is) rfl rfl rfl); (case c5 => decide); (case kB => exact locs rfl); (case c2 => exact rfl); (case c3 => exact rfl); (case c4 => exact rfl); k_whole; intro g' L' h' FG' F' N' B' X' T' D'; (try dsimp only); (try k_lift B'); (refine let_AE (f := execs _) ?_; intro vk ak); (refine f_QE ?_; intro qk ek))))
  trivial
local macro_rules | `(tactic| k_mem) => `(tactic| first | with_reducible assumption | (refine mem_in ?_; with_reducible assumption))
theorem lines_T2N_1 : True := by
  k_with "subscriptTail Name Constant ref int" => ((k_here; refine item_tupleT (News.isTup (by assumption) (by k_mem)) (by decide) (by decide) (by rfl) (by rfl) ?_))
  k_with "subscriptTail Name Constant ref int" => ((k_here; (with_reducible rename StrsAre _ _ => hSA); refine item_strsA (News.isList (by assumption) (by k_mem)) hSA (by decide) (by first | omega | (simp only [List.length_map]; omega)) (by decide) ?_; intro t'))
  k_with "call type:ValueError" => ((refine call_ValueError_made ?_; intro _ _ _))
  k_with "exec While Compare Name cons nil" => (refine Hold.mk ?_)
  k_with "exec While Compare" => (refine Hold.mk ?_)
  k_with "exec While Compare cons nil" => (refine Hold.mk ?_)
  k_with "exec While" => (refine Hold.mk ?_)
  k_with "binaryOp FloorDiv int int" => ((k_here; (with_reducible refine floordiv_pos ?kb1 ?kb2 ?_); (case kb1 => decide); (case kb2 => decide +kernel)))
  k_with "WhlIf" => ((refine whlIf_dec ?_ ?_ <;> intro _))
  k_with "subscriptTail Name Name ref int" => ((k_here; first
    | ((with_reducible rename StrsAre _ _ => hSA); refine item_strsA (News.isList (by assumption) (by k_mem)) hSA (by omega) (by omega) (by omega) ?_; intro t')
    | ((with_reducible rename IntsAre _ _ => hSA); refine item_intsA (News.isList (by assumption) (by k_mem)) hSA (by omega) (by omega) (by omega) ?_; intro t')))
  k_with "call builtin:len" => ((k_here; (with_reducible show wpAny _ _ (call (Value.builtin "len") [Value.ref _]) _ _ _); first
    | ((with_reducible rename StrsAre _ _ => hSA); refine len_strsA (News.isList (by assumption) (by k_mem)) hSA (by omega) ?_)
    | ((with_reducible rename IntsAre _ _ => hSA); refine len_intsA (News.isList (by assumption) (by k_mem)) hSA (by omega) ?_)))
  k_with "subscriptTail Name Constant ref int" => ((k_here; refine item_listL (News.isList (by assumption) (by k_mem)) (by decide) (by decide) (by rfl) ?_))
  trivial
local macro_rules | `(tactic| k_mem) => `(tactic| first | with_reducible assumption | (refine mem_in ?_; with_reducible assumption))
theorem lines_T2N_2 : True := by
  k_with "call builtin:len" => ((k_here; (with_reducible show wpAny _ _ (call (Value.builtin "len") [Value.ref _]) _ _ _); k_dflt (refine' len_L ?kN ?kM ?kz ?_; (case kN => with_reducible assumption); (case kM => k_mem); (case kz => omega))))
  k_with "CompSrcT" => ((refine Hold.mk ?_))
  k_with "CompSrc" => ((refine Hold.mk ?_))
  k_with "subscriptTail Name Constant ref int" => ((k_here; refine item_listL (News.isList (by assumption) (by k_mem)) (by decide) (by decide) (by rfl) ?_))
  k_with "binaryOp Add str str" => ((k_here; (with_reducible show wpAny _ _ (binaryOp Operator.Add (Value.str _ _) (Value.str _ _)) _ _ _); refine add_lb (K := 800000) (L := 800000) ?kb ?kd ?ke ?_; (case kb => omega); (case kd => omega); (case ke => decide); intro _ _ hk hl; (try dsimp only at hk)))
  k_with "call builtin:str.replace" => ((k_here; (with_reducible show wpAny _ _ (call (Value.builtin "str.replace") [Value.str _ _, Value.str _ _, Value.str _ _]) _ _ _); refine rep_dbl ?a1 ?a2 ?a3 ?a4 ?_; (case a1 => ((show @Ne Nat _ _); first | omega | ((try dsimp only); omega))); (case a2 => ((show @Ne Nat _ _); first | omega | ((try dsimp only); omega))); (case a3 => ((show @Ne Nat _ _); first | omega | ((try dsimp only); omega))); (case a4 => omega); intro _ _ hk hr; (try dsimp only at hk)))
  k_with "compareOp Eq ref ref" => ((refine Hold.mk ?_))
  k_with "call ref" => (((with_reducible show wpAny _ _ (call (Value.ref 65) _) _ _ _); refine' parse257_spec ?kB ?kX ?kT ?kXB ?kTB ?kD ?kh ?kd ?ku ?kF ?kN ?kl ?_ ?kx; (case kB => assumption); (case kX => assumption); (case kT => assumption); (case kXB => assumption); (case kTB => assumption); (case kD => assumption); (case kh => rfl); (case kd => ((try dsimp only); omega)); (case ku => ((try dsimp only); omega)); (case kF => with_reducible assumption); (case kN => with_reducible assumption); (case kl => omega); (case kx => (intro k g₂ e t h' tk hk; exact (ok_no (Reads.eq (by with_reducible assumption)) hk).elim)); intro xq tq hq tkq hkq Fq Nq; (have eq := ok_same (Reads.eq (by with_reducible assumption)) hkq); clear hkq; subst eq))
  trivial
section
variable {w : World} {p : Program} {loose : List PStr} {mean : ExcName → Option Value} {mg mb : PStr → Option Value}
    {dp un : Nat} {gd : Option (List Code)} {a : Addr} {ccd : Value} {c1 c2 : Addr} {A₀ : Around} {base h₀ : Heap} {L : Addr}
    {s : Shared} {news : Ldg}
    (B : Below A₀ base [] h₀) (X : (KK.heap_1 w.params).In h₀) (T : Top p loose mean mg mb h₀) (XB : (KK.heap_1 w.params).In base) (TB : Top p loose mean mg mb base)
include B X T XB TB
theorem law2_p6 {o2 : Obj} {x Y : PStr} {tt tx : Tok} {jk : PStr → Option Value} {Q : Flow → Shared → Prop} {E : Value → Shared → Prop}
   (hd5 : dp + 200 < recursionLimit) (hu5 : un + 2000 < cLine) (hx : x.length ≤ 134000) (hT : Y.length ≤ 67000)
   (F : Fr h₀ L s.heap (fun y => if y = Str.ofString "text" then some (.str Y tx) else jk y)) (N : News h₀ L s.heap news) (hc2 : (c2, o2) ∈ news) (ho2 : o2.data = .cell (some (.str x tt)))
   (r0 : Reads (Str.ofString "257 \"" ++ x) Y) (r1 : Reads (Str.ofString "257 \"" ++ x ++ Str.ofString "\" \"x\"") Y) (r2 : Reads (Str.ofString "257 \" " ++ Txt.slice Y none (some 6)) (Str.ofString " " ++ Txt.slice Y none (some 6)))
   (hret : ∀ (h' : Heap) (tk : Nat) m' l', Fr h₀ L h' m' → News h₀ L h' l' → (∀ p ∈ news, p ∈ l') → Q (.ret (.bool true)) { s with heap := h', toks := tk }) :
   wpAny (model PySem.Challenge.rw_pm0034_02.row.prog w) (ktrTop dp un gd (Str.ofString "law") lawScope2 L a ccd (cells2 c1 c2) []) (execs (lawStmts2.drop 6) (envX (Str.ofString "law") lawScope2 L a ccd (cells2 c1 c2))) Q E s := by
  walk_at "M fill"
  have D : KtsDicts (([] : List Env).filterMap (·.frame)) h₀ := fun b hb => nomatch hb
  have hck : lawScope2.kind = .function := by with_unfolding_all rfl
  have l0 : (Str.ofString "257 \"").length = 5 := by decide +kernel
  have l1 : (Str.ofString "\" \"x\"").length = 5 := by decide +kernel
  have l2 : (Str.ofString "257 \" ").length = 6 := by decide +kernel
  have l3 : (Str.ofString " ").length = 1 := by decide +kernel
  show wpAny _ (ktrTop _ _ _ _ (Scope.mk _ _ _ _ _) _ _ _ _ _) (execs (_ :: []) (envX _ (Scope.mk _ _ _ _ _) _ _ _ _)) _ _ _
  k_steps
  refine Hold.out ?_
  (with_reducible rename News _ _ _ _ => kN4)
  refine eq_strs_L (xs := [Y, Y, Str.ofString " " ++ Txt.slice Y none (some 6)]) (ys := [Y, Y, Str.ofString " " ++ Txt.slice Y none (some 6)]) kN4 (.tail _ (.head _)) (.head _) (.cons _ _ (.cons _ _ (.cons _ _ .nil))) (.cons _ _ (.cons _ _ (.cons _ _ .nil))) (by first | units_room | k_room | ((try dsimp only); omega)) ?_
  rw [decide_eq_true rfl]
  k_steps
  exact hret _ _ _ _ (by assumption) kN4 (fun p hp => .tail _ (.tail _ hp))
end
end
section
theorem lines_T2O_0 : True := by
  k_with_none
  k_with "execs cons" => ((refine f_execs ?_; intro qk))
  k_with "eval BinOp" => ((refine f_BinOp ?_; intro qk))
  k_with "exec Assign" => ((refine f_Assign ?_; intro qk))
  k_with "eval Subscript" => ((refine f_Subscript ?_; intro qk))
  k_with "isTrue Compare" => ((refine f_Compare ?_; intro qk))
  k_with "exec If" => ((refine f_If ?_; intro qk))
  k_with "eval Call" => (((fail_if_success (with_reducible show wpAny _ _ (eval (Expr.Call (Expr.Attribute _ _ _) _ _ _) _) _ _ _)); refine f_Call ?_; intro qk))
  k_with "spliced" => ((refine f_args ?_; intro qk))
  k_with "callWith" => ((refine f_method1 ?_; intro qk))
  k_with "exec Return some" => ((refine f_Return ?_; intro qk))
  k_with "eval Tuple" => ((refine f_Tuple ?_; intro qk))
  k_with "eval List" => ((refine f_List ?_; intro qk))
  k_with "eval IfExp" => ((refine f_IfExp ?_; intro qk))
  k_with "storeName" => ((k_here; k_dflt (refine' f_store ?F ?N ?_ ?a ?b; (case F => k_asm); (case N => k_asm); (case a => rfl); (case b => rfl); k_whole; intro m' h' F' N'; (try k_sweep))))
  k_with "M map1" => (first
    | (refine map_same ?_; with_unfolding_all rfl)
    | ((repeat' (refine List.forall_mem_cons.mpr (And.intro ?_ ?_))); (all_goals first | rfl | exact List.forall_mem_nil _)))
  k_with "M map2" => (first
    | (refine SameOut.both (b := fun _ => none) ?_ ?_ <;> (repeat (refine SameOut.upd ?_ (by with_unfolding_all rfl))) <;> exact SameOut.lookup rfl)
    | (refine' SameOut.both (b := ?kb) ?k1 ?k2; (case k1 => ((repeat (refine SameOut.upd ?_ (by with_unfolding_all rfl))); exact SameOut.refl)); (case k2 => ((repeat (refine SameOut.upd ?_ (by with_unfolding_all rfl))); exact SameOut.refl)))
    | (refine' SameOut.both (b := ?kb) ?k1 ?k2; (case k2 => ((repeat (refine SameOut.upd ?_ (by with_unfolding_all rfl))); exact SameOut.refl)); (case k1 => ((repeat (refine SameOut.skip ?_)); (repeat (refine SameOut.upd ?_ (by with_unfolding_all rfl))); exact SameOut.refl)))
    | (intro y hy; (repeat (refine (if_neg (ne_of_out hy (by with_unfolding_all rfl))).trans ?_)); (refine Eq.symm ?_); (repeat (refine (if_neg (ne_of_out hy (by with_unfolding_all rfl))).trans ?_)); first | rfl | exact lookup_out rfl hy | exact (lookup_out rfl hy).symm | exact (lookup_out rfl hy).trans (lookup_out rfl hy).symm))
  k_with "M fill" => ((
    have kk : PySem.Challenge.rw_pm0034_02 = PySem.Challenge.rw_pm0034_02 ∧ KK.heap_1 = KK.heap_1 := ⟨rfl, rfl⟩
    revert kk
    k_fill
    intro kk
    clear kk))
  k_with "M enter" => ((
    refine wpAny_call ?_
    k_dflt (refine' code_def ?k1 ?k2 ?k3 ?k4 ?k5 ?kA ?kF ?kK ?k6 ?k7 ?k8 ?k9 ?kB ?_ ?c2 ?c3 ?c4 ?c5; (case kA => exact rfl); (case kF => exact rfl); (case kK => assumption); (case k1 => k_asm); (case k2 => k_asm); (case k3 => k_asm); (case k4 => k_asm); (case k5 => k_asm); (case k6 => k_is); (case k7 => k_is); (case k8 => ((try dsimp only); omega)); (case k9 => first | exact BindsTo.of_eq rfl | (refine' kp_binds ?kx ?ke; (case kx => first | (refine' myIn ?kf ?ki; (case kf => with_reducible assumption); (case ki => with_reducible assumption)) | k_in); (case ke => exact fun _ => rfl)) | exact binds_K (by first | (refine' myIn ?kf ?ki; (case kf => with_reducible assumption); (case ki => with_reducible assumption)) | k_in) rfl (by k_is) rfl rfl rfl); (case c5 => decide); (case kB => exact locs rfl); (case c2 => exact rfl); (case c3 => exact rfl); (case c4 => exact rfl); k_whole; intro g' L' h' FG' F' N' B' X' T'; (have D' := kts_dict B' (by assumption) FG' rfl); (try dsimp only); (try k_lift B'); (refine let_AE (f := execs _) ?_; intro vk ak); (refine f_QE ?_; intro qk ek))))
  k_with "M enter0" => ((
    refine wpAny_call ?_
    k_dflt (refine' code_defS0X ?k1 ?k2 ?k3 ?k4 ?k5 ?kA ?kF ?kK ?k6 ?k7 ?k8 ?k9 ?kB ?_ ?c2 ?c3 ?c4 ?c5; (case kA => exact rfl); (case kF => exact rfl); (case kK => assumption); (case k1 => k_asm); (case k2 => k_asm); (case k3 => k_asm); (case k4 => k_asm); (case k5 => k_asm); (case k6 => k_is); (case k7 => k_is); (case k8 => ((try dsimp only); omega)); (case k9 => first | exact BindsTo.of_eq rfl | (refine' kp_binds ?kx ?ke; (case kx => first | (refine' myIn ?kf ?ki; (case kf => with_reducible assumption); (case ki => with_reducible assumption)) | k_in); (case ke => exact fun _ => rfl)) | exact binds_K (by first | (refine' myIn ?kf ?ki; (case kf => with_reducible assumption); (case ki => with_reducible assumption)) | k_in) rfl (by k_is) rfl rfl rfl); (case c5 => decide); (case kB => exact locs rfl); (case c2 => exact rfl); (case c3 => exact rfl); (case c4 => exact rfl); k_whole; intro g' L' h' FG' F' N' B' X' T' D'; (try dsimp only); (try k_lift B'); (refine let_AE (f := execs _) ?_; intro vk ak); (refine f_QE ?_; intro qk ek))))
  trivial
local macro_rules | `(tactic| k_mem) => `(tactic| first | with_reducible assumption | (refine mem_in ?_; with_reducible assumption))
theorem lines_T2O_1 : True := by
  k_with "subscriptTail Name Constant ref int" => ((k_here; refine item_tupleT (News.isTup (by assumption) (by k_mem)) (by decide) (by decide) (by rfl) (by rfl) ?_))
  k_with "subscriptTail Name Constant ref int" => ((k_here; (with_reducible rename StrsAre _ _ => hSA); refine item_strsA (News.isList (by assumption) (by k_mem)) hSA (by decide) (by first | omega | (simp only [List.length_map]; omega)) (by decide) ?_; intro t'))
  k_with "call type:ValueError" => ((refine call_ValueError_made ?_; intro _ _ _))
  k_with "exec While Compare Name cons nil" => (refine Hold.mk ?_)
  k_with "exec While Compare" => (refine Hold.mk ?_)
  k_with "exec While Compare cons nil" => (refine Hold.mk ?_)
  k_with "exec While" => (refine Hold.mk ?_)
  k_with "binaryOp FloorDiv int int" => ((k_here; (with_reducible refine floordiv_pos ?kb1 ?kb2 ?_); (case kb1 => decide); (case kb2 => decide +kernel)))
  k_with "WhlIf" => ((refine whlIf_dec ?_ ?_ <;> intro _))
  k_with "subscriptTail Name Name ref int" => ((k_here; first
    | ((with_reducible rename StrsAre _ _ => hSA); refine item_strsA (News.isList (by assumption) (by k_mem)) hSA (by omega) (by omega) (by omega) ?_; intro t')
    | ((with_reducible rename IntsAre _ _ => hSA); refine item_intsA (News.isList (by assumption) (by k_mem)) hSA (by omega) (by omega) (by omega) ?_; intro t')))
  k_with "call builtin:len" => ((k_here; (with_reducible show wpAny _ _ (call (Value.builtin "len") [Value.ref _]) _ _ _); first
    | ((with_reducible rename StrsAre _ _ => hSA); refine len_strsA (News.isList (by assumption) (by k_mem)) hSA (by omega) ?_)
    | ((with_reducible rename IntsAre _ _ => hSA); refine len_intsA (News.isList (by assumption) (by k_mem)) hSA (by omega) ?_)))
  k_with "subscriptTail Name Constant ref int" => ((k_here; refine item_listL (News.isList (by assumption) (by k_mem)) (by decide) (by decide) (by rfl) ?_))
  trivial
local macro_rules | `(tactic| k_mem) => `(tactic| first | with_reducible assumption | (refine mem_in ?_; with_reducible assumption))
theorem lines_T2O_2 : True := by
  k_with "call builtin:len" => ((k_here; (with_reducible show wpAny _ _ (call (Value.builtin "len") [Value.ref _]) _ _ _); k_dflt (refine' len_L ?kN ?kM ?kz ?_; (case kN => with_reducible assumption); (case kM => k_mem); (case kz => omega))))
  k_with "CompSrcT" => ((refine Hold.mk ?_))
  k_with "CompSrc" => ((refine Hold.mk ?_))
  k_with "subscriptTail Name Constant ref int" => ((k_here; refine item_listL (News.isList (by assumption) (by k_mem)) (by decide) (by decide) (by rfl) ?_))
  k_with "M fr2" => ((intro y hy; (repeat (refine (if_neg (ne_of_out hy (by with_unfolding_all rfl))).trans ?_)); (refine Eq.symm ?_); (repeat (refine (if_neg (ne_of_out hy (by with_unfolding_all rfl))).trans ?_)); rfl))
  trivial
section
variable {w : World} {p : Program} {loose : List PStr} {mean : ExcName → Option Value} {mg mb : PStr → Option Value}
    {dp un : Nat} {gd : Option (List Code)} {a : Addr} {ccd : Value} {c1 c2 : Addr} {A₀ : Around} {base h₀ : Heap} {L : Addr}
    {s : Shared} {news : Ldg}
    (B : Below A₀ base [] h₀) (X : (KK.heap_1 w.params).In h₀) (T : Top p loose mean mg mb h₀) (XB : (KK.heap_1 w.params).In base) (TB : Top p loose mean mg mb base)
include B X T XB TB
theorem law2_p1 {m : PStr → Option Value} {Q : Flow → Shared → Prop} {E : Value → Shared → Prop}
   (hd5 : dp + 200 < recursionLimit) (hu5 : un + 2000 < cLine) (F : Fr h₀ L s.heap m) (N : News h₀ L s.heap news)
   (hret : ∀ (h' : Heap) (tk : Nat) (dr dk : Addr) (tt : Tok), (∀ p ∈ news, @LT.lt Nat _ p.1 dr) → @LT.lt Nat _ dr dk → Fr h₀ L h' (fun y => if y = Str.ofString "row" then some (.ref dr) else if y = Str.ofString "kept" then some (.ref dk) else if y = Str.ofString "text" then some (.str (Str.ofString "") tt) else m y) → News h₀ L h' ((dk, lstOf [] 0) :: (dr, lstOf [] 0) :: news) → Q .next { s with heap := h', toks := tk }) :
   wpAny (model PySem.Challenge.rw_pm0034_02.row.prog w) (ktrTop dp un gd (Str.ofString "law") lawScope2 L a ccd (cells2 c1 c2) []) (execs ((lawStmts2.drop 1).take 1) (envX (Str.ofString "law") lawScope2 L a ccd (cells2 c1 c2))) Q E s := by
  walk_at "M fill"
  show wpAny _ (ktrTop _ _ _ _ (Scope.mk _ _ _ _ _) _ _ _ _ _) (execs (_ :: []) (envX _ (Scope.mk _ _ _ _ _) _ _ _ _)) _ _ _
  k_steps
  (with_reducible rename (_ ∧ AllLt _ news) => hlt2)
  exact hret _ _ _ _ _ (by with_reducible assumption) hlt2.1 (by assumption) (news_drop1 (by assumption))
end
theorem lt_ne {a b : Addr} (h : @LT.lt Nat _ a b) : a ≠ b := Nat.ne_of_lt h
theorem lt_ne' {a b : Addr} (h : @LT.lt Nat _ a b) : b ≠ a := Nat.ne_of_gt h
theorem mem3 {a b c : Addr × Obj} {d : Addr} (h1 : a.1 ≠ d) (h2 : b.1 ≠ d) (h3 : c.1 ≠ d) : ∀ p ∈ [a, b, c], p.1 ≠ d := by
  intro p hp
  simp only [List.mem_cons, List.not_mem_nil, or_false] at hp
  rcases hp with rfl | rfl | rfl
  · exact h1
  · exact h2
  · exact h3
theorem mem2 {a b : Addr × Obj} {d : Addr} (h1 : a.1 ≠ d) (h2 : b.1 ≠ d) : ∀ p ∈ [a, b], p.1 ≠ d := by
  intro p hp
  simp only [List.mem_cons, List.not_mem_nil, or_false] at hp
  rcases hp with rfl | rfl
  · exact h1
  · exact h2
theorem news_pick2 {h₀ h : Heap} {L d : Addr} {o : Obj} {led : Ldg} (N : News h₀ L h led) (hm : (d, o) ∈ led) :
    ∃ led', News h₀ L h ((d, o) :: led') ∧ (∀ p ∈ led, p ∈ (d, o) :: led') ∧ (∀ p ∈ led', p.1 ≠ d) := by
  have hn : ∀ p ∈ led.filter (fun p => decide (p.1 ≠ d)), p.1 ≠ d ∧ p ∈ led := fun p hp => ⟨of_decide_eq_true (List.mem_filter.mp hp).2, (List.mem_filter.mp hp).1⟩
  refine ⟨led.filter (fun p => decide (p.1 ≠ d)), fun p hp => ?_, fun p hp => ?_, fun p hp => (hn p hp).1⟩
  · rcases List.mem_cons.mp hp with rfl | hp
    · exact N _ hm
    · exact N _ (List.mem_filter.mp hp).1
  · by_cases e : p.1 = d
    · have h1 := (N _ hm).1
      have h2 := (N _ hp).1
      obtain ⟨pa, po⟩ := p
      dsimp only at e h2
      subst e
      have e2 : o = po := Option.some.inj (h1.symm.trans h2)
      subst e2
      exact .head _
    · exact .tail _ (List.mem_filter.mpr ⟨hp, by simpa using e⟩)
theorem heads4_ok {t : Tr} (hg : t.Good) (hl : (dblT t.txt).length ≤ 134000) : ∀ y ∈ heads4.map (· ++ dblT t.txt), y.length ≤ 140000 ∧ ∀ z, p257 y ≠ .ok z := by
  intro y hy
  obtain ⟨z, hz, rfl⟩ := List.mem_map.mp hy
  unfold heads4 at hz
  simp only [List.mem_cons, List.not_mem_nil, or_false] at hz
  have l0 : (Str.ofString "").length = 0 := by decide +kernel
  have l1 : (Str.ofString "157 \"").length = 5 := by decide +kernel
  have l2 : (Str.ofString "227 \"").length = 5 := by decide +kernel
  have l3 : (Str.ofString "259 \"").length = 5 := by decide +kernel
  rcases hz with rfl | rfl | rfl | rfl
  · exact ⟨by rw [PySem.Str.length_append]; omega, not_0 hg⟩
  · exact ⟨by rw [PySem.Str.length_append]; omega, not_1 hg⟩
  · exact ⟨by rw [PySem.Str.length_append]; omega, not_2 hg⟩
  · exact ⟨by rw [PySem.Str.length_append]; omega, not_3 hg⟩
theorem heads3_ok {t : Tr} (hg : t.Good) : ∀ y ∈ heads3, p257 (y ++ dblT t.txt) = .ok (Str.ofString "") := by
  intro z hz
  unfold heads3 at hz
  simp only [List.mem_cons, List.not_mem_nil, or_false] at hz
  rw [show Str.ofString "" = Str.empty by decide +kernel]
  rcases hz with rfl | rfl | rfl
  · exact emp_0 hg
  · exact emp_1 hg
  · exact emp_2 hg
theorem emp_eq : Str.ofString "" = Str.empty := by decide +kernel
section
variable {w : World} {p : Program} {loose : List PStr} {mean : ExcName → Option Value} {mg mb : PStr → Option Value}
    {dp un : Nat} {gd : Option (List Code)} {a : Addr} {ccd : Value} {c1 c2 : Addr} {A₀ : Around} {base h₀ : Heap} {L : Addr}
    {s : Shared} {news : Ldg}
    (B : Below A₀ base [] h₀) (X : (KK.heap_1 w.params).In h₀) (T : Top p loose mean mg mb h₀) (XB : (KK.heap_1 w.params).In base) (TB : Top p loose mean mg mb base)
include B X T XB TB
theorem law2_rest {dn : Addr} {nvs : List Value} {ns : List Int} {o1 o2 : Obj} {cv1 cv2 : Option Value} {m : PStr → Option Value} {Q : Flow → Shared → Prop} {E : Value → Shared → Prop}
   (hd5 : dp + 200 < recursionLimit) (hu5 : un + 2000 < cLine) (ht : 1 ≤ s.toks) (hE : PassesOwn (model PySem.Challenge.rw_pm0034_02.row.prog w) (ktrTop dp un gd (Str.ofString "law") lawScope2 L a ccd (cells2 c1 c2) []) (envX (Str.ofString "law") lawScope2 L a ccd (cells2 c1 c2)) E)
   (F : Fr h₀ L s.heap (fun y => if y = Str.ofString "numbers" then some (.ref dn) else m y)) (N : News h₀ L s.heap [(dn, lstOf nvs 0), (c2, o2), (c1, o1), (166, tabObj #[])]) (l61 : @LT.lt Nat _ 166 c1) (l12 : @LT.lt Nat _ c1 c2) (l2d : @LT.lt Nat _ c2 dn)
   (ho1 : o1.data = .cell cv1) (ho2 : o2.data = .cell cv2) (hns : IntsAre nvs ns) (hnl : ns.length ≤ 15)
   (hret : ∀ h' tk m' l' tb, Fr h₀ L h' m' → News h₀ L h' l' → (166, tabObj tb) ∈ l' → Q (.ret (.bool true)) { s with heap := h', toks := tk }) :
   wpC (model PySem.Challenge.rw_pm0034_02.row.prog w) (ktrTop dp un gd (Str.ofString "law") lawScope2 L a ccd (cells2 c1 c2) []) (execs (lawStmts2.drop 1) (envX (Str.ofString "law") lawScope2 L a ccd (cells2 c1 c2))) Q E s := by
  have l1d : @LT.lt Nat _ c1 dn := Nat.lt_trans l12 l2d
  have l62 : @LT.lt Nat _ 166 c2 := Nat.lt_trans l61 l12
  have l6d : @LT.lt Nat _ 166 dn := Nat.lt_trans l61 l1d
  obtain ⟨M0, eM0, F0⟩ := fr_ext F
  refine chunk_any 1 ?_
  refine wpAny_with_toks ht ?_
  refine law2_p1 B X T XB TB (m := M0) hd5 hu5 F0 N ?_
  intro h1 k1 dr dk tt lr lk F1 N1 hk1
  show wpC (model PySem.Challenge.rw_pm0034_02.row.prog w) (ktrTop dp un gd (Str.ofString "law") lawScope2 L a ccd (cells2 c1 c2) []) (execs (lawStmts2.drop 2) (envX (Str.ofString "law") lawScope2 L a ccd (cells2 c1 c2))) Q E _
  obtain ⟨M1, eM1, F1⟩ := fr_ext F1
  have rd : @LT.lt Nat _ dn dr := lr _ (.head _)
  have r2 : @LT.lt Nat _ c2 dr := lr _ (.tail _ (.head _))
  have r1 : @LT.lt Nat _ c1 dr := lr _ (.tail _ (.tail _ (.head _)))
  have r6 : @LT.lt Nat _ 166 dr := lr _ (.tail _ (.tail _ (.tail _ (.head _))))
  have kd : @LT.lt Nat _ dn dk := Nat.lt_trans rd lk
  have k2 : @LT.lt Nat _ c2 dk := Nat.lt_trans r2 lk
  have k1' : @LT.lt Nat _ c1 dk := Nat.lt_trans r1 lk
  have k6 : @LT.lt Nat _ 166 dk := Nat.lt_trans r6 lk
  -- the turns
  refine chunk_C 1 ?_
  refine wpC_toks hk1 ?_
  refine law2_loop (dn := dn) (dk := dk) (dr := dr) (σ₀ := ⟨.nil, [], [], 0, 0, tt, o1, #[], [(dn, lstOf nvs 0), (c2, o2)], M1⟩) (mid0 := [(c2, o2)]) B X T XB TB hd5 hu5 hE ⟨TrSt.nil, .nil, .nil, ⟨_, ho1⟩, .inl rfl, ⟨lt_ne' k1', lt_ne' r1, lt_ne lk, ?n1, ?n2, ?n3⟩, ?n4, .head _, ?n5⟩ hns hnl (by unfold m2; exact fr_map [Str.ofString "numbers", Str.ofString "kept", Str.ofString "row", Str.ofString "text"] F1 (by subst eM1 eM0; rw [emp_eq]; walk_at "M map1") (by walk_at "M fr2")) (news_sub N1 ?n6) ?_
  case n1 => exact mem3 (lt_ne l61) (lt_ne' l1d) (lt_ne' l12)
  case n2 => exact mem3 (lt_ne k6) (lt_ne kd) (lt_ne k2)
  case n3 => exact mem3 (lt_ne r6) (lt_ne rd) (lt_ne r2)
  case n4 => exact mem2 (lt_ne' l6d) (lt_ne' l62)
  case n5 => exact fun p hp => .tail _ hp
  case n6 =>
    unfold l2
    intro p hp
    simp only [List.mem_cons, List.not_mem_nil, or_false] at hp ⊢
    rcases hp with h | h | h | h | h | h
    · exact .inr (.inr (.inr (.inr (.inl h))))
    · exact .inl h
    · exact .inr (.inl h)
    · exact .inr (.inr (.inr (.inr (.inr h))))
    · exact .inr (.inr (.inl h))
    · exact .inr (.inr (.inr (.inl h)))
  intro h2 k2' σ hC F2 N2 hk2
  show wpC (model PySem.Challenge.rw_pm0034_02.row.prog w) (ktrTop dp un gd (Str.ofString "law") lawScope2 L a ccd (cells2 c1 c2) []) (execs (lawStmts2.drop 3) (envX (Str.ofString "law") lawScope2 L a ccd (cells2 c1 c2))) Q E _
  obtain ⟨led, N3, hin, hled⟩ := news_pick2 (d := c2) (o := o2) N2 (by unfold l2; exact .tail _ (.tail _ (.tail _ (.tail _ (hC.sub _ (.head _))))))
  have h166 : (166, tabObj σ.tb) ∈ led := by
    have : (166, tabObj σ.tb) ∈ l2 c1 dk dr σ := by unfold l2; exact .tail _ (.tail _ (.tail _ (.head _)))
    rcases List.mem_cons.mp (hin _ this) with e | h
    · exact absurd (congrArg Prod.fst e) (lt_ne l62)
    · exact h
  have hTl := Tr.len_le hC.st.good (Nat.le_trans hC.st.size hnl)
  have hDl := dblT_le σ.t.txt
  obtain ⟨M2, eM2, F2⟩ := fr_ext F2
  unfold m2 at eM2
  -- the quotes doubled
  refine chunk_any 1 ?_
  refine law2_p3 B X T XB TB (x := σ.t.txt) (tt := σ.tt) (jk := M2) hd5 hu5 hTl hk2 (fr_map [Str.ofString "text"] F2 (by subst eM2; walk_at "M map1") (by walk_at "M fr2")) N3 hled ho2 ?_
  intro h3 k3 o2' t2 ho2' F3 N4
  show wpC (model PySem.Challenge.rw_pm0034_02.row.prog w) (ktrTop dp un gd (Str.ofString "law") lawScope2 L a ccd (cells2 c1 c2) []) (execs (lawStmts2.drop 4) (envX (Str.ofString "law") lawScope2 L a ccd (cells2 c1 c2))) Q E _
  obtain ⟨M3, eM3, F3⟩ := fr_ext F3
  refine chunk_any 1 ?_
  refine law2_p4 B X T XB TB (x := dblT σ.t.txt) (m := M3) hd5 hu5 (by omega) F3 N4 (.head _) ho2' ?_
  intro h4 k4 d4 vs4 hS4 F4 N5
  show wpC (model PySem.Challenge.rw_pm0034_02.row.prog w) (ktrTop dp un gd (Str.ofString "law") lawScope2 L a ccd (cells2 c1 c2) []) (execs (lawStmts2.drop 5) (envX (Str.ofString "law") lawScope2 L a ccd (cells2 c1 c2))) Q E _
  refine chunk_any 1 ?_
  refine law2_p5 B X T XB TB (x := dblT σ.t.txt) (jk := M3) (ys := heads4.map (· ++ dblT σ.t.txt)) hd5 hu5 (by omega) F4 N5 (.tail _ (.head _)) ho2' (.head _) hS4 (by rw [List.length_map]; exact (show (4 : Nat) ≤ 10 by decide)) (heads4_ok hC.st.good (by omega)) (heads3_ok hC.st.good) ?_
  intro h5 k5 F5 N6
  show wpC (model PySem.Challenge.rw_pm0034_02.row.prog w) (ktrTop dp un gd (Str.ofString "law") lawScope2 L a ccd (cells2 c1 c2) []) (execs (lawStmts2.drop 6) (envX (Str.ofString "law") lawScope2 L a ccd (cells2 c1 c2))) Q E _
  obtain ⟨M5, eM5, F5⟩ := fr_ext F5
  refine wpC_any ?_
  refine law2_p6 B X T XB TB (x := dblT σ.t.txt) (Y := σ.t.txt) (tx := σ.tt) (jk := M5) hd5 hu5 (by omega) hTl (fr_map [Str.ofString "text"] F5 (by subst eM5 eM3 eM2; walk_at "M map1") (by walk_at "M fr2")) N6 (.tail _ (.head _)) ho2' ⟨tell_0 hC.st.good⟩ ⟨tell_1 hC.st.good⟩ ⟨tell_2 hC.st.good⟩ ?_
  intro h6 k6' m6 l6 F6 N7 hs6
  exact hret _ _ _ _ _ F6 N7 (hs6 _ (.tail _ (.tail _ h166)))
end
end
section
theorem lines_EC2_0 : True := by
  k_with_none
  k_with "execs cons" => ((refine f_execs ?_; intro qk))
  k_with "eval BinOp" => ((refine f_BinOp ?_; intro qk))
  k_with "exec Assign" => ((refine f_Assign ?_; intro qk))
  k_with "eval Subscript" => ((refine f_Subscript ?_; intro qk))
  k_with "isTrue Compare" => ((refine f_Compare ?_; intro qk))
  k_with "exec If" => ((refine f_If ?_; intro qk))
  k_with "eval Call" => (((fail_if_success (with_reducible show wpAny _ _ (eval (Expr.Call (Expr.Attribute _ _ _) _ _ _) _) _ _ _)); refine f_Call ?_; intro qk))
  k_with "spliced" => ((refine f_args ?_; intro qk))
  k_with "callWith" => ((refine f_method1 ?_; intro qk))
  k_with "exec Return some" => ((refine f_Return ?_; intro qk))
  k_with "eval Tuple" => ((refine f_Tuple ?_; intro qk))
  k_with "eval List" => ((refine f_List ?_; intro qk))
  k_with "eval IfExp" => ((refine f_IfExp ?_; intro qk))
  k_with "storeName" => ((k_here; k_dflt (refine' f_store ?F ?N ?_ ?a ?b; (case F => k_asm); (case N => k_asm); (case a => rfl); (case b => rfl); k_whole; intro m' h' F' N'; (try k_sweep))))
  k_with "M map1" => (first
    | (refine map_same ?_; with_unfolding_all rfl)
    | ((repeat' (refine List.forall_mem_cons.mpr (And.intro ?_ ?_))); (all_goals first | rfl | exact List.forall_mem_nil _)))
  k_with "M map2" => (first
    | (refine SameOut.both (b := fun _ => none) ?_ ?_ <;> (repeat (refine SameOut.upd ?_ (by with_unfolding_all rfl))) <;> exact SameOut.lookup rfl)
    | (refine' SameOut.both (b := ?kb) ?k1 ?k2; (case k1 => ((repeat (refine SameOut.upd ?_ (by with_unfolding_all rfl))); exact SameOut.refl)); (case k2 => ((repeat (refine SameOut.upd ?_ (by with_unfolding_all rfl))); exact SameOut.refl)))
    | (refine' SameOut.both (b := ?kb) ?k1 ?k2; (case k2 => ((repeat (refine SameOut.upd ?_ (by with_unfolding_all rfl))); exact SameOut.refl)); (case k1 => ((repeat (refine SameOut.skip ?_)); (repeat (refine SameOut.upd ?_ (by with_unfolding_all rfl))); exact SameOut.refl)))
    | (intro y hy; (repeat (refine (if_neg (ne_of_out hy (by with_unfolding_all rfl))).trans ?_)); (refine Eq.symm ?_); (repeat (refine (if_neg (ne_of_out hy (by with_unfolding_all rfl))).trans ?_)); first | rfl | exact lookup_out rfl hy | exact (lookup_out rfl hy).symm | exact (lookup_out rfl hy).trans (lookup_out rfl hy).symm))
  k_with "M fill" => ((
    have kk : PySem.Challenge.rw_pm0034_02 = PySem.Challenge.rw_pm0034_02 ∧ KK.heap_1 = KK.heap_1 := ⟨rfl, rfl⟩
    revert kk
    k_fill
    intro kk
    clear kk))
  k_with "M enter" => ((
    refine wpAny_call ?_
    k_dflt (refine' code_def ?k1 ?k2 ?k3 ?k4 ?k5 ?kA ?kF ?kK ?k6 ?k7 ?k8 ?k9 ?kB ?_ ?c2 ?c3 ?c4 ?c5; (case kA => exact rfl); (case kF => exact rfl); (case kK => assumption); (case k1 => k_asm); (case k2 => k_asm); (case k3 => k_asm); (case k4 => k_asm); (case k5 => k_asm); (case k6 => k_is); (case k7 => k_is); (case k8 => ((try dsimp only); omega)); (case k9 => first | exact BindsTo.of_eq rfl | (refine' kp_binds ?kx ?ke; (case kx => first | (refine' myIn ?kf ?ki; (case kf => with_reducible assumption); (case ki => with_reducible assumption)) | k_in); (case ke => exact fun _ => rfl)) | exact binds_K (by first | (refine' myIn ?kf ?ki; (case kf => with_reducible assumption); (case ki => with_reducible assumption)) | k_in) rfl (by k_is) rfl rfl rfl); (case c5 => decide); (case kB => exact locs rfl); (case c2 => exact rfl); (case c3 => exact rfl); (case c4 => exact rfl); k_whole; intro g' L' h' FG' F' N' B' X' T'; (have D' := kts_dict B' (by assumption) FG' rfl); (try dsimp only); (try k_lift B'); (refine let_AE (f := execs _) ?_; intro vk ak); (refine f_QE ?_; intro qk ek))))
  k_with "M enter0" => ((
    refine wpAny_call ?_
    k_dflt (refine' code_defS0X ?k1 ?k2 ?k3 ?k4 ?k5 ?kA ?kF ?kK ?k6 ?k7 ?k8 ?k9 ?kB ?_ ?c2 ?c3 ?c4 ?c5; (case kA => exact rfl); (case kF => exact rfl); (case kK => assumption); (case k1 => k_asm); (case k2 => k_asm); (case k3 => k_asm); (case k4 => k_asm); (case k5 => k_asm); (case k6 => k_is); (case k7 => k_is); (case k8 => ((try dsimp only); omega)); (case k9 => first | exact BindsTo.of_eq rfl | (refine' kp_binds ?kx ?ke; (case kx => first | (refine' myIn ?kf ?ki; (case kf => with_reducible assumption); (case ki => with_reducible assumption)) | k_in); (case ke => exact fun _ => rfl)) | exact binds_K (by first | (refine' myIn ?kf ?ki; (case kf => with_reducible assumption); (case ki => with_reducible assumption)) | k_in) rfl (by k_is) rfl rfl rfl); (case c5 => decide); (case kB => exact locs rfl); (case c2 => exact rfl); (case c3 => exact rfl); (case c4 => exact rfl); k_whole; intro g' L' h' FG' F' N' B' X' T' D'; (try dsimp only); (try k_lift B'); (refine let_AE (f := execs _) ?_; intro vk ak); (refine f_QE ?_; intro qk ek))))
  trivial
local macro_rules | `(tactic| k_mem) => `(tactic| first | with_reducible assumption | (refine mem_in ?_; with_reducible assumption))
theorem lines_EC2_1 : True := by
  k_with "subscriptTail Name Constant ref int" => ((k_here; refine item_tupleT (News.isTup (by assumption) (by k_mem)) (by decide) (by decide) (by rfl) (by rfl) ?_))
  k_with "subscriptTail Name Constant ref int" => ((k_here; (with_reducible rename StrsAre _ _ => hSA); refine item_strsA (News.isList (by assumption) (by k_mem)) hSA (by decide) (by first | omega | (simp only [List.length_map]; omega)) (by decide) ?_; intro t'))
  k_with "call type:ValueError" => ((refine call_ValueError_made ?_; intro _ _ _))
  k_with "exec While Compare Name cons nil" => (refine Hold.mk ?_)
  k_with "exec While Compare" => (refine Hold.mk ?_)
  k_with "exec While Compare cons nil" => (refine Hold.mk ?_)
  k_with "exec While" => (refine Hold.mk ?_)
  k_with "binaryOp FloorDiv int int" => ((k_here; (with_reducible refine floordiv_pos ?kb1 ?kb2 ?_); (case kb1 => decide); (case kb2 => decide +kernel)))
  k_with "WhlIf" => ((refine whlIf_dec ?_ ?_ <;> intro _))
  k_with "subscriptTail Name Name ref int" => ((k_here; first
    | ((with_reducible rename StrsAre _ _ => hSA); refine item_strsA (News.isList (by assumption) (by k_mem)) hSA (by omega) (by omega) (by omega) ?_; intro t')
    | ((with_reducible rename IntsAre _ _ => hSA); refine item_intsA (News.isList (by assumption) (by k_mem)) hSA (by omega) (by omega) (by omega) ?_; intro t')))
  k_with "call builtin:len" => ((k_here; (with_reducible show wpAny _ _ (call (Value.builtin "len") [Value.ref _]) _ _ _); first
    | ((with_reducible rename StrsAre _ _ => hSA); refine len_strsA (News.isList (by assumption) (by k_mem)) hSA (by omega) ?_)
    | ((with_reducible rename IntsAre _ _ => hSA); refine len_intsA (News.isList (by assumption) (by k_mem)) hSA (by omega) ?_)))
  k_with "subscriptTail Name Constant ref int" => ((k_here; refine item_listL (News.isList (by assumption) (by k_mem)) (by decide) (by decide) (by rfl) ?_))
  trivial
local macro_rules | `(tactic| k_mem) => `(tactic| first | with_reducible assumption | (refine mem_in ?_; with_reducible assumption))
theorem lines_EC2_2 : True := by
  k_with "call builtin:len" => ((k_here; (with_reducible show wpAny _ _ (call (Value.builtin "len") [Value.ref _]) _ _ _); k_dflt (refine' len_intsA (News.isList ?kN ?kM) ?kI ?kf ?_; (case kN => with_reducible assumption); (case kM => k_mem); (case kI => with_reducible assumption); (case kf => omega))))
  k_with "subscriptTail List cons Slice ref ref" => ((k_here; k_dflt (refine' slice_LA ?zF ?zN ?zl ?zp ?zq ?zz ?ze ?_; (case zF => k_asm); (case zN => k_asm); (case zl => k_mem); (case zp => kmk_part); (case zq => kmk_part); (case zz => exact Nat.le_of_ble_eq_true rfl); (case ze => exact kms_from (by omega))); intro D' h' F' N' l1; (try simp only [AllLt, and_true] at l1); (try k_sweep)))
  k_with "binaryOp Add ref ref" => ((k_here; (with_reducible show wpAny _ _ (binaryOp Operator.Add (Value.ref _) (Value.ref _)) _ _ _); k_dflt (refine' add_listsA ?laF ?laN ?laA ?laB ?z ?_; (case laF => with_reducible assumption); (case laN => with_reducible assumption); (case laA => k_mem); (case laB => k_mem); (case' z => try ((simp only [List.length_append, List.length_cons, List.length_nil, List.length_drop]; omega))); (rotate_left)); intro D' h' F' N' l1; (try simp only [AllLt, and_true] at l1); (try k_sweep)))
  k_with "execs nil" => ((refine wpAny_execs_nil ?_))
  trivial
theorem pick24 {h₀ h : Heap} {L dn c1 c2 c6 : Addr} {od o1 o2 o6 : Obj} {r : Ldg} (N : News h₀ L h ((dn, od) :: r)) (h2 : List.Mem (c2, o2) r) (h1 : List.Mem (c1, o1) r) (h6 : List.Mem (c6, o6) r) : News h₀ L h [(dn, od), (c2, o2), (c1, o1), (c6, o6)] := by
  refine news_sub N (fun p hp => ?_)
  simp only [List.mem_cons, List.not_mem_nil, or_false] at hp
  rcases hp with rfl | rfl | rfl | rfl
  · exact .head _
  · exact .tail _ h2
  · exact .tail _ h1
  · exact .tail _ h6
/-- the end, the tables laid aside -/
theorem ghost_end {cw : ClaimW} {cl : Str → Option Addr} {mean : ExcName → Option Value} {args : List WData} {s₁ s' : Shared} {tabs : List (Addr × Addr)} {r : Result} (hT : TabsAt tabs s₁.heap) (hr : ∀ a x, cw.raises a x = false)
    (h : GoodW cw cl mean args { s₁ with heap := ghostOf s₁.heap tabs } r s') (hgr : GrownAll tabs s'.heap) : GoodWG cw cl mean args s₁ r s' := by
  obtain ⟨hc, hk, hos, hg⟩ := h
  have keep : ∀ b o, b ∉ tabs.map (·.2) → s₁.heap.get? b = some o → s'.heap.get? b = some o := fun b o hb e => hk b o (ghost_ne e hb)
  have grown : ∀ b o, b ∈ tabs.map (·.2) → s₁.heap.get? b = some o → isCodeTable s₁.heap b ∧ o = tabObj #[] ∧ ∃ ps, s'.heap.get? b = some (tabObj ps) := by
    intro b o hb e
    obtain ⟨q, hq, rfl⟩ := List.mem_map.mp hb
    have e2 := (hT q hq).2
    rw [e] at e2
    exact ⟨((hT q hq).1.tab (hT q hq).2).isCodeTable, Option.some.inj e2, hgr.get q hq⟩
  refine ⟨?_, ⟨?_, ?_⟩, hos, .of_eq hg⟩
  · rcases hc with ⟨v, d, as, r1, r2, r3, r4, r5⟩ | ⟨e, ob, x, _, _, _, r4, _⟩
    · refine .inl ⟨v, d, as, r1, r2, r3, r4, fun q => ⟨(r5 q).1, fun a ha => ?_⟩⟩
      cases q1 : s₁.heap.get? a with
      | none => rfl
      | some o =>
        exfalso
        by_cases hb : a ∈ tabs.map (·.2)
        · obtain ⟨_, _, ps, hP⟩ := grown a o hb q1
          exact absurd ha (readsW_apart hP rfl r3)
        · have e3 := (r5 q).2 a ha
          rw [show (ghostOf s₁.heap tabs).get? a = some o from ghost_ne q1 hb] at e3
          cases e3
    · rw [hr] at r4; cases r4
  · intro b o e
    by_cases hb : b ∈ tabs.map (·.2)
    · obtain ⟨ht, rfl, ps, hP⟩ := grown b o hb e
      exact .inr (.inl ⟨ht, rfl, #[], ps, rfl, by rw [Array.empty_append]; exact hP⟩)
    · exact .inl (keep b o hb e)
  · intro b o e
    by_cases hb : b ∈ tabs.map (·.2)
    · obtain ⟨_, _, ps, hP⟩ := grown b o hb e
      exact ⟨_, hP⟩
    · exact ⟨o, keep b o hb e⟩
/- the twins that the head shall not lay: their names are taken -/
theorem ent.tw1001812845318439239 : True := trivial
theorem ent.tw10295008580627740225 : True := trivial
theorem ent.tw10510438458574914626 : True := trivial
theorem ent.tw10583607000972789515 : True := trivial
theorem ent.tw10729062925639550616 : True := trivial
theorem ent.tw10818613204120442996 : True := trivial
theorem ent.tw10869375691930559665 : True := trivial
theorem ent.tw10874421164506754273 : True := trivial
theorem ent.tw1093658620362908362 : True := trivial
theorem ent.tw10949624656716037343 : True := trivial
theorem ent.tw10958061025027715889 : True := trivial
theorem ent.tw10992592450313219679 : True := trivial
theorem ent.tw11148115983323863130 : True := trivial
theorem ent.tw11257841790516057740 : True := trivial
theorem ent.tw11291609993749100930 : True := trivial
theorem ent.tw11356663266649361772 : True := trivial
theorem ent.tw11429129023914096567 : True := trivial
theorem ent.tw1145989232014901681 : True := trivial
theorem ent.tw11655246345310752841 : True := trivial
theorem ent.tw11701616486664986339 : True := trivial
theorem ent.tw11876231214737615546 : True := trivial
theorem ent.tw11907130770946733735 : True := trivial
theorem ent.tw12150356170491988574 : True := trivial
theorem ent.tw12204415563378841257 : True := trivial
theorem ent.tw12388912854107882591 : True := trivial
theorem ent.tw12462445518292977384 : True := trivial
theorem ent.tw12574925566878204980 : True := trivial
theorem ent.tw12578151562693496285 : True := trivial
theorem ent.tw12590180780119857450 : True := trivial
theorem ent.tw12695473408397306544 : True := trivial
theorem ent.tw12734911647419630985 : True := trivial
theorem ent.tw12876918396041080221 : True := trivial
theorem ent.tw12892755558628803750 : True := trivial
theorem ent.tw12985108035480580945 : True := trivial
theorem ent.tw1308998411234956552 : True := trivial
theorem ent.tw13199158980435300145 : True := trivial
theorem ent.tw13432968655758447626 : True := trivial
theorem ent.tw1352465541377036375 : True := trivial
theorem ent.tw1363416733154142822 : True := trivial
theorem ent.tw1373631699979116593 : True := trivial
theorem ent.tw13882549971913726184 : True := trivial
theorem ent.tw13905818789508939664 : True := trivial
theorem ent.tw13916356613168261786 : True := trivial
theorem ent.tw14111626740852556293 : True := trivial
theorem ent.tw14192836532788278720 : True := trivial
theorem ent.tw14245994812190181737 : True := trivial
theorem ent.tw14467620865752009853 : True := trivial
theorem ent.tw14622243764988241408 : True := trivial
theorem ent.tw1473326306436843419 : True := trivial
theorem ent.tw14745009381108952041 : True := trivial
theorem ent.tw14842061652216314964 : True := trivial
theorem ent.tw1499809783696461706 : True := trivial
theorem ent.tw15012419659496536121 : True := trivial
theorem ent.tw15114520583717274073 : True := trivial
theorem ent.tw1516465837253012554 : True := trivial
theorem ent.tw15367471717129635425 : True := trivial
theorem ent.tw15653543348212439032 : True := trivial
theorem ent.tw15724696601769196168 : True := trivial
theorem ent.tw15780559988839259520 : True := trivial
theorem ent.tw15925379042571917565 : True := trivial
theorem ent.tw15944358930451005922 : True := trivial
theorem ent.tw16172999034200545164 : True := trivial
theorem ent.tw163006659497585845 : True := trivial
theorem ent.tw1636363617290765803 : True := trivial
theorem ent.tw16407391350425336256 : True := trivial
theorem ent.tw16466561070405325201 : True := trivial
theorem ent.tw1652354880322932105 : True := trivial
theorem ent.tw16542025787011736414 : True := trivial
theorem ent.tw16588165971427943659 : True := trivial
theorem ent.tw1664386209118569556 : True := trivial
theorem ent.tw16907470952236575451 : True := trivial
theorem ent.tw16928209492349891196 : True := trivial
theorem ent.tw1698657352223459569 : True := trivial
theorem ent.tw17007612951780779675 : True := trivial
theorem ent.tw1714110176373728574 : True := trivial
theorem ent.tw1715766599821997538 : True := trivial
theorem ent.tw17179242877527149779 : True := trivial
theorem ent.tw17230154468816275612 : True := trivial
theorem ent.tw17275637379426211968 : True := trivial
theorem ent.tw17446647621500494670 : True := trivial
theorem ent.tw17489713426283772547 : True := trivial
theorem ent.tw17563570890829398819 : True := trivial
theorem ent.tw17784896917641293491 : True := trivial
theorem ent.tw17804288696469691632 : True := trivial
theorem ent.tw1781133474369784336 : True := trivial
theorem ent.tw1782018966378916780 : True := trivial
theorem ent.tw17913069728290004601 : True := trivial
theorem ent.tw18039417654669790672 : True := trivial
theorem ent.tw18203195787516250047 : True := trivial
theorem ent.tw18286249800897913634 : True := trivial
theorem ent.tw18363357723535809825 : True := trivial
theorem ent.tw18411059314256491719 : True := trivial
theorem ent.tw189906275203427425 : True := trivial
theorem ent.tw2026702123813229660 : True := trivial
theorem ent.tw2042380392723975286 : True := trivial
theorem ent.tw2206173332334135606 : True := trivial
theorem ent.tw2416441627814563113 : True := trivial
theorem ent.tw2541269205139136696 : True := trivial
theorem ent.tw2583563571068428837 : True := trivial
theorem ent.tw268349278618165966 : True := trivial
theorem ent.tw2771316829565461559 : True := trivial
theorem ent.tw27972703828295635 : True := trivial
theorem ent.tw2952821138061978621 : True := trivial
theorem ent.tw2958047382185442779 : True := trivial
theorem ent.tw2981542330891961723 : True := trivial
theorem ent.tw302925282514158191 : True := trivial
theorem ent.tw3113790329640407284 : True := trivial
theorem ent.tw3164675063247471379 : True := trivial
theorem ent.tw3574783686334789554 : True := trivial
theorem ent.tw3785823491209523438 : True := trivial
theorem ent.tw3789240652969731326 : True := trivial
theorem ent.tw393718415690007529 : True := trivial
theorem ent.tw3963461674482965927 : True := trivial
theorem ent.tw4078818987496997734 : True := trivial
theorem ent.tw4162229239276148266 : True := trivial
theorem ent.tw4210206887473176571 : True := trivial
theorem ent.tw4270661790439858547 : True := trivial
theorem ent.tw4341923390679760871 : True := trivial
theorem ent.tw4424947311138813309 : True := trivial
theorem ent.tw4501323713867939646 : True := trivial
theorem ent.tw4602870790579085505 : True := trivial
theorem ent.tw4730012468683516458 : True := trivial
theorem ent.tw479306314723591682 : True := trivial
theorem ent.tw4841718795713881360 : True := trivial
theorem ent.tw4851271275485956769 : True := trivial
theorem ent.tw4924704485362817318 : True := trivial
theorem ent.tw5145174064968752092 : True := trivial
theorem ent.tw5149275079812578431 : True := trivial
theorem ent.tw5713655896999693038 : True := trivial
theorem ent.tw5784423761915382462 : True := trivial
theorem ent.tw5823907512306456361 : True := trivial
theorem ent.tw5896502411272292838 : True := trivial
theorem ent.tw5958504753667070865 : True := trivial
theorem ent.tw6202851732022225869 : True := trivial
theorem ent.tw6258093155284320175 : True := trivial
theorem ent.tw6426901304308559227 : True := trivial
theorem ent.tw646620506533828010 : True := trivial
theorem ent.tw6562632098338578410 : True := trivial
theorem ent.tw6693376016083897255 : True := trivial
theorem ent.tw6697463210497724188 : True := trivial
theorem ent.tw6739336159365448277 : True := trivial
theorem ent.tw6953285973945434141 : True := trivial
theorem ent.tw7040312588125624656 : True := trivial
theorem ent.tw7294187202514679086 : True := trivial
theorem ent.tw7366343980239508966 : True := trivial
theorem ent.tw7376574907646149171 : True := trivial
theorem ent.tw7619821507545825546 : True := trivial
theorem ent.tw7673044618739906305 : True := trivial
theorem ent.tw7820406090498821349 : True := trivial
theorem ent.tw7847812900268754659 : True := trivial
theorem ent.tw7867800897534519721 : True := trivial
theorem ent.tw7916063436755054448 : True := trivial
theorem ent.tw8323785048828036238 : True := trivial
theorem ent.tw8334166801288535734 : True := trivial
theorem ent.tw8557860023024666854 : True := trivial
theorem ent.tw8652980689716065753 : True := trivial
theorem ent.tw8662977992423808911 : True := trivial
theorem ent.tw877696312361013255 : True := trivial
theorem ent.tw8856551998397633497 : True := trivial
theorem ent.tw8910082544342090766 : True := trivial
theorem ent.tw8991041409719488273 : True := trivial
theorem ent.tw901652852892279037 : True := trivial
theorem ent.tw9083101432570292833 : True := trivial
theorem ent.tw921565586725828724 : True := trivial
theorem ent.tw9302528812593556092 : True := trivial
theorem ent.tw9408631248412832856 : True := trivial
theorem ent.tw9586656179246055992 : True := trivial
theorem ent.tw9686484013550378922 : True := trivial
theorem ent.tw9718144307104509591 : True := trivial
theorem ent.tw9848687169120497713 : True := trivial
theorem ent.tw9869077265322623275 : True := trivial
set_option Elab.async true
theorem ent : PySem.Challenge.rw_pm0034_02.Holds := by
  w_on
  o_law
  o_head (kmHook KK.heap_1 [2, 3, 15, 22, 23, 24, 25, 28, 35, 36, 37, 40, 47, 48, 49, 52, 54, 55, 57, 58, 59, 61, 62, 64, 65, 66, 67, 68, 70, 71, 73, 74, 75, 76, 77, 79, 80, 82, 83, 84, 85, 86, 88, 89, 91, 92, 93, 94, 95, 97, 98, 100, 101, 102, 104, 105, 107, 108, 109, 111, 112, 114, 115, 116, 118, 119, 121, 122, 123, 125, 126, 128, 129, 130, 132, 133, 135, 136, 137, 139, 140, 142, 143, 144, 146, 147, 149, 150, 151, 153, 154, 156, 157, 158, 160, 161, 163, 164, 165, 167, 168, 170, 171, 172, 175, 176] (fun _ => by kernel_rfl) [166])
  (case hw => w_witness2)
  w_top off
  k_fill
  intro w s₀ s₁ mg mb G Y a o pm cd doc dV kV ho hdat hcd hD hmg hg args vals as hpre hlay hrd hwl hlo
  have KX := km_in_of Y
  have hT8 := km_tabs_of Y
  have X := (Ground.X G).1
  have V := (Ground.X G).2
  have hT9 : TabsAt ([(170, 166)] : List (Addr × Addr)) s₁.heap := List.forall_mem_cons.mpr ⟨⟨codeHd_of_K (c := 170) (P := 166) KX (by kernel_rfl), hT8 166 (.head _)⟩, fun _ h => nomatch h⟩
  refine Ground.open G ?_
  intro T B D TE TW
  try (refine guard_noD D (by decide +kernel) ?_; clear D)
  obtain ⟨_, _, M⟩ := bmod_of_top T
  have TA := at_of_top T
  try (obtain ⟨_, _, he, B0⟩ := based_of_top T rfl hmg ho hdat; have he' : cd = _ := he; subst he'; clear he)
  clear hmg
  wrow_args hpre hlay hrd hwl hlo
  refine codeC_mono (R := fun r s' => GoodW _ _ _ _ { s₁ with heap := ghostOf s₁.heap [(170, 166)] } r s' ∧ GrownAll [(170, 166)] s'.heap) ?_ (fun _ _ g => ghost_end hT9 (fun _ _ => rfl) g.1 g.2)
  have he := Dflts.none hD rfl; subst he; have he := Dflts.noKw hD; subst he
  refine call_cells_C (by decide) ho (fd_plain hdat) (Top.nolimit T) hcd rfl (kinds_of (by kinds_ok)) (by decide) fun h₁ tk₁ cells F N0 X0 => ?_
  cells_open X0
  rename_i wd wp hwd hwp
  clear hdat
  have KX9 := ghost_K hT9 KX (by kernel_rfl)
  have T9 := ghost_top hT9 T
  have K9 := ghost_below hT9
  have N9 := ghost_news hT9 F N0
  have F9 := ghost_fr hT9 F
  have l9 : @LT.lt Nat _ 166 s₁.heap.objs.size := ghost_lt hT9 F _ (.head _)
  kn_lists hT9
  simp only [tabNews, List.map_cons, List.map_nil, List.nil_append, List.cons_append] at N9
  clear N0 F KX T X
  k_drop
  refine execs_pre (pre := [_]) (rest := _) ?_
  k_fold
  k_steps
  case' z => ((with_reducible rename IntsAre _ _ => hIz); have q := ints_length hIz; rw [List.length_take] at q; (simp only [List.length_cons, List.length_nil]); omega)
  (with_reducible rename Fr _ _ _ _ => kF)
  (with_reducible rename News _ _ _ _ => kN)
  have hn2 : wd.data = .cell none := by with_unfolding_all exact hwd
  have hn1 : wp.data = .cell none := by with_unfolding_all exact hwp
  clear hwd hwp X0
  refine' law2_rest (o1 := wp) (o2 := wd) (A₀ := callerA) K9 KX9 T9 KX9 T9 ?a1 ?a2 ?a11 ?a3 kF (pick24 kN ?b2 ?b1 ?b6) ?a5 ?a6 ?a7 hn1 hn2 (intsAre_append ?a8 (by assumption)) ?a9 ?a10
  case a8 => (repeat' constructor)
  case a1 => decide +kernel
  case a2 => decide +kernel
  case a3 => passes_own
  case b2 => (repeat (first | exact List.Mem.head _ | refine List.Mem.tail _ ?_))
  case b1 => (repeat (first | exact List.Mem.head _ | refine List.Mem.tail _ ?_))
  case b6 => (repeat (first | exact List.Mem.head _ | refine List.Mem.tail _ ?_))
  case a11 => (try dsimp only); omega
  case a5 => omega
  case a6 => omega
  case a7 => omega
  case a9 => (simp only [List.length_append, List.length_take, List.length_drop, List.length_cons, List.length_nil]; omega)
  case a10 =>
    intro h' tk m' l' tb F' N' hm
    refine ⟨?_, GrownAt.of N' hm, trivial⟩
    k_steps
set_option Elab.async false
end
end Mine
end
set_option maxRecDepth 100000 in
theorem PySem.Challenge.cw_pm0034_02_holds : PySem.Challenge.rw_pm0034_02.Holds :=
  Mine.ent
