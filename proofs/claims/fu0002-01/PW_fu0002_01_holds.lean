import PyProof.Rows.All
import Wide.All
import OpenK.AllK
import Wide.FinOn
import Lean
import PySem.Challenge.RW_fu0002_01
set_option Elab.async false
section
theorem Mine.off_Wc : True := by
  w_top off
  trivial
open PySem PySem.W PyProof.Rows PySem.Calls PySem.Spec
open Sem (wp)
set_option Elab.async false
set_option maxRecDepth 100000
namespace Mine

/-- the claim's caller stands somewhere below -/
def Called (Γ : PySem.Ctx) : Prop := (Γ.below.any fun x => x.1.isCaller) = true
theorem Called.enter {Γ : PySem.Ctx} (h : Called Γ) (c : Code) (hd : Option Value) (p : Pos) : Called (Γ.enter c hd p) := by
  show (((Γ.code, p) :: Γ.below).any fun x => x.1.isCaller) = true
  rw [List.any_cons, show (Γ.below.any fun x => x.1.isCaller) = true from h, Bool.or_true]
theorem Called.goto {Γ : PySem.Ctx} (h : Called Γ) (c : Code) : Called (Γ.goto c) := h

/-- as wpAny, where the claim's caller is on the stack -/
def wpC {α : Type} (M : Model) (A : Around) (t : Sem α) (Q : α → Shared → Prop) (E : Value → Shared → Prop) (s : Shared) : Prop :=
  ∀ Γ p, Γ.In A → Called Γ → wp M Γ t (fun a _ s' => Q a s') (fun e _ s' => E e s') p s
def codeC (M : Model) (A : Around) (c : Code) (R : Result → Shared → Prop) (s : Shared) : Prop :=
  ∀ Γ p, Γ.code = c → Γ.Below A → Called Γ → wpCode M Γ R p s

section
variable {α β : Type} {M : Model} {A : Around} {E : Value → Shared → Prop} {s : Shared}
theorem wpC.of {t : Sem α} {Q : α → Shared → Prop} (h : wpAny M A t Q E s) : wpC M A t Q E s := fun Γ p hΓ _ => h Γ p hΓ
theorem codeC.of {c : Code} {R : Result → Shared → Prop} (h : codeAny M A c R s) : codeC M A c R s := fun Γ p hc hΓ _ => h Γ p hc hΓ
theorem wpC_mono {t : Sem α} {Q Q' : α → Shared → Prop} {E' : Value → Shared → Prop} (h : wpC M A t Q E s)
    (hQ : ∀ a s, Q a s → Q' a s) (hE : ∀ e s, E e s → E' e s) : wpC M A t Q' E' s :=
  fun Γ p hΓ hC => Sem.wp_mono M Γ t (fun a _ s => hQ a s) (fun e _ s => hE e s) p s (h Γ p hΓ hC)
theorem wpC_pure {a : α} {Q : α → Shared → Prop} (h : Q a s) : wpC M A (pure a) Q E s := fun _ _ _ _ => h
theorem wpC_bind {m : Sem α} {f : α → Sem β} {Q : β → Shared → Prop} (h : wpC M A m (fun a s' => wpC M A (f a) Q E s') E s) :
    wpC M A (m >>= f) Q E s := fun Γ p hΓ hC => by
  rw [Sem.wp_bind']
  exact Sem.wp_mono M Γ m (fun a p' s' h' => h' Γ p' hΓ hC) (fun _ _ _ h' => h') p s (h Γ p hΓ hC)
/-- the first part in the plain logic -/
theorem wpC_bindA {m : Sem α} {f : α → Sem β} {Q : β → Shared → Prop} (h : wpAny M A m (fun a s' => wpC M A (f a) Q E s') E s) :
    wpC M A (m >>= f) Q E s := wpC_bind (wpC.of h)
theorem wpC_onRaise {m : Sem α} {k : Value → Sem Unit} {Q : α → Shared → Prop}
    (h : wpC M A m Q (fun e s' => wpAny M A (k e) (fun _ s'' => E e s'') E s') s) : wpC M A (m.onRaise k) Q E s := fun Γ p hΓ hC => by
  rw [Sem.wp_onRaise]
  exact Sem.wp_mono M Γ m (fun _ _ _ h' => h') (fun e p' s' h' => h' Γ p' hΓ) p s (h Γ p hΓ hC)
theorem wpC_attempt {m : Sem α} {Q : Except Value α → Shared → Prop} (h : wpC M A m (fun a => Q (.ok a)) (fun e => Q (.error e)) s) :
    wpC M A m.attempt Q E s := fun Γ p hΓ hC => by rw [Sem.wp_attempt]; exact h Γ p hΓ hC
theorem wpC_holding {vs : List Value} {m : Sem α} {Q : α → Shared → Prop} (h : wpC M A m Q E s) : wpC M A (holding vs m) Q E s :=
  fun Γ p hΓ hC => by rw [Sem.wp_holding]; exact h Γ p hΓ hC
theorem wpC_operate {vs : List Value} {m : Sem Value} {Q : Value → Shared → Prop} (h : wpC M A m Q E s) : wpC M A (operate vs m) Q E s :=
  fun Γ p hΓ hC => by rw [Sem.wp_operate]; exact h Γ p hΓ hC
theorem wpC_standAt {pos : Pos} {Q : Unit → Shared → Prop} (h : Q () s) : wpC M A (standAt pos) Q E s := fun _ _ _ _ => h
theorem wpC_keep {vs : List Value} {m : Sem α} {Q : α → Shared → Prop} (h : wpC M A m Q E s) : wpC M A (m.keep vs) Q E s :=
  fun Γ p hΓ hC => by rw [Sem.wp_keep]; exact h Γ p hΓ hC
theorem codeC_mono {c : Code} {R R' : Result → Shared → Prop} (h : codeC M A c R s) (hR : ∀ r s, R r s → R' r s) : codeC M A c R' s :=
  fun Γ p hc hΓ hC => wpCode_mono hR (h Γ p hc hΓ hC)
theorem wpC_run {c : Code} {h : Option Value} {Q : Flow → Shared → Prop}
    (hc : codeC M (A.mark h) c (fun r s' => match r with | .ok f => Q f s' | .error e => E e s') s) (hnb : h ≠ some byPass := by intro x; cases x) :
    wpC M A (run c h) Q E s :=
  fun Γ p hΓ hC => by rw [Sem.wp_run]; exact hc _ p rfl (hΓ.enter c h p hnb) (hC.enter c h p)
theorem wpC_runValue {c : Code} {Q : Value → Shared → Prop}
    (hc : codeC M A c (fun r s' => match r with | .ok (.ret v) => Q v s' | .ok _ => False | .error e => E e s') s) :
    wpC M A (runValue c) Q E s := fun Γ p hΓ hC => by rw [Sem.wp_runValue]; exact hc _ p rfl (hΓ.enter c none p (by intro x; cases x)) (hC.enter c none p)
theorem wpC_call {f : Value} {pos : List Value} {kw : List (Str × Value)} {Q : Value → Shared → Prop}
    (hc : codeC M A (.call f ⟨pos, kw⟩) (fun r s' => match r with | .ok (.ret v) => Q v s' | .ok _ => False | .error e => E e s') s) :
    wpC M A (call f pos kw) Q E s := wpC_runValue hc
theorem codeC_of_tree {c : Code} {R : Result → Shared → Prop}
    (h : wpC M (A.under c) (M.den c) (fun fin s' => match fin with | .done f => R (.ok f) s' | .again c' => c'.quiet = true ∧ codeC M A c' R s')
      (fun e s' => R (.error e) s') s) : codeC M A c R s := fun Γ p hc hΓ hC => by
  rw [wpCode_iff_wp, hc]
  refine Sem.wp_mono M Γ _ (fun fin p' s' h' => ?_) (fun _ _ _ h' => h') p s (h Γ p (hc ▸ hΓ.in) hC)
  cases fin with
  | done f => exact h'
  | again c' => exact ⟨h'.1, h'.2 (Γ.goto c') p' rfl (hΓ.goto c') (hC.goto c')⟩
theorem codeC_loop {c : Code} {R : Result → Shared → Prop} (hq : c.quiet = true) (I : Nat → Shared → Prop)
    (turn : ∀ n s, I n s → wpC M (A.under c) (M.den c)
      (fun fin s' => match fin with
        | .done f => R (.ok f) s'
        | .again c' => (c' = c ∧ ∃ m, m < n ∧ I m s') ∨ (c'.quiet = true ∧ codeC M A c' R s')) (fun e s' => R (.error e) s') s)
    (n : Nat) (h : I n s) : codeC M A c R s := by
  induction n using Nat.strongRecOn generalizing s with
  | ind n ih =>
    refine codeC_of_tree (wpC_mono (turn n s h) (fun fin s' hf => ?_) fun _ _ h' => h')
    cases fin with
    | done f => exact hf
    | again c' =>
      rcases hf with ⟨rfl, m, hm, hI⟩ | hf
      · exact ⟨hq, ih m hm hI⟩
      · exact hf
end

section
variable {M : Model} {A : Around} {E : Value → Shared → Prop} {s : Shared} {env : Env}
theorem wpC_execs_nil {Q : Flow → Shared → Prop} (h : Q .next s) : wpC M A (execs [] env) Q E s := fun _ _ _ _ => h
theorem wpC_execs_cons {st rest} {Q : Flow → Shared → Prop}
    (h : wpC M A (exec st env) (fun f s' => match f with | .next => wpC M A (execs rest env) Q E s' | f => Q f s') E s) :
    wpC M A (execs (st :: rest) env) Q E s := by
  rw [execs_cons]
  refine wpC_bind (wpC_mono h (fun f s' h' => ?_) fun _ _ x => x)
  cases f <;> first | exact h' | exact wpC_pure h'
/-- a plain statement, then the rest -/
theorem wpC_execs_plain {st rest} {Q : Flow → Shared → Prop}
    (h : wpAny M A (exec st env) (fun f s' => match f with | .next => wpC M A (execs rest env) Q E s' | f => Q f s') E s) :
    wpC M A (execs (st :: rest) env) Q E s := wpC_execs_cons (wpC.of h)
theorem wpC_If {test body orelse pos} {Q : Flow → Shared → Prop}
    (h : wpAny M A (isTrue test env (eval test env))
      (fun b s₂ => if b then wpC M A (execs body env) Q E s₂ else wpC M A (execs orelse env) Q E s₂) E s) :
    wpC M A (exec (.If test body orelse pos) env) Q E s := by
  rw [exec_If]
  refine wpC_bind (wpC_standAt (wpC_bindA (wpAny_mono h (fun b s₂ h₂ => ?_) fun _ _ x => x)))
  cases b <;> exact h₂
theorem wpC_Expr {e pos} {Q : Flow → Shared → Prop} (h : wpC M A (eval e env) (fun v s' => match v with | .ref _ => False | _ => Q .next s') E s)
    (hi : interactive env = false := by rfl) (hs : swapsWith e none pos.line env = pure false := by rfl) :
    wpC M A (exec (.Expr e pos) env) Q E s := by
  rw [exec_Expr env e pos hi hs]
  refine wpC_bind (wpC_standAt (wpC_bind (wpC_mono h (fun v s' h' => ?_) fun _ _ x => x)))
  have hv : ∀ a, v ≠ .ref a := fun a hva => by subst hva; exact h'
  rw [dropValue_plain hv]
  refine wpC_pure ?_
  cases v <;> first | exact h' | exact (hv _ rfl).elim
theorem wpC_Assign_Name {x pos' value pos} {Q : Flow → Shared → Prop}
    (h : wpC M A (eval value env) (fun v s₁ => wpAny M A (storeName env x v) (fun _ => Q .next) E s₁) E s)
    (hs : swapsWith value (some (.Name x pos')) pos.line env = pure false := by rfl) :
    wpC M A (exec (.Assign [.Name x pos'] value pos) env) Q E s := by
  rw [exec_Assign_Name env x pos' value pos hs]
  refine wpC_bind (wpC_standAt (wpC_bind (wpC_mono h (fun v s₁ h₁ => wpC_bind (wpC_standAt (wpC_bind (wpC.of (wpAny_bindName (wpAny_mono h₁ (fun _ _ q => ?_) fun _ _ x => x)))))) fun _ _ x => x)))
  exact wpC_pure q
theorem wpC_Return_some {e pos} {Q : Flow → Shared → Prop} (h : wpC M A (eval e env) (fun v => Q (.ret v)) E s) :
    wpC M A (exec (.Return (some e) pos) env) Q E s := by
  rw [exec_Return_some]
  exact wpC_bind (wpC_standAt (wpC_bind (wpC_mono h (fun _ _ q => wpC_pure q) fun _ _ x => x)))
theorem wpC_tryStmt {body orelse : Sem Flow} {h₀ : ExceptHandler} {hs : List ExceptHandler} {Q : Flow → Shared → Prop}
    (h : wpC M A body (fun f s₁ => match f with | .next => wpAny M A orelse Q E s₁ | f => Q f s₁)
      (fun e s₁ => wpAny M A (noteFrame e env) (fun _ s₂ => wpAny M A (setFlight e none) (fun _ s₃ => wpAny M A (handleBy e env (h₀ :: hs)) Q E s₃) E s₂) E s₁) s) :
    wpC M A (tryStmt false body (h₀ :: hs) orelse [] env) Q E s := by
  unfold tryStmt
  simp only [List.isEmpty_nil, if_true, List.isEmpty_cons, Bool.false_and, Bool.false_eq_true, if_false]
  refine wpC_bind (wpC_attempt (wpC_mono h (fun f s₁ h₁ => ?_) fun e s₁ h₁ => ?_))
  · cases f <;> first | exact wpC.of h₁ | exact wpC_pure h₁
  · exact wpC.of (wpAny_bind (wpAny_mono h₁ (fun _ _ h₂ => wpAny_bind h₂) fun _ _ x => x))
theorem wpC_Try {body orelse : List Stmt} {h₀ : ExceptHandler} {hs : List ExceptHandler} {pos : Pos} {Q : Flow → Shared → Prop}
    (h : wpC M A (execs body env) (fun f s₁ => match f with | .next => wpAny M A (execs orelse env) Q E s₁ | f => Q f s₁)
      (fun e s₁ => wpAny M A (noteFrame e env) (fun _ s₂ => wpAny M A (setFlight e none) (fun _ s₃ => wpAny M A (handleBy e env (h₀ :: hs)) Q E s₃) E s₂) E s₁) s) :
    wpC M A (exec (.Try body (h₀ :: hs) orelse [] pos) env) Q E s := by
  rw [arm_exec_Try]
  exact wpC_bind (wpC_standAt (wpC_tryStmt h))
theorem wpC_runOwn {c : Code} {h : Option Value} {Q : Flow → Shared → Prop}
    (hc : codeC M (A.mark h) c (fun r s' => match r with | .ok f => Q f s' | .error e => cameBackBy M A env E e s') s) (hnb : h ≠ some byPass := by intro x; cases x) :
    wpC M A (runOwn c env h) Q E s := by
  unfold runOwn
  exact wpC_onRaise (wpC_run hc hnb)
/-- a loop: its source is plain, its turns are not -/
theorem wpC_For {target iter body orelse pos} {Q : Flow → Shared → Prop}
    (h : wpC M A (eval iter env) (fun x s₁ => wpAny M A (pyIter x) (fun it s₂ =>
      codeC M A (.forLoop target it body orelse env) (fun r s' => match r with | .ok f => Q f s' | .error e => cameBackBy M A env E e s') s₂) E s₁) E s)
    (hs : ∀ x, foldedSetIterable iter env x = pure x := by intro _; rfl) :
    wpC M A (exec (.For target iter body orelse pos) env) Q E s := by
  rw [exec_For]
  exact wpC_bind (wpC_standAt (wpC_bind (wpC_mono h (fun x s₁ h₁ => by
    rw [hs x]
    exact wpC_bind (wpC_pure (wpC_bind (wpC_standAt (wpC_bind (wpC_holding (wpC.of (wpAny_mono h₁ (fun it s₂ h₂ => wpC_runOwn h₂) fun _ _ x => x)))))))) fun _ _ x => x)))
end
end Mine
end
section
theorem Mine.off_Wint : True := by
  w_top off
  trivial
open PySem PySem.W PyProof.Rows PySem.Calls PySem.Spec
open Sem (wp)
set_option Elab.async false
set_option maxRecDepth 100000
namespace Mine
section
variable {α : Type} {M : Model} {A : Around} {E : Value → Shared → Prop} {s : Shared}
theorem called_mark {own : List String} {codes : List Code} (h : codes.any Code.isCaller = true) : pythonCodeMadeTheCall own codes = false := by
  unfold pythonCodeMadeTheCall
  have e : (!codes.any Code.isCaller) = false := by rw [h]; rfl
  exact Bool.and_eq_false_iff.mpr (.inl (Bool.and_eq_false_iff.mpr (.inl e)))
theorem wpC_markTheRefusal {own : List String} {e : Value} {Q : Unit → Shared → Prop} (h : Q () s) : wpC M A (markTheRefusal own e) Q E s := fun Γ p _ hC => by
  have hc : pythonCodeMadeTheCall own (((Γ.code, p) :: Γ.below).map (·.1)) = false := called_mark (by
    rw [List.map_cons, List.any_cons, List.any_map]
    have : (Γ.below.any (Code.isCaller ∘ fun x => x.1)) = true := hC
    rw [this, Bool.or_true])
  show wp M Γ (if pythonCodeMadeTheCall own (((Γ.code, p) :: Γ.below).map (·.1)) = true then _ else _) _ _ p s
  rw [hc]
  exact h
end
section
variable {prog : Program} {w : World} {A : Around} {E : Value → Shared → Prop} {s : Shared}
open NumText
theorem bytes_str (x : Str) (u : Tok) : (int_private% "bytesOf?") (.str x u) = pure none := rfl
theorem num_bad {x : Str} (hl : x.length ≤ 100) (hx : PySem.intText? x = none) (hall : ((numSeenOf x).length == (numTextOf x).length) = true) :
    (int_private% "readNumeral") 0 10 (numSeenOf x) = int_private% "Numeral.invalid" := by
  rcases read0 x (Nat.le_trans (seen_length x) (Nat.le_trans hl (by decide))) with ⟨n, h, _⟩ | ⟨_, h | ⟨i, _, h⟩⟩
  · rw [hx] at h; cases h
  · exact h
  · exact absurd hall h
theorem intFromText_bad {x : Str} {u : Tok} {Q : Value → Shared → Prop} (hh : A.handled = none) (hl : x.length ≤ 100) (hx : PySem.intText? x = none) (hall : ((numSeenOf x).length == (numTextOf x).length) = true)
    (hr : (reprText x).length ≤ 10000)
    (hE : ∀ h' tk e, Heap.NewExc s.heap h' e "ValueError" → E (.ref e) { s with heap := h', toks := tk }) :
    wpC (model prog w) A ((int_private% "intFromText") (.str x u) (numTextOf x) 10) Q E s := by
  have hs : (numSeenOf x).length ≤ 640 := Nat.le_trans (seen_length x) (Nat.le_trans hl (by decide))
  have hb := num_bad hl hx hall
  show wpC _ _ (do
    let limit ← if (numSeenOf x).length ≤ 640 then pure 0 else _
    _) _ _ _
  rw [if_pos hs]
  refine wpC_bind (wpC_pure ?_)
  dsimp only
  rw [show (List.takeWhile (fun x => x != 0) (numTextOf x)) = numSeenOf x from rfl, hb]
  dsimp only
  rw [bytes_str]
  refine wpC_bind (wpC_pure ?_)
  rw [if_neg (by simp)]
  refine wpC_bindA (wpAny_rule ?_)
  refine wpC_bind (wpC_pure ?_)
  dsimp only
  refine wpC_bindA (wpAny_pyRepr_str ?_ ?_)
  · refine wpC_bindA (wpAny_mkStr ?_ ?_)
    · refine wpC_bindA (wpAny_newExc_plain plainExc_ValueError fun h' e hm => ?_)
      exact wpC_bind (wpC_markTheRefusal (wpC.of (wpAny_raiseNew_none hh (hE h' _ e hm.newExc))))
    · have e : (Str.ofString (toString "invalid literal for int() with base " ++ toString 10 ++ toString ": ")).length ≤ 100 := by decide +kernel
      have e2 : (⟨(reprText x).cps.extract 0 200⟩ : Str).length ≤ 200 := by
        show ((reprText x).cps.extract 0 200).size ≤ 200
        rw [Array.size_extract]; omega
      rw [Str.length_append, sizeLine_eq]; omega
  · rw [sizeLine_eq]; omega
theorem new_tree (x : Str) (u : Tok) : Builtin.«int.__new__» ⟨[.type "int", .str x u], []⟩ = ((int_private% "intFromText") (.str x u) (numTextOf x) 10 >>= fun v => ret v) := by
  have f1 := F.conv_sub_int
  have f2 := F.madeHere_int
  have f3 : specialOf (.str x u) "__int__" = pure none := KIN.str_int
  have f4 : specialOf (.str x u) "__index__" = pure none := KIN.str_idx
  have f5 : specialOf (.str x u) "__trunc__" = pure none := KIN.str_trunc
  have h3 : callSpecial? (.str x u) "__int__" [] [] = pure none := by
    unfold callSpecial?
    rw [f3]; rfl
  have hf : (int_private% "intFromObject") (.str x u) = (int_private% "intFromText") (.str x u) (numTextOf x) 10 := by
    refine (congrArg (fun t => t >>= _) h3).trans ?_
    refine (congrArg (fun t => t >>= _) f4).trans ?_
    refine (congrArg (fun t => t >>= _) f5).trans ?_
    rfl
  refine (congrArg (fun t => t >>= _) f1).trans ?_
  refine (congrArg (fun t => t >>= _) f2).trans ?_
  refine (congrArg (fun t => t >>= _) hf).trans ?_
  rfl
theorem den_builtin {id : String} {args : Args} {b : Builtin} (hb : entryFor table id = some b) : (model prog w).den (.builtin id args) = b args := by
  show (match entryFor table id with | some b => b args | none => unsupported ((withoutEnding? id "#data").getD id)) = _
  rw [hb]
theorem den_call {f : Value} {args : Args} : (model prog w).den (.call f args) = callAny f args := rfl
theorem callAny_builtin {id : String} {args : Args} (h : checkBuiltinCall id args = pure ()) : callAny (.builtin id) args = pure (.again (.builtin id args)) := by
  show (do checkBuiltinCall id args; again (.builtin id args)) = _
  rw [h]; rfl
theorem callAny_type {T : String} {args : Args} : callAny (.type T) args = pure (.again (.builtin "type.__call__" { args with pos := .type T :: args.pos })) := rfl
theorem type_tree (v : Value) : ∃ k : Value → Sem PySem.Fin, Builtin.«type.__call__» ⟨[.type "int", v], []⟩ = (holding [.builtin "int.__new__"] (call (.builtin "int.__new__") [.type "int", v] []) >>= k) := by
  have ft := F.called_int
  refine ⟨?k, ?h⟩
  case h =>
  refine (congrArg (fun t => t >>= _) ft.made).trans ?_
  rfl
/-- int(text) refuses: the caller stands below, so no mark is laid -/
theorem callC_int_bad {x : Str} {u : Tok} {Q : Value → Shared → Prop} (hh : A.handled = none) (hl : x.length ≤ 100) (hx : PySem.intText? x = none) (hall : ((numSeenOf x).length == (numTextOf x).length) = true)
    (hr : (reprText x).length ≤ 10000)
    (hE : ∀ h' tk e, Heap.NewExc s.heap h' e "ValueError" → E (.ref e) { s with heap := h', toks := tk }) :
    wpC (model prog w) A (call (.type "int") [.str x u]) Q E s := by
  have e0 : (Code.call (.type "int") ⟨[.str x u], []⟩).cUnits = 1 := rfl
  refine wpC_call (codeC_of_tree ?_)
  rw [den_call, callAny_type]
  refine wpC_pure ⟨Code.quiet_builtin _ (by decide +kernel), codeC_of_tree ?_⟩
  rw [den_builtin F.entry_type_call]
  obtain ⟨k, e⟩ := type_tree (.str x u)
  rw [e, Around.under_plain (weight_type_call_type "int" [.str x u] []) (units_type_call_type "int" [.str x u] [])]
  refine wpC_bind (wpC_holding (wpC_call (codeC_of_tree ?_)))
  rw [den_call, callAny_builtin (F.newCall_int_1 (.str x u))]
  refine wpC_pure ⟨Code.quiet_builtin _ (by decide +kernel), codeC_of_tree ?_⟩
  rw [den_builtin F.entry_int_new, new_tree]
  refine wpC_bind (intFromText_bad ?_ hl hx hall hr hE)
  exact hh
end
end Mine
end
section
theorem Mine.off_Hd : True := by
  w_top off
  trivial
open PySem PySem.W PyProof.Rows PySem.Calls PySem.Spec
open Sem (wp)
set_option Elab.async false
set_option maxRecDepth 100000
namespace Mine
/-- the one context in which a claim's thread begins -/
abbrev foot : PySem.Ctx := ⟨.builtin "claim.caller" {}, none, none, [], none⟩
theorem foot_called (c : Code) (hd : Option Value) (p : Pos) : Called (foot.enter c hd p) := rfl
/-- the answer of the call that the claim's thread makes -/
def Answer (G : Result → Shared → Prop) : Result → Shared → Prop := fun r s' => match r with
  | .ok (.ret v) => G (.ok (.ret v)) s'
  | .ok _ => False
  | .error e => G (.error e) s'
theorem foot_wp {prog : Program} {w : World} {f : Value} {vs : List Value} {n : Str} {mg : Str → Option Value} {s : Shared} {G : Result → Shared → Prop}
    (hg : s.heap.Ns mainGlobals mg) (hf : mg n = some f) (h : codeC (model prog w) callerA (.call f ⟨vs, []⟩) (Answer G) s) :
    wp (model prog w) foot (do match ← nsGet mainNs n with
      | some f => do ret (← PySem.call f vs)
      | none => unsupported "claim.caller:no-such-global") (fun fin _ s' => ∃ v, fin = .done (.ret v) ∧ G (.ok (.ret v)) s') (fun e _ s' => G (.error e) s') default s := by
  rw [Sem.wp_bind']
  have e := wpAny_nsGet (M := model prog w) (A := callerA) (E := fun _ _ => False) (Q := fun r s' => r = some f ∧ s' = s) hg ⟨hf, rfl⟩ foot default caller_in
  refine Sem.wp_mono _ _ _ (fun r p s' hr => ?_) (fun _ _ _ x => x.elim) _ _ e
  obtain ⟨rfl, rfl⟩ := hr
  show wp _ foot (PySem.call f vs >>= fun v => ret v) _ _ p s'
  rw [Sem.wp_bind']
  show wp _ foot (runValue (.call f ⟨vs, []⟩)) _ _ p s'
  rw [Sem.wp_runValue]
  refine wpCode_mono (fun r s'' hr => ?_) (h (foot.enter (.call f ⟨vs, []⟩) none p) p rfl (caller_in.enter _ none p (by intro x; cases x)) (foot_called _ _ _))
  cases r with
  | error e => exact hr
  | ok fl =>
    cases fl with
    | ret v => exact ⟨v, rfl, hr⟩
    | _ => exact hr.elim

abbrev WalkC (q : Program) (loose : List Str) (XP : (Str → Option Value) → Heap → Prop) (YP : World → Heap → Prop) (r : RowW) (d : DefRec) (kwd : List (Str × PySem.Expr)) : Prop :=
  ∀ (w : World) (s₀ s₁ : Shared) (mg mb : Str → Option Value), Ground q loose r.records XP w s₀ mg mb s₁.heap → YP w s₁.heap → ∀ (a : Addr) (o : Obj) (pm cd doc dV kV : Value), s₁.heap.get? a = some o →
    o.data = .func { docDef d.name d.params d.body d.scope pm cd doc with defaults := dV, kwdefaults := kV } → s₁.heap.CodeRec cd d.name → Dflts mg s₁.heap d.params kwd dV kV → mg d.name = some (.ref a) → s₁.gens = #[] →
    ∀ (args : List WData) (vals : List Value) (as : List Addr), r.claim.pre args = true → WData.layableAll args = true → ReadsAllW r.records (classAt s₀.heap) s₁.heap vals args as → WellAll w.params s₁.heap vals args → (∀ a ∈ as, (a == sysModules) = false) →
      codeC (model r.prog w) callerA (.call (.ref a) ⟨vals, []⟩) (Answer fun res s' => GoodWG r.claim (classAt s₀.heap) (ExcName.means s₀.heap) args s₁ res s') s₁

theorem callFromC {c : ClaimW} {n : Str} {w : World} {s : Shared} {free : Addr → Prop} {gens : Prop} {kept : Heap → Prop} (hz : s.asleep) (hgens : s.gens = #[])
    (hspec : ∀ args, c.pre args = true → WData.layableAll args = true → ∀ ord : List DictEntry → List DictEntry, (∀ l, (ord l).Perm l) →
      ∃ vs s₁ mg f, layAllW c.records (classAt s.heap) w.params ord args s = some (vs, s₁) ∧ s₁.heap.Ns mainGlobals mg ∧ mg n = some f ∧
        codeC (model c.prog w) callerA (.call f ⟨vs, []⟩) (Answer fun res s' => c.Ends s args vs s₁ res s' ∧ s'.os = s.os ∧ AllBare s'.gens ∧ kept s'.heap) s₁) :
    c.CallFrom (fun vs => ⟨do match ← nsGet mainNs n with
      | some f => do ret (← PySem.call f vs)
      | none => unsupported "claim.caller:no-such-global", .builtin "claim.caller" {}, default, []⟩) w free gens kept s := by
  intro args hpre hlay ord hord
  obtain ⟨vs, s₁, mg, f, hlaid, hg, hf, hcode⟩ := hspec args hpre hlay ord hord
  have hal := layAllW_rest _ _ _ hlaid
  have hw := foot_wp hg hf hcode
  obtain ⟨k, r, s'', s', hsched, hrun, hfo, hcase, hos, hkp⟩ := wp_halts_full (M := model c.prog w) (R := fun r s' => c.Ends s args vs s₁ r s' ∧ s'.os = s.os ∧ kept s'.heap) (Shared.asleep_of_life hal.2.2.2 hz)
    (Sem.wp_mono _ _ _ (fun fin p s' h => by
      obtain ⟨v, rfl, h1, h2, h3, h4⟩ := h
      exact ⟨⟨h1, h2, h4⟩, leftWithCleanup_false_of_bare h3⟩) (fun e p s' h => ⟨⟨h.1, h.2.1, h.2.2.2⟩, leftWithCleanup_false_of_bare h.2.2.1⟩) _ _ hw)
  obtain ⟨eh, _, _, eo, _⟩ := Shared.forget_eq hfo
  have hcase := hcase.congr eh
  have hkp : kept s'.heap := by rw [eh]; exact hkp
  rw [← eo] at hos
  have hlife : s'.heap.life = s.heap.life := (runN_life _ _ _ hrun).trans hal.2.2.2
  refine ⟨vs, s₁, hlaid, k, _, s', hsched, ?_, (fun _ i x hx => by rw [hgens] at hx; simp at hx), hkp, by rw [hlife], Shared.rest_eq hos⟩
  rcases hcase with ⟨v, rfl, d1, d2, d3, d4, d5⟩ | ⟨e, ob, cls, rfl, d1, d2, d3, d4, d5⟩
  · exact .inl ⟨v, rfl, d1, d2, d3, fun b o y _ => d4 b o y, d5⟩
  · exact .inr ⟨e, ob, cls, rfl, d1, d2, d3, d4, fun b o y _ => d5 b o y⟩

/-- the head over a call that may look down to the claim's caller -/
theorem PySem.W.holds_open {r : OpenRow} {q : Program} {loose : List Str} {Xt : Shared → Bool} {XP : (Str → Option Value) → Heap → Prop} {α : Type} {Yf : Shared → α} {Ya : World → α} {YP : World → Heap → Prop} {d : DefRec} {kwd : List (Str × PySem.Expr)} {N : Nat}
    (left : LeftO r.prog q loose Xt Yf Ya N) (hY : ∀ w s, Yf s = Ya w → YP w s.heap) (hYk : ∀ w h h', YP w h → (∀ b o, h.get? b = some o → h'.get? b = some o) → YP w h')
    (hX : ∀ s, Xt s = true → XP (s.heap.nsMap mainGlobals) s.heap) (hXk : ∀ mg h h', XP mg h → (∀ b o, h.get? b = some o → h'.get? b = some o) → XP mg h')
    (hdef : defOf q r.name = some (d, kwd)) (hp : r.prog.theDef r.name = some (d.params, d.body, d.scope)) (hk : kwWritten? d.params.kwonlyargs d.params.kw_defaults = some kwd) (hRf : ∀ s, Xt s = true → RecFacts r.records s.heap) (hwr : (!r.writes || r.records.isEmpty) = true)
    (k1 : r.wellSaid = true) (ok : (chainsOk q && opensWell r.prog && (frees r.toRowW && r.within.isEmpty)) = true) (hb : r.prog.bare) (hw : r.toRowW.promised)
    (call : WalkC q loose XP YP r.toRowW d kwd) : r.Holds := by
  have ok0 := ok
  obtain ⟨ok, k5⟩ := Bool.and_eq_true_iff.mp ok
  obtain ⟨hch, o1⟩ := Bool.and_eq_true_iff.mp ok
  obtain ⟨k5, k6⟩ := Bool.and_eq_true_iff.mp k5
  obtain ⟨hsame, hu, ha, hap, hm⟩ := frees_parts k5
  refine ⟨k1, hw, ⟨⟨hb, o1, by show r.makers.map _ = []; rw [hm]; rfl⟩, hw.witness, fun w => ⟨(left.behind hX hch w).1, fun s' hs' => ?_⟩⟩⟩
  obtain ⟨s₀, hf, hg0, s, hT, hz, hgens, hg, G00, y⟩ := (left.behind (XP := fun mg h => XP mg h ∧ RecFacts r.records h) (fun s hs => ⟨hX s hs, hRf s hs⟩) hch w).2 s' hs'
  have G0 : Ground q loose [] XP w s (s.heap.nsMap mainGlobals) (s.heap.nsMap builtinsNs) s.heap := ⟨G00.T, G00.B, G00.D, G00.TE, G00.TD, G00.W, G00.X.1, G00.cls, G00.has, G00.apart, G00.once, G00.K⟩
  have RF := G00.X.2
  have hT' := hT
  refine ⟨s₀, hf, hg0, s, hT, fun n hn => ?_, RF.1, RF.2.1, ?_⟩
  · obtain rfl : n = r.name := by split at hn <;> simp_all
    exact pinned_of_view hg G0 hdef hp hk
  have hgens : s.gens = #[] := Array.eq_empty_of_size_eq_zero (beq_iff_eq.mp hgens)
  have G : Ground q loose r.records XP w s _ _ s.heap := RF.ground G0
  refine callFromC (c := r.toRowW.claim) hz hgens fun args hpre hlay ord hord => ?_
  obtain ⟨⟨vs, s₁⟩, hlaid⟩ := Option.isSome_iff_exists.mp (layAllW_isSome (P := w.params) (ord := ord) G.has args r.args s (pre_splitW hpre).1)
  have keeps := layAllW_keeps _ _ _ hlaid
  have hal := layAllW_rest _ _ _ hlaid
  obtain ⟨as, hrd, hin, hold⟩ := reads_layAllW hord _ _ _ hlaid hlay s₁.heap (fun _ _ e => e)
  have L : Laid r.records w s s₁ args vs as := ⟨⟨ord, hord, hlaid⟩, hrd, hin, hold, keeps, hal.1.trans hgens, hal.2.2.1⟩
  have G₁ := G.keeps hXk keeps
  have hi := ident_freeW hu ha hap
  have hwi : r.toRowW.claim.within = [] := List.isEmpty_iff.mp k6
  obtain ⟨a, o, pm, cd, doc, dV, kV, h1, h2, h3, h4, h5⟩ := G₁.fn hdef
  refine ⟨vs, s₁, _, _, hlaid, G₁.T.g, defOf_name hdef ▸ h1, codeC_mono (call w s s₁ _ _ G₁ (hYk _ _ _ (hY w s y) keeps) a o pm cd doc dV kV h2 h3 h4 h5 (defOf_name hdef ▸ h1) L.gens args vs as hpre hlay L.reads L.well (L.low G.low)) fun res s' g => ?_⟩
  cases res with
  | error e =>
    have z := GoodWG.laid (c := r.toRowW.claim) hsame hwi hi L g
    exact ⟨z.1, z.2.1, z.2.2, fun q => ⟨namesKept_of hT' hg _ keeps g.2.1.old, noTable hwr q⟩⟩
  | ok fl =>
    cases fl with
    | ret v =>
      have z := GoodWG.laid (c := r.toRowW.claim) hsame hwi hi L g
      exact ⟨z.1, z.2.1, z.2.2, fun q => ⟨namesKept_of hT' hg _ keeps g.2.1.old, noTable hwr q⟩⟩
    | _ => exact g.elim
end Mine
end
section
theorem Mine.off_F0 : True := by
  w_top off
  trivial
open PySem PySem.W PyProof.Rows
set_option Elab.async false
namespace Mine
set_option maxRecDepth 100000 in
set_option maxHeartbeats 8000000 in
open_top hd for PySem.Challenge.rw_fu0002_01
end Mine
end
section
theorem Mine.off_Base : True := by
  w_top off
  trivial
open PySem PySem.W PyProof.Rows PySem.Calls PySem.Spec
set_option Elab.async false
set_option maxRecDepth 100000
namespace Mine

/-- all objects outside the list stay -/
def Keep (l : List Addr) (h h' : Heap) : Prop := ∀ b o, b ∉ l → h.get? b = some o → h'.get? b = some o
theorem Keep.refl (l : List Addr) (h : Heap) : Keep l h h := fun _ _ _ e => e
theorem Keep.trans {l : List Addr} {h₁ h₂ h₃ : Heap} (a : Keep l h₁ h₂) (b : Keep l h₂ h₃) : Keep l h₁ h₃ := fun x o n e => b x o n (a x o n e)
theorem Keep.nil {h h' : Heap} (k : Keep [] h h') : ∀ b o, h.get? b = some o → h'.get? b = some o := fun b o e => k b o (fun h => nomatch h) e
theorem Keep.sub {l l' : List Addr} {h h' : Heap} (k : Keep l h h') (s : ∀ x ∈ l, x ∈ l') : Keep l' h h' := fun b o n e => k b o (fun q => n (s b q)) e
theorem Keep.fr {h₀ h h' : Heap} {L : Addr} {m : Str → Option Value} {l : List Addr} (F : Fr h₀ L h m) (k : Keep l h h') (hl : ∀ x ∈ l, h₀.get? x = none ∧ x ≠ L) : Fr h₀ L h' m := by
  obtain ⟨oL, es, ep, hL, r⟩ := F.ns
  exact ⟨⟨oL, es, ep, k _ _ (fun q => (hl _ q).2 rfl) hL, r⟩, fun b o e => k b o (fun q => by rw [(hl _ q).1] at e; cases e) (F.keep b o e), F.above⟩
theorem Keep.fr0 {h₀ h h' : Heap} {L : Addr} {m : Str → Option Value} (F : Fr h₀ L h m) (k : Keep [] h h') : Fr h₀ L h' m := k.fr F (fun _ q => nomatch q)
theorem Keep.news0 {h₀ h h' : Heap} {L : Addr} {news : List (Addr × Obj)} (N : News h₀ L h news) (k : Keep [] h h') : News h₀ L h' news :=
  fun p hp => ⟨k _ _ (fun q => nomatch q) (N p hp).1, (N p hp).2⟩
theorem Keep.news1 {h₀ h h' : Heap} {L l : Addr} {o o' : Obj} {news news' : List (Addr × Obj)} (N : News h₀ L h news) (k : Keep [l] h h') (ho : h'.get? l = some o') (U : Upd l o o' news news') : News h₀ L h' news' := by
  obtain ⟨pre, post, rfl, rfl, a, b⟩ := U.split
  intro p hp
  rcases List.mem_append.mp hp with hp | hp
  · have z := N p (List.mem_append_left _ hp)
    exact ⟨k _ _ (fun q => a p hp (List.mem_singleton.mp q)) z.1, z.2⟩
  · rcases List.mem_cons.mp hp with rfl | hp
    · exact ⟨ho, (N (l, o) (List.mem_append_right _ (.head _))).2⟩
    · have z := N p (List.mem_append_right _ (.tail _ hp))
      exact ⟨k _ _ (fun q => b p hp (List.mem_singleton.mp q)) z.1, z.2⟩
/-- a fresh object joins the ledger -/
theorem news_add {h₀ h h' : Heap} {L r : Addr} {o : Obj} {m : Str → Option Value} {news : List (Addr × Obj)} (F : Fr h₀ L h m) (N : News h₀ L h' news) (hr : h.get? r = none) (ho : h'.get? r = some o) : News h₀ L h' ((r, o) :: news) := by
  intro p hp
  rcases List.mem_cons.mp hp with rfl | hp
  · refine ⟨ho, fun q => ?_, ?_⟩
    · obtain ⟨oL, _, _, hL, _⟩ := F.ns
      have q' : r = L := q
      rw [q', hL] at hr; cases hr
    · cases q : h₀.get? r with
      | none => rfl
      | some o' => rw [F.keep _ _ q] at hr; cases hr
  · exact N p hp

section
variable {prog : Program} {w : World} {A₀ A : Around} {s : Shared} {K : Frag} {L : Addr} {h₀ base : Heap} {m mg mb : Str → Option Value} {news : List (Addr × Obj)} {p : Program} {loose : List Str} {mean : ExcName → Option Value}
/-- a def is entered: what is not in the ledger stands in the callee's ground -/
theorem enterM {env : Env} {outer : List Env} {R : Result → Shared → Prop} {name qual : Str} {params : Arguments} {body : List Stmt} {scope : Scope} {dV kV doc pm cdv ct oc : Value} {an od : Option Addr} {osl : Array (Option Value)} {f : Addr} {args : Args} {binds : List (Str × Value)}
    (B : Below A₀ base outer h₀) (F : Fr h₀ L s.heap m) (X₀ : K.In h₀) (N : News h₀ L s.heap news) (T : Top p loose mean mg mb h₀) (hA : A.frames = some (env :: outer)) (hf : env.frame = some L) (hke : env.scope.kind = .function)
    (ho : K.lookup f = some ⟨oc, od, .func (fnOf name qual params body scope dV kV doc pm an cdv ct), osl⟩) (hcd : codeIn K cdv qual = true) (hroom : A.depth < recursionLimit)
    (hbind : BindsTo s (fnOf name qual params body scope dV kV doc pm an cdv ct) args binds) (hloc : ∀ y ∈ binds, scope.names.lookup y.1 = some .local)
    (h : ∀ g L' h₁, Keep (news.map (·.1)) s.heap g → Keep [] g s.heap → Fr g L' h₁ (fun y => binds.reverse.lookup y) → News g L' h₁ news → Below A base (env :: outer) g → K.In g → Top p loose mean mg mb g →
      wpAny (model prog w) (A.deeper (envOf qual scope L' f cdv)) (execs body (envOf qual scope L' f cdv))
        (fun fl s' => R (.ok (.ret (match fl with | .ret v => v | _ => .none))) s')
        (fun e s' => wpAny (model prog w) (A.deeper (envOf qual scope L' f cdv)) (leaving (envOf qual scope L' f cdv) e) (fun _ s'' => R (.error e) s'') (fun e' s'' => R (.error e') s'') s')
        { s with heap := h₁, toks := s.toks + binds.length })
    (hco : scope.isCoroutine = false) (hgen : scope.isGenerator = false) (hk : scope.kind = .function)
    (hcell : ∀ x ∈ scope.names, x.2 ≠ .cell) : codeAny (model prog w) A (.call (.ref f) args) R s := by
  obtain ⟨FG, BG, st, _⟩ := groundX (R := R) B F N hA hf hke
  have Xs : K.In s.heap := X₀.keeps F.keep
  refine codeAny_call_def (fd := fnOf name qual params body scope dV kV doc pm an cdv ct) (body := body) (binds := binds) hroom (Xs _ _ ho) rfl (T.nolimit.keeps F.keep) (codeRec_of Xs hcd) rfl hbind hcell hloc (fun h₁ hns hk₁ => ?_) hco hgen hk
  refine h (hideAll s.heap (news.map (·.1))) s.heap.objs.size h₁ (fun b o n e => hideAll_get _ e n) (fun b o _ e => of_hideAll _ e)
    ⟨hns, fun b o e => hk₁ b o (of_hideAll _ e), Nat.le_of_eq (hideAll_size _ _)⟩
    (fun p hp => ⟨hk₁ _ _ (N p hp).1, Nat.ne_of_lt (Heap.lt_size (N p hp).1), hideAll_none _ (List.mem_map_of_mem hp)⟩) BG (X₀.keeps fun b o e => st b o e) (T.keeps fun b o e => st b o e)
end
/-- no address: a fact of the ledger's ends -/
theorem fresh_of {g h s' : Heap} {L' r : Addr} {o : Obj} {l : List Addr} {news : List (Addr × Obj)} (kg : Keep l h g) (N : News g L' s' news) (hm : (r, o) ∈ news) (hl : r ∉ l) : h.get? r = none := by
  cases q : h.get? r with
  | none => rfl
  | some o' => have := (N _ hm).2.2; rw [kg _ _ hl q] at this; cases this
/-- what a callee keeps -/
theorem keep_of {g h s' : Heap} {L' : Addr} {l : List Addr} {m : Str → Option Value} (kg : Keep l h g) (F : Fr g L' s' m) : Keep l h s' := fun b o n e => F.keep _ _ (kg b o n e)
end Mine
end
section
theorem Mine.off_Wc2 : True := by
  w_top off
  trivial
open PySem PySem.W PyProof.Rows PySem.Calls PySem.Spec
open Sem (wp)
set_option Elab.async false
set_option maxRecDepth 100000
namespace Mine
section
variable {M : Model} {A : Around} {E : Value → Shared → Prop} {s : Shared} {env : Env}
theorem wpC_IfExp {test body orelse pos} {Q : Value → Shared → Prop}
    (h : wpAny M A (isTrue test env (eval test env)) (fun c s₂ => if c then wpC M A (eval body env) Q E s₂ else wpC M A (eval orelse env) Q E s₂) E s) :
    wpC M A (eval (.IfExp test body orelse pos) env) Q E s := by
  rw [eval_IfExp]
  refine wpC_bindA (wpAny_mono h (fun c s₂ h₂ => ?_) fun _ _ x => x)
  cases c <;> exact h₂
theorem wpC_Compare1 {l op r pos} {Q : Value → Shared → Prop}
    (h : wpC M A (eval l env) (fun a s₁ => wpAny M A (eval r env) (fun b s₂ => wpAny M A (compareOp op a b) Q E s₂) E s₁) E s)
    (hm : behindInMarks op r = false := by with_unfolding_all rfl) :
    wpC M A (eval (.Compare l [op] [r] pos) env) Q E s := by
  rw [eval_Compare1, markedBehindIn_of_false hm]
  exact wpC_bind (wpC_mono h (fun a s₁ h₁ => wpC_bind (wpC_holding (wpC.of (wpAny_mono h₁ (fun b s₂ h₂ => wpC_bind (wpC_standAt (wpC_operate (wpC.of h₂)))) fun _ _ x => x)))) fun _ _ x => x)
theorem wpC_BoolOp_and2 {e₁ e₂ pos} {Q : Value → Shared → Prop}
    (h : wpAny M A (eval e₁ env) (fun v s₁ => wpAny M A (truthy v) (fun c s₂ => if c then wpC M A (eval e₂ env) Q E s₂ else Q v s₂) E s₁) E s) :
    wpC M A (eval (.BoolOp .And [e₁, e₂] pos) env) Q E s := by
  show wpC M A (do
    let v ← eval e₁ env
    standAt pos
    let c ← holding [v] (truthy v)
    match BoolOp.And, c with
    | .And, false | .Or, true => pure v
    | _, _ => boolOp pos .And (evalEach [e₂] env)) Q E s
  refine wpC_bindA (wpAny_mono h (fun v s₁ h₁ => wpC_bind (wpC_standAt (wpC_bind (wpC_holding (wpC.of (wpAny_mono h₁ (fun c s₂ h₂ => ?_) fun _ _ x => x)))))) fun _ _ x => x)
  cases c with
  | false => exact wpC_pure h₂
  | true => exact h₂

/-- what a call does when its arguments stand -/
def callRest (pos : Pos) (f : Value) (first : List Value) (n : Nat) (starred : Bool) (a : Args) : Sem Value := do
  standAt pos
  let pos := first ++ a.pos
  let r ← match ← keeperOf f, starred with
    | .frame, true => callMarked starredCall f pos a.kw
    | .frame, false => if n > 30 then call f pos a.kw else callMarked plainCall f pos a.kw
    | .boundFrame, false => if n > 30 then call f pos a.kw else callMarked callOfAMethodObject f pos a.kw
    | .machine, false => call f pos a.kw
    | _, _ => operate (f :: (if starred then pos.reverse else pos) ++ a.kw.map (·.2)) (call f pos a.kw)
  holding [r] point
  pure r
theorem callWith_eq (pos : Pos) (f : Value) (first : List Value) (args : List (Bool × Sem Value)) (keywords : List (Option Str × Sem Value)) :
    callWith pos f first args keywords = (holding (f :: first) (evalArgs f true args keywords) >>= fun a => callRest pos f first (args.length + 2 * keywords.length) (args.any (·.1) || keywords.any (·.1.isNone)) a) := rfl
theorem rest_tail {t : Sem Value} {Q : Value → Shared → Prop} (h : wpC M A t Q E s) : wpC M A (t >>= fun r => holding [r] point >>= fun _ => pure r) Q E s :=
  wpC_bind (wpC_mono h (fun r s₂ hr => (wpC_bindA (wpAny_holding (wpAny_point (wpC_pure hr))))) fun _ _ x => x)
theorem rest_def {pos : Pos} {f : Addr} {first : List Value} {n : Nat} {b : Bool} {a : Args} {o : Obj} {fd : FuncData} {Q : Value → Shared → Prop} (ho : s.heap.get? f = some o) (hd : o.data = .func fd)
    (h : wpC M A (call (.ref f) (first ++ a.pos) a.kw) Q E s) : wpC M A (callRest pos (.ref f) first n b a) Q E s := by
  unfold callRest
  refine wpC_bind (wpC_standAt ?_)
  have hk : wpAny M A (keeperOf (.ref f)) (fun k s' => k = .frame ∧ s' = s) E s := by
    unfold keeperOf
    refine wpAny_bind (wpAny_load ho ?_)
    rw [hd]
    exact wpAny_pure ⟨rfl, rfl⟩
  refine wpC_bindA (wpAny_mono hk (fun k s' hk => ?_) fun _ _ x => x)
  obtain ⟨rfl, rfl⟩ := hk
  cases b with
  | true => exact rest_tail (wpC_keep h)
  | false =>
    show wpC M A (if n > 30 then (call (.ref f) (first ++ a.pos) a.kw >>= fun r => holding [r] point >>= fun _ => pure r) else (callMarked plainCall (.ref f) (first ++ a.pos) a.kw >>= fun r => holding [r] point >>= fun _ => pure r)) Q E s'
    split
    · exact rest_tail h
    · exact rest_tail (wpC_keep h)
theorem rest_type {pos : Pos} {T : String} {first : List Value} {n : Nat} {a : Args} {Q : Value → Shared → Prop}
    (h : wpC M A (call (.type T) (first ++ a.pos) a.kw) Q E s) : wpC M A (callRest pos (.type T) first n false a) Q E s := by
  unfold callRest
  refine wpC_bind (wpC_standAt ?_)
  show wpC M A (pure Keeper.machine >>= _) _ _ _
  refine wpC_bind (wpC_pure ?_)
  exact rest_tail h
theorem rest_builtin {pos : Pos} {id : String} {first : List Value} {n : Nat} {a : Args} {Q : Value → Shared → Prop}
    (h : wpC M A (call (.builtin id) (first ++ a.pos) a.kw) Q E s) : wpC M A (callRest pos (.builtin id) first n false a) Q E s := by
  unfold callRest
  refine wpC_bind (wpC_standAt ?_)
  show wpC M A (pure Keeper.machine >>= _) _ _ _
  refine wpC_bind (wpC_pure ?_)
  exact rest_tail h
/-- a call: the callee and the arguments in the plain logic -/
theorem wpC_Call {func : PySem.Expr} {e : PySem.Expr} {rest : List PySem.Expr} {pos : Pos} {Q : Value → Shared → Prop}
    (h : wpAny M A (eval func env) (fun f s₁ => wpAny M A (spliced (backTo pos (starEach (e :: rest) env))) (fun vs s₂ => wpC M A (callRest pos f [] ((backTo pos (starEach (e :: rest) env)).length + 2 * 0) ((backTo pos (starEach (e :: rest) env)).any (·.1) || false) ⟨vs, []⟩) Q E s₂) E s₁) E s)
    (he : eval (.Call func (e :: rest) [] pos) env = (do callWith pos (← eval func env) [] (backTo pos (starEach (e :: rest) env)) (backToKw pos (keywordEach [] env))) := by rfl)
    (hs : backTo pos (starEach (e :: rest) env) = (false, eval e env) :: backTo pos (starEach rest env) := by rfl) :
    wpC M A (eval (.Call func (e :: rest) [] pos) env) Q E s := by
  rw [he]
  refine wpC_bindA (wpAny_mono h (fun f s₁ h₁ => ?_) fun _ _ x => x)
  rw [callWith_eq]
  refine wpC_bindA (wpAny_holding ?_)
  show wpAny M A (evalArgs f true (backTo pos (starEach (e :: rest) env)) []) _ _ _
  rw [hs] at h₁ ⊢
  exact evalArgs_plain h₁
/-- a call with keywords -/
theorem wpC_CallKw {func : PySem.Expr} {args : List PySem.Expr} {kws : List Keyword} {pos : Pos} {Q : Value → Shared → Prop}
    (h : wpAny M A (eval func env) (fun f s₁ => wpAny M A (evalArgs f true (backTo pos (starEach args env)) (backToKw pos (keywordEach kws env))) (fun a s₂ => wpC M A (callRest pos f [] ((backTo pos (starEach args env)).length + 2 * (backToKw pos (keywordEach kws env)).length) ((backTo pos (starEach args env)).any (·.1) || (backToKw pos (keywordEach kws env)).any (·.1.isNone)) a) Q E s₂) E s₁) E s)
    (he : eval (.Call func args kws pos) env = (do callWith pos (← eval func env) [] (backTo pos (starEach args env)) (backToKw pos (keywordEach kws env))) := by rfl) :
    wpC M A (eval (.Call func args kws pos) env) Q E s := by
  rw [he]
  refine wpC_bindA (wpAny_mono h (fun f s₁ h₁ => ?_) fun _ _ x => x)
  rw [callWith_eq]
  exact wpC_bindA (wpAny_holding h₁)
end

section
variable {prog : Program} {w : World} {A₀ A : Around} {s : Shared} {K : Frag} {L : Addr} {h₀ base : Heap} {m mg mb : Str → Option Value} {news : List (Addr × Obj)} {p : Program} {loose : List Str} {mean : ExcName → Option Value}
theorem codeC_func {body env} {R : Result → Shared → Prop}
    (h : wpC (model prog w) (A.deeper env) (execs body env) (fun f s' => R (.ok (.ret (match f with | .ret v => v | _ => .none))) s')
      (fun e s' => wpAny (model prog w) (A.deeper env) (leaving env e) (fun _ s'' => R (.error e) s'') (fun e' s'' => R (.error e') s'') s') s) :
    codeC (model prog w) A (.func body env) R s := by
  refine codeC_of_tree ?_
  show wpC _ (A.deeper env) (do point; match ← (execs body env).onRaise (leaving env) with | .ret v => ret v | _ => ret .none) _ _ s
  refine wpC_bindA (wpAny_point (wpC_bind (wpC_onRaise (wpC_mono h (fun f s' h' => ?_) fun _ _ h' => h'))))
  cases f <;> exact wpC_pure h'
theorem codeC_call_function {R : Result → Shared → Prop} {a : Addr} {args : Args} {o : Obj} {fd : FuncData} {body : List Stmt} (hroom : A.depth < recursionLimit)
    (ho : s.heap.get? a = some o)
    (hd' : o.data = .func fd) (hco : fd.scope.isCoroutine = false) (hgen : fd.scope.isGenerator = false) (hbody : fd.body = .stmts body) (hcd : s.heap.CodeRec fd.code fd.qualname)
    (h : wpAny (model prog w) A.in1 (bindArgs fd args) (fun binds s₁ =>
      wpAny (model prog w) A.in1 (newFunctionEnv fd.scope fd.globals fd.closure binds (fd.qualname ++ ".<locals>.") (some a) fd.code none fd.builtins)
        (fun env s₂ => s₂.heap.NoLimit ∧ codeC (model prog w) A (.func body env) R s₂) (fun e s' => R (.error e) s') s₁) (fun e s' => R (.error e) s') s) :
    codeC (model prog w) A (.call (.ref a) args) R s := by
  refine codeC_of_tree ?_
  show wpC _ A.in1 (callAny (.ref a) args) _ _ s
  simp only [callAny]
  refine wpC_bindA (wpAny_load ho ?_)
  obtain ⟨c, oc, vs, tq, hc, hoc, hdc, hq⟩ := hcd
  simp only [hd', callFunction, hco, hgen, hbody, hc]
  rw [hc] at h
  refine wpC_bindA (m := field (.ref c) 1) (wpAny_field hoc hdc hq (wpC_bind (wpC_pure ?_)))
  exact wpC_bindA (wpAny_mono h (fun binds s₁ h₁ => wpC_bindA (wpAny_mono h₁ (fun env s₂ h₂ => wpC_bindA (wpAny_enterFrame h₂.1 hroom
    (wpC_pure (And.intro rfl h₂.2)))) fun _ _ h' => h')) fun _ _ h' => h')
/-- a def is entered, the caller below -/
theorem enterC {env : Env} {outer : List Env} {R : Result → Shared → Prop} {name qual : Str} {params : Arguments} {body : List Stmt} {scope : Scope} {dV kV doc pm cdv ct oc : Value} {an od : Option Addr} {osl : Array (Option Value)} {f : Addr} {args : Args} {binds : List (Str × Value)}
    (B : Below A₀ base outer h₀) (F : Fr h₀ L s.heap m) (X₀ : K.In h₀) (N : News h₀ L s.heap news) (T : Top p loose mean mg mb h₀) (hA : A.frames = some (env :: outer)) (hf : env.frame = some L) (hke : env.scope.kind = .function)
    (ho : K.lookup f = some ⟨oc, od, .func (fnOf name qual params body scope dV kV doc pm an cdv ct), osl⟩) (hcd : codeIn K cdv qual = true) (hroom : A.depth < recursionLimit)
    (hbind : BindsTo s (fnOf name qual params body scope dV kV doc pm an cdv ct) args binds) (hloc : ∀ y ∈ binds, scope.names.lookup y.1 = some .local)
    (h : ∀ g L' h₁, Keep (news.map (·.1)) s.heap g → Keep [] g s.heap → Fr g L' h₁ (fun y => binds.reverse.lookup y) → News g L' h₁ news → Below A base (env :: outer) g → K.In g → Top p loose mean mg mb g →
      wpC (model prog w) (A.deeper (envOf qual scope L' f cdv)) (execs body (envOf qual scope L' f cdv))
        (fun fl s' => R (.ok (.ret (match fl with | .ret v => v | _ => .none))) s')
        (fun e s' => wpAny (model prog w) (A.deeper (envOf qual scope L' f cdv)) (leaving (envOf qual scope L' f cdv) e) (fun _ s'' => R (.error e) s'') (fun e' s'' => R (.error e') s'') s')
        { s with heap := h₁, toks := s.toks + binds.length })
    (hco : scope.isCoroutine = false) (hgen : scope.isGenerator = false) (hk : scope.kind = .function)
    (hcell : ∀ x ∈ scope.names, x.2 ≠ .cell) : codeC (model prog w) A (.call (.ref f) args) R s := by
  obtain ⟨FG, BG, st, _⟩ := groundX (R := R) B F N hA hf hke
  have Xs : K.In s.heap := X₀.keeps F.keep
  have hlim := T.nolimit.keeps F.keep
  refine codeC_call_function (fd := fnOf name qual params body scope dV kV doc pm an cdv ct) (body := body) hroom (Xs _ _ ho) rfl hco hgen rfl (codeRec_of Xs hcd) (hbind _ _ _ _ ?_)
  refine wpAny_newFunctionEnv hcell hloc (fun h₁ hns hsb => ?_) hk
  have hk₁ : ∀ b o, s.heap.get? b = some o → h₁.get? b = some o := fun b o e => hsb.extBut b o (Nat.ne_of_lt (Heap.lt_size e)) (Heap.get?_push_of_some _ e)
  refine ⟨hlim.fresh _ hsb, codeC_func ?_⟩
  exact h (hideAll s.heap (news.map (·.1))) s.heap.objs.size h₁ (fun b o n e => hideAll_get _ e n) (fun b o _ e => of_hideAll _ e)
    ⟨hns, fun b o e => hk₁ b o (of_hideAll _ e), Nat.le_of_eq (hideAll_size _ _)⟩
    (fun p hp => ⟨hk₁ _ _ (N p hp).1, Nat.ne_of_lt (Heap.lt_size (N p hp).1), hideAll_none _ (List.mem_map_of_mem hp)⟩) BG (X₀.keeps fun b o e => st b o e) (T.keeps fun b o e => st b o e)
end
end Mine
end
section
theorem Mine.off_Wc3 : True := by
  w_top off
  trivial
open PySem PySem.W PyProof.Rows PySem.Calls PySem.Spec
open Sem (wp)
set_option Elab.async false
set_option maxRecDepth 100000
namespace Mine
/-- what a callee leaves: the frames below may have been looked at -/
def LeaveC (fs : List Addr) (A₀ : Around) (base : Heap) (outer : List Env) (h₀ : Heap) (L : Addr) (m : Str → Option Value) (g : Heap) (R : Result → Shared → Prop) (v : Value) (s' : Shared) : Prop :=
  ∃ g' L' m' news', KtsTurn fs g g' ∧ Fr g' L' s'.heap m' ∧ News g' L' s'.heap news' ∧ ∀ h₀', KtsTurn (outer.filterMap (·.frame)) h₀ h₀' → Fr h₀' L s'.heap m → News h₀' L s'.heap news' → Below A₀ base outer h₀' → R (.ok (.ret v)) s'
theorem leaveC_ {fs : List Addr} {A₀ : Around} {base : Heap} {outer : List Env} {h₀ g g' : Heap} {L L' : Addr} {m m' : Str → Option Value} {news' : List (Addr × Obj)} {R : Result → Shared → Prop} {v : Value} {s' : Shared} (F' : Fr g' L' s'.heap m') (N' : News g' L' s'.heap news') (T : KtsTurn fs g g')
    (k : ∀ h₀', KtsTurn (outer.filterMap (·.frame)) h₀ h₀' → Fr h₀' L s'.heap m → News h₀' L s'.heap news' → Below A₀ base outer h₀' → R (.ok (.ret v)) s') : LeaveC fs A₀ base outer h₀ L m g R v s' := ⟨g', L', m', news', T, F', N', k⟩
theorem leaveK_ {h₀ g : Heap} {L L' : Addr} {m m' : Str → Option Value} {news' : List (Addr × Obj)} {R : Result → Shared → Prop} {v : Value} {s' : Shared} (F' : Fr g L' s'.heap m') (N' : News g L' s'.heap news')
    (k : Fr h₀ L s'.heap m → News h₀ L s'.heap news' → R (.ok (.ret v)) s') : LeaveK h₀ L m g R v s' := ⟨L', m', news', F', N', k⟩

section
variable {prog : Program} {w : World} {A₀ A : Around} {s : Shared} {K : Frag} {L : Addr} {h₀ base : Heap} {m mg mb : Str → Option Value} {news : List (Addr × Obj)} {p : Program} {loose : List Str} {mean : ExcName → Option Value}
  {env : Env} {outer : List Env} {R : Result → Shared → Prop} {name qual : Str} {params : Arguments} {body : List Stmt} {scope : Scope} {dV kV doc pm cdv ct oc : Value} {an od : Option Addr} {osl : Array (Option Value)} {f : Addr} {args : Args} {binds : List (Str × Value)}
/-- a def is entered in the plain logic -/
theorem defA (B : Below A₀ base outer h₀) (F : Fr h₀ L s.heap m) (X₀ : K.In h₀) (N : News h₀ L s.heap news) (T : Top p loose mean mg mb h₀) (hA : A.frames = some (env :: outer)) (hf : env.frame = some L) (hke : env.scope.kind = .function)
    (ho : K.lookup f = some ⟨oc, od, .func (fnOf name qual params body scope dV kV doc pm an cdv ct), osl⟩) (hcd : codeIn K cdv qual = true) (hroom : A.depth < recursionLimit)
    (hbind : BindsTo s (fnOf name qual params body scope dV kV doc pm an cdv ct) args binds) (hloc : ∀ y ∈ binds, scope.names.lookup y.1 = some .local)
    (h : ∀ g L' h₁, Fr g L' h₁ (fun y => binds.reverse.lookup y) → News g L' h₁ news → Below A base (env :: outer) g → K.In g → Top p loose mean mg mb g →
      wpAny (model prog w) (A.deeper (envOf qual scope L' f cdv)) (execs body (envOf qual scope L' f cdv))
        (fun fl s' => LeaveK h₀ L m g R (match fl with | .ret v => v | _ => .none) s')
        (fun e s' => wpAny (model prog w) (A.deeper (envOf qual scope L' f cdv)) (leaving (envOf qual scope L' f cdv) e) (fun _ s'' => R (.error e) s'') (fun e' s'' => R (.error e') s'') s')
        { s with heap := h₁, toks := s.toks + binds.length })
    (hco : scope.isCoroutine = false) (hgen : scope.isGenerator = false) (hk : scope.kind = .function)
    (hcell : ∀ x ∈ scope.names, x.2 ≠ .cell) : codeAny (model prog w) A (.call (.ref f) args) R s := by
  obtain ⟨FG, BG, st, lv⟩ := groundX (R := R) B F N hA hf hke
  have Xs : K.In s.heap := X₀.keeps F.keep
  refine codeAny_call_def (fd := fnOf name qual params body scope dV kV doc pm an cdv ct) (body := body) (binds := binds) hroom (Xs _ _ ho) rfl (T.nolimit.keeps F.keep) (codeRec_of Xs hcd) rfl hbind hcell hloc (fun h₁ hns hk₁ => ?_) hco hgen hk
  refine wpAny_mono (h (hideAll s.heap (news.map (·.1))) s.heap.objs.size h₁
    ⟨hns, fun b o e => hk₁ b o (of_hideAll _ e), Nat.le_of_eq (hideAll_size _ _)⟩
    (fun p hp => ⟨hk₁ _ _ (N p hp).1, Nat.ne_of_lt (Heap.lt_size (N p hp).1), hideAll_none _ (List.mem_map_of_mem hp)⟩) BG (X₀.keeps fun b o e => st b o e) (T.keeps fun b o e => st b o e)) (fun fl s' hl => ?_) fun _ _ y => y
  exact lv _ _ hl
/-- a def is entered, the caller below -/
theorem defC (B : Below A₀ base outer h₀) (F : Fr h₀ L s.heap m) (X₀ : K.In h₀) (N : News h₀ L s.heap news) (T : Top p loose mean mg mb h₀) (D : KtsDicts (outer.filterMap (·.frame)) h₀) (hA : A.frames = some (env :: outer)) (hf : env.frame = some L) (hke : env.scope.kind = .function)
    (ho : K.lookup f = some ⟨oc, od, .func (fnOf name qual params body scope dV kV doc pm an cdv ct), osl⟩) (hcd : codeIn K cdv qual = true) (hroom : A.depth < recursionLimit)
    (hbind : BindsTo s (fnOf name qual params body scope dV kV doc pm an cdv ct) args binds) (hloc : ∀ y ∈ binds, scope.names.lookup y.1 = some .local)
    (h : ∀ g L' h₁, Fr g L' h₁ (fun y => binds.reverse.lookup y) → News g L' h₁ news → Below A base (env :: outer) g → K.In g → Top p loose mean mg mb g → KtsDicts ((env :: outer).filterMap (·.frame)) g →
      wpC (model prog w) (A.deeper (envOf qual scope L' f cdv)) (execs body (envOf qual scope L' f cdv))
        (fun fl s' => LeaveC ((env :: outer).filterMap (·.frame)) A₀ base outer h₀ L m g R (match fl with | .ret v => v | _ => .none) s')
        (fun e s' => wpAny (model prog w) (A.deeper (envOf qual scope L' f cdv)) (leaving (envOf qual scope L' f cdv) e) (fun _ s'' => R (.error e) s'') (fun e' s'' => R (.error e') s'') s')
        { s with heap := h₁, toks := s.toks + binds.length })
    (hco : scope.isCoroutine = false) (hgen : scope.isGenerator = false) (hk : scope.kind = .function)
    (hcell : ∀ x ∈ scope.names, x.2 ≠ .cell) : codeC (model prog w) A (.call (.ref f) args) R s := by
  obtain ⟨FG, BG, st, _⟩ := groundX (R := R) B F N hA hf hke
  have Xs : K.In s.heap := X₀.keeps F.keep
  have hlim := T.nolimit.keeps F.keep
  obtain ⟨oL, es, ep, hLg, hLd, hLk, hLf⟩ := FG.ns
  have hNs : ∀ (sl : Array (Option Value)) h', h'.get? L = some { oL with slots := sl } → Heap.Ns h' L m := fun sl h' e => ⟨_, es, ep, e, hLd, hLk, hLf⟩
  have hfm : (env :: outer).filterMap (·.frame) = L :: outer.filterMap (·.frame) := by rw [List.filterMap_cons, hf]
  refine codeC_call_function (fd := fnOf name qual params body scope dV kV doc pm an cdv ct) (body := body) hroom (Xs _ _ ho) rfl hco hgen rfl (codeRec_of Xs hcd) (hbind _ _ _ _ ?_)
  refine wpAny_newFunctionEnv hcell hloc (fun h₁ hns hsb => ?_) hk
  have hk₁ : ∀ b o, s.heap.get? b = some o → h₁.get? b = some o := fun b o e => hsb.extBut b o (Nat.ne_of_lt (Heap.lt_size e)) (Heap.get?_push_of_some _ e)
  refine ⟨hlim.fresh _ hsb, codeC_func ?_⟩
  refine wpC_mono (h (hideAll s.heap (news.map (·.1))) s.heap.objs.size h₁
    ⟨hns, fun b o e => hk₁ b o (of_hideAll _ e), Nat.le_of_eq (hideAll_size _ _)⟩
    (fun p hp => ⟨hk₁ _ _ (N p hp).1, Nat.ne_of_lt (Heap.lt_size (N p hp).1), hideAll_none _ (List.mem_map_of_mem hp)⟩) BG (X₀.keeps fun b o e => st b o e) (T.keeps fun b o e => st b o e) (fun b hb => by
      rw [hfm] at hb
      rcases List.mem_cons.mp hb with rfl | hb
      · exact ⟨oL, es, ep, hLg, hLd⟩
      · obtain ⟨o, es', n', ho', hd'⟩ := D b hb
        exact ⟨o, es', n', st b o ho', hd'⟩)) (fun fl s' hl => ?_) fun _ _ y => y
  obtain ⟨g', L', m', news', T', F', N', k⟩ := hl
  rw [hfm] at T'
  have nL₀ : h₀.get? L = none := kts_self F
  obtain ⟨sl, hs⟩ := T'.up hLg
  obtain ⟨T₁, S₁⟩ := kts_turn_at (h := s'.heap) (fs := outer.filterMap (·.frame)) (g := h₀)
    (fun b hb => by
      obtain ⟨_, o, ho', _⟩ := B.frames.mem hb
      exact ⟨o, ho'⟩)
    (fun b o e nmem => F'.keep b o (T'.other b o (st b o e) (fun q => by
      rcases List.mem_cons.mp q with z | z
      · rw [z, nL₀] at e
        cases e
      · exact nmem z)))
    (fun b o e hm => by
      obtain ⟨sl', hs'⟩ := T'.up (st b o e)
      exact ⟨sl', F'.keep _ _ hs'⟩)
  have B₃ : Below A₀ base outer (ktsHeap s'.heap (outer.filterMap (·.frame)) h₀) := ⟨B.stack, fun b o e => T₁.other b o (B.stays b o e) (fun hm => by
    rw [(B.frames.mem hm).1] at e
    cases e), B.frames.of_keeps fun b o e _ => by
    obtain ⟨sl', hs'⟩ := T₁.up e
    exact ⟨_, hs', rfl⟩⟩
  refine k _ T₁ ⟨hNs sl _ (F'.keep _ _ hs), S₁, by rw [T₁.size]; exact F.above⟩ (fun p hp => ⟨(N' p hp).1, fun q => ?_, ?_⟩) B₃
  · have := (N' p hp).2.2; rw [q, hs] at this; cases this
  · refine T₁.none_ _ ?_
    cases q : h₀.get? p.1 with
    | none => rfl
    | some o =>
      obtain ⟨sl', hs'⟩ := T'.up (st _ _ q)
      have := (N' p hp).2.2
      rw [hs'] at this
      cases this
end

section
variable {prog : Program} {w : World} {A₀ : Around} {E : Value → Shared → Prop} {s' : Shared} {base g h : Heap} {outer : List Env} {L a e : Addr} {m : Str → Option Value} {name : Str} {scope : Scope} {cd : Value}
  {b₀ : Stmt} {suite : List Stmt} {pos tpos p1 p2 : Pos} {kk : Nat} {rest : List ExceptHandler} {Q : Flow → Shared → Prop} {news : List (Addr × Obj)} {KF : Frag}
  {p : Program} {loose : List Str} {mean : ExcName → Option Value} {mg mb : Str → Option Value} {x1 x2 : Str} {X T1 T2 : String} {b1 b2 : Bool}
/-- an exception raised in the frame itself is caught by a clause over two classes -/
theorem caught2 (K : Below A₀ base outer g) (hx : Heap.NewExc h s'.heap e X) (F : Fr g L h m) (N : News g L h news) (XB : KF.In base) (TB : Top p loose mean mg mb base)
    (ex1 : nsIn KF mainGlobals x1 = some none) (hv1 : bootBuiltins x1 = some (.type T1)) (hn1 : x1 ≠ "__name__")
    (ex2 : nsIn KF mainGlobals x2 = some none) (hv2 : bootBuiltins x2 = some (.type T2)) (hn2 : x2 ≠ "__name__")
    (hexc1 : isSubtype (.type T1) (.type "BaseException") = pure true) (hnt1 : isSubtype (.type ((Manifest.find? T1).elim "type" fun y => y.metatype)) (.type "tuple") = pure false)
    (hexc2 : isSubtype (.type T2) (.type "BaseException") = pure true) (hnt2 : isSubtype (.type ((Manifest.find? T2).elim "type" fun y => y.metatype)) (.type "tuple") = pure false)
    (hsub1 : isSubtype (.type X) (.type T1) = pure b1) (hsub2 : isSubtype (.type X) (.type T2) = pure b2) (hb : (b1 || b2) = true)
    (k : ∀ h' g', KtsTurn (outer.filterMap (·.frame)) g g' → Fr g' L h' m → News g' L h' news → Below A₀ base outer g' → KF.In g' → Top p loose mean mg mb g' →
      wpAny (model prog w) ((A₀.deeper (envOf name scope L a cd)).mark (some (.ref e))) (execs (b₀ :: suite) (envOf name scope L a cd)) Q E { s' with heap := h' })
    (hk : scope.kind = .function := by rfl) (hxk1 : (envOf name scope L a cd).kindOf x1 = some .globalImplicit := by rfl) (hd1 : (x1 == ("__debug__" : Str)) = false := by decide)
    (hxk2 : (envOf name scope L a cd).kindOf x2 = some .globalImplicit := by rfl) (hd2 : (x2 == ("__debug__" : Str)) = false := by decide)
    (hE : PassesOwnAt (model prog w) ((A₀.deeper (envOf name scope L a cd)).mark (some (.ref e))) (A₀.deeper (envOf name scope L a cd)) (envOf name scope L a cd) E := by passes_own) :
    wpAny (model prog w) (A₀.deeper (envOf name scope L a cd)) (noteFrame (.ref e) (envOf name scope L a cd))
      (fun _ s₂ => wpAny (model prog w) (A₀.deeper (envOf name scope L a cd)) (setFlight (.ref e) none) (fun _ s₃ =>
        wpAny (model prog w) (A₀.deeper (envOf name scope L a cd)) (handleBy (.ref e) (envOf name scope L a cd) (.ExceptHandler (some (.Tuple [.Name x1 p1, .Name x2 p2] kk tpos)) none (b₀ :: suite) pos :: rest)) Q E s₃) E s₂) E s' := by
  have K' := K.push (name := name) (a := a) (cd := cd) F hk
  have hin : ∀ env ∈ (envOf name scope L a cd :: outer), ∀ b, env.frame = some b → b ∈ (envOf name scope L a cd :: outer).filterMap (·.frame) := fun env he b hb => List.mem_filterMap.mpr ⟨env, he, hb⟩
  have sg : ∀ b o, h.get? b = some o → b ∉ (envOf name scope L a cd :: outer).filterMap (·.frame) → (hideAll h ((envOf name scope L a cd :: outer).filterMap (·.frame))).get? b = some o := fun b o q nm => hideAll_get _ q nm
  have hl : ∀ q ∈ news, (hideAll h ((envOf name scope L a cd :: outer).filterMap (·.frame))).get? q.1 = some q.2 ∧ g.get? q.1 = none ∧ q.1 ≠ L := fun q hq => by
    refine ⟨hideAll_get _ (N q hq).1 fun hm => ?_, (N q hq).2.2, (N q hq).2.1⟩
    obtain ⟨env, he, hf⟩ := List.mem_filterMap.mp hm
    rcases List.mem_cons.mp he with rfl | he
    · exact (N q hq).2.1 (Option.some.inj hf).symm
    · obtain ⟨o, ho, _⟩ := (K.frames.mem (List.mem_filterMap.mpr ⟨env, he, hf⟩)).2
      rw [(N q hq).2.2] at ho; cases ho
  obtain ⟨ob, tp, he, hcls, hd⟩ := hx.there
  have hen : (hideAll h ((envOf name scope L a cd :: outer).filterMap (·.frame))).get? e = none := by
    cases q : (hideAll h ((envOf name scope L a cd :: outer).filterMap (·.frame))).get? e with
    | none => rfl
    | some o => have := of_hideAll _ q; rw [hx.new] at this; cases this
  have hlook : ∀ {Q' : Unit → Shared → Prop}, (∀ h', Heap.HeldW (hideAll h ((envOf name scope L a cd :: outer).filterMap (·.frame))) (envOf name scope L a cd :: outer) e (.type X) tp L h' → s'.heap.UpToSlots h' → Q' () { s' with heap := h' }) →
      wpAny (model prog w) (A₀.deeper (envOf name scope L a cd)) (noteFrame (.ref e) (envOf name scope L a cd)) Q' E s' := fun {Q'} hQ => by
    unfold noteFrame
    simp only [show (envOf name scope L a cd).frame = some L from rfl]
    refine wpAny_bind (wpAny_field he hd (x := .none) rfl ?_)
    rw [if_neg (by decide)]
    refine wpAny_entryW (a0 := tp) K'.stack ((funFrames_hide K'.frames hin).of_keeps fun b o hb _ => ⟨o, hx.keeps b o hb, rfl⟩) rfl he (fun b o hb => hx.keeps b o (of_hideAll _ hb)) hen hd (by show 1 < 6; decide) rfl fun h' hN => ?_
    obtain ⟨k1, k2, k3, k4⟩ := hN
    exact hQ h' ⟨k1, hen, k2, by rw [← hcls]; exact k3⟩ k4
  refine hlook fun h₄ hheld₄ hsm₄ => ?_
  refine wpAny_landsW hheld₄ fun h₅ hheld hsm₅' => ?_
  have hsm₅ : h.UpToSlots h₅ := ((Heap.UpToSlots.of_keeps hx.keeps).trans hsm₄).trans hsm₅'
  obtain ⟨g₅, T₅, F₅, K₅⟩ := kts_ground K F sg hheld.1 hsm₅
  have X₅ : KF.In g₅ := XB.keeps K₅.stays
  have P₅ : TopRead p loose mg mb g₅ := topRead_of (TB.keeps K₅.stays)
  obtain ⟨oe, hob, hobc⟩ := hheld.there
  refine wpAny_handleBy_tup2 (X := X) (T1 := T1) (T2 := T2) hexc1 hnt1 hexc2 hnt2 hsub1 hsub2 ?_
  refine Tuple_ (spliced_more (name_B F₅ X₅ P₅ ex1 hv1 hn1 (spliced_more (name_B F₅ X₅ P₅ ex2 hv2 hn2 (spliced_none ?_) hk hxk2 hd2)) hk hxk1 hd1))
  refine wpAny_newObj_type ⟨_, rfl, IsTup.new _ _, ⟨oe, Heap.get?_push_of_some _ hob, hobc⟩, ?_⟩
  rw [if_pos hb]
  have hpush : Heap.FlyingW (hideAll h ((envOf name scope L a cd :: outer).filterMap (·.frame))) (envOf name scope L a cd :: outer) e (.type X) tp (h₅.push { cls := .type "tuple", dict := none, data := .seq [Value.type T1, .type T2].toArray }) := by
    obtain ⟨f1, f2, f3, oe, vs, T, oT, ts, a1, a2, a3, a4, a5, a6, a7, a8, a9⟩ := hheld
    exact ⟨fun b o q => Heap.get?_push_of_some _ (f1 b o q), f2, f3.of_keeps fun b o hb _ => ⟨o, Heap.get?_push_of_some _ hb, rfl⟩, oe, vs, T, oT, ts, Heap.get?_push_of_some _ a1, a2, a3, a4, a5, a6, Heap.get?_push_of_some _ a7, a8, a9⟩
  have hsmp : h₅.UpToSlots (h₅.push { cls := .type "tuple", dict := none, data := .seq [Value.type T1, .type T2].toArray }) := Heap.UpToSlots.of_keeps fun b o e => Heap.get?_push_of_some _ e
  refine lands_againW hpush fun h₆ hfl₆ hsm₆ => ?_
  obtain ⟨g₆, T₆, F₆, K₆⟩ := kts_ground K F sg hfl₆.1 ((hsm₅.trans hsmp).trans hsm₆)
  have Nl : News g₆ L h₆ news := fun q hq => ⟨hfl₆.1 _ _ (hl q hq).1, (hl q hq).2.2, T₆.none_ _ (hl q hq).2.1⟩
  exact wpAny_passesOwnAt hE (k h₆ g₆ T₆ F₆ Nl K₆ (XB.keeps K₆.stays) (TB.keeps K₆.stays))
end
end Mine
end
section
theorem Mine.off_Wc4 : True := by
  w_top off
  trivial
open PySem PySem.W PyProof.Rows PySem.Calls PySem.Spec
open Sem (wp)
set_option Elab.async false
set_option linter.unusedVariables false
set_option maxRecDepth 100000
namespace Mine
section
variable {α : Type} {M : Model} {A : Around} {E : Value → Shared → Prop} {s : Shared}
theorem wpC_noted {env : Env} {m : Sem α} {Q : α → Shared → Prop} (h : wpC M A m Q (notedBy M A env E) s) : wpC M A (m.onRaise fun x => do noteFrame x env; theTreesLotGoes x) Q E s :=
  wpC_onRaise (wpC_mono h (fun _ _ q => q) fun _ _ hx => wpAny_bind (wpAny_mono hx (fun _ _ e => wpAny_theTreesLotGoes e) fun _ _ e => e))
theorem wpC_passesOwn {env : Env} {t : Sem α} {Q : α → Shared → Prop} (hE : PassesOwn M A env E) (h : wpC M A t Q E s) : wpC M A t Q (notedBy M A env (cameBackBy M A env E)) s :=
  wpC_mono h (fun _ _ x => x) hE
end
section
variable {prog : Program} {w : World} {A : Around} {E : Value → Shared → Prop} {s : Shared} {env : Env}
/-- a loop whose turns are not plain; the target may be a tuple -/
theorem codeC_forLoop_any {R : Result → Shared → Prop} {target it body orelse} (I : Nat → Shared → Prop)
    (turn : ∀ n s, I n s → wpAny (model prog w) A (pyNext it) (fun r s₁ => match r with
      | none => wpAny (model prog w) A (execs orelse env) (fun f s₃ => R (.ok f) s₃) (notedBy (model prog w) A env fun e s' => R (.error e) s') s₁
      | some v => wpAny (model prog w) A (letOwnedTupleGo target it v) (fun _ s₁' =>
          wpAny (model prog w) A (assign target env v) (fun _ s₂ => wpC (model prog w) A (execs body env) (fun f s₃ => match f with
            | .next | .cont => ∃ m, m < n ∧ I m s₃
            | .brk => R (.ok .next) s₃
            | .ret v => R (.ok (.ret v)) s₃) (notedBy (model prog w) A env fun e s' => R (.error e) s') s₂) (notedBy (model prog w) A env fun e s' => R (.error e) s') s₁') (notedBy (model prog w) A env fun e s' => R (.error e) s') s₁) (notedBy (model prog w) A env fun e s' => R (.error e) s') s)
    (n : Nat) (h : I n s) : codeC (model prog w) A (.forLoop target it body orelse env) R s := by
  refine codeC_loop rfl I (fun n s hI => ?_) n h
  show wpC _ A ((forTurn target it body orelse env).onRaise (fun x => do noteFrame x env; theTreesLotGoes x)) _ _ s
  refine wpC_noted ?_
  simp only [forTurn]
  refine wpC_bind (wpC_standAt (wpC_bindA (wpAny_onRaise (wpAny_mono (turn n s hI) (fun r s₁ h₁ => ?_) fun _ _ h' => wpAny_standAt h'))))
  cases r with
  | none => exact wpC_pure (.inr ⟨rfl, codeC.of (codeAny_block h₁)⟩)
  | some v =>
    refine wpC_bindA (wpAny_mono h₁ (fun _ s₁' h₁' => ?_) fun _ _ h' => h')
    refine wpC_bindA (wpAny_mono h₁' (fun _ s₂ h₂ => wpC_bind (wpC_mono h₂ (fun f s₃ h₃ => ?_) fun _ _ h' => h')) fun _ _ h' => h')
    cases f with
    | next => exact wpC_pure (.inl ⟨rfl, h₃⟩)
    | cont => exact wpC_pure (.inl ⟨rfl, h₃⟩)
    | brk => exact wpC_pure h₃
    | ret v => exact wpC_pure h₃
end

/-- the end of a turn: the frames below may have been looked at -/
def StepC (fs : List Addr) (A₀ : Around) (base : Heap) (outer : List Env) (L : Addr) (wr : List Addr) (own : List (Addr × Obj)) (J : (Str → Option Value) → List (Addr × Obj) → Prop) (g : Heap) (s₁ : Shared) (f : Flow) (s₂ : Shared) : Prop :=
  (f = .next ∨ f = .cont) ∧ ∃ g₂ h₂ tk m₂ news₂, s₂ = { s₁ with heap := h₂, toks := tk } ∧ KtsTurn fs g g₂ ∧ Below A₀ base outer g₂ ∧ Fr g₂ L h₂ m₂ ∧ News g₂ L h₂ (news₂ ++ own) ∧ (∀ p ∈ news₂, p.1 ∉ wr) ∧ J m₂ news₂

section
variable {prog : Program} {w : World} {A A₀ : Around} {s : Shared} {env : Env} {h₀ base : Heap} {outer : List Env}
theorem codeC_forLoop_fr {R : Result → Shared → Prop} {x : Str} {px : Pos} {body : List Stmt} {I : Addr} {fp wr : List Addr} {n : Nat} {P : Nat → Value → Prop} {St : Nat → Heap → Prop} {m : Str → Option Value}
    {news : List (Addr × Obj)} (W : Walks prog w A I fp wr n P St) (B : Below A₀ base outer h₀) (hx : env.kindOf x = some .local)
    (hp : (env.scope.kind == .class || (env.scope.kind == .module && env.locals != env.globals)) = false)
    (hLf : env.locals ∉ fp) (hfp : ∀ b ∈ fp, h₀.get? b = none) (hnw : ∀ p ∈ news, p.1 ∉ wr)
    (hst : St 0 s.heap) (F : Fr h₀ env.locals s.heap m) (N : News h₀ env.locals s.heap news)
    (J : Nat → (Str → Option Value) → List (Addr × Obj) → Prop) (h0 : J 0 m news)
    (step : ∀ i v m₁ news₁ g h₁ tk₁ own, i < n → P i v → J i m₁ news₁ → (∀ p ∈ news₁, p.1 ∉ wr) → (∀ p ∈ own, p.1 ∈ fp) → (∀ p ∈ own, h₁.get? p.1 = some p.2) → (∀ b ∈ fp, ∀ o, h₁.get? b = some o → (b, o) ∈ own) → St (i + 1) h₁ → KtsTurn (outer.filterMap (·.frame)) h₀ g → Below A₀ base outer g →
      Fr g env.locals h₁ (fun y => if y = x then some v else m₁ y) → News g env.locals h₁ (news₁ ++ own) →
      wpC (model prog w) A (execs body env) (StepC (outer.filterMap (·.frame)) A₀ base outer env.locals wr own (J (i + 1)) g { s with heap := h₁, toks := tk₁ }) (notedBy (model prog w) A env fun e s' => R (.error e) s') { s with heap := h₁, toks := tk₁ })
    (hR : ∀ g h' tk m' news', KtsTurn (outer.filterMap (·.frame)) h₀ g → Below A₀ base outer g → Fr g env.locals h' m' → News g env.locals h' news' → (∀ p ∈ news', p.1 ∉ wr) → J n m' news' → R (.ok .next) { s with heap := h', toks := tk })
    (ht : ∀ v, letOwnedTupleGo (.Name x px) (.ref I) v = pure () := by intro _; rfl) :
    codeC (model prog w) A (.forLoop (.Name x px) (.ref I) body [] env) R s := by
  have hLw : env.locals ∉ wr := fun h => hLf (W.sub _ h)
  refine codeC_forLoop_any
    (fun k s' => ∃ g h' tk m' news' i, s' = { s with heap := h', toks := tk } ∧ KtsTurn (outer.filterMap (·.frame)) h₀ g ∧ Below A₀ base outer g ∧ St i h' ∧ Fr g env.locals h' m' ∧ News g env.locals h' news' ∧ (∀ p ∈ news', p.1 ∉ wr) ∧ J i m' news' ∧ i ≤ n ∧ k = n + 1 - i) ?_ (n + 1)
    ⟨h₀, s.heap, s.toks, m, news, 0, rfl, KtsTurn.refl, B, hst, F, N, hnw, h0, Nat.zero_le _, rfl⟩
  rintro k s' ⟨g, h', tk, m', news', i, rfl, KT, B', hst', F', N', hnw', hJ, hi, rfl⟩
  have hfpg : ∀ b ∈ fp, g.get? b = none := fun b hb => KT.none_ b (hfp b hb)
  have old : ∀ b o, g.get? b = some o → b ∉ wr := fun b o e hb => by rw [hfpg b (W.sub b hb)] at e; cases e
  have next : ∀ h₁ : Heap, (∀ b o, b ∉ wr → h'.get? b = some o → h₁.get? b = some o) → Fr g env.locals h₁ m' ∧ News g env.locals h₁ news' := fun h₁ hk₁ =>
    ⟨⟨F'.ns.at' fun o e => hk₁ _ o hLw e, fun b o e => hk₁ b o (old b o e) (F'.keep b o e), F'.above⟩, fun p hp => ⟨hk₁ _ _ (hnw' p hp) (N' p hp).1, (N' p hp).2⟩⟩
  by_cases hlt : i < n
  · refine W.item i _ _ _ hlt hst' fun v h₁ tk₁ hP hst₁ hk₁ => ?_
    obtain ⟨F₁, N₁⟩ := next h₁ hk₁
    refine wpAny_of_eq (ht v) ?_
    refine wpAny_assign_Name (wpAny_storeName_local hx F₁.ns (fun h₂ hn₂ hs₂ => ?_) hp)
    have F₂ := F₁.set hn₂ hs₂
    have Nown : News g env.locals h₂ (ownOf g fp h₂) := news_ownOf hLf
    have hst₂ : St (i + 1) h₂ := W.frame _ _ _ hst₁ fun b hb o e => (hs₂.2 b fun q => hLf (q ▸ hb)).trans e
    refine wpC_mono (step i v m' news' g h₂ _ (ownOf g fp h₂) hlt hP hJ hnw' ownOf_sub (fun p hp => (Nown p hp).1) (fun b hb o e => mem_ownOf hb (hfpg b hb) e) hst₂ KT B' F₂ ((N₁.set hs₂).append Nown)) (fun f s₃ h₃ => ?_) fun _ _ e => e
    obtain ⟨hf, g₃, h₃', tk₃, m₂, news₂, rfl, KT₃, B₃, F₃, N₃, ha₃, hJ₃⟩ := h₃
    have fin : ∃ m, m < n + 1 - i ∧ ∃ g h' tk m' news' i', ({ s with heap := h₃', toks := tk₃ } : Shared) = { s with heap := h', toks := tk } ∧ KtsTurn (outer.filterMap (·.frame)) h₀ g ∧ Below A₀ base outer g ∧ St i' h' ∧ Fr g env.locals h' m' ∧ News g env.locals h' news' ∧ (∀ p ∈ news', p.1 ∉ wr) ∧ J i' m' news' ∧ i' ≤ n ∧ m = n + 1 - i' := by
      refine ⟨n + 1 - (i + 1), by omega, g₃, h₃', tk₃, m₂, news₂, i + 1, rfl, KT.trans KT₃, B₃, ?_, F₃, (fun p hp => N₃ p (List.mem_append_left _ hp)), ha₃, hJ₃, hlt, rfl⟩
      refine W.frame _ _ _ hst₁ fun b hb o e => ?_
      have e₂ : h₂.get? b = some o := (hs₂.2 b fun q => hLf (q ▸ hb)).trans e
      exact (N₃ _ (List.mem_append_right _ (mem_ownOf hb (hfpg b hb) e₂))).1
    rcases hf with rfl | rfl <;> exact fin
  · have hin : i = n := by omega
    subst hin
    refine W.done _ _ _ hst' fun h₁ tk₁ hk₁ => wpAny_execs_nil ?_
    obtain ⟨F₁, N₁⟩ := next h₁ hk₁
    exact hR g h₁ tk₁ m' news' KT B' F₁ N₁ hnw' hJ
/-- an object that is no iterator over signs -/
def NoIt (o : Obj) : Prop := o.cls ≠ .type "str_ascii_iterator" ∧ o.cls ≠ .type "str_iterator"
/-- the end of a turn of a loop over signs -/
def StepS (fs : List Addr) (A₀ : Around) (base : Heap) (outer : List Env) (L : Addr) (own : List (Addr × Obj)) (J : (Str → Option Value) → List (Addr × Obj) → Prop) (g : Heap) (s₁ : Shared) (f : Flow) (s₂ : Shared) : Prop :=
  (f = .next ∨ f = .cont) ∧ ∃ g₂ h₂ tk m₂ news₂, s₂ = { s₁ with heap := h₂, toks := tk } ∧ KtsTurn fs g g₂ ∧ Below A₀ base outer g₂ ∧ Fr g₂ L h₂ m₂ ∧ News g₂ L h₂ (news₂ ++ own) ∧ J m₂ news₂
/-- what a for over signs asks -/
def SignsAt (prog : Program) (w : World) (A A₀ : Around) (base : Heap) (outer : List Env) (h₀ : Heap) (env : Env) (x : Str) (body : List Stmt) (Q : Flow → Shared → Prop) (E : Value → Shared → Prop) (xv : Value) (s₁ : Shared) : Prop :=
  ∃ (u : Str) (t : Tok) (m : Str → Option Value) (news : List (Addr × Obj)) (J : Nat → (Str → Option Value) → List (Addr × Obj) → Prop),
      xv = .str u t ∧ Below A₀ base outer h₀ ∧ Fr h₀ env.locals s₁.heap m ∧ News h₀ env.locals s₁.heap news ∧ J 0 m news ∧ (∀ i m' news', J i m' news' → ∀ p ∈ news', NoIt p.2 ∨ ∃ q ∈ news, q.1 = p.1) ∧
      (∀ i c ct m₁ news₁ g h₁ tk₁ own, u.cps[i]? = some c → J i m₁ news₁ → (∀ p ∈ news₁, ∀ q ∈ own, q.1 ≠ p.1) → KtsTurn (outer.filterMap (·.frame)) h₀ g → Below A₀ base outer g →
        Fr g env.locals h₁ (fun y => if y = x then some (.str ⟨#[c]⟩ ct) else m₁ y) → News g env.locals h₁ (news₁ ++ own) →
        wpC (model prog w) A (execs body env) (StepS (outer.filterMap (·.frame)) A₀ base outer env.locals own (J (i + 1)) g { s₁ with heap := h₁, toks := tk₁ }) E { s₁ with heap := h₁, toks := tk₁ }) ∧
      ∀ g h' tk m' news', KtsTurn (outer.filterMap (·.frame)) h₀ g → Below A₀ base outer g → Fr g env.locals h' m' → News g env.locals h' news' → J u.cps.size m' news' → Q .next { s₁ with heap := h', toks := tk }
/-- a for over signs -/
theorem wpC_For_str {Q : Flow → Shared → Prop} {E : Value → Shared → Prop} {x : Str} {px pos : Pos} {iter : PySem.Expr} {body : List Stmt}
    (h : wpAny (model prog w) A (eval iter env) (SignsAt prog w A A₀ base outer h₀ env x body Q E) E s)
    (hA : A.handled = none) (hx : env.kindOf x = some .local) (hp : (env.scope.kind == .class || (env.scope.kind == .module && env.locals != env.globals)) = false)
    (hs : ∀ x, foldedSetIterable iter env x = pure x := by intro _; rfl)
    (hE : PassesOwn (model prog w) A env E := by passes_own) :
    wpC (model prog w) A (exec (.For (.Name x px) iter body [] pos) env) Q E s := by
  refine wpC_For (wpC.of (wpAny_mono h (fun xv s₁ h₁ => ?_) fun _ _ e => e)) hs
  obtain ⟨u, t, m, news, J, rfl, B, F, N, h0, hno, step, hQ⟩ := h₁
  have hIn : s₁.heap.get? s₁.heap.objs.size = none := by
    cases q : s₁.heap.get? s₁.heap.objs.size with
    | none => rfl
    | some o => exact absurd (Heap.lt_size q) (Nat.lt_irrefl _)
  have hI0 : h₀.get? s₁.heap.objs.size = none := kts_none F.keep hIn
  have hLI : env.locals ≠ s₁.heap.objs.size := fun q => by
    obtain ⟨oL, _, _, hL, _⟩ := F.ns
    rw [q, hIn] at hL; cases hL
  have key : ∀ ty, (ty = "str_ascii_iterator" ∨ ty = "str_iterator") → ∀ o : Obj, o.isFreed = false → Walks prog w A s₁.heap.objs.size [s₁.heap.objs.size] [s₁.heap.objs.size] u.cps.size (SignAt u) (fun i h => h.IsStrIter s₁.heap.objs.size ty u t i) →
      (s₁.heap.push o).IsStrIter s₁.heap.objs.size ty u t 0 →
      codeC (model prog w) A (.forLoop (.Name x px) (.ref s₁.heap.objs.size) body [] env) (fun r s' => match r with | .ok f => Q f s' | .error e => cameBackBy (model prog w) A env E e s') { s₁ with heap := s₁.heap.push o } := by
    intro ty hty o _ hW hst
    have Fp : Fr h₀ env.locals (s₁.heap.push o) m := F.push _
    have Np : News h₀ env.locals (s₁.heap.push o) news := fun p hp => ⟨Heap.get?_push_of_some _ (N p hp).1, (N p hp).2⟩
    refine codeC_forLoop_fr (s := { s₁ with heap := s₁.heap.push o }) hW B hx hp (by simpa using hLI) (by simpa using hI0)
      (fun p hp q => by
        have e := (N p hp).1
        rw [List.mem_singleton.mp q, hIn] at e
        cases e) hst Fp Np J h0 ?_ ?_
    · intro i v m₁ news₁ g h₁ tk₁ own hi hP hJ hnw hown hown2 hown3 hst₁ KT B' F₁ N₁
      obtain ⟨c, t', hc, rfl⟩ := hP
      obtain ⟨oi, hoi, hoic, _⟩ := hst₁
      refine wpC_passesOwn hE (wpC_mono (step i c t' m₁ news₁ g h₁ tk₁ own hc hJ (fun p hp q hq e => hnw p hp (e ▸ hown q hq)) KT B' F₁ N₁) (fun f s₃ h₃ => ?_) fun _ _ e => e)
      obtain ⟨hf, g₂, h₂, tk, m₂, news₂, rfl, KT₂, B₂, F₂, N₂, hJ₂⟩ := h₃
      refine ⟨hf, g₂, h₂, tk, m₂, news₂, rfl, KT₂, B₂, F₂, N₂, fun p hp q => ?_, hJ₂⟩
      have e1 := (N₂ p (List.mem_append_left _ hp)).1
      have e2 := (N₂ _ (List.mem_append_right _ (hown3 _ (List.mem_singleton.mpr rfl) _ hoi))).1
      rw [List.mem_singleton.mp q] at e1
      have e3 : p.2 = oi := Option.some.inj (e1.symm.trans e2)
      rcases hno _ _ _ hJ₂ p hp with no | ⟨q', hq', e'⟩
      · rw [e3] at no
        rcases hty with rfl | rfl
        · exact no.1 hoic
        · exact no.2 hoic
      · have e4 := (N q' hq').1
        rw [e', List.mem_singleton.mp q, hIn] at e4
        cases e4
    · intro g h' tk m' news' KT B' F' N' _ hJ
      exact hQ g h' tk m' news' KT B' F' N' hJ
  cases ha : u.cps.all (· < 128)
  · exact wpAny_pyIter_wide ha (key _ (.inr rfl) _ rfl (Walks.strWide hA _ u t) ⟨_, Heap.get?_push_size _ rfl, rfl, rfl⟩)
  · exact wpAny_pyIter_ascii ha (key _ (.inl rfl) _ rfl (Walks.strAscii hA _ u t) ⟨_, Heap.get?_push_size _ rfl, rfl, rfl⟩)
end
end Mine
end
section
theorem Mine.off_Pa : True := by
  w_top off
  trivial
open PySem PySem.W PyProof.Rows
set_option Elab.async false
set_option linter.unusedVariables false
namespace Mine
/-- the state of the scan -/
structure PS where
  ks : List Nat
  e : Str
  ins : Nat
  br : Bool
  q : Option Nat
/-- the words that are added, with the sign they stand in, and the kind of step that comes of it -/
def Wd (e : Str) (i : Nat) (ko : Option Nat) : Prop :=
  (i = 1 ∧ e = Str.ofString "*" ∧ ko = some 0) ∨ (i = 1 ∧ e = Str.ofString "**" ∧ ko = some 1) ∨ (i = 1 ∧ e = Str.ofString "a" ∧ ko = some 2) ∨ (i = 1 ∧ e = Str.ofString "b" ∧ ko = some 3) ∨
  (i = 2 ∧ e = Str.ofString "*" ∧ ko = some 0) ∨ (i = 2 ∧ e = Str.ofString "**" ∧ ko = some 1) ∨ (i = 2 ∧ e = Str.ofString "3" ∧ ko = some 4) ∨ (i = 2 ∧ e = Str.ofString "" ∧ ko = none) ∨
  (i = 2 ∧ e = Str.ofString "'a'" ∧ ko = some 2) ∨ (i = 2 ∧ e = Str.ofString "'b'" ∧ ko = some 3) ∨ (i = 2 ∧ e = Str.ofString "'*'" ∧ ko = some 5) ∨ (i = 2 ∧ e = Str.ofString "\"it's\"" ∧ ko = some 6)
def sg (c : Nat) : Str := ⟨#[c]⟩
/-- one turn of the scan: 46 '.', 91 '[', 93 ']', 39 and 34 the quotes -/
inductive Turn : PS → Nat → PS → Prop
  | dot0 {ks} : Turn ⟨ks, Str.ofString "", 0, false, none⟩ 46 ⟨ks, Str.ofString "", 1, false, none⟩
  | br0 {ks} : Turn ⟨ks, Str.ofString "", 0, false, none⟩ 91 ⟨ks, Str.ofString "", 2, true, none⟩
  | dch {ks e c} : (c = 42 ∨ c = 97 ∨ c = 98) → e.length ≤ 20 → Turn ⟨ks, e, 1, false, none⟩ c ⟨ks, e ++ sg c, 1, false, none⟩
  | ddot {ks e ko} : Wd e 1 ko → ks.length ≤ 20 → Turn ⟨ks, e, 1, false, none⟩ 46 ⟨ks ++ ko.toList, Str.ofString "", 1, false, none⟩
  | dbr {ks e ko} : Wd e 1 ko → ks.length ≤ 20 → Turn ⟨ks, e, 1, false, none⟩ 91 ⟨ks ++ ko.toList, Str.ofString "", 2, false, none⟩
  | bch {ks e b c} : (c = 42 ∨ c = 51) → e.length ≤ 20 → Turn ⟨ks, e, 2, b, none⟩ c ⟨ks, e ++ sg c, 2, b, none⟩
  | bq {ks e b c} : (c = 39 ∨ c = 34) → e.length ≤ 20 → Turn ⟨ks, e, 2, b, none⟩ c ⟨ks, e ++ sg c, 2, b, some c⟩
  | bend {ks e b ko} : Wd e 2 ko → ks.length ≤ 20 → Turn ⟨ks, e, 2, b, none⟩ 93 ⟨ks ++ ko.toList, Str.ofString "", 0, false, none⟩
  | qend {ks e b c ko} : (c = 39 ∨ c = 34) → Wd (e ++ sg c) 2 ko → e.length ≤ 20 → ks.length ≤ 20 → Turn ⟨ks, e, 2, b, some c⟩ c ⟨ks ++ ko.toList, Str.ofString "", 2, b, none⟩
  | qch {ks e b q c} : (q = 39 ∨ q = 34) → (c = 42 ∨ c = 97 ∨ c = 98 ∨ c = 105 ∨ c = 116 ∨ c = 115) → e.length ≤ 20 → Turn ⟨ks, e, 2, b, some q⟩ c ⟨ks, e ++ sg c, 2, b, some q⟩
  | qoth {ks e b} : e.length ≤ 20 → Turn ⟨ks, e, 2, b, some 34⟩ 39 ⟨ks, e ++ sg 39, 2, b, some 34⟩
inductive Runs : PS → List Nat → PS → Prop
  | nil {st} : Runs st [] st
  | cons {st st' st'' c cs} : Turn st c st' → Runs st' cs st'' → Runs st (c :: cs) st''
theorem Runs.append {a b c : PS} {xs ys : List Nat} (h : Runs a xs b) (g : Runs b ys c) : Runs a (xs ++ ys) c := by
  induction h with
  | nil => exact g
  | cons t _ ih => exact .cons t (ih g)
/-- what the scan ends with: the kinds of steps, the last word still to be added -/
def Fin (st : PS) (ks : List Nat) : Prop :=
  (st.ks = ks ∧ st.e = Str.ofString "" ∧ st.q = none) ∨ (∃ k, st.ins = 1 ∧ st.q = none ∧ st.e ≠ Str.ofString "" ∧ Wd st.e 1 (some k) ∧ ks = st.ks ++ [k])
/-- the signs of a step -/
def stepCs : Nat → Bool → List Nat
  | 0, true => [46, 42]
  | 1, true => [46, 42, 42]
  | 2, true => [46, 97]
  | 3, true => [46, 98]
  | 0, false => [91, 42, 93]
  | 1, false => [91, 42, 42, 93]
  | 2, false => [91, 39, 97, 39, 93]
  | 3, false => [91, 39, 98, 39, 93]
  | 4, _ => [91, 51, 93]
  | 5, _ => [91, 39, 42, 39, 93]
  | 6, _ => [91, 34, 105, 116, 39, 115, 34, 93]
  | _, _ => []
/-- a state between two steps: nothing open, or a dotted word still open -/
def Mid (st : PS) (ks : List Nat) : Prop := st.br = false ∧ st.q = none ∧
  ((st.ins = 0 ∧ st.e = Str.ofString "" ∧ st.ks = ks) ∨ (∃ k, st.ins = 1 ∧ Wd st.e 1 (some k) ∧ ks = st.ks ++ [k]))
theorem e_str {c : Nat} : (Str.ofString "") ++ sg c = sg c := by
  show (⟨(Str.ofString "").cps ++ #[c]⟩ : Str) = ⟨#[c]⟩
  rw [show (Str.ofString "").cps = #[] by decide +kernel]
  simp
theorem wd_len {e : Str} {i : Nat} {ko : Option Nat} (h : Wd e i ko) : e.length ≤ 20 := by
  rcases h with h | h | h | h | h | h | h | h | h | h | h | h <;> (obtain ⟨_, rfl, _⟩ := h; decide +kernel)
theorem wd_ne {e : Str} {k : Nat} (h : Wd e 1 (some k)) : e ≠ Str.ofString "" := by
  rcases h with h | h | h | h | h | h | h | h | h | h | h | h <;> (obtain ⟨q, rfl, r⟩ := h; first | decide +kernel | (exfalso; revert q; decide))
/-- how a step runs, from a closed state and from an open dotted word -/
theorem step_runs {st : PS} {ks : List Nat} {k : Nat} {d : Bool} (h : Mid st ks) (hk : k < 7) (hl : ks.length ≤ 19) : ∃ st', Runs st (stepCs k d) st' ∧ Mid st' (ks ++ [k]) := by
  obtain ⟨ks0, e, ins, br, q⟩ := st
  obtain ⟨rfl, rfl, h⟩ := h
  -- open the step: '.' or '['
  have hdot : ∃ s1 : PS, Turn ⟨ks0, e, ins, false, none⟩ 46 s1 ∧ s1 = ⟨ks, Str.ofString "", 1, false, none⟩ := by
    rcases h with ⟨rfl, rfl, rfl⟩ | ⟨k', rfl, hw, rfl⟩
    · exact ⟨_, .dot0, rfl⟩
    · exact ⟨_, .ddot hw (by simp at hl; omega), rfl⟩
  have hbr : ∃ b, Turn ⟨ks0, e, ins, false, none⟩ 91 ⟨ks, Str.ofString "", 2, b, none⟩ := by
    rcases h with ⟨rfl, rfl, rfl⟩ | ⟨k', rfl, hw, rfl⟩
    · exact ⟨_, .br0⟩
    · exact ⟨_, .dbr hw (by simp at hl; omega)⟩
  obtain ⟨s1, t1, rfl⟩ := hdot
  obtain ⟨b, t2⟩ := hbr
  have hl' : ks.length ≤ 20 := by omega
  have L0 : (Str.ofString "").length ≤ 20 := by decide +kernel
  have dfin : ∀ (cs : List Nat) (e' : Str) (k : Nat), Runs ⟨ks, Str.ofString "", 1, false, none⟩ cs ⟨ks, e', 1, false, none⟩ → Wd e' 1 (some k) → ∃ st', Runs ⟨ks0, e, ins, false, none⟩ (46 :: cs) st' ∧ Mid st' (ks ++ [k]) :=
    fun cs e' k hr hw => ⟨_, .cons t1 hr, rfl, rfl, .inr ⟨k, rfl, hw, rfl⟩⟩
  have bfin : ∀ (cs : List Nat) (e' : Str) (k : Nat), Runs ⟨ks, Str.ofString "", 2, b, none⟩ cs ⟨ks, e', 2, b, none⟩ → Wd e' 2 (some k) → ∃ st', Runs ⟨ks0, e, ins, false, none⟩ (91 :: (cs ++ [93])) st' ∧ Mid st' (ks ++ [k]) :=
    fun cs e' k hr hw => ⟨_, .cons t2 (hr.append (.cons (.bend hw hl') .nil)), rfl, rfl, .inl ⟨rfl, rfl, rfl⟩⟩
  have qfin : ∀ (q : Nat) (cs : List Nat) (e' : Str) (k : Nat), (q = 39 ∨ q = 34) → Runs ⟨ks, Str.ofString "" ++ sg q, 2, b, some q⟩ cs ⟨ks, e', 2, b, some q⟩ → Wd (e' ++ sg q) 2 (some k) → e'.length ≤ 20 → ∃ st', Runs ⟨ks0, e, ins, false, none⟩ (91 :: q :: (cs ++ [q, 93])) st' ∧ Mid st' (ks ++ [k]) :=
    fun q cs e' k hq hr hw he => ⟨_, .cons t2 (.cons (.bq hq L0) (hr.append (.cons (.qend hq hw he hl') (.cons (.bend (ko := none) (.inr (.inr (.inr (.inr (.inr (.inr (.inr (.inl ⟨rfl, rfl, rfl⟩)))))))) (by simp; omega)) .nil)))), rfl, rfl, .inl ⟨rfl, rfl, by simp⟩⟩
  have W1 : ∀ (e : Str) (k : Nat), decide (e = Str.ofString "*" ∧ k = 0 ∨ e = Str.ofString "**" ∧ k = 1 ∨ e = Str.ofString "a" ∧ k = 2 ∨ e = Str.ofString "b" ∧ k = 3) = true → Wd e 1 (some k) := fun e k h => by
    rcases of_decide_eq_true h with ⟨rfl, rfl⟩ | ⟨rfl, rfl⟩ | ⟨rfl, rfl⟩ | ⟨rfl, rfl⟩ <;> simp [Wd]
  have W2 : ∀ (e : Str) (k : Nat), decide (e = Str.ofString "*" ∧ k = 0 ∨ e = Str.ofString "**" ∧ k = 1 ∨ e = Str.ofString "3" ∧ k = 4 ∨ e = Str.ofString "'a'" ∧ k = 2 ∨ e = Str.ofString "'b'" ∧ k = 3 ∨ e = Str.ofString "'*'" ∧ k = 5 ∨ e = Str.ofString "\"it's\"" ∧ k = 6) = true → Wd e 2 (some k) := fun e k h => by
    rcases of_decide_eq_true h with ⟨rfl, rfl⟩ | ⟨rfl, rfl⟩ | ⟨rfl, rfl⟩ | ⟨rfl, rfl⟩ | ⟨rfl, rfl⟩ | ⟨rfl, rfl⟩ | ⟨rfl, rfl⟩ <;> simp [Wd]
  have hk' : k = 0 ∨ k = 1 ∨ k = 2 ∨ k = 3 ∨ k = 4 ∨ k = 5 ∨ k = 6 := by omega
  rcases hk' with rfl | rfl | rfl | rfl | rfl | rfl | rfl
  · cases d
    · exact bfin [42] _ 0 (.cons (.bch (.inl rfl) L0) .nil) (W2 _ _ (by decide +kernel))
    · exact dfin [42] _ 0 (.cons (.dch (.inl rfl) L0) .nil) (W1 _ _ (by decide +kernel))
  · cases d
    · exact bfin [42, 42] _ 1 (.cons (.bch (.inl rfl) L0) (.cons (.bch (.inl rfl) (by decide +kernel)) .nil)) (W2 _ _ (by decide +kernel))
    · exact dfin [42, 42] _ 1 (.cons (.dch (.inl rfl) L0) (.cons (.dch (.inl rfl) (by decide +kernel)) .nil)) (W1 _ _ (by decide +kernel))
  · cases d
    · exact qfin 39 [97] _ 2 (.inl rfl) (.cons (.qch (.inl rfl) (by decide) (by decide +kernel)) .nil) (W2 _ _ (by decide +kernel)) (by decide +kernel)
    · exact dfin [97] _ 2 (.cons (.dch (.inr (.inl rfl)) L0) .nil) (W1 _ _ (by decide +kernel))
  · cases d
    · exact qfin 39 [98] _ 3 (.inl rfl) (.cons (.qch (.inl rfl) (by decide) (by decide +kernel)) .nil) (W2 _ _ (by decide +kernel)) (by decide +kernel)
    · exact dfin [98] _ 3 (.cons (.dch (.inr (.inr rfl)) L0) .nil) (W1 _ _ (by decide +kernel))
  · have z := bfin [51] _ 4 (.cons (.bch (.inr rfl) L0) .nil) (W2 _ _ (by decide +kernel))
    cases d <;> exact z
  · have z := qfin 39 [42] _ 5 (.inl rfl) (.cons (.qch (.inl rfl) (by decide) (by decide +kernel)) .nil) (W2 _ _ (by decide +kernel)) (by decide +kernel)
    cases d <;> exact z
  · have z := qfin 34 [105, 116, 39, 115] _ 6 (.inr rfl) (.cons (.qch (.inr rfl) (by decide) (by decide +kernel)) (.cons (.qch (.inr rfl) (by decide) (by decide +kernel)) (.cons (.qoth (by decide +kernel)) (.cons (.qch (.inr rfl) (by decide) (by decide +kernel)) .nil)))) (W2 _ _ (by decide +kernel)) (by decide +kernel)
    cases d <;> exact z
/-- the signs of a road -/
noncomputable def roadCs : List (Nat × Bool) → List Nat
  | [] => []
  | (k, d) :: r => stepCs k d ++ roadCs r
theorem road_runs : ∀ (r : List (Nat × Bool)) {st : PS} {ks : List Nat}, Mid st ks → (∀ p ∈ r, p.1 < 7) → ks.length + r.length ≤ 20 → ∃ st', Runs st (roadCs r) st' ∧ Mid st' (ks ++ r.map (·.1))
  | [], st, ks, h, _, _ => ⟨st, .nil, by simpa using h⟩
  | (k, d) :: r, st, ks, h, hk, hl => by
    simp only [List.length_cons] at hl
    obtain ⟨s1, r1, m1⟩ := step_runs (k := k) (d := d) h (hk _ (.head _)) (by omega)
    obtain ⟨s2, r2, m2⟩ := road_runs r m1 (fun p hp => hk p (.tail _ hp)) (by simp; omega)
    exact ⟨s2, r1.append r2, by simpa [List.append_assoc] using m2⟩
theorem mid_fin {st : PS} {ks : List Nat} (h : Mid st ks) : Fin st ks := by
  obtain ⟨_, hq, ⟨_, he, hk⟩ | ⟨k, hi, hw, hk⟩⟩ := h
  · exact .inl ⟨hk, he, hq⟩
  · exact .inr ⟨k, hi, hq, wd_ne hw, hw, hk⟩
/-- the whole scan -/
theorem scan (r : List (Nat × Bool)) (hk : ∀ p ∈ r, p.1 < 7) (hl : r.length ≤ 20) : ∃ st', Runs ⟨[], Str.ofString "", 0, false, none⟩ (roadCs r) st' ∧ Fin st' (r.map (·.1)) := by
  obtain ⟨s, h, m⟩ := road_runs r (st := ⟨[], Str.ofString "", 0, false, none⟩) (ks := []) ⟨rfl, rfl, .inl ⟨rfl, rfl, rfl⟩⟩ hk (by simpa using hl)
  exact ⟨s, h, mid_fin (by simpa using m)⟩
end Mine
end
section
theorem Mine.off_Add : True := by
  w_top off
  trivial
open PySem PySem.W PyProof.Rows
set_option Elab.async false
set_option linter.unusedVariables false
set_option maxRecDepth 100000
namespace Mine

section
variable {prog : Program} {w : World} {A : Around} {s : Shared} {x y : Str} {t u : Tok} {E : Value → Shared → Prop}
theorem in_no {Q : Value → Shared → Prop} (hx : (Builtin.Str.occurrences x y 0 x.length 1).isEmpty = true) (h : Q (.bool false) s) : wpAny (model prog w) A (compareOp .In (.str y u) (.str x t)) Q E s := in_str (by rw [hx]; exact h)
theorem in_yes {Q : Value → Shared → Prop} (hx : (Builtin.Str.occurrences x y 0 x.length 1).isEmpty = false) (h : Q (.bool true) s) : wpAny (model prog w) A (compareOp .In (.str y u) (.str x t)) Q E s := in_str (by rw [hx]; exact h)
end
local macro_rules | `(tactic| walk_at "compareOp In str str") => `(tactic| first | refine in_no (by decide +kernel) ?_ | refine in_yes (by decide +kernel) ?_)
local macro_rules | `(tactic| walk_at "ite") => `(tactic| (k_closed; first | (with_reducible refine' ite_pos ?c ?_; (case c => decide +kernel)) | (with_reducible refine' ite_neg ?c ?_; (case c => decide +kernel))))
local macro_rules | `(tactic| walk_at "callWith") => `(tactic| (k_here; (with_reducible show wpAny _ _ (callWith _ (Value.builtin _) (_ :: _) _ _) _ _ _); k_dflt (first | with_reducible refine callWith_method0 ?_ | refine callWith_method1 ?_)))
local macro_rules | `(tactic| walk_at "setAdd str") => `(tactic| (k_here; (refine' kds_add_new (knd := PySem.strKind _ _) ?F ?N ?U ?d ?z ?k ?sc ?b ?_); k_dflt ((case F => k_asm); (case N => k_asm); (case U => k_updF); (case d => k_asm); (case z => kse_small); (case k => exact strKind_is _ _ _ _); (case sc => rfl); (case b => rfl)); intro h' o' F' N' hs'; (try dsimp only at N')))
local macro_rules | `(tactic| k_all) => `(tactic| with_reducible assumption)
theorem news_sub {h₀ h : Heap} {L : Addr} {a b : List (Addr × Obj)} (N : News h₀ L h b) (s : ∀ p ∈ a, p ∈ b) : News h₀ L h a := fun p hp => N p (s p hp)
theorem sub_two {p1 p2 : Addr × Obj} {r b : List (Addr × Obj)} (h2 : p2 ∈ b) (h1 : p1 ∈ b) (t : ∀ q ∈ r, q ∈ b) : ∀ q ∈ p1 :: p2 :: r, q ∈ b := fun q hq => by
  rcases List.mem_cons.mp hq with rfl | hq
  · exact h1
  rcases List.mem_cons.mp hq with rfl | hq
  · exact h2
  exact t q hq

set_option maxHeartbeats 4000000 in
theorem add_a : ∀ {w : World} {mean : ExcName → Option Value} {mg mb : Str → Option Value}
  (dp un : Nat) (gd : Option (List Code)) (cn : Str) (cs : Scope) (a : Addr) (ccd : Value) (cl : List (Str × Addr)) (outer : List Env) (A₀ : Around) (base h₀ : Heap) (L : Addr) (m : Str → Option Value) (s : Shared) (Q E : Value → Shared → Prop) (ts : List (Addr × Obj))
  (l : Addr) (vs : Array Value) (n : Nat) (tk tki : Tok) (hvs : vs.size < 1000) (hts : ∀ p ∈ ts, p.1 ≠ l)
  (B : Below A₀ base outer h₀) (F : Fr h₀ L s.heap m) (X : (hd.heap_39 (World.params w)).In h₀) (N : News h₀ L s.heap ((l, W.listOf vs n) :: ts)) (T : Top hd.view_39 (looseW hd.view_39 [Str.ofString "SINGLE_WILDCARD", Str.ofString "MULTI_WILDCARD", Str.ofString "DEFAULT_FIRST_ELEMENT", Str.ofString "_path_to_elements", Str.ofString "_WILDCARD_RE"]) mean mg mb h₀) (D : KtsDicts (outer.filterMap (·.frame)) h₀) (XB : (hd.heap_39 (World.params w)).In base) (TB : Top hd.view_39 (looseW hd.view_39 [Str.ofString "SINGLE_WILDCARD", Str.ofString "MULTI_WILDCARD", Str.ofString "DEFAULT_FIRST_ELEMENT", Str.ofString "_path_to_elements", Str.ofString "_WILDCARD_RE"]) mean mg mb base) (hk : cs.kind = .function)
  (hdp : dp + 10 < recursionLimit) (hun : un + 100 < cLine)
  (hret : ∀ (r : Addr) (x act : Value) (n' : Nat) h₀' h' tk', KtsTurn (outer.filterMap (·.frame)) h₀ h₀' → Fr h₀' L h' m → Below A₀ base outer h₀' → News h₀' L h' ((r, { cls := .type "tuple", data := .seq #[x, act] }) :: (l, W.listOf (vs.push (.ref r)) n') :: ts) → (∃ u, x = .str (Str.ofString "a") u) → Q .none { s with heap := h', toks := tk' }),
  wpC (model (RowW.prog (OpenRow.toRowW (OpenLaw.row PySem.Challenge.rw_fu0002_01))) w) (ktrTop dp un gd cn cs L a ccd cl outer) (call (.ref 86) [.ref l, .str (Str.ofString "a") tk, .str (Str.ofString ".") tki] []) Q E s := by
  intro w mean mg mb dp un gd cn cs a ccd cl outer A₀ base h₀ L m s Q E ts l vs n tk tki hvs hts B F X N T D XB TB hk hdp hun hret
  revert X
  k_fill
  intro X
  refine wpC_call ?_
  k_dflt (refine' defC ?k1 ?k2 ?k3 ?k4 ?k5 ?kD ?kA ?kF ?kK ?k6 ?k7 ?k8 ?k9 ?kB ?_ ?c2 ?c3 ?c4 ?c5; (case kA => exact rfl); (case kF => exact rfl); (case kK => assumption); (case k1 => k_asm); (case k2 => k_asm); (case k3 => k_asm); (case k4 => exact N); (case k5 => k_asm); (case kD => exact D); (case k6 => k_is); (case k7 => k_is); (case k8 => ktr_room); (case k9 => first | exact BindsTo.of_eq rfl | exact binds_K (by k_in) rfl (by k_is) rfl rfl rfl); (case c5 => decide); (case kB => exact locs rfl); (case c2 => exact rfl); (case c3 => exact rfl); (case c4 => exact rfl); k_whole; intro g' L' h' F' N' B' X' T' D'; (try dsimp only); (try k_fold))
  clear B F X T
  refine wpC_execs_plain ?_
  k_steps
  with_reducible refine wpC_execs_cons (wpC_If ?_)
  k_steps
  refine wpC_execs_plain ?_
  k_steps
  refine wpC_execs_plain ?_
  k_steps
  with_reducible refine wpC_execs_cons (wpC_If ?_)
  k_steps
  with_reducible refine wpC_execs_cons (wpC_Try ?_)
  refine wpC_execs_cons (wpC_Assign_Name ?_)
  refine wpC_IfExp ?_
  k_steps
  refine wpC_IfExp ?_
  k_steps
  refine wpC_IfExp ?_
  k_steps
  refine wpC_Call ?_
  k_steps
  refine rest_type ?_
  refine callC_int_bad rfl (by decide +kernel) (by decide +kernel) (by decide +kernel) (by decide +kernel) ?_
  intro h1 tk1 e1 hx1
  refine' caught2 (T1 := "ValueError") (T2 := "SyntaxError") (b1 := true) (b2 := false) ?K hx1 ?F ?N ?XB ?TB ?x1 ?v1 ?n1 ?x2 ?v2 ?n2 ?e1 ?t1 ?e2 ?t2 ?s1 ?s2 ?bb ?_
  case K => assumption
  case F => k_asm
  case N => assumption
  case XB => assumption
  case TB => assumption
  case x1 => k_is
  case v1 => decide +kernel
  case n1 => decide +kernel
  case x2 => k_is
  case v2 => decide +kernel
  case n2 => decide +kernel
  case e1 => exact isSubtype_of_subB (by decide +kernel)
  case t1 => exact isSubtype_of_subB (by decide +kernel)
  case e2 => exact isSubtype_of_subB (by decide +kernel)
  case t2 => exact isSubtype_of_subB (by decide +kernel)
  case s1 => exact isSubtype_of_subB (by decide +kernel)
  case s2 => exact isSubtype_of_subB (by decide +kernel)
  case bb => rfl
  k_whole
  intro h2 g2 KT F' N' B' X' T'
  (try k_sweep)
  (try dsimp only)
  k_steps
  dsimp only
  refine wpC_execs_nil ?_
  dsimp only
  refine wpC.of ?_
  k_steps
  dsimp only
  refine wpC_execs_nil ?_
  refine leaveC_ (by assumption) (by assumption) (by first | assumption | exact KtsTurn.refl) ?_
  intro h₀' KT2 F2 N2 B2
  refine' hret _ _ _ _ _ _ _ KT2 F2 B2 (news_sub N2 (sub_two ?zm2 ?zm1 ?zt)) ?zx
  case zm2 => k_mem
  case zm1 => k_mem
  case zt => (intro q hq; repeat (first | exact hq | apply List.mem_cons_of_mem))
  case zx => exact ⟨_, rfl⟩


set_option maxHeartbeats 4000000 in
theorem add_b : ∀ {w : World} {mean : ExcName → Option Value} {mg mb : Str → Option Value}
  (dp un : Nat) (gd : Option (List Code)) (cn : Str) (cs : Scope) (a : Addr) (ccd : Value) (cl : List (Str × Addr)) (outer : List Env) (A₀ : Around) (base h₀ : Heap) (L : Addr) (m : Str → Option Value) (s : Shared) (Q E : Value → Shared → Prop) (ts : List (Addr × Obj))
  (l : Addr) (vs : Array Value) (n : Nat) (tk tki : Tok) (hvs : vs.size < 1000) (hts : ∀ p ∈ ts, p.1 ≠ l)
  (B : Below A₀ base outer h₀) (F : Fr h₀ L s.heap m) (X : (hd.heap_39 (World.params w)).In h₀) (N : News h₀ L s.heap ((l, W.listOf vs n) :: ts)) (T : Top hd.view_39 (looseW hd.view_39 [Str.ofString "SINGLE_WILDCARD", Str.ofString "MULTI_WILDCARD", Str.ofString "DEFAULT_FIRST_ELEMENT", Str.ofString "_path_to_elements", Str.ofString "_WILDCARD_RE"]) mean mg mb h₀) (D : KtsDicts (outer.filterMap (·.frame)) h₀) (XB : (hd.heap_39 (World.params w)).In base) (TB : Top hd.view_39 (looseW hd.view_39 [Str.ofString "SINGLE_WILDCARD", Str.ofString "MULTI_WILDCARD", Str.ofString "DEFAULT_FIRST_ELEMENT", Str.ofString "_path_to_elements", Str.ofString "_WILDCARD_RE"]) mean mg mb base) (hk : cs.kind = .function)
  (hdp : dp + 10 < recursionLimit) (hun : un + 100 < cLine)
  (hret : ∀ (r : Addr) (x act : Value) (n' : Nat) h₀' h' tk', KtsTurn (outer.filterMap (·.frame)) h₀ h₀' → Fr h₀' L h' m → Below A₀ base outer h₀' → News h₀' L h' ((r, { cls := .type "tuple", data := .seq #[x, act] }) :: (l, W.listOf (vs.push (.ref r)) n') :: ts) → (∃ u, x = .str (Str.ofString "b") u) → Q .none { s with heap := h', toks := tk' }),
  wpC (model (RowW.prog (OpenRow.toRowW (OpenLaw.row PySem.Challenge.rw_fu0002_01))) w) (ktrTop dp un gd cn cs L a ccd cl outer) (call (.ref 86) [.ref l, .str (Str.ofString "b") tk, .str (Str.ofString ".") tki] []) Q E s := by
  intro w mean mg mb dp un gd cn cs a ccd cl outer A₀ base h₀ L m s Q E ts l vs n tk tki hvs hts B F X N T D XB TB hk hdp hun hret
  revert X
  k_fill
  intro X
  refine wpC_call ?_
  k_dflt (refine' defC ?k1 ?k2 ?k3 ?k4 ?k5 ?kD ?kA ?kF ?kK ?k6 ?k7 ?k8 ?k9 ?kB ?_ ?c2 ?c3 ?c4 ?c5; (case kA => exact rfl); (case kF => exact rfl); (case kK => assumption); (case k1 => k_asm); (case k2 => k_asm); (case k3 => k_asm); (case k4 => exact N); (case k5 => k_asm); (case kD => exact D); (case k6 => k_is); (case k7 => k_is); (case k8 => ktr_room); (case k9 => first | exact BindsTo.of_eq rfl | exact binds_K (by k_in) rfl (by k_is) rfl rfl rfl); (case c5 => decide); (case kB => exact locs rfl); (case c2 => exact rfl); (case c3 => exact rfl); (case c4 => exact rfl); k_whole; intro g' L' h' F' N' B' X' T' D'; (try dsimp only); (try k_fold))
  clear B F X T
  refine wpC_execs_plain ?_
  k_steps
  with_reducible refine wpC_execs_cons (wpC_If ?_)
  k_steps
  refine wpC_execs_plain ?_
  k_steps
  refine wpC_execs_plain ?_
  k_steps
  with_reducible refine wpC_execs_cons (wpC_If ?_)
  k_steps
  with_reducible refine wpC_execs_cons (wpC_Try ?_)
  refine wpC_execs_cons (wpC_Assign_Name ?_)
  refine wpC_IfExp ?_
  k_steps
  refine wpC_IfExp ?_
  k_steps
  refine wpC_IfExp ?_
  k_steps
  refine wpC_Call ?_
  k_steps
  refine rest_type ?_
  refine callC_int_bad rfl (by decide +kernel) (by decide +kernel) (by decide +kernel) (by decide +kernel) ?_
  intro h1 tk1 e1 hx1
  refine' caught2 (T1 := "ValueError") (T2 := "SyntaxError") (b1 := true) (b2 := false) ?K hx1 ?F ?N ?XB ?TB ?x1 ?v1 ?n1 ?x2 ?v2 ?n2 ?e1 ?t1 ?e2 ?t2 ?s1 ?s2 ?bb ?_
  case K => assumption
  case F => k_asm
  case N => assumption
  case XB => assumption
  case TB => assumption
  case x1 => k_is
  case v1 => decide +kernel
  case n1 => decide +kernel
  case x2 => k_is
  case v2 => decide +kernel
  case n2 => decide +kernel
  case e1 => exact isSubtype_of_subB (by decide +kernel)
  case t1 => exact isSubtype_of_subB (by decide +kernel)
  case e2 => exact isSubtype_of_subB (by decide +kernel)
  case t2 => exact isSubtype_of_subB (by decide +kernel)
  case s1 => exact isSubtype_of_subB (by decide +kernel)
  case s2 => exact isSubtype_of_subB (by decide +kernel)
  case bb => rfl
  k_whole
  intro h2 g2 KT F' N' B' X' T'
  (try k_sweep)
  (try dsimp only)
  k_steps
  dsimp only
  refine wpC_execs_nil ?_
  dsimp only
  refine wpC.of ?_
  k_steps
  dsimp only
  refine wpC_execs_nil ?_
  refine leaveC_ (by assumption) (by assumption) (by first | assumption | exact KtsTurn.refl) ?_
  intro h₀' KT2 F2 N2 B2
  refine' hret _ _ _ _ _ _ _ KT2 F2 B2 (news_sub N2 (sub_two ?zm2 ?zm1 ?zt)) ?zx
  case zm2 => k_mem
  case zm1 => k_mem
  case zt => (intro q hq; repeat (first | exact hq | apply List.mem_cons_of_mem))
  case zx => exact ⟨_, rfl⟩


set_option maxHeartbeats 4000000 in
theorem add_qa : ∀ {w : World} {mean : ExcName → Option Value} {mg mb : Str → Option Value}
  (dp un : Nat) (gd : Option (List Code)) (cn : Str) (cs : Scope) (a : Addr) (ccd : Value) (cl : List (Str × Addr)) (outer : List Env) (A₀ : Around) (base h₀ : Heap) (L : Addr) (m : Str → Option Value) (s : Shared) (Q E : Value → Shared → Prop) (ts : List (Addr × Obj))
  (l : Addr) (vs : Array Value) (n : Nat) (tk tki : Tok) (hvs : vs.size < 1000) (hts : ∀ p ∈ ts, p.1 ≠ l)
  (B : Below A₀ base outer h₀) (F : Fr h₀ L s.heap m) (X : (hd.heap_39 (World.params w)).In h₀) (N : News h₀ L s.heap ((l, W.listOf vs n) :: ts)) (T : Top hd.view_39 (looseW hd.view_39 [Str.ofString "SINGLE_WILDCARD", Str.ofString "MULTI_WILDCARD", Str.ofString "DEFAULT_FIRST_ELEMENT", Str.ofString "_path_to_elements", Str.ofString "_WILDCARD_RE"]) mean mg mb h₀) (D : KtsDicts (outer.filterMap (·.frame)) h₀) (XB : (hd.heap_39 (World.params w)).In base) (TB : Top hd.view_39 (looseW hd.view_39 [Str.ofString "SINGLE_WILDCARD", Str.ofString "MULTI_WILDCARD", Str.ofString "DEFAULT_FIRST_ELEMENT", Str.ofString "_path_to_elements", Str.ofString "_WILDCARD_RE"]) mean mg mb base) (hk : cs.kind = .function)
  (hdp : dp + 10 < recursionLimit) (hun : un + 100 < cLine)
  (hret : ∀ (r : Addr) (x act : Value) (n' : Nat) h₀' h' tk', KtsTurn (outer.filterMap (·.frame)) h₀ h₀' → Fr h₀' L h' m → Below A₀ base outer h₀' → News h₀' L h' ((r, { cls := .type "tuple", data := .seq #[x, act] }) :: (l, W.listOf (vs.push (.ref r)) n') :: ts) → (∃ u, x = .str (Str.ofString "a") u) → Q .none { s with heap := h', toks := tk' }),
  wpC (model (RowW.prog (OpenRow.toRowW (OpenLaw.row PySem.Challenge.rw_fu0002_01))) w) (ktrTop dp un gd cn cs L a ccd cl outer) (call (.ref 86) [.ref l, .str (Str.ofString "'a'") tk, .str (Str.ofString "[") tki] []) Q E s := by
  intro w mean mg mb dp un gd cn cs a ccd cl outer A₀ base h₀ L m s Q E ts l vs n tk tki hvs hts B F X N T D XB TB hk hdp hun hret
  revert X
  k_fill
  intro X
  refine wpC_call ?_
  k_dflt (refine' defC ?k1 ?k2 ?k3 ?k4 ?k5 ?kD ?kA ?kF ?kK ?k6 ?k7 ?k8 ?k9 ?kB ?_ ?c2 ?c3 ?c4 ?c5; (case kA => exact rfl); (case kF => exact rfl); (case kK => assumption); (case k1 => k_asm); (case k2 => k_asm); (case k3 => k_asm); (case k4 => exact N); (case k5 => k_asm); (case kD => exact D); (case k6 => k_is); (case k7 => k_is); (case k8 => ktr_room); (case k9 => first | exact BindsTo.of_eq rfl | exact binds_K (by k_in) rfl (by k_is) rfl rfl rfl); (case c5 => decide); (case kB => exact locs rfl); (case c2 => exact rfl); (case c3 => exact rfl); (case c4 => exact rfl); k_whole; intro g' L' h' F' N' B' X' T' D'; (try dsimp only); (try k_fold))
  clear B F X T
  refine wpC_execs_plain ?_
  k_steps
  with_reducible refine wpC_execs_cons (wpC_If ?_)
  k_steps
  refine wpC_execs_plain ?_
  k_steps
  refine wpC_execs_plain ?_
  k_steps
  with_reducible refine wpC_execs_cons (wpC_If ?_)
  k_steps
  with_reducible refine wpC_execs_cons (wpC_Try ?_)
  refine wpC_execs_cons (wpC_Assign_Name ?_)
  refine wpC_IfExp ?_
  k_steps
  refine wpC_IfExp ?_
  k_steps
  refine wpC_IfExp ?_
  k_steps
  refine wpC_Call ?_
  k_steps
  refine rest_type ?_
  refine callC_int_bad rfl (by decide +kernel) (by decide +kernel) (by decide +kernel) (by decide +kernel) ?_
  intro h1 tk1 e1 hx1
  refine' caught2 (T1 := "ValueError") (T2 := "SyntaxError") (b1 := true) (b2 := false) ?K hx1 ?F ?N ?XB ?TB ?x1 ?v1 ?n1 ?x2 ?v2 ?n2 ?e1 ?t1 ?e2 ?t2 ?s1 ?s2 ?bb ?_
  case K => assumption
  case F => k_asm
  case N => assumption
  case XB => assumption
  case TB => assumption
  case x1 => k_is
  case v1 => decide +kernel
  case n1 => decide +kernel
  case x2 => k_is
  case v2 => decide +kernel
  case n2 => decide +kernel
  case e1 => exact isSubtype_of_subB (by decide +kernel)
  case t1 => exact isSubtype_of_subB (by decide +kernel)
  case e2 => exact isSubtype_of_subB (by decide +kernel)
  case t2 => exact isSubtype_of_subB (by decide +kernel)
  case s1 => exact isSubtype_of_subB (by decide +kernel)
  case s2 => exact isSubtype_of_subB (by decide +kernel)
  case bb => rfl
  k_whole
  intro h2 g2 KT F' N' B' X' T'
  (try k_sweep)
  (try dsimp only)
  k_steps
  dsimp only
  refine wpC_execs_nil ?_
  dsimp only
  refine wpC.of ?_
  k_steps
  dsimp only
  refine wpC_execs_nil ?_
  refine leaveC_ (by assumption) (by assumption) (by first | assumption | exact KtsTurn.refl) ?_
  intro h₀' KT2 F2 N2 B2
  refine' hret _ _ _ _ _ _ _ KT2 F2 B2 (news_sub N2 (sub_two ?zm2 ?zm1 ?zt)) ?zx
  case zm2 => k_mem
  case zm1 => k_mem
  case zt => (intro q hq; repeat (first | exact hq | apply List.mem_cons_of_mem))
  case zx => exact ⟨_, rfl⟩


set_option maxHeartbeats 4000000 in
theorem add_qb : ∀ {w : World} {mean : ExcName → Option Value} {mg mb : Str → Option Value}
  (dp un : Nat) (gd : Option (List Code)) (cn : Str) (cs : Scope) (a : Addr) (ccd : Value) (cl : List (Str × Addr)) (outer : List Env) (A₀ : Around) (base h₀ : Heap) (L : Addr) (m : Str → Option Value) (s : Shared) (Q E : Value → Shared → Prop) (ts : List (Addr × Obj))
  (l : Addr) (vs : Array Value) (n : Nat) (tk tki : Tok) (hvs : vs.size < 1000) (hts : ∀ p ∈ ts, p.1 ≠ l)
  (B : Below A₀ base outer h₀) (F : Fr h₀ L s.heap m) (X : (hd.heap_39 (World.params w)).In h₀) (N : News h₀ L s.heap ((l, W.listOf vs n) :: ts)) (T : Top hd.view_39 (looseW hd.view_39 [Str.ofString "SINGLE_WILDCARD", Str.ofString "MULTI_WILDCARD", Str.ofString "DEFAULT_FIRST_ELEMENT", Str.ofString "_path_to_elements", Str.ofString "_WILDCARD_RE"]) mean mg mb h₀) (D : KtsDicts (outer.filterMap (·.frame)) h₀) (XB : (hd.heap_39 (World.params w)).In base) (TB : Top hd.view_39 (looseW hd.view_39 [Str.ofString "SINGLE_WILDCARD", Str.ofString "MULTI_WILDCARD", Str.ofString "DEFAULT_FIRST_ELEMENT", Str.ofString "_path_to_elements", Str.ofString "_WILDCARD_RE"]) mean mg mb base) (hk : cs.kind = .function)
  (hdp : dp + 10 < recursionLimit) (hun : un + 100 < cLine)
  (hret : ∀ (r : Addr) (x act : Value) (n' : Nat) h₀' h' tk', KtsTurn (outer.filterMap (·.frame)) h₀ h₀' → Fr h₀' L h' m → Below A₀ base outer h₀' → News h₀' L h' ((r, { cls := .type "tuple", data := .seq #[x, act] }) :: (l, W.listOf (vs.push (.ref r)) n') :: ts) → (∃ u, x = .str (Str.ofString "b") u) → Q .none { s with heap := h', toks := tk' }),
  wpC (model (RowW.prog (OpenRow.toRowW (OpenLaw.row PySem.Challenge.rw_fu0002_01))) w) (ktrTop dp un gd cn cs L a ccd cl outer) (call (.ref 86) [.ref l, .str (Str.ofString "'b'") tk, .str (Str.ofString "[") tki] []) Q E s := by
  intro w mean mg mb dp un gd cn cs a ccd cl outer A₀ base h₀ L m s Q E ts l vs n tk tki hvs hts B F X N T D XB TB hk hdp hun hret
  revert X
  k_fill
  intro X
  refine wpC_call ?_
  k_dflt (refine' defC ?k1 ?k2 ?k3 ?k4 ?k5 ?kD ?kA ?kF ?kK ?k6 ?k7 ?k8 ?k9 ?kB ?_ ?c2 ?c3 ?c4 ?c5; (case kA => exact rfl); (case kF => exact rfl); (case kK => assumption); (case k1 => k_asm); (case k2 => k_asm); (case k3 => k_asm); (case k4 => exact N); (case k5 => k_asm); (case kD => exact D); (case k6 => k_is); (case k7 => k_is); (case k8 => ktr_room); (case k9 => first | exact BindsTo.of_eq rfl | exact binds_K (by k_in) rfl (by k_is) rfl rfl rfl); (case c5 => decide); (case kB => exact locs rfl); (case c2 => exact rfl); (case c3 => exact rfl); (case c4 => exact rfl); k_whole; intro g' L' h' F' N' B' X' T' D'; (try dsimp only); (try k_fold))
  clear B F X T
  refine wpC_execs_plain ?_
  k_steps
  with_reducible refine wpC_execs_cons (wpC_If ?_)
  k_steps
  refine wpC_execs_plain ?_
  k_steps
  refine wpC_execs_plain ?_
  k_steps
  with_reducible refine wpC_execs_cons (wpC_If ?_)
  k_steps
  with_reducible refine wpC_execs_cons (wpC_Try ?_)
  refine wpC_execs_cons (wpC_Assign_Name ?_)
  refine wpC_IfExp ?_
  k_steps
  refine wpC_IfExp ?_
  k_steps
  refine wpC_IfExp ?_
  k_steps
  refine wpC_Call ?_
  k_steps
  refine rest_type ?_
  refine callC_int_bad rfl (by decide +kernel) (by decide +kernel) (by decide +kernel) (by decide +kernel) ?_
  intro h1 tk1 e1 hx1
  refine' caught2 (T1 := "ValueError") (T2 := "SyntaxError") (b1 := true) (b2 := false) ?K hx1 ?F ?N ?XB ?TB ?x1 ?v1 ?n1 ?x2 ?v2 ?n2 ?e1 ?t1 ?e2 ?t2 ?s1 ?s2 ?bb ?_
  case K => assumption
  case F => k_asm
  case N => assumption
  case XB => assumption
  case TB => assumption
  case x1 => k_is
  case v1 => decide +kernel
  case n1 => decide +kernel
  case x2 => k_is
  case v2 => decide +kernel
  case n2 => decide +kernel
  case e1 => exact isSubtype_of_subB (by decide +kernel)
  case t1 => exact isSubtype_of_subB (by decide +kernel)
  case e2 => exact isSubtype_of_subB (by decide +kernel)
  case t2 => exact isSubtype_of_subB (by decide +kernel)
  case s1 => exact isSubtype_of_subB (by decide +kernel)
  case s2 => exact isSubtype_of_subB (by decide +kernel)
  case bb => rfl
  k_whole
  intro h2 g2 KT F' N' B' X' T'
  (try k_sweep)
  (try dsimp only)
  k_steps
  dsimp only
  refine wpC_execs_nil ?_
  dsimp only
  refine wpC.of ?_
  k_steps
  dsimp only
  refine wpC_execs_nil ?_
  refine leaveC_ (by assumption) (by assumption) (by first | assumption | exact KtsTurn.refl) ?_
  intro h₀' KT2 F2 N2 B2
  refine' hret _ _ _ _ _ _ _ KT2 F2 B2 (news_sub N2 (sub_two ?zm2 ?zm1 ?zt)) ?zx
  case zm2 => k_mem
  case zm1 => k_mem
  case zt => (intro q hq; repeat (first | exact hq | apply List.mem_cons_of_mem))
  case zx => exact ⟨_, rfl⟩


set_option maxHeartbeats 4000000 in
theorem add_qs : ∀ {w : World} {mean : ExcName → Option Value} {mg mb : Str → Option Value}
  (dp un : Nat) (gd : Option (List Code)) (cn : Str) (cs : Scope) (a : Addr) (ccd : Value) (cl : List (Str × Addr)) (outer : List Env) (A₀ : Around) (base h₀ : Heap) (L : Addr) (m : Str → Option Value) (s : Shared) (Q E : Value → Shared → Prop) (ts : List (Addr × Obj))
  (l : Addr) (vs : Array Value) (n : Nat) (tk tki : Tok) (hvs : vs.size < 1000) (hts : ∀ p ∈ ts, p.1 ≠ l)
  (B : Below A₀ base outer h₀) (F : Fr h₀ L s.heap m) (X : (hd.heap_39 (World.params w)).In h₀) (N : News h₀ L s.heap ((l, W.listOf vs n) :: ts)) (T : Top hd.view_39 (looseW hd.view_39 [Str.ofString "SINGLE_WILDCARD", Str.ofString "MULTI_WILDCARD", Str.ofString "DEFAULT_FIRST_ELEMENT", Str.ofString "_path_to_elements", Str.ofString "_WILDCARD_RE"]) mean mg mb h₀) (D : KtsDicts (outer.filterMap (·.frame)) h₀) (XB : (hd.heap_39 (World.params w)).In base) (TB : Top hd.view_39 (looseW hd.view_39 [Str.ofString "SINGLE_WILDCARD", Str.ofString "MULTI_WILDCARD", Str.ofString "DEFAULT_FIRST_ELEMENT", Str.ofString "_path_to_elements", Str.ofString "_WILDCARD_RE"]) mean mg mb base) (hk : cs.kind = .function)
  (hdp : dp + 10 < recursionLimit) (hun : un + 100 < cLine)
  (hret : ∀ (r : Addr) (x act : Value) (n' : Nat) h₀' h' tk', KtsTurn (outer.filterMap (·.frame)) h₀ h₀' → Fr h₀' L h' m → Below A₀ base outer h₀' → News h₀' L h' ((r, { cls := .type "tuple", data := .seq #[x, act] }) :: (l, W.listOf (vs.push (.ref r)) n') :: ts) → (∃ u, x = .str (Str.ofString "*") u) → Q .none { s with heap := h', toks := tk' }),
  wpC (model (RowW.prog (OpenRow.toRowW (OpenLaw.row PySem.Challenge.rw_fu0002_01))) w) (ktrTop dp un gd cn cs L a ccd cl outer) (call (.ref 86) [.ref l, .str (Str.ofString "'*'") tk, .str (Str.ofString "[") tki] []) Q E s := by
  intro w mean mg mb dp un gd cn cs a ccd cl outer A₀ base h₀ L m s Q E ts l vs n tk tki hvs hts B F X N T D XB TB hk hdp hun hret
  revert X
  k_fill
  intro X
  refine wpC_call ?_
  k_dflt (refine' defC ?k1 ?k2 ?k3 ?k4 ?k5 ?kD ?kA ?kF ?kK ?k6 ?k7 ?k8 ?k9 ?kB ?_ ?c2 ?c3 ?c4 ?c5; (case kA => exact rfl); (case kF => exact rfl); (case kK => assumption); (case k1 => k_asm); (case k2 => k_asm); (case k3 => k_asm); (case k4 => exact N); (case k5 => k_asm); (case kD => exact D); (case k6 => k_is); (case k7 => k_is); (case k8 => ktr_room); (case k9 => first | exact BindsTo.of_eq rfl | exact binds_K (by k_in) rfl (by k_is) rfl rfl rfl); (case c5 => decide); (case kB => exact locs rfl); (case c2 => exact rfl); (case c3 => exact rfl); (case c4 => exact rfl); k_whole; intro g' L' h' F' N' B' X' T' D'; (try dsimp only); (try k_fold))
  clear B F X T
  refine wpC_execs_plain ?_
  k_steps
  with_reducible refine wpC_execs_cons (wpC_If ?_)
  k_steps
  refine wpC_execs_plain ?_
  k_steps
  refine wpC_execs_plain ?_
  k_steps
  with_reducible refine wpC_execs_cons (wpC_If ?_)
  k_steps
  with_reducible refine wpC_execs_cons (wpC_Try ?_)
  refine wpC_execs_cons (wpC_Assign_Name ?_)
  refine wpC_IfExp ?_
  k_steps
  refine wpC_IfExp ?_
  k_steps
  refine wpC_IfExp ?_
  k_steps
  refine wpC_Call ?_
  k_steps
  refine rest_type ?_
  refine callC_int_bad rfl (by decide +kernel) (by decide +kernel) (by decide +kernel) (by decide +kernel) ?_
  intro h1 tk1 e1 hx1
  refine' caught2 (T1 := "ValueError") (T2 := "SyntaxError") (b1 := true) (b2 := false) ?K hx1 ?F ?N ?XB ?TB ?x1 ?v1 ?n1 ?x2 ?v2 ?n2 ?e1 ?t1 ?e2 ?t2 ?s1 ?s2 ?bb ?_
  case K => assumption
  case F => k_asm
  case N => assumption
  case XB => assumption
  case TB => assumption
  case x1 => k_is
  case v1 => decide +kernel
  case n1 => decide +kernel
  case x2 => k_is
  case v2 => decide +kernel
  case n2 => decide +kernel
  case e1 => exact isSubtype_of_subB (by decide +kernel)
  case t1 => exact isSubtype_of_subB (by decide +kernel)
  case e2 => exact isSubtype_of_subB (by decide +kernel)
  case t2 => exact isSubtype_of_subB (by decide +kernel)
  case s1 => exact isSubtype_of_subB (by decide +kernel)
  case s2 => exact isSubtype_of_subB (by decide +kernel)
  case bb => rfl
  k_whole
  intro h2 g2 KT F' N' B' X' T'
  (try k_sweep)
  (try dsimp only)
  k_steps
  dsimp only
  refine wpC_execs_nil ?_
  dsimp only
  refine wpC.of ?_
  k_steps
  dsimp only
  refine wpC_execs_nil ?_
  refine leaveC_ (by assumption) (by assumption) (by first | assumption | exact KtsTurn.refl) ?_
  intro h₀' KT2 F2 N2 B2
  refine' hret _ _ _ _ _ _ _ KT2 F2 B2 (news_sub N2 (sub_two ?zm2 ?zm1 ?zt)) ?zx
  case zm2 => k_mem
  case zm1 => k_mem
  case zt => (intro q hq; repeat (first | exact hq | apply List.mem_cons_of_mem))
  case zx => exact ⟨_, rfl⟩


set_option maxHeartbeats 4000000 in
theorem add_qi : ∀ {w : World} {mean : ExcName → Option Value} {mg mb : Str → Option Value}
  (dp un : Nat) (gd : Option (List Code)) (cn : Str) (cs : Scope) (a : Addr) (ccd : Value) (cl : List (Str × Addr)) (outer : List Env) (A₀ : Around) (base h₀ : Heap) (L : Addr) (m : Str → Option Value) (s : Shared) (Q E : Value → Shared → Prop) (ts : List (Addr × Obj))
  (l : Addr) (vs : Array Value) (n : Nat) (tk tki : Tok) (hvs : vs.size < 1000) (hts : ∀ p ∈ ts, p.1 ≠ l)
  (B : Below A₀ base outer h₀) (F : Fr h₀ L s.heap m) (X : (hd.heap_39 (World.params w)).In h₀) (N : News h₀ L s.heap ((l, W.listOf vs n) :: ts)) (T : Top hd.view_39 (looseW hd.view_39 [Str.ofString "SINGLE_WILDCARD", Str.ofString "MULTI_WILDCARD", Str.ofString "DEFAULT_FIRST_ELEMENT", Str.ofString "_path_to_elements", Str.ofString "_WILDCARD_RE"]) mean mg mb h₀) (D : KtsDicts (outer.filterMap (·.frame)) h₀) (XB : (hd.heap_39 (World.params w)).In base) (TB : Top hd.view_39 (looseW hd.view_39 [Str.ofString "SINGLE_WILDCARD", Str.ofString "MULTI_WILDCARD", Str.ofString "DEFAULT_FIRST_ELEMENT", Str.ofString "_path_to_elements", Str.ofString "_WILDCARD_RE"]) mean mg mb base) (hk : cs.kind = .function)
  (hdp : dp + 10 < recursionLimit) (hun : un + 100 < cLine)
  (hret : ∀ (r : Addr) (x act : Value) (n' : Nat) h₀' h' tk', KtsTurn (outer.filterMap (·.frame)) h₀ h₀' → Fr h₀' L h' m → Below A₀ base outer h₀' → News h₀' L h' ((r, { cls := .type "tuple", data := .seq #[x, act] }) :: (l, W.listOf (vs.push (.ref r)) n') :: ts) → (∃ u, x = .str (Str.ofString "it's") u) → Q .none { s with heap := h', toks := tk' }),
  wpC (model (RowW.prog (OpenRow.toRowW (OpenLaw.row PySem.Challenge.rw_fu0002_01))) w) (ktrTop dp un gd cn cs L a ccd cl outer) (call (.ref 86) [.ref l, .str (Str.ofString "\"it's\"") tk, .str (Str.ofString "[") tki] []) Q E s := by
  intro w mean mg mb dp un gd cn cs a ccd cl outer A₀ base h₀ L m s Q E ts l vs n tk tki hvs hts B F X N T D XB TB hk hdp hun hret
  revert X
  k_fill
  intro X
  refine wpC_call ?_
  k_dflt (refine' defC ?k1 ?k2 ?k3 ?k4 ?k5 ?kD ?kA ?kF ?kK ?k6 ?k7 ?k8 ?k9 ?kB ?_ ?c2 ?c3 ?c4 ?c5; (case kA => exact rfl); (case kF => exact rfl); (case kK => assumption); (case k1 => k_asm); (case k2 => k_asm); (case k3 => k_asm); (case k4 => exact N); (case k5 => k_asm); (case kD => exact D); (case k6 => k_is); (case k7 => k_is); (case k8 => ktr_room); (case k9 => first | exact BindsTo.of_eq rfl | exact binds_K (by k_in) rfl (by k_is) rfl rfl rfl); (case c5 => decide); (case kB => exact locs rfl); (case c2 => exact rfl); (case c3 => exact rfl); (case c4 => exact rfl); k_whole; intro g' L' h' F' N' B' X' T' D'; (try dsimp only); (try k_fold))
  clear B F X T
  refine wpC_execs_plain ?_
  k_steps
  with_reducible refine wpC_execs_cons (wpC_If ?_)
  k_steps
  refine wpC_execs_plain ?_
  k_steps
  refine wpC_execs_plain ?_
  k_steps
  with_reducible refine wpC_execs_cons (wpC_If ?_)
  k_steps
  with_reducible refine wpC_execs_cons (wpC_Try ?_)
  refine wpC_execs_cons (wpC_Assign_Name ?_)
  refine wpC_IfExp ?_
  k_steps
  refine wpC_IfExp ?_
  k_steps
  refine wpC_IfExp ?_
  k_steps
  refine wpC_Call ?_
  k_steps
  refine rest_type ?_
  refine callC_int_bad rfl (by decide +kernel) (by decide +kernel) (by decide +kernel) (by decide +kernel) ?_
  intro h1 tk1 e1 hx1
  refine' caught2 (T1 := "ValueError") (T2 := "SyntaxError") (b1 := true) (b2 := false) ?K hx1 ?F ?N ?XB ?TB ?x1 ?v1 ?n1 ?x2 ?v2 ?n2 ?e1 ?t1 ?e2 ?t2 ?s1 ?s2 ?bb ?_
  case K => assumption
  case F => k_asm
  case N => assumption
  case XB => assumption
  case TB => assumption
  case x1 => k_is
  case v1 => decide +kernel
  case n1 => decide +kernel
  case x2 => k_is
  case v2 => decide +kernel
  case n2 => decide +kernel
  case e1 => exact isSubtype_of_subB (by decide +kernel)
  case t1 => exact isSubtype_of_subB (by decide +kernel)
  case e2 => exact isSubtype_of_subB (by decide +kernel)
  case t2 => exact isSubtype_of_subB (by decide +kernel)
  case s1 => exact isSubtype_of_subB (by decide +kernel)
  case s2 => exact isSubtype_of_subB (by decide +kernel)
  case bb => rfl
  k_whole
  intro h2 g2 KT F' N' B' X' T'
  (try k_sweep)
  (try dsimp only)
  k_steps
  dsimp only
  refine wpC_execs_nil ?_
  dsimp only
  refine wpC.of ?_
  k_steps
  dsimp only
  refine wpC_execs_nil ?_
  refine leaveC_ (by assumption) (by assumption) (by first | assumption | exact KtsTurn.refl) ?_
  intro h₀' KT2 F2 N2 B2
  refine' hret _ _ _ _ _ _ _ KT2 F2 B2 (news_sub N2 (sub_two ?zm2 ?zm1 ?zt)) ?zx
  case zm2 => k_mem
  case zm1 => k_mem
  case zt => (intro q hq; repeat (first | exact hq | apply List.mem_cons_of_mem))
  case zx => exact ⟨_, rfl⟩


set_option maxHeartbeats 4000000 in
theorem add_oned : ∀ {w : World} {mean : ExcName → Option Value} {mg mb : Str → Option Value}
  (dp un : Nat) (gd : Option (List Code)) (cn : Str) (cs : Scope) (a : Addr) (ccd : Value) (cl : List (Str × Addr)) (outer : List Env) (A₀ : Around) (base h₀ : Heap) (L : Addr) (m : Str → Option Value) (s : Shared) (Q E : Value → Shared → Prop) (ts : List (Addr × Obj))
  (l : Addr) (vs : Array Value) (n : Nat) (tk tki : Tok) (hvs : vs.size < 1000) (hts : ∀ p ∈ ts, p.1 ≠ l)
  (B : Below A₀ base outer h₀) (F : Fr h₀ L s.heap m) (X : (hd.heap_39 (World.params w)).In h₀) (N : News h₀ L s.heap ((l, W.listOf vs n) :: ts)) (T : Top hd.view_39 (looseW hd.view_39 [Str.ofString "SINGLE_WILDCARD", Str.ofString "MULTI_WILDCARD", Str.ofString "DEFAULT_FIRST_ELEMENT", Str.ofString "_path_to_elements", Str.ofString "_WILDCARD_RE"]) mean mg mb h₀) (D : KtsDicts (outer.filterMap (·.frame)) h₀) (XB : (hd.heap_39 (World.params w)).In base) (TB : Top hd.view_39 (looseW hd.view_39 [Str.ofString "SINGLE_WILDCARD", Str.ofString "MULTI_WILDCARD", Str.ofString "DEFAULT_FIRST_ELEMENT", Str.ofString "_path_to_elements", Str.ofString "_WILDCARD_RE"]) mean mg mb base) (hk : cs.kind = .function)
  (hdp : dp + 10 < recursionLimit) (hun : un + 100 < cLine)
  (hret : ∀ (r : Addr) (x act : Value) (n' : Nat) h₀' h' tk', KtsTurn (outer.filterMap (·.frame)) h₀ h₀' → Fr h₀' L h' m → Below A₀ base outer h₀' → News h₀' L h' ((r, { cls := .type "tuple", data := .seq #[x, act] }) :: (l, W.listOf (vs.push (.ref r)) n') :: ts) → (x = .ref 75) → Q .none { s with heap := h', toks := tk' }),
  wpAny (model (RowW.prog (OpenRow.toRowW (OpenLaw.row PySem.Challenge.rw_fu0002_01))) w) (ktrTop dp un gd cn cs L a ccd cl outer) (call (.ref 86) [.ref l, .str (Str.ofString "*") tk, .str (Str.ofString ".") tki] []) Q E s := by
  intro w mean mg mb dp un gd cn cs a ccd cl outer A₀ base h₀ L m s Q E ts l vs n tk tki hvs hts B F X N T D XB TB hk hdp hun hret
  revert X
  k_fill
  intro X
  refine wpAny_call ?_
  k_dflt (refine' defA ?k1 ?k2 ?k3 ?k4 ?k5 ?kA ?kF ?kK ?k6 ?k7 ?k8 ?k9 ?kB ?_ ?c2 ?c3 ?c4 ?c5; (case kA => exact rfl); (case kF => exact rfl); (case kK => assumption); (case k1 => k_asm); (case k2 => k_asm); (case k3 => k_asm); (case k4 => exact N); (case k5 => k_asm); (case k6 => k_is); (case k7 => k_is); (case k8 => ktr_room); (case k9 => first | exact BindsTo.of_eq rfl | exact binds_K (by k_in) rfl (by k_is) rfl rfl rfl); (case c5 => decide); (case kB => exact locs rfl); (case c2 => exact rfl); (case c3 => exact rfl); (case c4 => exact rfl); k_whole; intro g' L' h' F' N' B' X' T'; (try dsimp only); (try k_fold))
  clear F X T
  k_steps
  refine leaveK_ (by assumption) (by assumption) ?_
  intro F2 N2
  refine' hret _ _ _ _ _ _ _ KtsTurn.refl F2 B (news_sub N2 (sub_two ?zm2 ?zm1 ?zt)) ?zx
  case zm2 => k_mem
  case zm1 => k_mem
  case zt => (intro q hq; repeat (first | exact hq | apply List.mem_cons_of_mem))
  case zx => rfl


set_option maxHeartbeats 4000000 in
theorem add_rund : ∀ {w : World} {mean : ExcName → Option Value} {mg mb : Str → Option Value}
  (dp un : Nat) (gd : Option (List Code)) (cn : Str) (cs : Scope) (a : Addr) (ccd : Value) (cl : List (Str × Addr)) (outer : List Env) (A₀ : Around) (base h₀ : Heap) (L : Addr) (m : Str → Option Value) (s : Shared) (Q E : Value → Shared → Prop) (ts : List (Addr × Obj))
  (l : Addr) (vs : Array Value) (n : Nat) (tk tki : Tok) (hvs : vs.size < 1000) (hts : ∀ p ∈ ts, p.1 ≠ l)
  (B : Below A₀ base outer h₀) (F : Fr h₀ L s.heap m) (X : (hd.heap_39 (World.params w)).In h₀) (N : News h₀ L s.heap ((l, W.listOf vs n) :: ts)) (T : Top hd.view_39 (looseW hd.view_39 [Str.ofString "SINGLE_WILDCARD", Str.ofString "MULTI_WILDCARD", Str.ofString "DEFAULT_FIRST_ELEMENT", Str.ofString "_path_to_elements", Str.ofString "_WILDCARD_RE"]) mean mg mb h₀) (D : KtsDicts (outer.filterMap (·.frame)) h₀) (XB : (hd.heap_39 (World.params w)).In base) (TB : Top hd.view_39 (looseW hd.view_39 [Str.ofString "SINGLE_WILDCARD", Str.ofString "MULTI_WILDCARD", Str.ofString "DEFAULT_FIRST_ELEMENT", Str.ofString "_path_to_elements", Str.ofString "_WILDCARD_RE"]) mean mg mb base) (hk : cs.kind = .function)
  (hdp : dp + 10 < recursionLimit) (hun : un + 100 < cLine)
  (hret : ∀ (r : Addr) (x act : Value) (n' : Nat) h₀' h' tk', KtsTurn (outer.filterMap (·.frame)) h₀ h₀' → Fr h₀' L h' m → Below A₀ base outer h₀' → News h₀' L h' ((r, { cls := .type "tuple", data := .seq #[x, act] }) :: (l, W.listOf (vs.push (.ref r)) n') :: ts) → (x = .ref 78) → Q .none { s with heap := h', toks := tk' }),
  wpAny (model (RowW.prog (OpenRow.toRowW (OpenLaw.row PySem.Challenge.rw_fu0002_01))) w) (ktrTop dp un gd cn cs L a ccd cl outer) (call (.ref 86) [.ref l, .str (Str.ofString "**") tk, .str (Str.ofString ".") tki] []) Q E s := by
  intro w mean mg mb dp un gd cn cs a ccd cl outer A₀ base h₀ L m s Q E ts l vs n tk tki hvs hts B F X N T D XB TB hk hdp hun hret
  revert X
  k_fill
  intro X
  refine wpAny_call ?_
  k_dflt (refine' defA ?k1 ?k2 ?k3 ?k4 ?k5 ?kA ?kF ?kK ?k6 ?k7 ?k8 ?k9 ?kB ?_ ?c2 ?c3 ?c4 ?c5; (case kA => exact rfl); (case kF => exact rfl); (case kK => assumption); (case k1 => k_asm); (case k2 => k_asm); (case k3 => k_asm); (case k4 => exact N); (case k5 => k_asm); (case k6 => k_is); (case k7 => k_is); (case k8 => ktr_room); (case k9 => first | exact BindsTo.of_eq rfl | exact binds_K (by k_in) rfl (by k_is) rfl rfl rfl); (case c5 => decide); (case kB => exact locs rfl); (case c2 => exact rfl); (case c3 => exact rfl); (case c4 => exact rfl); k_whole; intro g' L' h' F' N' B' X' T'; (try dsimp only); (try k_fold))
  clear F X T
  k_steps
  refine leaveK_ (by assumption) (by assumption) ?_
  intro F2 N2
  refine' hret _ _ _ _ _ _ _ KtsTurn.refl F2 B (news_sub N2 (sub_two ?zm2 ?zm1 ?zt)) ?zx
  case zm2 => k_mem
  case zm1 => k_mem
  case zt => (intro q hq; repeat (first | exact hq | apply List.mem_cons_of_mem))
  case zx => rfl


set_option maxHeartbeats 4000000 in
theorem add_onek : ∀ {w : World} {mean : ExcName → Option Value} {mg mb : Str → Option Value}
  (dp un : Nat) (gd : Option (List Code)) (cn : Str) (cs : Scope) (a : Addr) (ccd : Value) (cl : List (Str × Addr)) (outer : List Env) (A₀ : Around) (base h₀ : Heap) (L : Addr) (m : Str → Option Value) (s : Shared) (Q E : Value → Shared → Prop) (ts : List (Addr × Obj))
  (l : Addr) (vs : Array Value) (n : Nat) (tk tki : Tok) (hvs : vs.size < 1000) (hts : ∀ p ∈ ts, p.1 ≠ l)
  (B : Below A₀ base outer h₀) (F : Fr h₀ L s.heap m) (X : (hd.heap_39 (World.params w)).In h₀) (N : News h₀ L s.heap ((l, W.listOf vs n) :: ts)) (T : Top hd.view_39 (looseW hd.view_39 [Str.ofString "SINGLE_WILDCARD", Str.ofString "MULTI_WILDCARD", Str.ofString "DEFAULT_FIRST_ELEMENT", Str.ofString "_path_to_elements", Str.ofString "_WILDCARD_RE"]) mean mg mb h₀) (D : KtsDicts (outer.filterMap (·.frame)) h₀) (XB : (hd.heap_39 (World.params w)).In base) (TB : Top hd.view_39 (looseW hd.view_39 [Str.ofString "SINGLE_WILDCARD", Str.ofString "MULTI_WILDCARD", Str.ofString "DEFAULT_FIRST_ELEMENT", Str.ofString "_path_to_elements", Str.ofString "_WILDCARD_RE"]) mean mg mb base) (hk : cs.kind = .function)
  (hdp : dp + 10 < recursionLimit) (hun : un + 100 < cLine)
  (hret : ∀ (r : Addr) (x act : Value) (n' : Nat) h₀' h' tk', KtsTurn (outer.filterMap (·.frame)) h₀ h₀' → Fr h₀' L h' m → Below A₀ base outer h₀' → News h₀' L h' ((r, { cls := .type "tuple", data := .seq #[x, act] }) :: (l, W.listOf (vs.push (.ref r)) n') :: ts) → (x = .ref 75) → Q .none { s with heap := h', toks := tk' }),
  wpAny (model (RowW.prog (OpenRow.toRowW (OpenLaw.row PySem.Challenge.rw_fu0002_01))) w) (ktrTop dp un gd cn cs L a ccd cl outer) (call (.ref 86) [.ref l, .str (Str.ofString "*") tk, .str (Str.ofString "[") tki] []) Q E s := by
  intro w mean mg mb dp un gd cn cs a ccd cl outer A₀ base h₀ L m s Q E ts l vs n tk tki hvs hts B F X N T D XB TB hk hdp hun hret
  revert X
  k_fill
  intro X
  refine wpAny_call ?_
  k_dflt (refine' defA ?k1 ?k2 ?k3 ?k4 ?k5 ?kA ?kF ?kK ?k6 ?k7 ?k8 ?k9 ?kB ?_ ?c2 ?c3 ?c4 ?c5; (case kA => exact rfl); (case kF => exact rfl); (case kK => assumption); (case k1 => k_asm); (case k2 => k_asm); (case k3 => k_asm); (case k4 => exact N); (case k5 => k_asm); (case k6 => k_is); (case k7 => k_is); (case k8 => ktr_room); (case k9 => first | exact BindsTo.of_eq rfl | exact binds_K (by k_in) rfl (by k_is) rfl rfl rfl); (case c5 => decide); (case kB => exact locs rfl); (case c2 => exact rfl); (case c3 => exact rfl); (case c4 => exact rfl); k_whole; intro g' L' h' F' N' B' X' T'; (try dsimp only); (try k_fold))
  clear F X T
  k_steps
  refine leaveK_ (by assumption) (by assumption) ?_
  intro F2 N2
  refine' hret _ _ _ _ _ _ _ KtsTurn.refl F2 B (news_sub N2 (sub_two ?zm2 ?zm1 ?zt)) ?zx
  case zm2 => k_mem
  case zm1 => k_mem
  case zt => (intro q hq; repeat (first | exact hq | apply List.mem_cons_of_mem))
  case zx => rfl


set_option maxHeartbeats 4000000 in
theorem add_runk : ∀ {w : World} {mean : ExcName → Option Value} {mg mb : Str → Option Value}
  (dp un : Nat) (gd : Option (List Code)) (cn : Str) (cs : Scope) (a : Addr) (ccd : Value) (cl : List (Str × Addr)) (outer : List Env) (A₀ : Around) (base h₀ : Heap) (L : Addr) (m : Str → Option Value) (s : Shared) (Q E : Value → Shared → Prop) (ts : List (Addr × Obj))
  (l : Addr) (vs : Array Value) (n : Nat) (tk tki : Tok) (hvs : vs.size < 1000) (hts : ∀ p ∈ ts, p.1 ≠ l)
  (B : Below A₀ base outer h₀) (F : Fr h₀ L s.heap m) (X : (hd.heap_39 (World.params w)).In h₀) (N : News h₀ L s.heap ((l, W.listOf vs n) :: ts)) (T : Top hd.view_39 (looseW hd.view_39 [Str.ofString "SINGLE_WILDCARD", Str.ofString "MULTI_WILDCARD", Str.ofString "DEFAULT_FIRST_ELEMENT", Str.ofString "_path_to_elements", Str.ofString "_WILDCARD_RE"]) mean mg mb h₀) (D : KtsDicts (outer.filterMap (·.frame)) h₀) (XB : (hd.heap_39 (World.params w)).In base) (TB : Top hd.view_39 (looseW hd.view_39 [Str.ofString "SINGLE_WILDCARD", Str.ofString "MULTI_WILDCARD", Str.ofString "DEFAULT_FIRST_ELEMENT", Str.ofString "_path_to_elements", Str.ofString "_WILDCARD_RE"]) mean mg mb base) (hk : cs.kind = .function)
  (hdp : dp + 10 < recursionLimit) (hun : un + 100 < cLine)
  (hret : ∀ (r : Addr) (x act : Value) (n' : Nat) h₀' h' tk', KtsTurn (outer.filterMap (·.frame)) h₀ h₀' → Fr h₀' L h' m → Below A₀ base outer h₀' → News h₀' L h' ((r, { cls := .type "tuple", data := .seq #[x, act] }) :: (l, W.listOf (vs.push (.ref r)) n') :: ts) → (x = .ref 78) → Q .none { s with heap := h', toks := tk' }),
  wpAny (model (RowW.prog (OpenRow.toRowW (OpenLaw.row PySem.Challenge.rw_fu0002_01))) w) (ktrTop dp un gd cn cs L a ccd cl outer) (call (.ref 86) [.ref l, .str (Str.ofString "**") tk, .str (Str.ofString "[") tki] []) Q E s := by
  intro w mean mg mb dp un gd cn cs a ccd cl outer A₀ base h₀ L m s Q E ts l vs n tk tki hvs hts B F X N T D XB TB hk hdp hun hret
  revert X
  k_fill
  intro X
  refine wpAny_call ?_
  k_dflt (refine' defA ?k1 ?k2 ?k3 ?k4 ?k5 ?kA ?kF ?kK ?k6 ?k7 ?k8 ?k9 ?kB ?_ ?c2 ?c3 ?c4 ?c5; (case kA => exact rfl); (case kF => exact rfl); (case kK => assumption); (case k1 => k_asm); (case k2 => k_asm); (case k3 => k_asm); (case k4 => exact N); (case k5 => k_asm); (case k6 => k_is); (case k7 => k_is); (case k8 => ktr_room); (case k9 => first | exact BindsTo.of_eq rfl | exact binds_K (by k_in) rfl (by k_is) rfl rfl rfl); (case c5 => decide); (case kB => exact locs rfl); (case c2 => exact rfl); (case c3 => exact rfl); (case c4 => exact rfl); k_whole; intro g' L' h' F' N' B' X' T'; (try dsimp only); (try k_fold))
  clear F X T
  k_steps
  refine leaveK_ (by assumption) (by assumption) ?_
  intro F2 N2
  refine' hret _ _ _ _ _ _ _ KtsTurn.refl F2 B (news_sub N2 (sub_two ?zm2 ?zm1 ?zt)) ?zx
  case zm2 => k_mem
  case zm1 => k_mem
  case zt => (intro q hq; repeat (first | exact hq | apply List.mem_cons_of_mem))
  case zx => rfl


set_option maxHeartbeats 4000000 in
theorem add_three : ∀ {w : World} {mean : ExcName → Option Value} {mg mb : Str → Option Value}
  (dp un : Nat) (gd : Option (List Code)) (cn : Str) (cs : Scope) (a : Addr) (ccd : Value) (cl : List (Str × Addr)) (outer : List Env) (A₀ : Around) (base h₀ : Heap) (L : Addr) (m : Str → Option Value) (s : Shared) (Q E : Value → Shared → Prop) (ts : List (Addr × Obj))
  (l : Addr) (vs : Array Value) (n : Nat) (tk tki : Tok) (hvs : vs.size < 1000) (hts : ∀ p ∈ ts, p.1 ≠ l)
  (B : Below A₀ base outer h₀) (F : Fr h₀ L s.heap m) (X : (hd.heap_39 (World.params w)).In h₀) (N : News h₀ L s.heap ((l, W.listOf vs n) :: ts)) (T : Top hd.view_39 (looseW hd.view_39 [Str.ofString "SINGLE_WILDCARD", Str.ofString "MULTI_WILDCARD", Str.ofString "DEFAULT_FIRST_ELEMENT", Str.ofString "_path_to_elements", Str.ofString "_WILDCARD_RE"]) mean mg mb h₀) (D : KtsDicts (outer.filterMap (·.frame)) h₀) (XB : (hd.heap_39 (World.params w)).In base) (TB : Top hd.view_39 (looseW hd.view_39 [Str.ofString "SINGLE_WILDCARD", Str.ofString "MULTI_WILDCARD", Str.ofString "DEFAULT_FIRST_ELEMENT", Str.ofString "_path_to_elements", Str.ofString "_WILDCARD_RE"]) mean mg mb base) (hk : cs.kind = .function)
  (hdp : dp + 10 < recursionLimit) (hun : un + 100 < cLine)
  (hret : ∀ (r : Addr) (x act : Value) (n' : Nat) h₀' h' tk', KtsTurn (outer.filterMap (·.frame)) h₀ h₀' → Fr h₀' L h' m → Below A₀ base outer h₀' → News h₀' L h' ((r, { cls := .type "tuple", data := .seq #[x, act] }) :: (l, W.listOf (vs.push (.ref r)) n') :: ts) → (∃ u, x = .int 3 u) → Q .none { s with heap := h', toks := tk' }),
  wpAny (model (RowW.prog (OpenRow.toRowW (OpenLaw.row PySem.Challenge.rw_fu0002_01))) w) (ktrTop dp un gd cn cs L a ccd cl outer) (call (.ref 86) [.ref l, .str (Str.ofString "3") tk, .str (Str.ofString "[") tki] []) Q E s := by
  intro w mean mg mb dp un gd cn cs a ccd cl outer A₀ base h₀ L m s Q E ts l vs n tk tki hvs hts B F X N T D XB TB hk hdp hun hret
  revert X
  k_fill
  intro X
  refine wpAny_call ?_
  k_dflt (refine' defA ?k1 ?k2 ?k3 ?k4 ?k5 ?kA ?kF ?kK ?k6 ?k7 ?k8 ?k9 ?kB ?_ ?c2 ?c3 ?c4 ?c5; (case kA => exact rfl); (case kF => exact rfl); (case kK => assumption); (case k1 => k_asm); (case k2 => k_asm); (case k3 => k_asm); (case k4 => exact N); (case k5 => k_asm); (case k6 => k_is); (case k7 => k_is); (case k8 => ktr_room); (case k9 => first | exact BindsTo.of_eq rfl | exact binds_K (by k_in) rfl (by k_is) rfl rfl rfl); (case c5 => decide); (case kB => exact locs rfl); (case c2 => exact rfl); (case c3 => exact rfl); (case c4 => exact rfl); k_whole; intro g' L' h' F' N' B' X' T'; (try dsimp only); (try k_fold))
  clear F X T
  k_steps
  refine leaveK_ (by assumption) (by assumption) ?_
  intro F2 N2
  refine' hret _ _ _ _ _ _ _ KtsTurn.refl F2 B (news_sub N2 (sub_two ?zm2 ?zm1 ?zt)) ?zx
  case zm2 => k_mem
  case zm1 => k_mem
  case zt => (intro q hq; repeat (first | exact hq | apply List.mem_cons_of_mem))
  case zx => exact ⟨_, rfl⟩


set_option maxHeartbeats 4000000 in
theorem add_none : ∀ {w : World} {mean : ExcName → Option Value} {mg mb : Str → Option Value}
  (dp un : Nat) (gd : Option (List Code)) (cn : Str) (cs : Scope) (a : Addr) (ccd : Value) (cl : List (Str × Addr)) (outer : List Env) (A₀ : Around) (base h₀ : Heap) (L : Addr) (m : Str → Option Value) (s : Shared) (Q E : Value → Shared → Prop) (ts : List (Addr × Obj))
  (l : Addr) (vs : Array Value) (n : Nat) (tk tki : Tok) (hvs : vs.size < 1000) (hts : ∀ p ∈ ts, p.1 ≠ l)
  (B : Below A₀ base outer h₀) (F : Fr h₀ L s.heap m) (X : (hd.heap_39 (World.params w)).In h₀) (N : News h₀ L s.heap ((l, W.listOf vs n) :: ts)) (T : Top hd.view_39 (looseW hd.view_39 [Str.ofString "SINGLE_WILDCARD", Str.ofString "MULTI_WILDCARD", Str.ofString "DEFAULT_FIRST_ELEMENT", Str.ofString "_path_to_elements", Str.ofString "_WILDCARD_RE"]) mean mg mb h₀) (D : KtsDicts (outer.filterMap (·.frame)) h₀) (XB : (hd.heap_39 (World.params w)).In base) (TB : Top hd.view_39 (looseW hd.view_39 [Str.ofString "SINGLE_WILDCARD", Str.ofString "MULTI_WILDCARD", Str.ofString "DEFAULT_FIRST_ELEMENT", Str.ofString "_path_to_elements", Str.ofString "_WILDCARD_RE"]) mean mg mb base) (hk : cs.kind = .function)
  (hdp : dp + 10 < recursionLimit) (hun : un + 100 < cLine)
  (hret : ∀ h₀' h' tk', KtsTurn (outer.filterMap (·.frame)) h₀ h₀' → Fr h₀' L h' m → Below A₀ base outer h₀' → News h₀' L h' ((l, W.listOf vs n) :: ts) → Q .none { s with heap := h', toks := tk' }),
  wpAny (model (RowW.prog (OpenRow.toRowW (OpenLaw.row PySem.Challenge.rw_fu0002_01))) w) (ktrTop dp un gd cn cs L a ccd cl outer) (call (.ref 86) [.ref l, .str (Str.ofString "") tk, .str (Str.ofString "[") tki] []) Q E s := by
  intro w mean mg mb dp un gd cn cs a ccd cl outer A₀ base h₀ L m s Q E ts l vs n tk tki hvs hts B F X N T D XB TB hk hdp hun hret
  revert X
  k_fill
  intro X
  refine wpAny_call ?_
  k_dflt (refine' defA ?k1 ?k2 ?k3 ?k4 ?k5 ?kA ?kF ?kK ?k6 ?k7 ?k8 ?k9 ?kB ?_ ?c2 ?c3 ?c4 ?c5; (case kA => exact rfl); (case kF => exact rfl); (case kK => assumption); (case k1 => k_asm); (case k2 => k_asm); (case k3 => k_asm); (case k4 => exact N); (case k5 => k_asm); (case k6 => k_is); (case k7 => k_is); (case k8 => ktr_room); (case k9 => first | exact BindsTo.of_eq rfl | exact binds_K (by k_in) rfl (by k_is) rfl rfl rfl); (case c5 => decide); (case kB => exact locs rfl); (case c2 => exact rfl); (case c3 => exact rfl); (case c4 => exact rfl); k_whole; intro g' L' h' F' N' B' X' T'; (try dsimp only); (try k_fold))
  clear F X T
  k_steps
  refine leaveK_ (by assumption) (by assumption) ?_
  intro F2 N2
  exact hret _ _ _ KtsTurn.refl F2 B N2


end Mine
end
section
theorem Mine.off_Pe : True := by
  w_top off
  trivial
open PySem PySem.W PyProof.Rows
set_option Elab.async false
set_option linter.unusedVariables false
set_option linter.unusedSimpArgs false
set_option maxRecDepth 100000
namespace Mine

def KRep (k : Nat) (x : Value) : Prop := (k = 0 ∧ x = .ref 75) ∨ (k = 1 ∧ x = .ref 78) ∨ (k = 2 ∧ ∃ u, x = .str (Str.ofString "a") u) ∨ (k = 3 ∧ ∃ u, x = .str (Str.ofString "b") u) ∨
  (k = 4 ∧ ∃ u, x = .int 3 u) ∨ (k = 5 ∧ ∃ u, x = .str (Str.ofString "*") u) ∨ (k = 6 ∧ ∃ u, x = .str (Str.ofString "it's") u)
/-- an element: a pair whose first is the step -/
def elObj (x act : Value) : Obj := { cls := .type "tuple", data := .seq #[x, act] }
def Grown (ko : Option Nat) (vs : Array Value) (els : List (Addr × Obj)) (vs' : Array Value) : Prop := match ko with
  | none => els = [] ∧ vs' = vs
  | some k => ∃ r x act, els = [(r, elObj x act)] ∧ vs' = vs.push (.ref r) ∧ KRep k x
noncomputable def insV : Nat → Tok → Value
  | 0, _ => .bool false
  | 1, t => .str (Str.ofString ".") t
  | _, t => .str (Str.ofString "[") t
noncomputable def quoS : Option Nat → Str
  | none => Str.ofString ""
  | some 39 => Str.ofString "'"
  | some _ => Str.ofString "\""
/-- the names of the scan -/
noncomputable def pm (cv : Option Value) (path root els brs elem inside iq q prev : Value) : Str → Option Value := fun y =>
  if y = Str.ofString "char" then cv else if y = Str.ofString "prev_char" then some prev else if y = Str.ofString "elem" then some elem else if y = Str.ofString "inside" then some inside else
  if y = Str.ofString "inside_quotes" then some iq else if y = Str.ofString "quote_used" then some q else if y = Str.ofString "brackets" then some brs else if y = Str.ofString "elements" then some els else
  if y = Str.ofString "path" then some path else if y = Str.ofString "root_element" then some root else none
theorem fr_eq {h₀ h : Heap} {L : Addr} {m m' : Str → Option Value} (F : Fr h₀ L h m) (e : ∀ y, m y = m' y) : Fr h₀ L h m' := by
  have : m = m' := funext e
  exact this ▸ F
def PrevOk (v : Value) : Prop := v = .none ∨ ∃ c t, c < 128 ∧ v = .str (sg c) t
/-- the elements made so far -/
structure Els (els : List (Addr × Obj)) (rs : List Addr) (ks : List Nat) : Prop where
  len : rs.length = ks.length
  at_ : ∀ (i : Nat) (r : Addr) (k : Nat), rs[i]? = some r → ks[i]? = some k → ∃ x act, (r, elObj x act) ∈ els ∧ KRep k x
  tup : ∀ p ∈ els, p.2.cls = .type "tuple"
theorem Els.nil : Els [] [] [] := ⟨rfl, fun i r k h => by simp at h, fun p h => nomatch h⟩
theorem Els.grow {els : List (Addr × Obj)} {rs : List Addr} {ks : List Nat} {ko : Option Nat} {vs vs' : Array Value} {e2 : List (Addr × Obj)} (H : Els els rs ks) (rr : Addr) (hv : vs = ((Value.ref rr) :: rs.map Value.ref).toArray) (g : Grown ko vs e2 vs') :
    ∃ rs', Els (e2 ++ els) rs' (ks ++ ko.toList) ∧ vs' = ((Value.ref rr) :: rs'.map Value.ref).toArray := by
  cases ko with
  | none =>
    obtain ⟨rfl, rfl⟩ := g
    exact ⟨rs, by simpa using H, hv⟩
  | some k =>
    obtain ⟨r, x, act, rfl, rfl, hk⟩ := g
    refine ⟨rs ++ [r], ⟨by simp [H.len], fun i r' k' h1 h2 => ?_, fun p hp => ?_⟩, by rw [hv]; simp⟩
    · simp only [Option.toList] at h2
      by_cases hi : i < rs.length
      · rw [List.getElem?_append_left hi] at h1
        rw [List.getElem?_append_left (by rw [← H.len]; exact hi)] at h2
        obtain ⟨x', a', m1, m2⟩ := H.at_ i r' k' h1 h2
        exact ⟨x', a', by simp [m1], m2⟩
      · rw [List.getElem?_append_right (by omega)] at h1
        rw [List.getElem?_append_right (by rw [← H.len]; omega)] at h2
        have hz : i - rs.length = 0 := by
          cases q : i - rs.length with
          | zero => rfl
          | succ n => rw [q] at h1; simp at h1
        rw [hz] at h1
        rw [← H.len, hz] at h2
        simp at h1 h2
        subst h1; subst h2
        exact ⟨x, act, by simp, hk⟩
    · simp only [List.singleton_append, List.mem_cons] at hp
      rcases hp with rfl | hp
      · rfl
      · exact H.tup p hp

set_option maxHeartbeats 1000000 in
theorem add_any : ∀ {w : World} {mean : ExcName → Option Value} {mg mb : Str → Option Value}
  (dp un : Nat) (gd : Option (List Code)) (cn : Str) (cs : Scope) (a : Addr) (ccd : Value) (cl : List (Str × Addr)) (outer : List Env) (A₀ : Around) (base h₀ : Heap) (L : Addr) (m : Str → Option Value) (s : Shared) (Q E : Value → Shared → Prop) (ts : List (Addr × Obj))
  (l : Addr) (vs : Array Value) (n : Nat) (tk tki : Tok) (hvs : vs.size < 1000) (hts : ∀ p ∈ ts, p.1 ≠ l)
  (B : Below A₀ base outer h₀) (F : Fr h₀ L s.heap m) (X : (hd.heap_39 (World.params w)).In h₀) (N : News h₀ L s.heap ((l, W.listOf vs n) :: ts)) (T : Top hd.view_39 (looseW hd.view_39 [Str.ofString "SINGLE_WILDCARD", Str.ofString "MULTI_WILDCARD", Str.ofString "DEFAULT_FIRST_ELEMENT", Str.ofString "_path_to_elements", Str.ofString "_WILDCARD_RE"]) mean mg mb h₀) (D : KtsDicts (outer.filterMap (·.frame)) h₀) (XB : (hd.heap_39 (World.params w)).In base) (TB : Top hd.view_39 (looseW hd.view_39 [Str.ofString "SINGLE_WILDCARD", Str.ofString "MULTI_WILDCARD", Str.ofString "DEFAULT_FIRST_ELEMENT", Str.ofString "_path_to_elements", Str.ofString "_WILDCARD_RE"]) mean mg mb base) (hk : cs.kind = .function)
  (hdp : dp + 10 < recursionLimit) (hun : un + 100 < cLine)
  (e : Str) (i : Nat) (ko : Option Nat) (hw : Wd e i ko)
  (hret : ∀ els vs' n' h₀' h' tk', KtsTurn (outer.filterMap (·.frame)) h₀ h₀' → Fr h₀' L h' m → Below A₀ base outer h₀' → News h₀' L h' (els ++ (l, W.listOf vs' n') :: ts) → Grown ko vs els vs' → Q .none { s with heap := h', toks := tk' }),
  wpC (model (RowW.prog (OpenRow.toRowW (OpenLaw.row PySem.Challenge.rw_fu0002_01))) w) (ktrTop dp un gd cn cs L a ccd cl outer) (call (.ref 86) [.ref l, .str e tk, insV i tki] []) Q E s := by
  intro w mean mg mb dp un gd cn cs a ccd cl outer A₀ base h₀ L m s Q E ts l vs n tk tki hvs hts B F X N T D XB TB hk hdp hun e i ko hw hret
  rcases hw with ⟨rfl, rfl, rfl⟩ | ⟨rfl, rfl, rfl⟩ | ⟨rfl, rfl, rfl⟩ | ⟨rfl, rfl, rfl⟩ | ⟨rfl, rfl, rfl⟩ | ⟨rfl, rfl, rfl⟩ | ⟨rfl, rfl, rfl⟩ | ⟨rfl, rfl, rfl⟩ | ⟨rfl, rfl, rfl⟩ | ⟨rfl, rfl, rfl⟩ | ⟨rfl, rfl, rfl⟩ | ⟨rfl, rfl, rfl⟩
  · exact wpC.of (add_oned dp un gd cn cs a ccd cl outer A₀ base h₀ L m s Q E ts l vs n tk tki hvs hts B F X N T D XB TB hk hdp hun fun r x act n' h₀' h' tk' K F B N hx => hret [_] _ n' h₀' h' tk' K F B N ⟨r, x, act, rfl, rfl, by simp [KRep, hx]⟩)
  · exact wpC.of (add_rund dp un gd cn cs a ccd cl outer A₀ base h₀ L m s Q E ts l vs n tk tki hvs hts B F X N T D XB TB hk hdp hun fun r x act n' h₀' h' tk' K F B N hx => hret [_] _ n' h₀' h' tk' K F B N ⟨r, x, act, rfl, rfl, by simp [KRep, hx]⟩)
  · exact (add_a dp un gd cn cs a ccd cl outer A₀ base h₀ L m s Q E ts l vs n tk tki hvs hts B F X N T D XB TB hk hdp hun fun r x act n' h₀' h' tk' K F B N hx => hret [_] _ n' h₀' h' tk' K F B N ⟨r, x, act, rfl, rfl, by simp [KRep, hx]⟩)
  · exact (add_b dp un gd cn cs a ccd cl outer A₀ base h₀ L m s Q E ts l vs n tk tki hvs hts B F X N T D XB TB hk hdp hun fun r x act n' h₀' h' tk' K F B N hx => hret [_] _ n' h₀' h' tk' K F B N ⟨r, x, act, rfl, rfl, by simp [KRep, hx]⟩)
  · exact wpC.of (add_onek dp un gd cn cs a ccd cl outer A₀ base h₀ L m s Q E ts l vs n tk tki hvs hts B F X N T D XB TB hk hdp hun fun r x act n' h₀' h' tk' K F B N hx => hret [_] _ n' h₀' h' tk' K F B N ⟨r, x, act, rfl, rfl, by simp [KRep, hx]⟩)
  · exact wpC.of (add_runk dp un gd cn cs a ccd cl outer A₀ base h₀ L m s Q E ts l vs n tk tki hvs hts B F X N T D XB TB hk hdp hun fun r x act n' h₀' h' tk' K F B N hx => hret [_] _ n' h₀' h' tk' K F B N ⟨r, x, act, rfl, rfl, by simp [KRep, hx]⟩)
  · exact wpC.of (add_three dp un gd cn cs a ccd cl outer A₀ base h₀ L m s Q E ts l vs n tk tki hvs hts B F X N T D XB TB hk hdp hun fun r x act n' h₀' h' tk' K F B N hx => hret [_] _ n' h₀' h' tk' K F B N ⟨r, x, act, rfl, rfl, by simp [KRep, hx]⟩)
  · exact wpC.of (add_none dp un gd cn cs a ccd cl outer A₀ base h₀ L m s Q E ts l vs n tk tki hvs hts B F X N T D XB TB hk hdp hun fun h₀' h' tk' K F B N => hret [] vs n h₀' h' tk' K F B N ⟨rfl, rfl⟩)
  · exact (add_qa dp un gd cn cs a ccd cl outer A₀ base h₀ L m s Q E ts l vs n tk tki hvs hts B F X N T D XB TB hk hdp hun fun r x act n' h₀' h' tk' K F B N hx => hret [_] _ n' h₀' h' tk' K F B N ⟨r, x, act, rfl, rfl, by simp [KRep, hx]⟩)
  · exact (add_qb dp un gd cn cs a ccd cl outer A₀ base h₀ L m s Q E ts l vs n tk tki hvs hts B F X N T D XB TB hk hdp hun fun r x act n' h₀' h' tk' K F B N hx => hret [_] _ n' h₀' h' tk' K F B N ⟨r, x, act, rfl, rfl, by simp [KRep, hx]⟩)
  · exact (add_qs dp un gd cn cs a ccd cl outer A₀ base h₀ L m s Q E ts l vs n tk tki hvs hts B F X N T D XB TB hk hdp hun fun r x act n' h₀' h' tk' K F B N hx => hret [_] _ n' h₀' h' tk' K F B N ⟨r, x, act, rfl, rfl, by simp [KRep, hx]⟩)
  · exact (add_qi dp un gd cn cs a ccd cl outer A₀ base h₀ L m s Q E ts l vs n tk tki hvs hts B F X N T D XB TB hk hdp hun fun r x act n' h₀' h' tk' K F B N hx => hret [_] _ n' h₀' h' tk' K F B N ⟨r, x, act, rfl, rfl, by simp [KRep, hx]⟩)

end Mine
end
section
theorem Mine.off_Tn : True := by
  w_top off
  trivial
open PySem PySem.W PyProof.Rows
set_option Elab.async false
set_option linter.unusedVariables false
set_option linter.unusedSimpArgs false
set_option maxRecDepth 100000
namespace Mine

/-- the count of the tokens, forgotten -/
theorem gen_toks {α : Type} {M : Model} {A : Around} {t : Sem α} {Q : α → Shared → Prop} {E : Value → Shared → Prop} {h g d x o} (H : ∀ tk, wpAny M A t Q E ⟨h, g, d, tk, o⟩) : wpAny M A t Q E ⟨h, g, d, x, o⟩ := H x
def fnBody (K : Frag) (a : Addr) : List Stmt := match K.lookup a with
  | some ⟨_, _, .func fd, _⟩ => (match fd.body with | .stmts b => b | _ => [])
  | _ => []
def forBody (K : Frag) (a : Addr) (i : Nat) : List Stmt := match (fnBody K a)[i]? with
  | some (.For _ _ b _ _) => b
  | _ => []
def scopeOf (K : Frag) (a : Addr) : Scope := match K.lookup a with
  | some ⟨_, _, .func fd, _⟩ => fd.scope
  | _ => { kind := .function, names := [], isGenerator := false, isCoroutine := false }
/-- the scan's state, as the names and the ledger say it -/
def Rep (path root : Value) (l bk rr : Addr) (ts0 : List (Addr × Obj)) (st : PS) (m : Str → Option Value) (news : List (Addr × Obj)) : Prop :=
  ∃ (cv : Option Value) (pv : Value) (te tq ti tb : Tok) (rs : List Addr) (els : List (Addr × Obj)) (n nb : Nat),
    m = pm cv path root (.ref l) (.ref bk) (.str st.e te) (insV st.ins ti) (.bool st.q.isSome) (.str (quoS st.q) tq) pv ∧ PrevOk pv ∧
    news = (l, W.listOf ((Value.ref rr) :: rs.map Value.ref).toArray n) :: (bk, W.listOf (if st.br then #[.str (Str.ofString "[") tb] else #[]) nb) :: (els ++ ts0) ∧
    Els els rs st.ks ∧ l ≠ bk ∧ ∀ p ∈ els ++ ts0, p.1 ≠ l ∧ p.1 ≠ bk
theorem stepS_ {fs : List Addr} {A₀ : Around} {base : Heap} {outer : List Env} {L : Addr} {own news₂ n' : List (Addr × Obj)} {J : (Str → Option Value) → List (Addr × Obj) → Prop} {g g₂ h₂ : Heap} {s₁ : Shared} {m' m₂ : Str → Option Value} {tk : Nat} {f : Flow}
    (hf : f = .next) (KT : KtsTurn fs g g₂) (B : Below A₀ base outer g₂) (F : Fr g₂ L h₂ m') (N : News g₂ L h₂ n') (hJ : J m₂ news₂) (hm : ∀ y, m' y = m₂ y) (hn : ∀ p ∈ news₂ ++ own, p ∈ n') :
    StepS fs A₀ base outer L own J g s₁ f { s₁ with heap := h₂, toks := tk } := ⟨.inl hf, g₂, h₂, tk, m₂, news₂, rfl, KT, B, fr_eq F hm, news_sub N hn, hJ⟩
section
variable {prog : Program} {w : World} {A : Around} {s : Shared} {E : Value → Shared → Prop}
theorem prev_no {pv : Value} {x : Str} {u : Tok} {Q : Value → Shared → Prop} (h : PrevOk pv) (hQ : Q (.bool false) s) (hx : (List.range 128).all (fun c => sg c != x) = true := by decide +kernel) : wpAny (model prog w) A (compareOp .Eq pv (.str x u)) Q E s := by
  rcases h with rfl | ⟨c, t, hc, rfl⟩
  · exact EqNone.eq_none_str hQ
  · refine eq_str ?_
    have e : (sg c == x) = false := by
      have z := List.all_eq_true.mp hx c (List.mem_range.mpr hc)
      simpa using z
    rw [e]; exact hQ
end
local macro_rules | `(tactic| walk_at "compareOp Eq") => `(tactic| refine prev_no (by assumption) ?_)
theorem truthy_one {prog : Program} {w : World} {A : Around} {s : Shared} {E : Value → Shared → Prop} {g : Heap} {L l : Addr} {x : Value} {n : Nat} {news : List (Addr × Obj)} {Q : Bool → Shared → Prop} (N : News g L s.heap news) (hm : (l, W.listOf #[x] n) ∈ news)
    (h : Q true { s with toks := s.toks + 1 + 1 }) : wpAny (model prog w) A (truthy (.ref l)) Q E s :=
  wpAny_truthy_list (items := #[x]) ⟨_, (N _ hm).1, rfl, _, rfl⟩ (by simp) h
local macro_rules | `(tactic| walk_at "truthy ref") => `(tactic| (k_here; (with_reducible show wpAny _ _ (truthy (Value.ref _)) _ _ _); refine' truthy_one ?k1 ?k2 ?_; (case k1 => k_asm); (case k2 => k_mem); k_whole))
local macro_rules | `(tactic| walk_at "execs nil") => `(tactic| (k_here; (with_reducible show wpAny _ _ _ _ _ ⟨_, _, _, _ + 1 + 1, _⟩); refine gen_toks ?_; intro tk))
local macro_rules | `(tactic| walk_at "execs cons") => `(tactic| (k_here; (with_reducible show wpAny _ _ _ _ _ ⟨_, _, _, _ + 1 + 1, _⟩); refine gen_toks ?_; intro tk))
local macro_rules | `(tactic| walk_at "ite") => `(tactic| (k_closed; first | (with_reducible refine' ite_pos ?c ?_; (case c => decide +kernel)) | (with_reducible refine' ite_neg ?c ?_; (case c => decide +kernel))))
local macro_rules | `(tactic| walk_at "setAdd str") => `(tactic| (k_here; (refine' kds_add_new (knd := PySem.strKind _ _) ?F ?N ?U ?d ?z ?k ?sc ?b ?_); k_dflt ((case F => k_asm); (case N => k_asm); (case U => k_updF); (case d => k_asm); (case z => kse_small); (case k => exact strKind_is _ _ _ _); (case sc => rfl); (case b => rfl)); intro h' o' F' N' hs'; (try dsimp only at N')))
local macro_rules | `(tactic| k_all) => `(tactic| with_reducible assumption)

theorem reord {p1 p2 : Addr × Obj} {els2 els ts0 own : List (Addr × Obj)} : ∀ p ∈ p1 :: p2 :: (els2 ++ els ++ ts0 ++ own), p ∈ els2 ++ p1 :: p2 :: (els ++ ts0 ++ own) := fun p hp => by
  simp only [List.mem_cons, List.mem_append] at hp ⊢
  rcases hp with h | h | ((h | h) | h) | h <;> simp [h]
theorem news_ne {g h : Heap} {L : Addr} {ns : List (Addr × Obj)} (N : News g L h ns) {p q : Addr × Obj} (hp : p ∈ ns) (hq : q ∈ ns) (h : p.2.cls ≠ q.2.cls) : p.1 ≠ q.1 := fun e => by
  have e1 := (N p hp).1
  rw [e, (N q hq).1] at e1
  exact h (by rw [Option.some.inj e1])
theorem grown_cls {ko : Option Nat} {vs vs' : Array Value} {els : List (Addr × Obj)} (G : Grown ko vs els vs') : ∀ p ∈ els, p.2.cls = .type "tuple" := fun p hp => by
  cases ko with
  | none => rw [G.1] at hp; cases hp
  | some k =>
    obtain ⟨r, x, act, rfl, _, _⟩ := G
    rw [List.mem_singleton.mp hp]; rfl
theorem grown_ne {g h : Heap} {L l : Addr} {v : Array Value} {n : Nat} {ns els : List (Addr × Obj)} (N : News g L h ns) (ht : ∀ p ∈ els, p.2.cls = .type "tuple") (hs : ∀ p ∈ els, p ∈ ns) (hl : (l, W.listOf v n) ∈ ns) : ∀ p ∈ els, p.1 ≠ l := fun p hp =>
  news_ne N (hs p hp) hl (by rw [ht p hp]; show Value.type "tuple" ≠ Value.type "list"; intro q; injection q with q; exact absurd q (by decide))

set_option maxHeartbeats 2000000 in
theorem turn_dot0 : ∀ {w : World} {mean : ExcName → Option Value} {mg mb : Str → Option Value} (dp un : Nat) (gd : Option (List Code)) (cn : Str) (cs : Scope) (a : Addr) (ccd : Value) (cl : List (Str × Addr)) (outer : List Env) (base h₀ : Heap) (L L1 : Addr) (m : Str → Option Value) (s : Shared) (E : Value → Shared → Prop)
  (path root : Value) (l bk rr : Addr) (ts0 news own : List (Addr × Obj)) (ct : Tok) (ks : List Nat) 
  (B : Below (ktrTop dp un gd cn cs L a ccd cl outer) base (envX cn cs L a ccd cl :: outer) h₀) (F : Fr h₀ L1 s.heap (fun y => if y = Str.ofString "char" then some (.str (sg 46) ct) else m y)) (X : (hd.heap_39 (World.params w)).In h₀) (N : News h₀ L1 s.heap (news ++ own)) (T : Top hd.view_39 (looseW hd.view_39 [Str.ofString "SINGLE_WILDCARD", Str.ofString "MULTI_WILDCARD", Str.ofString "DEFAULT_FIRST_ELEMENT", Str.ofString "_path_to_elements", Str.ofString "_WILDCARD_RE"]) mean mg mb h₀) (D : KtsDicts ((envX cn cs L a ccd cl :: outer).filterMap (·.frame)) h₀) (XB : (hd.heap_39 (World.params w)).In base) (TB : Top hd.view_39 (looseW hd.view_39 [Str.ofString "SINGLE_WILDCARD", Str.ofString "MULTI_WILDCARD", Str.ofString "DEFAULT_FIRST_ELEMENT", Str.ofString "_path_to_elements", Str.ofString "_WILDCARD_RE"]) mean mg mb base)
  (hdp : dp + 11 < recursionLimit) (hun : un + 150 < cLine) (hap : ∀ p ∈ news, ∀ q ∈ own, q.1 ≠ p.1)
  (R : Rep path root l bk rr ts0 ⟨ks, Str.ofString "", 0, false, none⟩ m news),
  wpC (model (RowW.prog (OpenRow.toRowW (OpenLaw.row PySem.Challenge.rw_fu0002_01))) w) ((ktrTop dp un gd cn cs L a ccd cl outer).deeper (envOf (Str.ofString "_path_to_elements") (scopeOf (hd.heap_39 (World.params w)) 95) L1 95 (.ref 94))) (execs (forBody (hd.heap_39 (World.params w)) 95 10) (envOf (Str.ofString "_path_to_elements") (scopeOf (hd.heap_39 (World.params w)) 95) L1 95 (.ref 94))) (StepS ((envX cn cs L a ccd cl :: outer).filterMap (·.frame)) (ktrTop dp un gd cn cs L a ccd cl outer) base (envX cn cs L a ccd cl :: outer) L1 own (Rep path root l bk rr ts0 ⟨ks, Str.ofString "", 1, false, none⟩) h₀ s) E s := by
  intro w mean mg mb dp un gd cn cs a ccd cl outer base h₀ L L1 m s E path root l bk rr ts0 news own ct
  intro ks B F X N T D XB TB hdp hun hap R
  obtain ⟨cv, pv, te, tq, ti, tb, rs, els, n, nb, rfl, hpv, rfl, hE, hlb, hts⟩ := R
  simp only [insV, quoS, Option.isSome, Bool.false_eq_true, ↓reduceIte, List.cons_append] at F N
  have hlt : ∀ p ∈ els ++ ts0 ++ own, p.1 ≠ l := fun p hp => (List.mem_append.mp hp).elim (fun h => (hts p h).1) (fun h => hap _ (.head _) p h)
  have hbt : ∀ p ∈ els ++ ts0 ++ own, p.1 ≠ bk := fun p hp => (List.mem_append.mp hp).elim (fun h => (hts p h).2) (fun h => hap _ (.tail _ (.head _)) p h)
  rw [show sg 46 = Str.ofString "." by decide +kernel] at F
  revert X
  k_fill
  intro X
  conv in (forBody _ _ _) => whnf
  repeat (conv in (scopeOf _ _) => whnf)
  with_reducible refine wpC_execs_cons (wpC_If ?_)
  k_steps
  with_reducible refine wpC_execs_cons (wpC_If ?_)
  k_steps
  with_reducible refine wpC_execs_cons (wpC_If ?_)
  k_steps
  with_reducible refine wpC_execs_cons (wpC_If ?_)
  k_steps
  with_reducible refine wpC_execs_cons (wpC_If ?_)
  k_steps
  refine wpC.of ?_
  k_steps
  (try dsimp only)
  repeat (refine wpC_execs_nil ?_; dsimp only)
  refine wpC.of ?_
  (try refine gen_toks (fun tk => ?_))
  k_steps
  refine' stepS_ rfl (KtsTurn.refl) (by assumption) (by assumption) (by assumption) ⟨some _, _, _, _, _, tb, rs, els, _, _, rfl, .inr ⟨46, _, by decide, rfl⟩, rfl, hE, hlb, hts⟩ ?zhm ?zhn
  case zhm => (intro y; by_cases h0 : y = Str.ofString "char"; (· subst h0; rfl); by_cases h1 : y = Str.ofString "prev_char"; (· subst h1; rfl); by_cases h2 : y = Str.ofString "elem"; (· subst h2; rfl); by_cases h3 : y = Str.ofString "inside"; (· subst h3; rfl); by_cases h4 : y = Str.ofString "inside_quotes"; (· subst h4; rfl); by_cases h5 : y = Str.ofString "quote_used"; (· subst h5; rfl); by_cases h6 : y = Str.ofString "brackets"; (· subst h6; rfl); by_cases h7 : y = Str.ofString "elements"; (· subst h7; rfl); by_cases h8 : y = Str.ofString "path"; (· subst h8; rfl); by_cases h9 : y = Str.ofString "root_element"; (· subst h9; rfl); (simp only [pm, if_neg h0, if_neg h1, if_neg h2, if_neg h3, if_neg h4, if_neg h5, if_neg h6, if_neg h7, if_neg h8, if_neg h9]))
  case zhn => 
    simp only [List.cons_append, Bool.false_eq_true, ↓reduceIte]
    refine' sub_two ?zm2 ?zm1 ?zt
    case zm2 => k_mem
    case zm1 => k_mem
    case zt => (intro q hq; repeat (first | exact hq | apply List.mem_cons_of_mem))


set_option maxHeartbeats 2000000 in
theorem turn_br0 : ∀ {w : World} {mean : ExcName → Option Value} {mg mb : Str → Option Value} (dp un : Nat) (gd : Option (List Code)) (cn : Str) (cs : Scope) (a : Addr) (ccd : Value) (cl : List (Str × Addr)) (outer : List Env) (base h₀ : Heap) (L L1 : Addr) (m : Str → Option Value) (s : Shared) (E : Value → Shared → Prop)
  (path root : Value) (l bk rr : Addr) (ts0 news own : List (Addr × Obj)) (ct : Tok) (ks : List Nat) 
  (B : Below (ktrTop dp un gd cn cs L a ccd cl outer) base (envX cn cs L a ccd cl :: outer) h₀) (F : Fr h₀ L1 s.heap (fun y => if y = Str.ofString "char" then some (.str (sg 91) ct) else m y)) (X : (hd.heap_39 (World.params w)).In h₀) (N : News h₀ L1 s.heap (news ++ own)) (T : Top hd.view_39 (looseW hd.view_39 [Str.ofString "SINGLE_WILDCARD", Str.ofString "MULTI_WILDCARD", Str.ofString "DEFAULT_FIRST_ELEMENT", Str.ofString "_path_to_elements", Str.ofString "_WILDCARD_RE"]) mean mg mb h₀) (D : KtsDicts ((envX cn cs L a ccd cl :: outer).filterMap (·.frame)) h₀) (XB : (hd.heap_39 (World.params w)).In base) (TB : Top hd.view_39 (looseW hd.view_39 [Str.ofString "SINGLE_WILDCARD", Str.ofString "MULTI_WILDCARD", Str.ofString "DEFAULT_FIRST_ELEMENT", Str.ofString "_path_to_elements", Str.ofString "_WILDCARD_RE"]) mean mg mb base)
  (hdp : dp + 11 < recursionLimit) (hun : un + 150 < cLine) (hap : ∀ p ∈ news, ∀ q ∈ own, q.1 ≠ p.1)
  (R : Rep path root l bk rr ts0 ⟨ks, Str.ofString "", 0, false, none⟩ m news),
  wpC (model (RowW.prog (OpenRow.toRowW (OpenLaw.row PySem.Challenge.rw_fu0002_01))) w) ((ktrTop dp un gd cn cs L a ccd cl outer).deeper (envOf (Str.ofString "_path_to_elements") (scopeOf (hd.heap_39 (World.params w)) 95) L1 95 (.ref 94))) (execs (forBody (hd.heap_39 (World.params w)) 95 10) (envOf (Str.ofString "_path_to_elements") (scopeOf (hd.heap_39 (World.params w)) 95) L1 95 (.ref 94))) (StepS ((envX cn cs L a ccd cl :: outer).filterMap (·.frame)) (ktrTop dp un gd cn cs L a ccd cl outer) base (envX cn cs L a ccd cl :: outer) L1 own (Rep path root l bk rr ts0 ⟨ks, Str.ofString "", 2, true, none⟩) h₀ s) E s := by
  intro w mean mg mb dp un gd cn cs a ccd cl outer base h₀ L L1 m s E path root l bk rr ts0 news own ct
  intro ks B F X N T D XB TB hdp hun hap R
  obtain ⟨cv, pv, te, tq, ti, tb, rs, els, n, nb, rfl, hpv, rfl, hE, hlb, hts⟩ := R
  simp only [insV, quoS, Option.isSome, Bool.false_eq_true, ↓reduceIte, List.cons_append] at F N
  have hlt : ∀ p ∈ els ++ ts0 ++ own, p.1 ≠ l := fun p hp => (List.mem_append.mp hp).elim (fun h => (hts p h).1) (fun h => hap _ (.head _) p h)
  have hbt : ∀ p ∈ els ++ ts0 ++ own, p.1 ≠ bk := fun p hp => (List.mem_append.mp hp).elim (fun h => (hts p h).2) (fun h => hap _ (.tail _ (.head _)) p h)
  rw [show sg 91 = Str.ofString "[" by decide +kernel] at F
  revert X
  k_fill
  intro X
  conv in (forBody _ _ _) => whnf
  repeat (conv in (scopeOf _ _) => whnf)
  with_reducible refine wpC_execs_cons (wpC_If ?_)
  k_steps
  with_reducible refine wpC_execs_cons (wpC_If ?_)
  k_steps
  with_reducible refine wpC_execs_cons (wpC_If ?_)
  k_steps
  with_reducible refine wpC_execs_cons (wpC_If ?_)
  k_steps
  refine wpC.of ?_
  k_steps
  (try dsimp only)
  repeat (refine wpC_execs_nil ?_; dsimp only)
  refine wpC.of ?_
  (try refine gen_toks (fun tk => ?_))
  k_steps
  refine' stepS_ rfl (KtsTurn.refl) (by assumption) (by assumption) (by assumption) ⟨some _, _, _, _, _, _, rs, els, _, _, rfl, .inr ⟨91, _, by decide, rfl⟩, rfl, hE, hlb, hts⟩ ?zhm ?zhn
  case zhm => (intro y; by_cases h0 : y = Str.ofString "char"; (· subst h0; rfl); by_cases h1 : y = Str.ofString "prev_char"; (· subst h1; rfl); by_cases h2 : y = Str.ofString "elem"; (· subst h2; rfl); by_cases h3 : y = Str.ofString "inside"; (· subst h3; rfl); by_cases h4 : y = Str.ofString "inside_quotes"; (· subst h4; rfl); by_cases h5 : y = Str.ofString "quote_used"; (· subst h5; rfl); by_cases h6 : y = Str.ofString "brackets"; (· subst h6; rfl); by_cases h7 : y = Str.ofString "elements"; (· subst h7; rfl); by_cases h8 : y = Str.ofString "path"; (· subst h8; rfl); by_cases h9 : y = Str.ofString "root_element"; (· subst h9; rfl); (simp only [pm, if_neg h0, if_neg h1, if_neg h2, if_neg h3, if_neg h4, if_neg h5, if_neg h6, if_neg h7, if_neg h8, if_neg h9]))
  case zhn => 
    simp only [List.cons_append, Bool.false_eq_true, ↓reduceIte]
    refine' sub_two ?zm2 ?zm1 ?zt
    case zm2 => k_mem
    case zm1 => k_mem
    case zt => (intro q hq; repeat (first | exact hq | apply List.mem_cons_of_mem))


set_option maxHeartbeats 2000000 in
theorem turn_dch42 : ∀ {w : World} {mean : ExcName → Option Value} {mg mb : Str → Option Value} (dp un : Nat) (gd : Option (List Code)) (cn : Str) (cs : Scope) (a : Addr) (ccd : Value) (cl : List (Str × Addr)) (outer : List Env) (base h₀ : Heap) (L L1 : Addr) (m : Str → Option Value) (s : Shared) (E : Value → Shared → Prop)
  (path root : Value) (l bk rr : Addr) (ts0 news own : List (Addr × Obj)) (ct : Tok) (ks : List Nat) (e : Str) (he : e.length ≤ 20) 
  (B : Below (ktrTop dp un gd cn cs L a ccd cl outer) base (envX cn cs L a ccd cl :: outer) h₀) (F : Fr h₀ L1 s.heap (fun y => if y = Str.ofString "char" then some (.str (sg 42) ct) else m y)) (X : (hd.heap_39 (World.params w)).In h₀) (N : News h₀ L1 s.heap (news ++ own)) (T : Top hd.view_39 (looseW hd.view_39 [Str.ofString "SINGLE_WILDCARD", Str.ofString "MULTI_WILDCARD", Str.ofString "DEFAULT_FIRST_ELEMENT", Str.ofString "_path_to_elements", Str.ofString "_WILDCARD_RE"]) mean mg mb h₀) (D : KtsDicts ((envX cn cs L a ccd cl :: outer).filterMap (·.frame)) h₀) (XB : (hd.heap_39 (World.params w)).In base) (TB : Top hd.view_39 (looseW hd.view_39 [Str.ofString "SINGLE_WILDCARD", Str.ofString "MULTI_WILDCARD", Str.ofString "DEFAULT_FIRST_ELEMENT", Str.ofString "_path_to_elements", Str.ofString "_WILDCARD_RE"]) mean mg mb base)
  (hdp : dp + 11 < recursionLimit) (hun : un + 150 < cLine) (hap : ∀ p ∈ news, ∀ q ∈ own, q.1 ≠ p.1)
  (R : Rep path root l bk rr ts0 ⟨ks, e, 1, false, none⟩ m news),
  wpC (model (RowW.prog (OpenRow.toRowW (OpenLaw.row PySem.Challenge.rw_fu0002_01))) w) ((ktrTop dp un gd cn cs L a ccd cl outer).deeper (envOf (Str.ofString "_path_to_elements") (scopeOf (hd.heap_39 (World.params w)) 95) L1 95 (.ref 94))) (execs (forBody (hd.heap_39 (World.params w)) 95 10) (envOf (Str.ofString "_path_to_elements") (scopeOf (hd.heap_39 (World.params w)) 95) L1 95 (.ref 94))) (StepS ((envX cn cs L a ccd cl :: outer).filterMap (·.frame)) (ktrTop dp un gd cn cs L a ccd cl outer) base (envX cn cs L a ccd cl :: outer) L1 own (Rep path root l bk rr ts0 ⟨ks, e ++ Str.ofString "*", 1, false, none⟩) h₀ s) E s := by
  intro w mean mg mb dp un gd cn cs a ccd cl outer base h₀ L L1 m s E path root l bk rr ts0 news own ct
  intro ks e he B F X N T D XB TB hdp hun hap R
  obtain ⟨cv, pv, te, tq, ti, tb, rs, els, n, nb, rfl, hpv, rfl, hE, hlb, hts⟩ := R
  simp only [insV, quoS, Option.isSome, Bool.false_eq_true, ↓reduceIte, List.cons_append] at F N
  have hlt : ∀ p ∈ els ++ ts0 ++ own, p.1 ≠ l := fun p hp => (List.mem_append.mp hp).elim (fun h => (hts p h).1) (fun h => hap _ (.head _) p h)
  have hbt : ∀ p ∈ els ++ ts0 ++ own, p.1 ≠ bk := fun p hp => (List.mem_append.mp hp).elim (fun h => (hts p h).2) (fun h => hap _ (.tail _ (.head _)) p h)
  rw [show sg 42 = Str.ofString "*" by decide +kernel] at F
  revert X
  k_fill
  intro X
  conv in (forBody _ _ _) => whnf
  repeat (conv in (scopeOf _ _) => whnf)
  with_reducible refine wpC_execs_cons (wpC_If ?_)
  k_steps
  with_reducible refine wpC_execs_cons (wpC_If ?_)
  k_steps
  with_reducible refine wpC_execs_cons (wpC_If ?_)
  k_steps
  with_reducible refine wpC_execs_cons (wpC_If ?_)
  k_steps
  with_reducible refine wpC_execs_cons (wpC_If ?_)
  k_steps
  with_reducible refine wpC_execs_cons (wpC_If ?_)
  k_steps
  refine wpC.of ?_
  k_steps
  (try dsimp only)
  repeat (refine wpC_execs_nil ?_; dsimp only)
  refine wpC.of ?_
  (try refine gen_toks (fun tk => ?_))
  k_steps
  refine' stepS_ rfl (KtsTurn.refl) (by assumption) (by assumption) (by assumption) ⟨some _, _, _, _, _, tb, rs, els, _, _, rfl, .inr ⟨42, _, by decide, rfl⟩, rfl, hE, hlb, hts⟩ ?zhm ?zhn
  case zhm => (intro y; by_cases h0 : y = Str.ofString "char"; (· subst h0; rfl); by_cases h1 : y = Str.ofString "prev_char"; (· subst h1; rfl); by_cases h2 : y = Str.ofString "elem"; (· subst h2; rfl); by_cases h3 : y = Str.ofString "inside"; (· subst h3; rfl); by_cases h4 : y = Str.ofString "inside_quotes"; (· subst h4; rfl); by_cases h5 : y = Str.ofString "quote_used"; (· subst h5; rfl); by_cases h6 : y = Str.ofString "brackets"; (· subst h6; rfl); by_cases h7 : y = Str.ofString "elements"; (· subst h7; rfl); by_cases h8 : y = Str.ofString "path"; (· subst h8; rfl); by_cases h9 : y = Str.ofString "root_element"; (· subst h9; rfl); (simp only [pm, if_neg h0, if_neg h1, if_neg h2, if_neg h3, if_neg h4, if_neg h5, if_neg h6, if_neg h7, if_neg h8, if_neg h9]))
  case zhn => 
    simp only [List.cons_append, Bool.false_eq_true, ↓reduceIte]
    refine' sub_two ?zm2 ?zm1 ?zt
    case zm2 => k_mem
    case zm1 => k_mem
    case zt => (intro q hq; repeat (first | exact hq | apply List.mem_cons_of_mem))


set_option maxHeartbeats 2000000 in
theorem turn_dch97 : ∀ {w : World} {mean : ExcName → Option Value} {mg mb : Str → Option Value} (dp un : Nat) (gd : Option (List Code)) (cn : Str) (cs : Scope) (a : Addr) (ccd : Value) (cl : List (Str × Addr)) (outer : List Env) (base h₀ : Heap) (L L1 : Addr) (m : Str → Option Value) (s : Shared) (E : Value → Shared → Prop)
  (path root : Value) (l bk rr : Addr) (ts0 news own : List (Addr × Obj)) (ct : Tok) (ks : List Nat) (e : Str) (he : e.length ≤ 20) 
  (B : Below (ktrTop dp un gd cn cs L a ccd cl outer) base (envX cn cs L a ccd cl :: outer) h₀) (F : Fr h₀ L1 s.heap (fun y => if y = Str.ofString "char" then some (.str (sg 97) ct) else m y)) (X : (hd.heap_39 (World.params w)).In h₀) (N : News h₀ L1 s.heap (news ++ own)) (T : Top hd.view_39 (looseW hd.view_39 [Str.ofString "SINGLE_WILDCARD", Str.ofString "MULTI_WILDCARD", Str.ofString "DEFAULT_FIRST_ELEMENT", Str.ofString "_path_to_elements", Str.ofString "_WILDCARD_RE"]) mean mg mb h₀) (D : KtsDicts ((envX cn cs L a ccd cl :: outer).filterMap (·.frame)) h₀) (XB : (hd.heap_39 (World.params w)).In base) (TB : Top hd.view_39 (looseW hd.view_39 [Str.ofString "SINGLE_WILDCARD", Str.ofString "MULTI_WILDCARD", Str.ofString "DEFAULT_FIRST_ELEMENT", Str.ofString "_path_to_elements", Str.ofString "_WILDCARD_RE"]) mean mg mb base)
  (hdp : dp + 11 < recursionLimit) (hun : un + 150 < cLine) (hap : ∀ p ∈ news, ∀ q ∈ own, q.1 ≠ p.1)
  (R : Rep path root l bk rr ts0 ⟨ks, e, 1, false, none⟩ m news),
  wpC (model (RowW.prog (OpenRow.toRowW (OpenLaw.row PySem.Challenge.rw_fu0002_01))) w) ((ktrTop dp un gd cn cs L a ccd cl outer).deeper (envOf (Str.ofString "_path_to_elements") (scopeOf (hd.heap_39 (World.params w)) 95) L1 95 (.ref 94))) (execs (forBody (hd.heap_39 (World.params w)) 95 10) (envOf (Str.ofString "_path_to_elements") (scopeOf (hd.heap_39 (World.params w)) 95) L1 95 (.ref 94))) (StepS ((envX cn cs L a ccd cl :: outer).filterMap (·.frame)) (ktrTop dp un gd cn cs L a ccd cl outer) base (envX cn cs L a ccd cl :: outer) L1 own (Rep path root l bk rr ts0 ⟨ks, e ++ Str.ofString "a", 1, false, none⟩) h₀ s) E s := by
  intro w mean mg mb dp un gd cn cs a ccd cl outer base h₀ L L1 m s E path root l bk rr ts0 news own ct
  intro ks e he B F X N T D XB TB hdp hun hap R
  obtain ⟨cv, pv, te, tq, ti, tb, rs, els, n, nb, rfl, hpv, rfl, hE, hlb, hts⟩ := R
  simp only [insV, quoS, Option.isSome, Bool.false_eq_true, ↓reduceIte, List.cons_append] at F N
  have hlt : ∀ p ∈ els ++ ts0 ++ own, p.1 ≠ l := fun p hp => (List.mem_append.mp hp).elim (fun h => (hts p h).1) (fun h => hap _ (.head _) p h)
  have hbt : ∀ p ∈ els ++ ts0 ++ own, p.1 ≠ bk := fun p hp => (List.mem_append.mp hp).elim (fun h => (hts p h).2) (fun h => hap _ (.tail _ (.head _)) p h)
  rw [show sg 97 = Str.ofString "a" by decide +kernel] at F
  revert X
  k_fill
  intro X
  conv in (forBody _ _ _) => whnf
  repeat (conv in (scopeOf _ _) => whnf)
  with_reducible refine wpC_execs_cons (wpC_If ?_)
  k_steps
  with_reducible refine wpC_execs_cons (wpC_If ?_)
  k_steps
  with_reducible refine wpC_execs_cons (wpC_If ?_)
  k_steps
  with_reducible refine wpC_execs_cons (wpC_If ?_)
  k_steps
  with_reducible refine wpC_execs_cons (wpC_If ?_)
  k_steps
  with_reducible refine wpC_execs_cons (wpC_If ?_)
  k_steps
  refine wpC.of ?_
  k_steps
  (try dsimp only)
  repeat (refine wpC_execs_nil ?_; dsimp only)
  refine wpC.of ?_
  (try refine gen_toks (fun tk => ?_))
  k_steps
  refine' stepS_ rfl (KtsTurn.refl) (by assumption) (by assumption) (by assumption) ⟨some _, _, _, _, _, tb, rs, els, _, _, rfl, .inr ⟨97, _, by decide, rfl⟩, rfl, hE, hlb, hts⟩ ?zhm ?zhn
  case zhm => (intro y; by_cases h0 : y = Str.ofString "char"; (· subst h0; rfl); by_cases h1 : y = Str.ofString "prev_char"; (· subst h1; rfl); by_cases h2 : y = Str.ofString "elem"; (· subst h2; rfl); by_cases h3 : y = Str.ofString "inside"; (· subst h3; rfl); by_cases h4 : y = Str.ofString "inside_quotes"; (· subst h4; rfl); by_cases h5 : y = Str.ofString "quote_used"; (· subst h5; rfl); by_cases h6 : y = Str.ofString "brackets"; (· subst h6; rfl); by_cases h7 : y = Str.ofString "elements"; (· subst h7; rfl); by_cases h8 : y = Str.ofString "path"; (· subst h8; rfl); by_cases h9 : y = Str.ofString "root_element"; (· subst h9; rfl); (simp only [pm, if_neg h0, if_neg h1, if_neg h2, if_neg h3, if_neg h4, if_neg h5, if_neg h6, if_neg h7, if_neg h8, if_neg h9]))
  case zhn => 
    simp only [List.cons_append, Bool.false_eq_true, ↓reduceIte]
    refine' sub_two ?zm2 ?zm1 ?zt
    case zm2 => k_mem
    case zm1 => k_mem
    case zt => (intro q hq; repeat (first | exact hq | apply List.mem_cons_of_mem))


set_option maxHeartbeats 2000000 in
theorem turn_dch98 : ∀ {w : World} {mean : ExcName → Option Value} {mg mb : Str → Option Value} (dp un : Nat) (gd : Option (List Code)) (cn : Str) (cs : Scope) (a : Addr) (ccd : Value) (cl : List (Str × Addr)) (outer : List Env) (base h₀ : Heap) (L L1 : Addr) (m : Str → Option Value) (s : Shared) (E : Value → Shared → Prop)
  (path root : Value) (l bk rr : Addr) (ts0 news own : List (Addr × Obj)) (ct : Tok) (ks : List Nat) (e : Str) (he : e.length ≤ 20) 
  (B : Below (ktrTop dp un gd cn cs L a ccd cl outer) base (envX cn cs L a ccd cl :: outer) h₀) (F : Fr h₀ L1 s.heap (fun y => if y = Str.ofString "char" then some (.str (sg 98) ct) else m y)) (X : (hd.heap_39 (World.params w)).In h₀) (N : News h₀ L1 s.heap (news ++ own)) (T : Top hd.view_39 (looseW hd.view_39 [Str.ofString "SINGLE_WILDCARD", Str.ofString "MULTI_WILDCARD", Str.ofString "DEFAULT_FIRST_ELEMENT", Str.ofString "_path_to_elements", Str.ofString "_WILDCARD_RE"]) mean mg mb h₀) (D : KtsDicts ((envX cn cs L a ccd cl :: outer).filterMap (·.frame)) h₀) (XB : (hd.heap_39 (World.params w)).In base) (TB : Top hd.view_39 (looseW hd.view_39 [Str.ofString "SINGLE_WILDCARD", Str.ofString "MULTI_WILDCARD", Str.ofString "DEFAULT_FIRST_ELEMENT", Str.ofString "_path_to_elements", Str.ofString "_WILDCARD_RE"]) mean mg mb base)
  (hdp : dp + 11 < recursionLimit) (hun : un + 150 < cLine) (hap : ∀ p ∈ news, ∀ q ∈ own, q.1 ≠ p.1)
  (R : Rep path root l bk rr ts0 ⟨ks, e, 1, false, none⟩ m news),
  wpC (model (RowW.prog (OpenRow.toRowW (OpenLaw.row PySem.Challenge.rw_fu0002_01))) w) ((ktrTop dp un gd cn cs L a ccd cl outer).deeper (envOf (Str.ofString "_path_to_elements") (scopeOf (hd.heap_39 (World.params w)) 95) L1 95 (.ref 94))) (execs (forBody (hd.heap_39 (World.params w)) 95 10) (envOf (Str.ofString "_path_to_elements") (scopeOf (hd.heap_39 (World.params w)) 95) L1 95 (.ref 94))) (StepS ((envX cn cs L a ccd cl :: outer).filterMap (·.frame)) (ktrTop dp un gd cn cs L a ccd cl outer) base (envX cn cs L a ccd cl :: outer) L1 own (Rep path root l bk rr ts0 ⟨ks, e ++ Str.ofString "b", 1, false, none⟩) h₀ s) E s := by
  intro w mean mg mb dp un gd cn cs a ccd cl outer base h₀ L L1 m s E path root l bk rr ts0 news own ct
  intro ks e he B F X N T D XB TB hdp hun hap R
  obtain ⟨cv, pv, te, tq, ti, tb, rs, els, n, nb, rfl, hpv, rfl, hE, hlb, hts⟩ := R
  simp only [insV, quoS, Option.isSome, Bool.false_eq_true, ↓reduceIte, List.cons_append] at F N
  have hlt : ∀ p ∈ els ++ ts0 ++ own, p.1 ≠ l := fun p hp => (List.mem_append.mp hp).elim (fun h => (hts p h).1) (fun h => hap _ (.head _) p h)
  have hbt : ∀ p ∈ els ++ ts0 ++ own, p.1 ≠ bk := fun p hp => (List.mem_append.mp hp).elim (fun h => (hts p h).2) (fun h => hap _ (.tail _ (.head _)) p h)
  rw [show sg 98 = Str.ofString "b" by decide +kernel] at F
  revert X
  k_fill
  intro X
  conv in (forBody _ _ _) => whnf
  repeat (conv in (scopeOf _ _) => whnf)
  with_reducible refine wpC_execs_cons (wpC_If ?_)
  k_steps
  with_reducible refine wpC_execs_cons (wpC_If ?_)
  k_steps
  with_reducible refine wpC_execs_cons (wpC_If ?_)
  k_steps
  with_reducible refine wpC_execs_cons (wpC_If ?_)
  k_steps
  with_reducible refine wpC_execs_cons (wpC_If ?_)
  k_steps
  with_reducible refine wpC_execs_cons (wpC_If ?_)
  k_steps
  refine wpC.of ?_
  k_steps
  (try dsimp only)
  repeat (refine wpC_execs_nil ?_; dsimp only)
  refine wpC.of ?_
  (try refine gen_toks (fun tk => ?_))
  k_steps
  refine' stepS_ rfl (KtsTurn.refl) (by assumption) (by assumption) (by assumption) ⟨some _, _, _, _, _, tb, rs, els, _, _, rfl, .inr ⟨98, _, by decide, rfl⟩, rfl, hE, hlb, hts⟩ ?zhm ?zhn
  case zhm => (intro y; by_cases h0 : y = Str.ofString "char"; (· subst h0; rfl); by_cases h1 : y = Str.ofString "prev_char"; (· subst h1; rfl); by_cases h2 : y = Str.ofString "elem"; (· subst h2; rfl); by_cases h3 : y = Str.ofString "inside"; (· subst h3; rfl); by_cases h4 : y = Str.ofString "inside_quotes"; (· subst h4; rfl); by_cases h5 : y = Str.ofString "quote_used"; (· subst h5; rfl); by_cases h6 : y = Str.ofString "brackets"; (· subst h6; rfl); by_cases h7 : y = Str.ofString "elements"; (· subst h7; rfl); by_cases h8 : y = Str.ofString "path"; (· subst h8; rfl); by_cases h9 : y = Str.ofString "root_element"; (· subst h9; rfl); (simp only [pm, if_neg h0, if_neg h1, if_neg h2, if_neg h3, if_neg h4, if_neg h5, if_neg h6, if_neg h7, if_neg h8, if_neg h9]))
  case zhn => 
    simp only [List.cons_append, Bool.false_eq_true, ↓reduceIte]
    refine' sub_two ?zm2 ?zm1 ?zt
    case zm2 => k_mem
    case zm1 => k_mem
    case zt => (intro q hq; repeat (first | exact hq | apply List.mem_cons_of_mem))


set_option maxHeartbeats 2000000 in
theorem turn_ddot : ∀ {w : World} {mean : ExcName → Option Value} {mg mb : Str → Option Value} (dp un : Nat) (gd : Option (List Code)) (cn : Str) (cs : Scope) (a : Addr) (ccd : Value) (cl : List (Str × Addr)) (outer : List Env) (base h₀ : Heap) (L L1 : Addr) (m : Str → Option Value) (s : Shared) (E : Value → Shared → Prop)
  (path root : Value) (l bk rr : Addr) (ts0 news own : List (Addr × Obj)) (ct : Tok) (ks : List Nat) (e : Str) (ko : Option Nat) (hw : Wd e 1 ko) (hks : ks.length ≤ 20) 
  (B : Below (ktrTop dp un gd cn cs L a ccd cl outer) base (envX cn cs L a ccd cl :: outer) h₀) (F : Fr h₀ L1 s.heap (fun y => if y = Str.ofString "char" then some (.str (sg 46) ct) else m y)) (X : (hd.heap_39 (World.params w)).In h₀) (N : News h₀ L1 s.heap (news ++ own)) (T : Top hd.view_39 (looseW hd.view_39 [Str.ofString "SINGLE_WILDCARD", Str.ofString "MULTI_WILDCARD", Str.ofString "DEFAULT_FIRST_ELEMENT", Str.ofString "_path_to_elements", Str.ofString "_WILDCARD_RE"]) mean mg mb h₀) (D : KtsDicts ((envX cn cs L a ccd cl :: outer).filterMap (·.frame)) h₀) (XB : (hd.heap_39 (World.params w)).In base) (TB : Top hd.view_39 (looseW hd.view_39 [Str.ofString "SINGLE_WILDCARD", Str.ofString "MULTI_WILDCARD", Str.ofString "DEFAULT_FIRST_ELEMENT", Str.ofString "_path_to_elements", Str.ofString "_WILDCARD_RE"]) mean mg mb base)
  (hdp : dp + 11 < recursionLimit) (hun : un + 150 < cLine) (hap : ∀ p ∈ news, ∀ q ∈ own, q.1 ≠ p.1)
  (R : Rep path root l bk rr ts0 ⟨ks, e, 1, false, none⟩ m news),
  wpC (model (RowW.prog (OpenRow.toRowW (OpenLaw.row PySem.Challenge.rw_fu0002_01))) w) ((ktrTop dp un gd cn cs L a ccd cl outer).deeper (envOf (Str.ofString "_path_to_elements") (scopeOf (hd.heap_39 (World.params w)) 95) L1 95 (.ref 94))) (execs (forBody (hd.heap_39 (World.params w)) 95 10) (envOf (Str.ofString "_path_to_elements") (scopeOf (hd.heap_39 (World.params w)) 95) L1 95 (.ref 94))) (StepS ((envX cn cs L a ccd cl :: outer).filterMap (·.frame)) (ktrTop dp un gd cn cs L a ccd cl outer) base (envX cn cs L a ccd cl :: outer) L1 own (Rep path root l bk rr ts0 ⟨ks ++ ko.toList, Str.ofString "", 1, false, none⟩) h₀ s) E s := by
  intro w mean mg mb dp un gd cn cs a ccd cl outer base h₀ L L1 m s E path root l bk rr ts0 news own ct
  intro ks e ko hw hks B F X N T D XB TB hdp hun hap R
  obtain ⟨cv, pv, te, tq, ti, tb, rs, els, n, nb, rfl, hpv, rfl, hE, hlb, hts⟩ := R
  simp only [insV, quoS, Option.isSome, Bool.false_eq_true, ↓reduceIte, List.cons_append] at F N
  have hlt : ∀ p ∈ els ++ ts0 ++ own, p.1 ≠ l := fun p hp => (List.mem_append.mp hp).elim (fun h => (hts p h).1) (fun h => hap _ (.head _) p h)
  have hbt : ∀ p ∈ els ++ ts0 ++ own, p.1 ≠ bk := fun p hp => (List.mem_append.mp hp).elim (fun h => (hts p h).2) (fun h => hap _ (.tail _ (.head _)) p h)
  rw [show sg 46 = Str.ofString "." by decide +kernel] at F
  revert X
  k_fill
  intro X
  conv in (forBody _ _ _) => whnf
  repeat (conv in (scopeOf _ _) => whnf)
  with_reducible refine wpC_execs_cons (wpC_If ?_)
  k_steps
  with_reducible refine wpC_execs_cons (wpC_If ?_)
  k_steps
  with_reducible refine wpC_execs_cons (wpC_If ?_)
  k_steps
  with_reducible refine wpC_execs_cons (wpC_If ?_)
  k_steps
  with_reducible refine wpC_execs_cons (wpC_If ?_)
  k_steps
  with_reducible refine wpC_execs_cons (wpC_If ?_)
  k_steps
  with_reducible refine wpC_execs_cons (wpC_If ?_)
  k_steps
  refine wpC_execs_cons (wpC_Expr ?_)
  refine wpC_Call ?_
  k_steps
  refine' rest_def ?zho ?zhd ?_
  case zho => exact (Frag.In.keeps (by k_asm) (Fr.keep (by k_asm))) _ _ (by k_is)
  case zhd => rfl
  dsimp only [List.nil_append]
  refine' add_any _ _ _ _ _ _ _ _ _ _ _ _ _ _ _ _ _ ((bk, W.listOf _ _) :: (els ++ ts0 ++ own)) l (((Value.ref rr) :: rs.map Value.ref).toArray) n _ ti ?zvs ?zts ?zB ?zF ?zX ?zN ?zT ?zD XB TB rfl ?zdp ?zun _ 1 ko hw ?_
  case zvs => (simp [hE.len]; omega)
  case zts => exact List.forall_mem_cons.mpr ⟨Ne.symm hlb, hlt⟩
  case zB => assumption
  case zF => k_asm
  case zX => assumption
  case zN =>
    refine' news_sub (by assumption) (sub_two ?zm2 ?zm1 ?zt)
    case zm2 => k_mem
    case zm1 => k_mem
    case zt => (intro q hq; repeat (first | exact hq | apply List.mem_cons_of_mem))
  case zT => assumption
  case zD => assumption
  case zdp => omega
  case zun => (show un + 3 + 100 < cLine; omega)
  intro els2 vs2 n2 g2 h2 tk2 KT2 F2 B2 N2 G2
  obtain ⟨rs2, hE2, rfl⟩ := hE.grow rr rfl G2
  have X2 := XB.keeps B2.stays
  have T2 := TB.keeps B2.stays
  have D2 := D.turn KT2
  have N3 := news_sub N2 reord
  have hts2 : ∀ p ∈ els2 ++ els ++ ts0, p.1 ≠ l ∧ p.1 ≠ bk := fun p hp => by
    rw [List.append_assoc] at hp
    rcases List.mem_append.mp hp with hp | hp
    · exact ⟨grown_ne N2 (grown_cls G2) (fun q hq => List.mem_append_left _ hq) (List.mem_append_right _ (.head _)) p hp, grown_ne N2 (grown_cls G2) (fun q hq => List.mem_append_left _ hq) (List.mem_append_right _ (.tail _ (.head _))) p hp⟩
    · exact hts p hp
  (try clear N2); (try clear F); (try clear X); (try clear T); (try clear N); (try clear B); (try clear D); (try clear hlt); (try clear hbt)
  (try dsimp only)
  refine wpC.of ?_
  k_steps
  (try dsimp only)
  repeat (refine wpC_execs_nil ?_; dsimp only)
  refine wpC.of ?_
  (try refine gen_toks (fun tk => ?_))
  k_steps
  refine' stepS_ rfl (KT2) (by assumption) (by assumption) (by assumption) ⟨some _, _, _, _, _, tb, rs2, (els2 ++ els), _, _, rfl, .inr ⟨46, _, by decide, rfl⟩, rfl, hE2, hlb, hts2⟩ ?zhm ?zhn
  case zhm => (intro y; by_cases h0 : y = Str.ofString "char"; (· subst h0; rfl); by_cases h1 : y = Str.ofString "prev_char"; (· subst h1; rfl); by_cases h2 : y = Str.ofString "elem"; (· subst h2; rfl); by_cases h3 : y = Str.ofString "inside"; (· subst h3; rfl); by_cases h4 : y = Str.ofString "inside_quotes"; (· subst h4; rfl); by_cases h5 : y = Str.ofString "quote_used"; (· subst h5; rfl); by_cases h6 : y = Str.ofString "brackets"; (· subst h6; rfl); by_cases h7 : y = Str.ofString "elements"; (· subst h7; rfl); by_cases h8 : y = Str.ofString "path"; (· subst h8; rfl); by_cases h9 : y = Str.ofString "root_element"; (· subst h9; rfl); (simp only [pm, if_neg h0, if_neg h1, if_neg h2, if_neg h3, if_neg h4, if_neg h5, if_neg h6, if_neg h7, if_neg h8, if_neg h9]))
  case zhn => 
    simp only [List.cons_append, Bool.false_eq_true, ↓reduceIte]
    refine' sub_two ?zm2 ?zm1 ?zt
    case zm2 => k_mem
    case zm1 => k_mem
    case zt => (intro q hq; repeat (first | exact hq | apply List.mem_cons_of_mem))


set_option maxHeartbeats 2000000 in
theorem turn_dbr : ∀ {w : World} {mean : ExcName → Option Value} {mg mb : Str → Option Value} (dp un : Nat) (gd : Option (List Code)) (cn : Str) (cs : Scope) (a : Addr) (ccd : Value) (cl : List (Str × Addr)) (outer : List Env) (base h₀ : Heap) (L L1 : Addr) (m : Str → Option Value) (s : Shared) (E : Value → Shared → Prop)
  (path root : Value) (l bk rr : Addr) (ts0 news own : List (Addr × Obj)) (ct : Tok) (ks : List Nat) (e : Str) (ko : Option Nat) (hw : Wd e 1 ko) (hks : ks.length ≤ 20) 
  (B : Below (ktrTop dp un gd cn cs L a ccd cl outer) base (envX cn cs L a ccd cl :: outer) h₀) (F : Fr h₀ L1 s.heap (fun y => if y = Str.ofString "char" then some (.str (sg 91) ct) else m y)) (X : (hd.heap_39 (World.params w)).In h₀) (N : News h₀ L1 s.heap (news ++ own)) (T : Top hd.view_39 (looseW hd.view_39 [Str.ofString "SINGLE_WILDCARD", Str.ofString "MULTI_WILDCARD", Str.ofString "DEFAULT_FIRST_ELEMENT", Str.ofString "_path_to_elements", Str.ofString "_WILDCARD_RE"]) mean mg mb h₀) (D : KtsDicts ((envX cn cs L a ccd cl :: outer).filterMap (·.frame)) h₀) (XB : (hd.heap_39 (World.params w)).In base) (TB : Top hd.view_39 (looseW hd.view_39 [Str.ofString "SINGLE_WILDCARD", Str.ofString "MULTI_WILDCARD", Str.ofString "DEFAULT_FIRST_ELEMENT", Str.ofString "_path_to_elements", Str.ofString "_WILDCARD_RE"]) mean mg mb base)
  (hdp : dp + 11 < recursionLimit) (hun : un + 150 < cLine) (hap : ∀ p ∈ news, ∀ q ∈ own, q.1 ≠ p.1)
  (R : Rep path root l bk rr ts0 ⟨ks, e, 1, false, none⟩ m news),
  wpC (model (RowW.prog (OpenRow.toRowW (OpenLaw.row PySem.Challenge.rw_fu0002_01))) w) ((ktrTop dp un gd cn cs L a ccd cl outer).deeper (envOf (Str.ofString "_path_to_elements") (scopeOf (hd.heap_39 (World.params w)) 95) L1 95 (.ref 94))) (execs (forBody (hd.heap_39 (World.params w)) 95 10) (envOf (Str.ofString "_path_to_elements") (scopeOf (hd.heap_39 (World.params w)) 95) L1 95 (.ref 94))) (StepS ((envX cn cs L a ccd cl :: outer).filterMap (·.frame)) (ktrTop dp un gd cn cs L a ccd cl outer) base (envX cn cs L a ccd cl :: outer) L1 own (Rep path root l bk rr ts0 ⟨ks ++ ko.toList, Str.ofString "", 2, false, none⟩) h₀ s) E s := by
  intro w mean mg mb dp un gd cn cs a ccd cl outer base h₀ L L1 m s E path root l bk rr ts0 news own ct
  intro ks e ko hw hks B F X N T D XB TB hdp hun hap R
  obtain ⟨cv, pv, te, tq, ti, tb, rs, els, n, nb, rfl, hpv, rfl, hE, hlb, hts⟩ := R
  simp only [insV, quoS, Option.isSome, Bool.false_eq_true, ↓reduceIte, List.cons_append] at F N
  have hlt : ∀ p ∈ els ++ ts0 ++ own, p.1 ≠ l := fun p hp => (List.mem_append.mp hp).elim (fun h => (hts p h).1) (fun h => hap _ (.head _) p h)
  have hbt : ∀ p ∈ els ++ ts0 ++ own, p.1 ≠ bk := fun p hp => (List.mem_append.mp hp).elim (fun h => (hts p h).2) (fun h => hap _ (.tail _ (.head _)) p h)
  rw [show sg 91 = Str.ofString "[" by decide +kernel] at F
  revert X
  k_fill
  intro X
  conv in (forBody _ _ _) => whnf
  repeat (conv in (scopeOf _ _) => whnf)
  with_reducible refine wpC_execs_cons (wpC_If ?_)
  k_steps
  with_reducible refine wpC_execs_cons (wpC_If ?_)
  k_steps
  with_reducible refine wpC_execs_cons (wpC_If ?_)
  k_steps
  with_reducible refine wpC_execs_cons (wpC_If ?_)
  k_steps
  with_reducible refine wpC_execs_cons (wpC_If ?_)
  k_steps
  refine wpC_execs_cons (wpC_Expr ?_)
  refine wpC_Call ?_
  k_steps
  refine' rest_def ?zho ?zhd ?_
  case zho => exact (Frag.In.keeps (by k_asm) (Fr.keep (by k_asm))) _ _ (by k_is)
  case zhd => rfl
  dsimp only [List.nil_append]
  refine' add_any _ _ _ _ _ _ _ _ _ _ _ _ _ _ _ _ _ ((bk, W.listOf _ _) :: (els ++ ts0 ++ own)) l (((Value.ref rr) :: rs.map Value.ref).toArray) n _ ti ?zvs ?zts ?zB ?zF ?zX ?zN ?zT ?zD XB TB rfl ?zdp ?zun _ 1 ko hw ?_
  case zvs => (simp [hE.len]; omega)
  case zts => exact List.forall_mem_cons.mpr ⟨Ne.symm hlb, hlt⟩
  case zB => assumption
  case zF => k_asm
  case zX => assumption
  case zN =>
    refine' news_sub (by assumption) (sub_two ?zm2 ?zm1 ?zt)
    case zm2 => k_mem
    case zm1 => k_mem
    case zt => (intro q hq; repeat (first | exact hq | apply List.mem_cons_of_mem))
  case zT => assumption
  case zD => assumption
  case zdp => omega
  case zun => (show un + 3 + 100 < cLine; omega)
  intro els2 vs2 n2 g2 h2 tk2 KT2 F2 B2 N2 G2
  obtain ⟨rs2, hE2, rfl⟩ := hE.grow rr rfl G2
  have X2 := XB.keeps B2.stays
  have T2 := TB.keeps B2.stays
  have D2 := D.turn KT2
  have N3 := news_sub N2 reord
  have hts2 : ∀ p ∈ els2 ++ els ++ ts0, p.1 ≠ l ∧ p.1 ≠ bk := fun p hp => by
    rw [List.append_assoc] at hp
    rcases List.mem_append.mp hp with hp | hp
    · exact ⟨grown_ne N2 (grown_cls G2) (fun q hq => List.mem_append_left _ hq) (List.mem_append_right _ (.head _)) p hp, grown_ne N2 (grown_cls G2) (fun q hq => List.mem_append_left _ hq) (List.mem_append_right _ (.tail _ (.head _))) p hp⟩
    · exact hts p hp
  (try clear N2); (try clear F); (try clear X); (try clear T); (try clear N); (try clear B); (try clear D); (try clear hlt); (try clear hbt)
  (try dsimp only)
  refine wpC.of ?_
  k_steps
  (try dsimp only)
  repeat (refine wpC_execs_nil ?_; dsimp only)
  refine wpC.of ?_
  (try refine gen_toks (fun tk => ?_))
  k_steps
  refine' stepS_ rfl (KT2) (by assumption) (by assumption) (by assumption) ⟨some _, _, _, _, _, tb, rs2, (els2 ++ els), _, _, rfl, .inr ⟨91, _, by decide, rfl⟩, rfl, hE2, hlb, hts2⟩ ?zhm ?zhn
  case zhm => (intro y; by_cases h0 : y = Str.ofString "char"; (· subst h0; rfl); by_cases h1 : y = Str.ofString "prev_char"; (· subst h1; rfl); by_cases h2 : y = Str.ofString "elem"; (· subst h2; rfl); by_cases h3 : y = Str.ofString "inside"; (· subst h3; rfl); by_cases h4 : y = Str.ofString "inside_quotes"; (· subst h4; rfl); by_cases h5 : y = Str.ofString "quote_used"; (· subst h5; rfl); by_cases h6 : y = Str.ofString "brackets"; (· subst h6; rfl); by_cases h7 : y = Str.ofString "elements"; (· subst h7; rfl); by_cases h8 : y = Str.ofString "path"; (· subst h8; rfl); by_cases h9 : y = Str.ofString "root_element"; (· subst h9; rfl); (simp only [pm, if_neg h0, if_neg h1, if_neg h2, if_neg h3, if_neg h4, if_neg h5, if_neg h6, if_neg h7, if_neg h8, if_neg h9]))
  case zhn => 
    simp only [List.cons_append, Bool.false_eq_true, ↓reduceIte]
    refine' sub_two ?zm2 ?zm1 ?zt
    case zm2 => k_mem
    case zm1 => k_mem
    case zt => (intro q hq; repeat (first | exact hq | apply List.mem_cons_of_mem))


set_option maxHeartbeats 2000000 in
theorem turn_bch42 : ∀ {w : World} {mean : ExcName → Option Value} {mg mb : Str → Option Value} (dp un : Nat) (gd : Option (List Code)) (cn : Str) (cs : Scope) (a : Addr) (ccd : Value) (cl : List (Str × Addr)) (outer : List Env) (base h₀ : Heap) (L L1 : Addr) (m : Str → Option Value) (s : Shared) (E : Value → Shared → Prop)
  (path root : Value) (l bk rr : Addr) (ts0 news own : List (Addr × Obj)) (ct : Tok) (ks : List Nat) (b : Bool) (e : Str) (he : e.length ≤ 20) 
  (B : Below (ktrTop dp un gd cn cs L a ccd cl outer) base (envX cn cs L a ccd cl :: outer) h₀) (F : Fr h₀ L1 s.heap (fun y => if y = Str.ofString "char" then some (.str (sg 42) ct) else m y)) (X : (hd.heap_39 (World.params w)).In h₀) (N : News h₀ L1 s.heap (news ++ own)) (T : Top hd.view_39 (looseW hd.view_39 [Str.ofString "SINGLE_WILDCARD", Str.ofString "MULTI_WILDCARD", Str.ofString "DEFAULT_FIRST_ELEMENT", Str.ofString "_path_to_elements", Str.ofString "_WILDCARD_RE"]) mean mg mb h₀) (D : KtsDicts ((envX cn cs L a ccd cl :: outer).filterMap (·.frame)) h₀) (XB : (hd.heap_39 (World.params w)).In base) (TB : Top hd.view_39 (looseW hd.view_39 [Str.ofString "SINGLE_WILDCARD", Str.ofString "MULTI_WILDCARD", Str.ofString "DEFAULT_FIRST_ELEMENT", Str.ofString "_path_to_elements", Str.ofString "_WILDCARD_RE"]) mean mg mb base)
  (hdp : dp + 11 < recursionLimit) (hun : un + 150 < cLine) (hap : ∀ p ∈ news, ∀ q ∈ own, q.1 ≠ p.1)
  (R : Rep path root l bk rr ts0 ⟨ks, e, 2, b, none⟩ m news),
  wpC (model (RowW.prog (OpenRow.toRowW (OpenLaw.row PySem.Challenge.rw_fu0002_01))) w) ((ktrTop dp un gd cn cs L a ccd cl outer).deeper (envOf (Str.ofString "_path_to_elements") (scopeOf (hd.heap_39 (World.params w)) 95) L1 95 (.ref 94))) (execs (forBody (hd.heap_39 (World.params w)) 95 10) (envOf (Str.ofString "_path_to_elements") (scopeOf (hd.heap_39 (World.params w)) 95) L1 95 (.ref 94))) (StepS ((envX cn cs L a ccd cl :: outer).filterMap (·.frame)) (ktrTop dp un gd cn cs L a ccd cl outer) base (envX cn cs L a ccd cl :: outer) L1 own (Rep path root l bk rr ts0 ⟨ks, e ++ Str.ofString "*", 2, b, none⟩) h₀ s) E s := by
  intro w mean mg mb dp un gd cn cs a ccd cl outer base h₀ L L1 m s E path root l bk rr ts0 news own ct
  intro ks b e he B F X N T D XB TB hdp hun hap R
  obtain ⟨cv, pv, te, tq, ti, tb, rs, els, n, nb, rfl, hpv, rfl, hE, hlb, hts⟩ := R
  simp only [insV, quoS, Option.isSome, Bool.false_eq_true, ↓reduceIte, List.cons_append] at F N
  have hlt : ∀ p ∈ els ++ ts0 ++ own, p.1 ≠ l := fun p hp => (List.mem_append.mp hp).elim (fun h => (hts p h).1) (fun h => hap _ (.head _) p h)
  have hbt : ∀ p ∈ els ++ ts0 ++ own, p.1 ≠ bk := fun p hp => (List.mem_append.mp hp).elim (fun h => (hts p h).2) (fun h => hap _ (.tail _ (.head _)) p h)
  rw [show sg 42 = Str.ofString "*" by decide +kernel] at F
  revert X
  k_fill
  intro X
  conv in (forBody _ _ _) => whnf
  repeat (conv in (scopeOf _ _) => whnf)
  with_reducible refine wpC_execs_cons (wpC_If ?_)
  k_steps
  with_reducible refine wpC_execs_cons (wpC_If ?_)
  k_steps
  with_reducible refine wpC_execs_cons (wpC_If ?_)
  k_steps
  with_reducible refine wpC_execs_cons (wpC_If ?_)
  k_steps
  with_reducible refine wpC_execs_cons (wpC_If ?_)
  k_steps
  with_reducible refine wpC_execs_cons (wpC_If ?_)
  k_steps
  refine wpC.of ?_
  k_steps
  (try dsimp only)
  repeat (refine wpC_execs_nil ?_; dsimp only)
  refine wpC.of ?_
  (try refine gen_toks (fun tk => ?_))
  k_steps
  refine' stepS_ rfl (KtsTurn.refl) (by assumption) (by assumption) (by assumption) ⟨some _, _, _, _, _, tb, rs, els, _, _, rfl, .inr ⟨42, _, by decide, rfl⟩, rfl, hE, hlb, hts⟩ ?zhm ?zhn
  case zhm => (intro y; by_cases h0 : y = Str.ofString "char"; (· subst h0; rfl); by_cases h1 : y = Str.ofString "prev_char"; (· subst h1; rfl); by_cases h2 : y = Str.ofString "elem"; (· subst h2; rfl); by_cases h3 : y = Str.ofString "inside"; (· subst h3; rfl); by_cases h4 : y = Str.ofString "inside_quotes"; (· subst h4; rfl); by_cases h5 : y = Str.ofString "quote_used"; (· subst h5; rfl); by_cases h6 : y = Str.ofString "brackets"; (· subst h6; rfl); by_cases h7 : y = Str.ofString "elements"; (· subst h7; rfl); by_cases h8 : y = Str.ofString "path"; (· subst h8; rfl); by_cases h9 : y = Str.ofString "root_element"; (· subst h9; rfl); (simp only [pm, if_neg h0, if_neg h1, if_neg h2, if_neg h3, if_neg h4, if_neg h5, if_neg h6, if_neg h7, if_neg h8, if_neg h9]))
  case zhn => 
    simp only [List.cons_append, Bool.false_eq_true, ↓reduceIte]
    refine' sub_two ?zm2 ?zm1 ?zt
    case zm2 => k_mem
    case zm1 => k_mem
    case zt => (intro q hq; repeat (first | exact hq | apply List.mem_cons_of_mem))


set_option maxHeartbeats 2000000 in
theorem turn_bch51 : ∀ {w : World} {mean : ExcName → Option Value} {mg mb : Str → Option Value} (dp un : Nat) (gd : Option (List Code)) (cn : Str) (cs : Scope) (a : Addr) (ccd : Value) (cl : List (Str × Addr)) (outer : List Env) (base h₀ : Heap) (L L1 : Addr) (m : Str → Option Value) (s : Shared) (E : Value → Shared → Prop)
  (path root : Value) (l bk rr : Addr) (ts0 news own : List (Addr × Obj)) (ct : Tok) (ks : List Nat) (b : Bool) (e : Str) (he : e.length ≤ 20) 
  (B : Below (ktrTop dp un gd cn cs L a ccd cl outer) base (envX cn cs L a ccd cl :: outer) h₀) (F : Fr h₀ L1 s.heap (fun y => if y = Str.ofString "char" then some (.str (sg 51) ct) else m y)) (X : (hd.heap_39 (World.params w)).In h₀) (N : News h₀ L1 s.heap (news ++ own)) (T : Top hd.view_39 (looseW hd.view_39 [Str.ofString "SINGLE_WILDCARD", Str.ofString "MULTI_WILDCARD", Str.ofString "DEFAULT_FIRST_ELEMENT", Str.ofString "_path_to_elements", Str.ofString "_WILDCARD_RE"]) mean mg mb h₀) (D : KtsDicts ((envX cn cs L a ccd cl :: outer).filterMap (·.frame)) h₀) (XB : (hd.heap_39 (World.params w)).In base) (TB : Top hd.view_39 (looseW hd.view_39 [Str.ofString "SINGLE_WILDCARD", Str.ofString "MULTI_WILDCARD", Str.ofString "DEFAULT_FIRST_ELEMENT", Str.ofString "_path_to_elements", Str.ofString "_WILDCARD_RE"]) mean mg mb base)
  (hdp : dp + 11 < recursionLimit) (hun : un + 150 < cLine) (hap : ∀ p ∈ news, ∀ q ∈ own, q.1 ≠ p.1)
  (R : Rep path root l bk rr ts0 ⟨ks, e, 2, b, none⟩ m news),
  wpC (model (RowW.prog (OpenRow.toRowW (OpenLaw.row PySem.Challenge.rw_fu0002_01))) w) ((ktrTop dp un gd cn cs L a ccd cl outer).deeper (envOf (Str.ofString "_path_to_elements") (scopeOf (hd.heap_39 (World.params w)) 95) L1 95 (.ref 94))) (execs (forBody (hd.heap_39 (World.params w)) 95 10) (envOf (Str.ofString "_path_to_elements") (scopeOf (hd.heap_39 (World.params w)) 95) L1 95 (.ref 94))) (StepS ((envX cn cs L a ccd cl :: outer).filterMap (·.frame)) (ktrTop dp un gd cn cs L a ccd cl outer) base (envX cn cs L a ccd cl :: outer) L1 own (Rep path root l bk rr ts0 ⟨ks, e ++ Str.ofString "3", 2, b, none⟩) h₀ s) E s := by
  intro w mean mg mb dp un gd cn cs a ccd cl outer base h₀ L L1 m s E path root l bk rr ts0 news own ct
  intro ks b e he B F X N T D XB TB hdp hun hap R
  obtain ⟨cv, pv, te, tq, ti, tb, rs, els, n, nb, rfl, hpv, rfl, hE, hlb, hts⟩ := R
  simp only [insV, quoS, Option.isSome, Bool.false_eq_true, ↓reduceIte, List.cons_append] at F N
  have hlt : ∀ p ∈ els ++ ts0 ++ own, p.1 ≠ l := fun p hp => (List.mem_append.mp hp).elim (fun h => (hts p h).1) (fun h => hap _ (.head _) p h)
  have hbt : ∀ p ∈ els ++ ts0 ++ own, p.1 ≠ bk := fun p hp => (List.mem_append.mp hp).elim (fun h => (hts p h).2) (fun h => hap _ (.tail _ (.head _)) p h)
  rw [show sg 51 = Str.ofString "3" by decide +kernel] at F
  revert X
  k_fill
  intro X
  conv in (forBody _ _ _) => whnf
  repeat (conv in (scopeOf _ _) => whnf)
  with_reducible refine wpC_execs_cons (wpC_If ?_)
  k_steps
  with_reducible refine wpC_execs_cons (wpC_If ?_)
  k_steps
  with_reducible refine wpC_execs_cons (wpC_If ?_)
  k_steps
  with_reducible refine wpC_execs_cons (wpC_If ?_)
  k_steps
  with_reducible refine wpC_execs_cons (wpC_If ?_)
  k_steps
  with_reducible refine wpC_execs_cons (wpC_If ?_)
  k_steps
  refine wpC.of ?_
  k_steps
  (try dsimp only)
  repeat (refine wpC_execs_nil ?_; dsimp only)
  refine wpC.of ?_
  (try refine gen_toks (fun tk => ?_))
  k_steps
  refine' stepS_ rfl (KtsTurn.refl) (by assumption) (by assumption) (by assumption) ⟨some _, _, _, _, _, tb, rs, els, _, _, rfl, .inr ⟨51, _, by decide, rfl⟩, rfl, hE, hlb, hts⟩ ?zhm ?zhn
  case zhm => (intro y; by_cases h0 : y = Str.ofString "char"; (· subst h0; rfl); by_cases h1 : y = Str.ofString "prev_char"; (· subst h1; rfl); by_cases h2 : y = Str.ofString "elem"; (· subst h2; rfl); by_cases h3 : y = Str.ofString "inside"; (· subst h3; rfl); by_cases h4 : y = Str.ofString "inside_quotes"; (· subst h4; rfl); by_cases h5 : y = Str.ofString "quote_used"; (· subst h5; rfl); by_cases h6 : y = Str.ofString "brackets"; (· subst h6; rfl); by_cases h7 : y = Str.ofString "elements"; (· subst h7; rfl); by_cases h8 : y = Str.ofString "path"; (· subst h8; rfl); by_cases h9 : y = Str.ofString "root_element"; (· subst h9; rfl); (simp only [pm, if_neg h0, if_neg h1, if_neg h2, if_neg h3, if_neg h4, if_neg h5, if_neg h6, if_neg h7, if_neg h8, if_neg h9]))
  case zhn => 
    simp only [List.cons_append, Bool.false_eq_true, ↓reduceIte]
    refine' sub_two ?zm2 ?zm1 ?zt
    case zm2 => k_mem
    case zm1 => k_mem
    case zt => (intro q hq; repeat (first | exact hq | apply List.mem_cons_of_mem))


set_option maxHeartbeats 2000000 in
theorem turn_bq39 : ∀ {w : World} {mean : ExcName → Option Value} {mg mb : Str → Option Value} (dp un : Nat) (gd : Option (List Code)) (cn : Str) (cs : Scope) (a : Addr) (ccd : Value) (cl : List (Str × Addr)) (outer : List Env) (base h₀ : Heap) (L L1 : Addr) (m : Str → Option Value) (s : Shared) (E : Value → Shared → Prop)
  (path root : Value) (l bk rr : Addr) (ts0 news own : List (Addr × Obj)) (ct : Tok) (ks : List Nat) (b : Bool) (e : Str) (he : e.length ≤ 20) 
  (B : Below (ktrTop dp un gd cn cs L a ccd cl outer) base (envX cn cs L a ccd cl :: outer) h₀) (F : Fr h₀ L1 s.heap (fun y => if y = Str.ofString "char" then some (.str (sg 39) ct) else m y)) (X : (hd.heap_39 (World.params w)).In h₀) (N : News h₀ L1 s.heap (news ++ own)) (T : Top hd.view_39 (looseW hd.view_39 [Str.ofString "SINGLE_WILDCARD", Str.ofString "MULTI_WILDCARD", Str.ofString "DEFAULT_FIRST_ELEMENT", Str.ofString "_path_to_elements", Str.ofString "_WILDCARD_RE"]) mean mg mb h₀) (D : KtsDicts ((envX cn cs L a ccd cl :: outer).filterMap (·.frame)) h₀) (XB : (hd.heap_39 (World.params w)).In base) (TB : Top hd.view_39 (looseW hd.view_39 [Str.ofString "SINGLE_WILDCARD", Str.ofString "MULTI_WILDCARD", Str.ofString "DEFAULT_FIRST_ELEMENT", Str.ofString "_path_to_elements", Str.ofString "_WILDCARD_RE"]) mean mg mb base)
  (hdp : dp + 11 < recursionLimit) (hun : un + 150 < cLine) (hap : ∀ p ∈ news, ∀ q ∈ own, q.1 ≠ p.1)
  (R : Rep path root l bk rr ts0 ⟨ks, e, 2, b, none⟩ m news),
  wpC (model (RowW.prog (OpenRow.toRowW (OpenLaw.row PySem.Challenge.rw_fu0002_01))) w) ((ktrTop dp un gd cn cs L a ccd cl outer).deeper (envOf (Str.ofString "_path_to_elements") (scopeOf (hd.heap_39 (World.params w)) 95) L1 95 (.ref 94))) (execs (forBody (hd.heap_39 (World.params w)) 95 10) (envOf (Str.ofString "_path_to_elements") (scopeOf (hd.heap_39 (World.params w)) 95) L1 95 (.ref 94))) (StepS ((envX cn cs L a ccd cl :: outer).filterMap (·.frame)) (ktrTop dp un gd cn cs L a ccd cl outer) base (envX cn cs L a ccd cl :: outer) L1 own (Rep path root l bk rr ts0 ⟨ks, e ++ Str.ofString "'", 2, b, some 39⟩) h₀ s) E s := by
  intro w mean mg mb dp un gd cn cs a ccd cl outer base h₀ L L1 m s E path root l bk rr ts0 news own ct
  intro ks b e he B F X N T D XB TB hdp hun hap R
  obtain ⟨cv, pv, te, tq, ti, tb, rs, els, n, nb, rfl, hpv, rfl, hE, hlb, hts⟩ := R
  simp only [insV, quoS, Option.isSome, Bool.false_eq_true, ↓reduceIte, List.cons_append] at F N
  have hlt : ∀ p ∈ els ++ ts0 ++ own, p.1 ≠ l := fun p hp => (List.mem_append.mp hp).elim (fun h => (hts p h).1) (fun h => hap _ (.head _) p h)
  have hbt : ∀ p ∈ els ++ ts0 ++ own, p.1 ≠ bk := fun p hp => (List.mem_append.mp hp).elim (fun h => (hts p h).2) (fun h => hap _ (.tail _ (.head _)) p h)
  rw [show sg 39 = Str.ofString "'" by decide +kernel] at F
  revert X
  k_fill
  intro X
  conv in (forBody _ _ _) => whnf
  repeat (conv in (scopeOf _ _) => whnf)
  with_reducible refine wpC_execs_cons (wpC_If ?_)
  k_steps
  with_reducible refine wpC_execs_cons (wpC_If ?_)
  k_steps
  refine wpC_execs_plain ?_
  k_steps
  with_reducible refine wpC_execs_cons (wpC_If ?_)
  k_steps
  refine wpC_execs_plain ?_
  k_steps
  with_reducible refine wpC_execs_cons (wpC_If ?_)
  k_steps
  refine wpC.of ?_
  k_steps
  (try dsimp only)
  repeat (refine wpC_execs_nil ?_; dsimp only)
  refine wpC.of ?_
  (try refine gen_toks (fun tk => ?_))
  k_steps
  refine' stepS_ rfl (KtsTurn.refl) (by assumption) (by assumption) (by assumption) ⟨some _, _, _, _, _, tb, rs, els, _, _, rfl, .inr ⟨39, _, by decide, rfl⟩, rfl, hE, hlb, hts⟩ ?zhm ?zhn
  case zhm => (intro y; by_cases h0 : y = Str.ofString "char"; (· subst h0; rfl); by_cases h1 : y = Str.ofString "prev_char"; (· subst h1; rfl); by_cases h2 : y = Str.ofString "elem"; (· subst h2; rfl); by_cases h3 : y = Str.ofString "inside"; (· subst h3; rfl); by_cases h4 : y = Str.ofString "inside_quotes"; (· subst h4; rfl); by_cases h5 : y = Str.ofString "quote_used"; (· subst h5; rfl); by_cases h6 : y = Str.ofString "brackets"; (· subst h6; rfl); by_cases h7 : y = Str.ofString "elements"; (· subst h7; rfl); by_cases h8 : y = Str.ofString "path"; (· subst h8; rfl); by_cases h9 : y = Str.ofString "root_element"; (· subst h9; rfl); (simp only [pm, if_neg h0, if_neg h1, if_neg h2, if_neg h3, if_neg h4, if_neg h5, if_neg h6, if_neg h7, if_neg h8, if_neg h9]))
  case zhn => 
    simp only [List.cons_append, Bool.false_eq_true, ↓reduceIte]
    refine' sub_two ?zm2 ?zm1 ?zt
    case zm2 => k_mem
    case zm1 => k_mem
    case zt => (intro q hq; repeat (first | exact hq | apply List.mem_cons_of_mem))


set_option maxHeartbeats 2000000 in
theorem turn_bq34 : ∀ {w : World} {mean : ExcName → Option Value} {mg mb : Str → Option Value} (dp un : Nat) (gd : Option (List Code)) (cn : Str) (cs : Scope) (a : Addr) (ccd : Value) (cl : List (Str × Addr)) (outer : List Env) (base h₀ : Heap) (L L1 : Addr) (m : Str → Option Value) (s : Shared) (E : Value → Shared → Prop)
  (path root : Value) (l bk rr : Addr) (ts0 news own : List (Addr × Obj)) (ct : Tok) (ks : List Nat) (b : Bool) (e : Str) (he : e.length ≤ 20) 
  (B : Below (ktrTop dp un gd cn cs L a ccd cl outer) base (envX cn cs L a ccd cl :: outer) h₀) (F : Fr h₀ L1 s.heap (fun y => if y = Str.ofString "char" then some (.str (sg 34) ct) else m y)) (X : (hd.heap_39 (World.params w)).In h₀) (N : News h₀ L1 s.heap (news ++ own)) (T : Top hd.view_39 (looseW hd.view_39 [Str.ofString "SINGLE_WILDCARD", Str.ofString "MULTI_WILDCARD", Str.ofString "DEFAULT_FIRST_ELEMENT", Str.ofString "_path_to_elements", Str.ofString "_WILDCARD_RE"]) mean mg mb h₀) (D : KtsDicts ((envX cn cs L a ccd cl :: outer).filterMap (·.frame)) h₀) (XB : (hd.heap_39 (World.params w)).In base) (TB : Top hd.view_39 (looseW hd.view_39 [Str.ofString "SINGLE_WILDCARD", Str.ofString "MULTI_WILDCARD", Str.ofString "DEFAULT_FIRST_ELEMENT", Str.ofString "_path_to_elements", Str.ofString "_WILDCARD_RE"]) mean mg mb base)
  (hdp : dp + 11 < recursionLimit) (hun : un + 150 < cLine) (hap : ∀ p ∈ news, ∀ q ∈ own, q.1 ≠ p.1)
  (R : Rep path root l bk rr ts0 ⟨ks, e, 2, b, none⟩ m news),
  wpC (model (RowW.prog (OpenRow.toRowW (OpenLaw.row PySem.Challenge.rw_fu0002_01))) w) ((ktrTop dp un gd cn cs L a ccd cl outer).deeper (envOf (Str.ofString "_path_to_elements") (scopeOf (hd.heap_39 (World.params w)) 95) L1 95 (.ref 94))) (execs (forBody (hd.heap_39 (World.params w)) 95 10) (envOf (Str.ofString "_path_to_elements") (scopeOf (hd.heap_39 (World.params w)) 95) L1 95 (.ref 94))) (StepS ((envX cn cs L a ccd cl :: outer).filterMap (·.frame)) (ktrTop dp un gd cn cs L a ccd cl outer) base (envX cn cs L a ccd cl :: outer) L1 own (Rep path root l bk rr ts0 ⟨ks, e ++ Str.ofString "\"", 2, b, some 34⟩) h₀ s) E s := by
  intro w mean mg mb dp un gd cn cs a ccd cl outer base h₀ L L1 m s E path root l bk rr ts0 news own ct
  intro ks b e he B F X N T D XB TB hdp hun hap R
  obtain ⟨cv, pv, te, tq, ti, tb, rs, els, n, nb, rfl, hpv, rfl, hE, hlb, hts⟩ := R
  simp only [insV, quoS, Option.isSome, Bool.false_eq_true, ↓reduceIte, List.cons_append] at F N
  have hlt : ∀ p ∈ els ++ ts0 ++ own, p.1 ≠ l := fun p hp => (List.mem_append.mp hp).elim (fun h => (hts p h).1) (fun h => hap _ (.head _) p h)
  have hbt : ∀ p ∈ els ++ ts0 ++ own, p.1 ≠ bk := fun p hp => (List.mem_append.mp hp).elim (fun h => (hts p h).2) (fun h => hap _ (.tail _ (.head _)) p h)
  rw [show sg 34 = Str.ofString "\"" by decide +kernel] at F
  revert X
  k_fill
  intro X
  conv in (forBody _ _ _) => whnf
  repeat (conv in (scopeOf _ _) => whnf)
  with_reducible refine wpC_execs_cons (wpC_If ?_)
  k_steps
  with_reducible refine wpC_execs_cons (wpC_If ?_)
  k_steps
  refine wpC_execs_plain ?_
  k_steps
  with_reducible refine wpC_execs_cons (wpC_If ?_)
  k_steps
  refine wpC_execs_plain ?_
  k_steps
  with_reducible refine wpC_execs_cons (wpC_If ?_)
  k_steps
  refine wpC.of ?_
  k_steps
  (try dsimp only)
  repeat (refine wpC_execs_nil ?_; dsimp only)
  refine wpC.of ?_
  (try refine gen_toks (fun tk => ?_))
  k_steps
  refine' stepS_ rfl (KtsTurn.refl) (by assumption) (by assumption) (by assumption) ⟨some _, _, _, _, _, tb, rs, els, _, _, rfl, .inr ⟨34, _, by decide, rfl⟩, rfl, hE, hlb, hts⟩ ?zhm ?zhn
  case zhm => (intro y; by_cases h0 : y = Str.ofString "char"; (· subst h0; rfl); by_cases h1 : y = Str.ofString "prev_char"; (· subst h1; rfl); by_cases h2 : y = Str.ofString "elem"; (· subst h2; rfl); by_cases h3 : y = Str.ofString "inside"; (· subst h3; rfl); by_cases h4 : y = Str.ofString "inside_quotes"; (· subst h4; rfl); by_cases h5 : y = Str.ofString "quote_used"; (· subst h5; rfl); by_cases h6 : y = Str.ofString "brackets"; (· subst h6; rfl); by_cases h7 : y = Str.ofString "elements"; (· subst h7; rfl); by_cases h8 : y = Str.ofString "path"; (· subst h8; rfl); by_cases h9 : y = Str.ofString "root_element"; (· subst h9; rfl); (simp only [pm, if_neg h0, if_neg h1, if_neg h2, if_neg h3, if_neg h4, if_neg h5, if_neg h6, if_neg h7, if_neg h8, if_neg h9]))
  case zhn => 
    simp only [List.cons_append, Bool.false_eq_true, ↓reduceIte]
    refine' sub_two ?zm2 ?zm1 ?zt
    case zm2 => k_mem
    case zm1 => k_mem
    case zt => (intro q hq; repeat (first | exact hq | apply List.mem_cons_of_mem))


set_option maxHeartbeats 2000000 in
theorem turn_qch42 : ∀ {w : World} {mean : ExcName → Option Value} {mg mb : Str → Option Value} (dp un : Nat) (gd : Option (List Code)) (cn : Str) (cs : Scope) (a : Addr) (ccd : Value) (cl : List (Str × Addr)) (outer : List Env) (base h₀ : Heap) (L L1 : Addr) (m : Str → Option Value) (s : Shared) (E : Value → Shared → Prop)
  (path root : Value) (l bk rr : Addr) (ts0 news own : List (Addr × Obj)) (ct : Tok) (ks : List Nat) (b : Bool) (q : Nat) (e : Str) (he : e.length ≤ 20) 
  (B : Below (ktrTop dp un gd cn cs L a ccd cl outer) base (envX cn cs L a ccd cl :: outer) h₀) (F : Fr h₀ L1 s.heap (fun y => if y = Str.ofString "char" then some (.str (sg 42) ct) else m y)) (X : (hd.heap_39 (World.params w)).In h₀) (N : News h₀ L1 s.heap (news ++ own)) (T : Top hd.view_39 (looseW hd.view_39 [Str.ofString "SINGLE_WILDCARD", Str.ofString "MULTI_WILDCARD", Str.ofString "DEFAULT_FIRST_ELEMENT", Str.ofString "_path_to_elements", Str.ofString "_WILDCARD_RE"]) mean mg mb h₀) (D : KtsDicts ((envX cn cs L a ccd cl :: outer).filterMap (·.frame)) h₀) (XB : (hd.heap_39 (World.params w)).In base) (TB : Top hd.view_39 (looseW hd.view_39 [Str.ofString "SINGLE_WILDCARD", Str.ofString "MULTI_WILDCARD", Str.ofString "DEFAULT_FIRST_ELEMENT", Str.ofString "_path_to_elements", Str.ofString "_WILDCARD_RE"]) mean mg mb base)
  (hdp : dp + 11 < recursionLimit) (hun : un + 150 < cLine) (hap : ∀ p ∈ news, ∀ q ∈ own, q.1 ≠ p.1)
  (R : Rep path root l bk rr ts0 ⟨ks, e, 2, b, some q⟩ m news),
  wpC (model (RowW.prog (OpenRow.toRowW (OpenLaw.row PySem.Challenge.rw_fu0002_01))) w) ((ktrTop dp un gd cn cs L a ccd cl outer).deeper (envOf (Str.ofString "_path_to_elements") (scopeOf (hd.heap_39 (World.params w)) 95) L1 95 (.ref 94))) (execs (forBody (hd.heap_39 (World.params w)) 95 10) (envOf (Str.ofString "_path_to_elements") (scopeOf (hd.heap_39 (World.params w)) 95) L1 95 (.ref 94))) (StepS ((envX cn cs L a ccd cl :: outer).filterMap (·.frame)) (ktrTop dp un gd cn cs L a ccd cl outer) base (envX cn cs L a ccd cl :: outer) L1 own (Rep path root l bk rr ts0 ⟨ks, e ++ Str.ofString "*", 2, b, some q⟩) h₀ s) E s := by
  intro w mean mg mb dp un gd cn cs a ccd cl outer base h₀ L L1 m s E path root l bk rr ts0 news own ct
  intro ks b q e he B F X N T D XB TB hdp hun hap R
  obtain ⟨cv, pv, te, tq, ti, tb, rs, els, n, nb, rfl, hpv, rfl, hE, hlb, hts⟩ := R
  simp only [insV, quoS, Option.isSome, Bool.false_eq_true, ↓reduceIte, List.cons_append] at F N
  have hlt : ∀ p ∈ els ++ ts0 ++ own, p.1 ≠ l := fun p hp => (List.mem_append.mp hp).elim (fun h => (hts p h).1) (fun h => hap _ (.head _) p h)
  have hbt : ∀ p ∈ els ++ ts0 ++ own, p.1 ≠ bk := fun p hp => (List.mem_append.mp hp).elim (fun h => (hts p h).2) (fun h => hap _ (.tail _ (.head _)) p h)
  rw [show sg 42 = Str.ofString "*" by decide +kernel] at F
  revert X
  k_fill
  intro X
  conv in (forBody _ _ _) => whnf
  repeat (conv in (scopeOf _ _) => whnf)
  with_reducible refine wpC_execs_cons (wpC_If ?_)
  k_steps
  with_reducible refine wpC_execs_cons (wpC_If ?_)
  k_steps
  with_reducible refine wpC_execs_cons (wpC_If ?_)
  k_steps
  refine wpC.of ?_
  k_steps
  (try dsimp only)
  repeat (refine wpC_execs_nil ?_; dsimp only)
  refine wpC.of ?_
  (try refine gen_toks (fun tk => ?_))
  k_steps
  refine' stepS_ rfl (KtsTurn.refl) (by assumption) (by assumption) (by assumption) ⟨some _, _, _, _, _, tb, rs, els, _, _, rfl, .inr ⟨42, _, by decide, rfl⟩, rfl, hE, hlb, hts⟩ ?zhm ?zhn
  case zhm => (intro y; by_cases h0 : y = Str.ofString "char"; (· subst h0; rfl); by_cases h1 : y = Str.ofString "prev_char"; (· subst h1; rfl); by_cases h2 : y = Str.ofString "elem"; (· subst h2; rfl); by_cases h3 : y = Str.ofString "inside"; (· subst h3; rfl); by_cases h4 : y = Str.ofString "inside_quotes"; (· subst h4; rfl); by_cases h5 : y = Str.ofString "quote_used"; (· subst h5; rfl); by_cases h6 : y = Str.ofString "brackets"; (· subst h6; rfl); by_cases h7 : y = Str.ofString "elements"; (· subst h7; rfl); by_cases h8 : y = Str.ofString "path"; (· subst h8; rfl); by_cases h9 : y = Str.ofString "root_element"; (· subst h9; rfl); (simp only [pm, if_neg h0, if_neg h1, if_neg h2, if_neg h3, if_neg h4, if_neg h5, if_neg h6, if_neg h7, if_neg h8, if_neg h9]))
  case zhn => 
    simp only [List.cons_append, Bool.false_eq_true, ↓reduceIte]
    refine' sub_two ?zm2 ?zm1 ?zt
    case zm2 => k_mem
    case zm1 => k_mem
    case zt => (intro q hq; repeat (first | exact hq | apply List.mem_cons_of_mem))


set_option maxHeartbeats 2000000 in
theorem turn_qch97 : ∀ {w : World} {mean : ExcName → Option Value} {mg mb : Str → Option Value} (dp un : Nat) (gd : Option (List Code)) (cn : Str) (cs : Scope) (a : Addr) (ccd : Value) (cl : List (Str × Addr)) (outer : List Env) (base h₀ : Heap) (L L1 : Addr) (m : Str → Option Value) (s : Shared) (E : Value → Shared → Prop)
  (path root : Value) (l bk rr : Addr) (ts0 news own : List (Addr × Obj)) (ct : Tok) (ks : List Nat) (b : Bool) (q : Nat) (e : Str) (he : e.length ≤ 20) 
  (B : Below (ktrTop dp un gd cn cs L a ccd cl outer) base (envX cn cs L a ccd cl :: outer) h₀) (F : Fr h₀ L1 s.heap (fun y => if y = Str.ofString "char" then some (.str (sg 97) ct) else m y)) (X : (hd.heap_39 (World.params w)).In h₀) (N : News h₀ L1 s.heap (news ++ own)) (T : Top hd.view_39 (looseW hd.view_39 [Str.ofString "SINGLE_WILDCARD", Str.ofString "MULTI_WILDCARD", Str.ofString "DEFAULT_FIRST_ELEMENT", Str.ofString "_path_to_elements", Str.ofString "_WILDCARD_RE"]) mean mg mb h₀) (D : KtsDicts ((envX cn cs L a ccd cl :: outer).filterMap (·.frame)) h₀) (XB : (hd.heap_39 (World.params w)).In base) (TB : Top hd.view_39 (looseW hd.view_39 [Str.ofString "SINGLE_WILDCARD", Str.ofString "MULTI_WILDCARD", Str.ofString "DEFAULT_FIRST_ELEMENT", Str.ofString "_path_to_elements", Str.ofString "_WILDCARD_RE"]) mean mg mb base)
  (hdp : dp + 11 < recursionLimit) (hun : un + 150 < cLine) (hap : ∀ p ∈ news, ∀ q ∈ own, q.1 ≠ p.1)
  (R : Rep path root l bk rr ts0 ⟨ks, e, 2, b, some q⟩ m news),
  wpC (model (RowW.prog (OpenRow.toRowW (OpenLaw.row PySem.Challenge.rw_fu0002_01))) w) ((ktrTop dp un gd cn cs L a ccd cl outer).deeper (envOf (Str.ofString "_path_to_elements") (scopeOf (hd.heap_39 (World.params w)) 95) L1 95 (.ref 94))) (execs (forBody (hd.heap_39 (World.params w)) 95 10) (envOf (Str.ofString "_path_to_elements") (scopeOf (hd.heap_39 (World.params w)) 95) L1 95 (.ref 94))) (StepS ((envX cn cs L a ccd cl :: outer).filterMap (·.frame)) (ktrTop dp un gd cn cs L a ccd cl outer) base (envX cn cs L a ccd cl :: outer) L1 own (Rep path root l bk rr ts0 ⟨ks, e ++ Str.ofString "a", 2, b, some q⟩) h₀ s) E s := by
  intro w mean mg mb dp un gd cn cs a ccd cl outer base h₀ L L1 m s E path root l bk rr ts0 news own ct
  intro ks b q e he B F X N T D XB TB hdp hun hap R
  obtain ⟨cv, pv, te, tq, ti, tb, rs, els, n, nb, rfl, hpv, rfl, hE, hlb, hts⟩ := R
  simp only [insV, quoS, Option.isSome, Bool.false_eq_true, ↓reduceIte, List.cons_append] at F N
  have hlt : ∀ p ∈ els ++ ts0 ++ own, p.1 ≠ l := fun p hp => (List.mem_append.mp hp).elim (fun h => (hts p h).1) (fun h => hap _ (.head _) p h)
  have hbt : ∀ p ∈ els ++ ts0 ++ own, p.1 ≠ bk := fun p hp => (List.mem_append.mp hp).elim (fun h => (hts p h).2) (fun h => hap _ (.tail _ (.head _)) p h)
  rw [show sg 97 = Str.ofString "a" by decide +kernel] at F
  revert X
  k_fill
  intro X
  conv in (forBody _ _ _) => whnf
  repeat (conv in (scopeOf _ _) => whnf)
  with_reducible refine wpC_execs_cons (wpC_If ?_)
  k_steps
  with_reducible refine wpC_execs_cons (wpC_If ?_)
  k_steps
  with_reducible refine wpC_execs_cons (wpC_If ?_)
  k_steps
  refine wpC.of ?_
  k_steps
  (try dsimp only)
  repeat (refine wpC_execs_nil ?_; dsimp only)
  refine wpC.of ?_
  (try refine gen_toks (fun tk => ?_))
  k_steps
  refine' stepS_ rfl (KtsTurn.refl) (by assumption) (by assumption) (by assumption) ⟨some _, _, _, _, _, tb, rs, els, _, _, rfl, .inr ⟨97, _, by decide, rfl⟩, rfl, hE, hlb, hts⟩ ?zhm ?zhn
  case zhm => (intro y; by_cases h0 : y = Str.ofString "char"; (· subst h0; rfl); by_cases h1 : y = Str.ofString "prev_char"; (· subst h1; rfl); by_cases h2 : y = Str.ofString "elem"; (· subst h2; rfl); by_cases h3 : y = Str.ofString "inside"; (· subst h3; rfl); by_cases h4 : y = Str.ofString "inside_quotes"; (· subst h4; rfl); by_cases h5 : y = Str.ofString "quote_used"; (· subst h5; rfl); by_cases h6 : y = Str.ofString "brackets"; (· subst h6; rfl); by_cases h7 : y = Str.ofString "elements"; (· subst h7; rfl); by_cases h8 : y = Str.ofString "path"; (· subst h8; rfl); by_cases h9 : y = Str.ofString "root_element"; (· subst h9; rfl); (simp only [pm, if_neg h0, if_neg h1, if_neg h2, if_neg h3, if_neg h4, if_neg h5, if_neg h6, if_neg h7, if_neg h8, if_neg h9]))
  case zhn => 
    simp only [List.cons_append, Bool.false_eq_true, ↓reduceIte]
    refine' sub_two ?zm2 ?zm1 ?zt
    case zm2 => k_mem
    case zm1 => k_mem
    case zt => (intro q hq; repeat (first | exact hq | apply List.mem_cons_of_mem))


set_option maxHeartbeats 2000000 in
theorem turn_qch98 : ∀ {w : World} {mean : ExcName → Option Value} {mg mb : Str → Option Value} (dp un : Nat) (gd : Option (List Code)) (cn : Str) (cs : Scope) (a : Addr) (ccd : Value) (cl : List (Str × Addr)) (outer : List Env) (base h₀ : Heap) (L L1 : Addr) (m : Str → Option Value) (s : Shared) (E : Value → Shared → Prop)
  (path root : Value) (l bk rr : Addr) (ts0 news own : List (Addr × Obj)) (ct : Tok) (ks : List Nat) (b : Bool) (q : Nat) (e : Str) (he : e.length ≤ 20) 
  (B : Below (ktrTop dp un gd cn cs L a ccd cl outer) base (envX cn cs L a ccd cl :: outer) h₀) (F : Fr h₀ L1 s.heap (fun y => if y = Str.ofString "char" then some (.str (sg 98) ct) else m y)) (X : (hd.heap_39 (World.params w)).In h₀) (N : News h₀ L1 s.heap (news ++ own)) (T : Top hd.view_39 (looseW hd.view_39 [Str.ofString "SINGLE_WILDCARD", Str.ofString "MULTI_WILDCARD", Str.ofString "DEFAULT_FIRST_ELEMENT", Str.ofString "_path_to_elements", Str.ofString "_WILDCARD_RE"]) mean mg mb h₀) (D : KtsDicts ((envX cn cs L a ccd cl :: outer).filterMap (·.frame)) h₀) (XB : (hd.heap_39 (World.params w)).In base) (TB : Top hd.view_39 (looseW hd.view_39 [Str.ofString "SINGLE_WILDCARD", Str.ofString "MULTI_WILDCARD", Str.ofString "DEFAULT_FIRST_ELEMENT", Str.ofString "_path_to_elements", Str.ofString "_WILDCARD_RE"]) mean mg mb base)
  (hdp : dp + 11 < recursionLimit) (hun : un + 150 < cLine) (hap : ∀ p ∈ news, ∀ q ∈ own, q.1 ≠ p.1)
  (R : Rep path root l bk rr ts0 ⟨ks, e, 2, b, some q⟩ m news),
  wpC (model (RowW.prog (OpenRow.toRowW (OpenLaw.row PySem.Challenge.rw_fu0002_01))) w) ((ktrTop dp un gd cn cs L a ccd cl outer).deeper (envOf (Str.ofString "_path_to_elements") (scopeOf (hd.heap_39 (World.params w)) 95) L1 95 (.ref 94))) (execs (forBody (hd.heap_39 (World.params w)) 95 10) (envOf (Str.ofString "_path_to_elements") (scopeOf (hd.heap_39 (World.params w)) 95) L1 95 (.ref 94))) (StepS ((envX cn cs L a ccd cl :: outer).filterMap (·.frame)) (ktrTop dp un gd cn cs L a ccd cl outer) base (envX cn cs L a ccd cl :: outer) L1 own (Rep path root l bk rr ts0 ⟨ks, e ++ Str.ofString "b", 2, b, some q⟩) h₀ s) E s := by
  intro w mean mg mb dp un gd cn cs a ccd cl outer base h₀ L L1 m s E path root l bk rr ts0 news own ct
  intro ks b q e he B F X N T D XB TB hdp hun hap R
  obtain ⟨cv, pv, te, tq, ti, tb, rs, els, n, nb, rfl, hpv, rfl, hE, hlb, hts⟩ := R
  simp only [insV, quoS, Option.isSome, Bool.false_eq_true, ↓reduceIte, List.cons_append] at F N
  have hlt : ∀ p ∈ els ++ ts0 ++ own, p.1 ≠ l := fun p hp => (List.mem_append.mp hp).elim (fun h => (hts p h).1) (fun h => hap _ (.head _) p h)
  have hbt : ∀ p ∈ els ++ ts0 ++ own, p.1 ≠ bk := fun p hp => (List.mem_append.mp hp).elim (fun h => (hts p h).2) (fun h => hap _ (.tail _ (.head _)) p h)
  rw [show sg 98 = Str.ofString "b" by decide +kernel] at F
  revert X
  k_fill
  intro X
  conv in (forBody _ _ _) => whnf
  repeat (conv in (scopeOf _ _) => whnf)
  with_reducible refine wpC_execs_cons (wpC_If ?_)
  k_steps
  with_reducible refine wpC_execs_cons (wpC_If ?_)
  k_steps
  with_reducible refine wpC_execs_cons (wpC_If ?_)
  k_steps
  refine wpC.of ?_
  k_steps
  (try dsimp only)
  repeat (refine wpC_execs_nil ?_; dsimp only)
  refine wpC.of ?_
  (try refine gen_toks (fun tk => ?_))
  k_steps
  refine' stepS_ rfl (KtsTurn.refl) (by assumption) (by assumption) (by assumption) ⟨some _, _, _, _, _, tb, rs, els, _, _, rfl, .inr ⟨98, _, by decide, rfl⟩, rfl, hE, hlb, hts⟩ ?zhm ?zhn
  case zhm => (intro y; by_cases h0 : y = Str.ofString "char"; (· subst h0; rfl); by_cases h1 : y = Str.ofString "prev_char"; (· subst h1; rfl); by_cases h2 : y = Str.ofString "elem"; (· subst h2; rfl); by_cases h3 : y = Str.ofString "inside"; (· subst h3; rfl); by_cases h4 : y = Str.ofString "inside_quotes"; (· subst h4; rfl); by_cases h5 : y = Str.ofString "quote_used"; (· subst h5; rfl); by_cases h6 : y = Str.ofString "brackets"; (· subst h6; rfl); by_cases h7 : y = Str.ofString "elements"; (· subst h7; rfl); by_cases h8 : y = Str.ofString "path"; (· subst h8; rfl); by_cases h9 : y = Str.ofString "root_element"; (· subst h9; rfl); (simp only [pm, if_neg h0, if_neg h1, if_neg h2, if_neg h3, if_neg h4, if_neg h5, if_neg h6, if_neg h7, if_neg h8, if_neg h9]))
  case zhn => 
    simp only [List.cons_append, Bool.false_eq_true, ↓reduceIte]
    refine' sub_two ?zm2 ?zm1 ?zt
    case zm2 => k_mem
    case zm1 => k_mem
    case zt => (intro q hq; repeat (first | exact hq | apply List.mem_cons_of_mem))


set_option maxHeartbeats 2000000 in
theorem turn_qch105 : ∀ {w : World} {mean : ExcName → Option Value} {mg mb : Str → Option Value} (dp un : Nat) (gd : Option (List Code)) (cn : Str) (cs : Scope) (a : Addr) (ccd : Value) (cl : List (Str × Addr)) (outer : List Env) (base h₀ : Heap) (L L1 : Addr) (m : Str → Option Value) (s : Shared) (E : Value → Shared → Prop)
  (path root : Value) (l bk rr : Addr) (ts0 news own : List (Addr × Obj)) (ct : Tok) (ks : List Nat) (b : Bool) (q : Nat) (e : Str) (he : e.length ≤ 20) 
  (B : Below (ktrTop dp un gd cn cs L a ccd cl outer) base (envX cn cs L a ccd cl :: outer) h₀) (F : Fr h₀ L1 s.heap (fun y => if y = Str.ofString "char" then some (.str (sg 105) ct) else m y)) (X : (hd.heap_39 (World.params w)).In h₀) (N : News h₀ L1 s.heap (news ++ own)) (T : Top hd.view_39 (looseW hd.view_39 [Str.ofString "SINGLE_WILDCARD", Str.ofString "MULTI_WILDCARD", Str.ofString "DEFAULT_FIRST_ELEMENT", Str.ofString "_path_to_elements", Str.ofString "_WILDCARD_RE"]) mean mg mb h₀) (D : KtsDicts ((envX cn cs L a ccd cl :: outer).filterMap (·.frame)) h₀) (XB : (hd.heap_39 (World.params w)).In base) (TB : Top hd.view_39 (looseW hd.view_39 [Str.ofString "SINGLE_WILDCARD", Str.ofString "MULTI_WILDCARD", Str.ofString "DEFAULT_FIRST_ELEMENT", Str.ofString "_path_to_elements", Str.ofString "_WILDCARD_RE"]) mean mg mb base)
  (hdp : dp + 11 < recursionLimit) (hun : un + 150 < cLine) (hap : ∀ p ∈ news, ∀ q ∈ own, q.1 ≠ p.1)
  (R : Rep path root l bk rr ts0 ⟨ks, e, 2, b, some q⟩ m news),
  wpC (model (RowW.prog (OpenRow.toRowW (OpenLaw.row PySem.Challenge.rw_fu0002_01))) w) ((ktrTop dp un gd cn cs L a ccd cl outer).deeper (envOf (Str.ofString "_path_to_elements") (scopeOf (hd.heap_39 (World.params w)) 95) L1 95 (.ref 94))) (execs (forBody (hd.heap_39 (World.params w)) 95 10) (envOf (Str.ofString "_path_to_elements") (scopeOf (hd.heap_39 (World.params w)) 95) L1 95 (.ref 94))) (StepS ((envX cn cs L a ccd cl :: outer).filterMap (·.frame)) (ktrTop dp un gd cn cs L a ccd cl outer) base (envX cn cs L a ccd cl :: outer) L1 own (Rep path root l bk rr ts0 ⟨ks, e ++ Str.ofString "i", 2, b, some q⟩) h₀ s) E s := by
  intro w mean mg mb dp un gd cn cs a ccd cl outer base h₀ L L1 m s E path root l bk rr ts0 news own ct
  intro ks b q e he B F X N T D XB TB hdp hun hap R
  obtain ⟨cv, pv, te, tq, ti, tb, rs, els, n, nb, rfl, hpv, rfl, hE, hlb, hts⟩ := R
  simp only [insV, quoS, Option.isSome, Bool.false_eq_true, ↓reduceIte, List.cons_append] at F N
  have hlt : ∀ p ∈ els ++ ts0 ++ own, p.1 ≠ l := fun p hp => (List.mem_append.mp hp).elim (fun h => (hts p h).1) (fun h => hap _ (.head _) p h)
  have hbt : ∀ p ∈ els ++ ts0 ++ own, p.1 ≠ bk := fun p hp => (List.mem_append.mp hp).elim (fun h => (hts p h).2) (fun h => hap _ (.tail _ (.head _)) p h)
  rw [show sg 105 = Str.ofString "i" by decide +kernel] at F
  revert X
  k_fill
  intro X
  conv in (forBody _ _ _) => whnf
  repeat (conv in (scopeOf _ _) => whnf)
  with_reducible refine wpC_execs_cons (wpC_If ?_)
  k_steps
  with_reducible refine wpC_execs_cons (wpC_If ?_)
  k_steps
  with_reducible refine wpC_execs_cons (wpC_If ?_)
  k_steps
  refine wpC.of ?_
  k_steps
  (try dsimp only)
  repeat (refine wpC_execs_nil ?_; dsimp only)
  refine wpC.of ?_
  (try refine gen_toks (fun tk => ?_))
  k_steps
  refine' stepS_ rfl (KtsTurn.refl) (by assumption) (by assumption) (by assumption) ⟨some _, _, _, _, _, tb, rs, els, _, _, rfl, .inr ⟨105, _, by decide, rfl⟩, rfl, hE, hlb, hts⟩ ?zhm ?zhn
  case zhm => (intro y; by_cases h0 : y = Str.ofString "char"; (· subst h0; rfl); by_cases h1 : y = Str.ofString "prev_char"; (· subst h1; rfl); by_cases h2 : y = Str.ofString "elem"; (· subst h2; rfl); by_cases h3 : y = Str.ofString "inside"; (· subst h3; rfl); by_cases h4 : y = Str.ofString "inside_quotes"; (· subst h4; rfl); by_cases h5 : y = Str.ofString "quote_used"; (· subst h5; rfl); by_cases h6 : y = Str.ofString "brackets"; (· subst h6; rfl); by_cases h7 : y = Str.ofString "elements"; (· subst h7; rfl); by_cases h8 : y = Str.ofString "path"; (· subst h8; rfl); by_cases h9 : y = Str.ofString "root_element"; (· subst h9; rfl); (simp only [pm, if_neg h0, if_neg h1, if_neg h2, if_neg h3, if_neg h4, if_neg h5, if_neg h6, if_neg h7, if_neg h8, if_neg h9]))
  case zhn => 
    simp only [List.cons_append, Bool.false_eq_true, ↓reduceIte]
    refine' sub_two ?zm2 ?zm1 ?zt
    case zm2 => k_mem
    case zm1 => k_mem
    case zt => (intro q hq; repeat (first | exact hq | apply List.mem_cons_of_mem))


set_option maxHeartbeats 2000000 in
theorem turn_qch116 : ∀ {w : World} {mean : ExcName → Option Value} {mg mb : Str → Option Value} (dp un : Nat) (gd : Option (List Code)) (cn : Str) (cs : Scope) (a : Addr) (ccd : Value) (cl : List (Str × Addr)) (outer : List Env) (base h₀ : Heap) (L L1 : Addr) (m : Str → Option Value) (s : Shared) (E : Value → Shared → Prop)
  (path root : Value) (l bk rr : Addr) (ts0 news own : List (Addr × Obj)) (ct : Tok) (ks : List Nat) (b : Bool) (q : Nat) (e : Str) (he : e.length ≤ 20) 
  (B : Below (ktrTop dp un gd cn cs L a ccd cl outer) base (envX cn cs L a ccd cl :: outer) h₀) (F : Fr h₀ L1 s.heap (fun y => if y = Str.ofString "char" then some (.str (sg 116) ct) else m y)) (X : (hd.heap_39 (World.params w)).In h₀) (N : News h₀ L1 s.heap (news ++ own)) (T : Top hd.view_39 (looseW hd.view_39 [Str.ofString "SINGLE_WILDCARD", Str.ofString "MULTI_WILDCARD", Str.ofString "DEFAULT_FIRST_ELEMENT", Str.ofString "_path_to_elements", Str.ofString "_WILDCARD_RE"]) mean mg mb h₀) (D : KtsDicts ((envX cn cs L a ccd cl :: outer).filterMap (·.frame)) h₀) (XB : (hd.heap_39 (World.params w)).In base) (TB : Top hd.view_39 (looseW hd.view_39 [Str.ofString "SINGLE_WILDCARD", Str.ofString "MULTI_WILDCARD", Str.ofString "DEFAULT_FIRST_ELEMENT", Str.ofString "_path_to_elements", Str.ofString "_WILDCARD_RE"]) mean mg mb base)
  (hdp : dp + 11 < recursionLimit) (hun : un + 150 < cLine) (hap : ∀ p ∈ news, ∀ q ∈ own, q.1 ≠ p.1)
  (R : Rep path root l bk rr ts0 ⟨ks, e, 2, b, some q⟩ m news),
  wpC (model (RowW.prog (OpenRow.toRowW (OpenLaw.row PySem.Challenge.rw_fu0002_01))) w) ((ktrTop dp un gd cn cs L a ccd cl outer).deeper (envOf (Str.ofString "_path_to_elements") (scopeOf (hd.heap_39 (World.params w)) 95) L1 95 (.ref 94))) (execs (forBody (hd.heap_39 (World.params w)) 95 10) (envOf (Str.ofString "_path_to_elements") (scopeOf (hd.heap_39 (World.params w)) 95) L1 95 (.ref 94))) (StepS ((envX cn cs L a ccd cl :: outer).filterMap (·.frame)) (ktrTop dp un gd cn cs L a ccd cl outer) base (envX cn cs L a ccd cl :: outer) L1 own (Rep path root l bk rr ts0 ⟨ks, e ++ Str.ofString "t", 2, b, some q⟩) h₀ s) E s := by
  intro w mean mg mb dp un gd cn cs a ccd cl outer base h₀ L L1 m s E path root l bk rr ts0 news own ct
  intro ks b q e he B F X N T D XB TB hdp hun hap R
  obtain ⟨cv, pv, te, tq, ti, tb, rs, els, n, nb, rfl, hpv, rfl, hE, hlb, hts⟩ := R
  simp only [insV, quoS, Option.isSome, Bool.false_eq_true, ↓reduceIte, List.cons_append] at F N
  have hlt : ∀ p ∈ els ++ ts0 ++ own, p.1 ≠ l := fun p hp => (List.mem_append.mp hp).elim (fun h => (hts p h).1) (fun h => hap _ (.head _) p h)
  have hbt : ∀ p ∈ els ++ ts0 ++ own, p.1 ≠ bk := fun p hp => (List.mem_append.mp hp).elim (fun h => (hts p h).2) (fun h => hap _ (.tail _ (.head _)) p h)
  rw [show sg 116 = Str.ofString "t" by decide +kernel] at F
  revert X
  k_fill
  intro X
  conv in (forBody _ _ _) => whnf
  repeat (conv in (scopeOf _ _) => whnf)
  with_reducible refine wpC_execs_cons (wpC_If ?_)
  k_steps
  with_reducible refine wpC_execs_cons (wpC_If ?_)
  k_steps
  with_reducible refine wpC_execs_cons (wpC_If ?_)
  k_steps
  refine wpC.of ?_
  k_steps
  (try dsimp only)
  repeat (refine wpC_execs_nil ?_; dsimp only)
  refine wpC.of ?_
  (try refine gen_toks (fun tk => ?_))
  k_steps
  refine' stepS_ rfl (KtsTurn.refl) (by assumption) (by assumption) (by assumption) ⟨some _, _, _, _, _, tb, rs, els, _, _, rfl, .inr ⟨116, _, by decide, rfl⟩, rfl, hE, hlb, hts⟩ ?zhm ?zhn
  case zhm => (intro y; by_cases h0 : y = Str.ofString "char"; (· subst h0; rfl); by_cases h1 : y = Str.ofString "prev_char"; (· subst h1; rfl); by_cases h2 : y = Str.ofString "elem"; (· subst h2; rfl); by_cases h3 : y = Str.ofString "inside"; (· subst h3; rfl); by_cases h4 : y = Str.ofString "inside_quotes"; (· subst h4; rfl); by_cases h5 : y = Str.ofString "quote_used"; (· subst h5; rfl); by_cases h6 : y = Str.ofString "brackets"; (· subst h6; rfl); by_cases h7 : y = Str.ofString "elements"; (· subst h7; rfl); by_cases h8 : y = Str.ofString "path"; (· subst h8; rfl); by_cases h9 : y = Str.ofString "root_element"; (· subst h9; rfl); (simp only [pm, if_neg h0, if_neg h1, if_neg h2, if_neg h3, if_neg h4, if_neg h5, if_neg h6, if_neg h7, if_neg h8, if_neg h9]))
  case zhn => 
    simp only [List.cons_append, Bool.false_eq_true, ↓reduceIte]
    refine' sub_two ?zm2 ?zm1 ?zt
    case zm2 => k_mem
    case zm1 => k_mem
    case zt => (intro q hq; repeat (first | exact hq | apply List.mem_cons_of_mem))


set_option maxHeartbeats 2000000 in
theorem turn_qch115 : ∀ {w : World} {mean : ExcName → Option Value} {mg mb : Str → Option Value} (dp un : Nat) (gd : Option (List Code)) (cn : Str) (cs : Scope) (a : Addr) (ccd : Value) (cl : List (Str × Addr)) (outer : List Env) (base h₀ : Heap) (L L1 : Addr) (m : Str → Option Value) (s : Shared) (E : Value → Shared → Prop)
  (path root : Value) (l bk rr : Addr) (ts0 news own : List (Addr × Obj)) (ct : Tok) (ks : List Nat) (b : Bool) (q : Nat) (e : Str) (he : e.length ≤ 20) 
  (B : Below (ktrTop dp un gd cn cs L a ccd cl outer) base (envX cn cs L a ccd cl :: outer) h₀) (F : Fr h₀ L1 s.heap (fun y => if y = Str.ofString "char" then some (.str (sg 115) ct) else m y)) (X : (hd.heap_39 (World.params w)).In h₀) (N : News h₀ L1 s.heap (news ++ own)) (T : Top hd.view_39 (looseW hd.view_39 [Str.ofString "SINGLE_WILDCARD", Str.ofString "MULTI_WILDCARD", Str.ofString "DEFAULT_FIRST_ELEMENT", Str.ofString "_path_to_elements", Str.ofString "_WILDCARD_RE"]) mean mg mb h₀) (D : KtsDicts ((envX cn cs L a ccd cl :: outer).filterMap (·.frame)) h₀) (XB : (hd.heap_39 (World.params w)).In base) (TB : Top hd.view_39 (looseW hd.view_39 [Str.ofString "SINGLE_WILDCARD", Str.ofString "MULTI_WILDCARD", Str.ofString "DEFAULT_FIRST_ELEMENT", Str.ofString "_path_to_elements", Str.ofString "_WILDCARD_RE"]) mean mg mb base)
  (hdp : dp + 11 < recursionLimit) (hun : un + 150 < cLine) (hap : ∀ p ∈ news, ∀ q ∈ own, q.1 ≠ p.1)
  (R : Rep path root l bk rr ts0 ⟨ks, e, 2, b, some q⟩ m news),
  wpC (model (RowW.prog (OpenRow.toRowW (OpenLaw.row PySem.Challenge.rw_fu0002_01))) w) ((ktrTop dp un gd cn cs L a ccd cl outer).deeper (envOf (Str.ofString "_path_to_elements") (scopeOf (hd.heap_39 (World.params w)) 95) L1 95 (.ref 94))) (execs (forBody (hd.heap_39 (World.params w)) 95 10) (envOf (Str.ofString "_path_to_elements") (scopeOf (hd.heap_39 (World.params w)) 95) L1 95 (.ref 94))) (StepS ((envX cn cs L a ccd cl :: outer).filterMap (·.frame)) (ktrTop dp un gd cn cs L a ccd cl outer) base (envX cn cs L a ccd cl :: outer) L1 own (Rep path root l bk rr ts0 ⟨ks, e ++ Str.ofString "s", 2, b, some q⟩) h₀ s) E s := by
  intro w mean mg mb dp un gd cn cs a ccd cl outer base h₀ L L1 m s E path root l bk rr ts0 news own ct
  intro ks b q e he B F X N T D XB TB hdp hun hap R
  obtain ⟨cv, pv, te, tq, ti, tb, rs, els, n, nb, rfl, hpv, rfl, hE, hlb, hts⟩ := R
  simp only [insV, quoS, Option.isSome, Bool.false_eq_true, ↓reduceIte, List.cons_append] at F N
  have hlt : ∀ p ∈ els ++ ts0 ++ own, p.1 ≠ l := fun p hp => (List.mem_append.mp hp).elim (fun h => (hts p h).1) (fun h => hap _ (.head _) p h)
  have hbt : ∀ p ∈ els ++ ts0 ++ own, p.1 ≠ bk := fun p hp => (List.mem_append.mp hp).elim (fun h => (hts p h).2) (fun h => hap _ (.tail _ (.head _)) p h)
  rw [show sg 115 = Str.ofString "s" by decide +kernel] at F
  revert X
  k_fill
  intro X
  conv in (forBody _ _ _) => whnf
  repeat (conv in (scopeOf _ _) => whnf)
  with_reducible refine wpC_execs_cons (wpC_If ?_)
  k_steps
  with_reducible refine wpC_execs_cons (wpC_If ?_)
  k_steps
  with_reducible refine wpC_execs_cons (wpC_If ?_)
  k_steps
  refine wpC.of ?_
  k_steps
  (try dsimp only)
  repeat (refine wpC_execs_nil ?_; dsimp only)
  refine wpC.of ?_
  (try refine gen_toks (fun tk => ?_))
  k_steps
  refine' stepS_ rfl (KtsTurn.refl) (by assumption) (by assumption) (by assumption) ⟨some _, _, _, _, _, tb, rs, els, _, _, rfl, .inr ⟨115, _, by decide, rfl⟩, rfl, hE, hlb, hts⟩ ?zhm ?zhn
  case zhm => (intro y; by_cases h0 : y = Str.ofString "char"; (· subst h0; rfl); by_cases h1 : y = Str.ofString "prev_char"; (· subst h1; rfl); by_cases h2 : y = Str.ofString "elem"; (· subst h2; rfl); by_cases h3 : y = Str.ofString "inside"; (· subst h3; rfl); by_cases h4 : y = Str.ofString "inside_quotes"; (· subst h4; rfl); by_cases h5 : y = Str.ofString "quote_used"; (· subst h5; rfl); by_cases h6 : y = Str.ofString "brackets"; (· subst h6; rfl); by_cases h7 : y = Str.ofString "elements"; (· subst h7; rfl); by_cases h8 : y = Str.ofString "path"; (· subst h8; rfl); by_cases h9 : y = Str.ofString "root_element"; (· subst h9; rfl); (simp only [pm, if_neg h0, if_neg h1, if_neg h2, if_neg h3, if_neg h4, if_neg h5, if_neg h6, if_neg h7, if_neg h8, if_neg h9]))
  case zhn => 
    simp only [List.cons_append, Bool.false_eq_true, ↓reduceIte]
    refine' sub_two ?zm2 ?zm1 ?zt
    case zm2 => k_mem
    case zm1 => k_mem
    case zt => (intro q hq; repeat (first | exact hq | apply List.mem_cons_of_mem))


set_option maxHeartbeats 2000000 in
theorem turn_qoth : ∀ {w : World} {mean : ExcName → Option Value} {mg mb : Str → Option Value} (dp un : Nat) (gd : Option (List Code)) (cn : Str) (cs : Scope) (a : Addr) (ccd : Value) (cl : List (Str × Addr)) (outer : List Env) (base h₀ : Heap) (L L1 : Addr) (m : Str → Option Value) (s : Shared) (E : Value → Shared → Prop)
  (path root : Value) (l bk rr : Addr) (ts0 news own : List (Addr × Obj)) (ct : Tok) (ks : List Nat) (b : Bool) (e : Str) (he : e.length ≤ 20) 
  (B : Below (ktrTop dp un gd cn cs L a ccd cl outer) base (envX cn cs L a ccd cl :: outer) h₀) (F : Fr h₀ L1 s.heap (fun y => if y = Str.ofString "char" then some (.str (sg 39) ct) else m y)) (X : (hd.heap_39 (World.params w)).In h₀) (N : News h₀ L1 s.heap (news ++ own)) (T : Top hd.view_39 (looseW hd.view_39 [Str.ofString "SINGLE_WILDCARD", Str.ofString "MULTI_WILDCARD", Str.ofString "DEFAULT_FIRST_ELEMENT", Str.ofString "_path_to_elements", Str.ofString "_WILDCARD_RE"]) mean mg mb h₀) (D : KtsDicts ((envX cn cs L a ccd cl :: outer).filterMap (·.frame)) h₀) (XB : (hd.heap_39 (World.params w)).In base) (TB : Top hd.view_39 (looseW hd.view_39 [Str.ofString "SINGLE_WILDCARD", Str.ofString "MULTI_WILDCARD", Str.ofString "DEFAULT_FIRST_ELEMENT", Str.ofString "_path_to_elements", Str.ofString "_WILDCARD_RE"]) mean mg mb base)
  (hdp : dp + 11 < recursionLimit) (hun : un + 150 < cLine) (hap : ∀ p ∈ news, ∀ q ∈ own, q.1 ≠ p.1)
  (R : Rep path root l bk rr ts0 ⟨ks, e, 2, b, some 34⟩ m news),
  wpC (model (RowW.prog (OpenRow.toRowW (OpenLaw.row PySem.Challenge.rw_fu0002_01))) w) ((ktrTop dp un gd cn cs L a ccd cl outer).deeper (envOf (Str.ofString "_path_to_elements") (scopeOf (hd.heap_39 (World.params w)) 95) L1 95 (.ref 94))) (execs (forBody (hd.heap_39 (World.params w)) 95 10) (envOf (Str.ofString "_path_to_elements") (scopeOf (hd.heap_39 (World.params w)) 95) L1 95 (.ref 94))) (StepS ((envX cn cs L a ccd cl :: outer).filterMap (·.frame)) (ktrTop dp un gd cn cs L a ccd cl outer) base (envX cn cs L a ccd cl :: outer) L1 own (Rep path root l bk rr ts0 ⟨ks, e ++ Str.ofString "'", 2, b, some 34⟩) h₀ s) E s := by
  intro w mean mg mb dp un gd cn cs a ccd cl outer base h₀ L L1 m s E path root l bk rr ts0 news own ct
  intro ks b e he B F X N T D XB TB hdp hun hap R
  obtain ⟨cv, pv, te, tq, ti, tb, rs, els, n, nb, rfl, hpv, rfl, hE, hlb, hts⟩ := R
  simp only [insV, quoS, Option.isSome, Bool.false_eq_true, ↓reduceIte, List.cons_append] at F N
  have hlt : ∀ p ∈ els ++ ts0 ++ own, p.1 ≠ l := fun p hp => (List.mem_append.mp hp).elim (fun h => (hts p h).1) (fun h => hap _ (.head _) p h)
  have hbt : ∀ p ∈ els ++ ts0 ++ own, p.1 ≠ bk := fun p hp => (List.mem_append.mp hp).elim (fun h => (hts p h).2) (fun h => hap _ (.tail _ (.head _)) p h)
  rw [show sg 39 = Str.ofString "'" by decide +kernel] at F
  revert X
  k_fill
  intro X
  conv in (forBody _ _ _) => whnf
  repeat (conv in (scopeOf _ _) => whnf)
  with_reducible refine wpC_execs_cons (wpC_If ?_)
  k_steps
  with_reducible refine wpC_execs_cons (wpC_If ?_)
  k_steps
  refine wpC_execs_plain ?_
  k_steps
  with_reducible refine wpC_execs_cons (wpC_If ?_)
  k_steps
  (try dsimp only)
  repeat (refine wpC_execs_nil ?_; dsimp only)
  refine wpC.of ?_
  (try refine gen_toks (fun tk => ?_))
  k_steps
  refine' stepS_ rfl (KtsTurn.refl) (by assumption) (by assumption) (by assumption) ⟨some _, _, _, _, _, tb, rs, els, _, _, rfl, .inr ⟨39, _, by decide, rfl⟩, rfl, hE, hlb, hts⟩ ?zhm ?zhn
  case zhm => (intro y; by_cases h0 : y = Str.ofString "char"; (· subst h0; rfl); by_cases h1 : y = Str.ofString "prev_char"; (· subst h1; rfl); by_cases h2 : y = Str.ofString "elem"; (· subst h2; rfl); by_cases h3 : y = Str.ofString "inside"; (· subst h3; rfl); by_cases h4 : y = Str.ofString "inside_quotes"; (· subst h4; rfl); by_cases h5 : y = Str.ofString "quote_used"; (· subst h5; rfl); by_cases h6 : y = Str.ofString "brackets"; (· subst h6; rfl); by_cases h7 : y = Str.ofString "elements"; (· subst h7; rfl); by_cases h8 : y = Str.ofString "path"; (· subst h8; rfl); by_cases h9 : y = Str.ofString "root_element"; (· subst h9; rfl); (simp only [pm, if_neg h0, if_neg h1, if_neg h2, if_neg h3, if_neg h4, if_neg h5, if_neg h6, if_neg h7, if_neg h8, if_neg h9]))
  case zhn => 
    simp only [List.cons_append, Bool.false_eq_true, ↓reduceIte]
    refine' sub_two ?zm2 ?zm1 ?zt
    case zm2 => k_mem
    case zm1 => k_mem
    case zt => (intro q hq; repeat (first | exact hq | apply List.mem_cons_of_mem))


set_option maxHeartbeats 2000000 in
theorem turn_qend39 : ∀ {w : World} {mean : ExcName → Option Value} {mg mb : Str → Option Value} (dp un : Nat) (gd : Option (List Code)) (cn : Str) (cs : Scope) (a : Addr) (ccd : Value) (cl : List (Str × Addr)) (outer : List Env) (base h₀ : Heap) (L L1 : Addr) (m : Str → Option Value) (s : Shared) (E : Value → Shared → Prop)
  (path root : Value) (l bk rr : Addr) (ts0 news own : List (Addr × Obj)) (ct : Tok) (ks : List Nat) (b : Bool) (e : Str) (ko : Option Nat) (hw : Wd (e ++ Str.ofString "'") 2 ko) (he : e.length ≤ 20) (hks : ks.length ≤ 20) 
  (B : Below (ktrTop dp un gd cn cs L a ccd cl outer) base (envX cn cs L a ccd cl :: outer) h₀) (F : Fr h₀ L1 s.heap (fun y => if y = Str.ofString "char" then some (.str (sg 39) ct) else m y)) (X : (hd.heap_39 (World.params w)).In h₀) (N : News h₀ L1 s.heap (news ++ own)) (T : Top hd.view_39 (looseW hd.view_39 [Str.ofString "SINGLE_WILDCARD", Str.ofString "MULTI_WILDCARD", Str.ofString "DEFAULT_FIRST_ELEMENT", Str.ofString "_path_to_elements", Str.ofString "_WILDCARD_RE"]) mean mg mb h₀) (D : KtsDicts ((envX cn cs L a ccd cl :: outer).filterMap (·.frame)) h₀) (XB : (hd.heap_39 (World.params w)).In base) (TB : Top hd.view_39 (looseW hd.view_39 [Str.ofString "SINGLE_WILDCARD", Str.ofString "MULTI_WILDCARD", Str.ofString "DEFAULT_FIRST_ELEMENT", Str.ofString "_path_to_elements", Str.ofString "_WILDCARD_RE"]) mean mg mb base)
  (hdp : dp + 11 < recursionLimit) (hun : un + 150 < cLine) (hap : ∀ p ∈ news, ∀ q ∈ own, q.1 ≠ p.1)
  (R : Rep path root l bk rr ts0 ⟨ks, e, 2, b, some 39⟩ m news),
  wpC (model (RowW.prog (OpenRow.toRowW (OpenLaw.row PySem.Challenge.rw_fu0002_01))) w) ((ktrTop dp un gd cn cs L a ccd cl outer).deeper (envOf (Str.ofString "_path_to_elements") (scopeOf (hd.heap_39 (World.params w)) 95) L1 95 (.ref 94))) (execs (forBody (hd.heap_39 (World.params w)) 95 10) (envOf (Str.ofString "_path_to_elements") (scopeOf (hd.heap_39 (World.params w)) 95) L1 95 (.ref 94))) (StepS ((envX cn cs L a ccd cl :: outer).filterMap (·.frame)) (ktrTop dp un gd cn cs L a ccd cl outer) base (envX cn cs L a ccd cl :: outer) L1 own (Rep path root l bk rr ts0 ⟨ks ++ ko.toList, Str.ofString "", 2, b, none⟩) h₀ s) E s := by
  intro w mean mg mb dp un gd cn cs a ccd cl outer base h₀ L L1 m s E path root l bk rr ts0 news own ct
  intro ks b e ko hw he hks B F X N T D XB TB hdp hun hap R
  obtain ⟨cv, pv, te, tq, ti, tb, rs, els, n, nb, rfl, hpv, rfl, hE, hlb, hts⟩ := R
  simp only [insV, quoS, Option.isSome, Bool.false_eq_true, ↓reduceIte, List.cons_append] at F N
  have hlt : ∀ p ∈ els ++ ts0 ++ own, p.1 ≠ l := fun p hp => (List.mem_append.mp hp).elim (fun h => (hts p h).1) (fun h => hap _ (.head _) p h)
  have hbt : ∀ p ∈ els ++ ts0 ++ own, p.1 ≠ bk := fun p hp => (List.mem_append.mp hp).elim (fun h => (hts p h).2) (fun h => hap _ (.tail _ (.head _)) p h)
  rw [show sg 39 = Str.ofString "'" by decide +kernel] at F
  revert X
  k_fill
  intro X
  conv in (forBody _ _ _) => whnf
  repeat (conv in (scopeOf _ _) => whnf)
  with_reducible refine wpC_execs_cons (wpC_If ?_)
  k_steps
  with_reducible refine wpC_execs_cons (wpC_If ?_)
  k_steps
  refine wpC_execs_plain ?_
  k_steps
  with_reducible refine wpC_execs_cons (wpC_If ?_)
  k_steps
  refine wpC_execs_plain ?_
  k_steps
  with_reducible refine wpC_execs_cons (wpC_If ?_)
  k_steps
  refine wpC_execs_cons (wpC_Expr ?_)
  refine wpC_Call ?_
  k_steps
  refine' rest_def ?zho ?zhd ?_
  case zho => exact (Frag.In.keeps (by k_asm) (Fr.keep (by k_asm))) _ _ (by k_is)
  case zhd => rfl
  dsimp only [List.nil_append]
  refine' add_any _ _ _ _ _ _ _ _ _ _ _ _ _ _ _ _ _ ((bk, W.listOf _ _) :: (els ++ ts0 ++ own)) l (((Value.ref rr) :: rs.map Value.ref).toArray) n _ ti ?zvs ?zts ?zB ?zF ?zX ?zN ?zT ?zD XB TB rfl ?zdp ?zun _ 2 ko hw ?_
  case zvs => (simp [hE.len]; omega)
  case zts => exact List.forall_mem_cons.mpr ⟨Ne.symm hlb, hlt⟩
  case zB => assumption
  case zF => k_asm
  case zX => assumption
  case zN =>
    refine' news_sub (by assumption) (sub_two ?zm2 ?zm1 ?zt)
    case zm2 => k_mem
    case zm1 => k_mem
    case zt => (intro q hq; repeat (first | exact hq | apply List.mem_cons_of_mem))
  case zT => assumption
  case zD => assumption
  case zdp => omega
  case zun => (show un + 3 + 100 < cLine; omega)
  intro els2 vs2 n2 g2 h2 tk2 KT2 F2 B2 N2 G2
  obtain ⟨rs2, hE2, rfl⟩ := hE.grow rr rfl G2
  have X2 := XB.keeps B2.stays
  have T2 := TB.keeps B2.stays
  have D2 := D.turn KT2
  have N3 := news_sub N2 reord
  have hts2 : ∀ p ∈ els2 ++ els ++ ts0, p.1 ≠ l ∧ p.1 ≠ bk := fun p hp => by
    rw [List.append_assoc] at hp
    rcases List.mem_append.mp hp with hp | hp
    · exact ⟨grown_ne N2 (grown_cls G2) (fun q hq => List.mem_append_left _ hq) (List.mem_append_right _ (.head _)) p hp, grown_ne N2 (grown_cls G2) (fun q hq => List.mem_append_left _ hq) (List.mem_append_right _ (.tail _ (.head _))) p hp⟩
    · exact hts p hp
  (try clear N2); (try clear F); (try clear X); (try clear T); (try clear N); (try clear B); (try clear D); (try clear hlt); (try clear hbt)
  (try dsimp only)
  refine wpC.of ?_
  k_steps
  (try dsimp only)
  repeat (refine wpC_execs_nil ?_; dsimp only)
  refine wpC.of ?_
  (try refine gen_toks (fun tk => ?_))
  k_steps
  refine' stepS_ rfl (KT2) (by assumption) (by assumption) (by assumption) ⟨some _, _, _, _, _, tb, rs2, (els2 ++ els), _, _, rfl, .inr ⟨39, _, by decide, rfl⟩, rfl, hE2, hlb, hts2⟩ ?zhm ?zhn
  case zhm => (intro y; by_cases h0 : y = Str.ofString "char"; (· subst h0; rfl); by_cases h1 : y = Str.ofString "prev_char"; (· subst h1; rfl); by_cases h2 : y = Str.ofString "elem"; (· subst h2; rfl); by_cases h3 : y = Str.ofString "inside"; (· subst h3; rfl); by_cases h4 : y = Str.ofString "inside_quotes"; (· subst h4; rfl); by_cases h5 : y = Str.ofString "quote_used"; (· subst h5; rfl); by_cases h6 : y = Str.ofString "brackets"; (· subst h6; rfl); by_cases h7 : y = Str.ofString "elements"; (· subst h7; rfl); by_cases h8 : y = Str.ofString "path"; (· subst h8; rfl); by_cases h9 : y = Str.ofString "root_element"; (· subst h9; rfl); (simp only [pm, if_neg h0, if_neg h1, if_neg h2, if_neg h3, if_neg h4, if_neg h5, if_neg h6, if_neg h7, if_neg h8, if_neg h9]))
  case zhn => 
    simp only [List.cons_append, Bool.false_eq_true, ↓reduceIte]
    refine' sub_two ?zm2 ?zm1 ?zt
    case zm2 => k_mem
    case zm1 => k_mem
    case zt => (intro q hq; repeat (first | exact hq | apply List.mem_cons_of_mem))


set_option maxHeartbeats 2000000 in
theorem turn_qend34 : ∀ {w : World} {mean : ExcName → Option Value} {mg mb : Str → Option Value} (dp un : Nat) (gd : Option (List Code)) (cn : Str) (cs : Scope) (a : Addr) (ccd : Value) (cl : List (Str × Addr)) (outer : List Env) (base h₀ : Heap) (L L1 : Addr) (m : Str → Option Value) (s : Shared) (E : Value → Shared → Prop)
  (path root : Value) (l bk rr : Addr) (ts0 news own : List (Addr × Obj)) (ct : Tok) (ks : List Nat) (b : Bool) (e : Str) (ko : Option Nat) (hw : Wd (e ++ Str.ofString "\"") 2 ko) (he : e.length ≤ 20) (hks : ks.length ≤ 20) 
  (B : Below (ktrTop dp un gd cn cs L a ccd cl outer) base (envX cn cs L a ccd cl :: outer) h₀) (F : Fr h₀ L1 s.heap (fun y => if y = Str.ofString "char" then some (.str (sg 34) ct) else m y)) (X : (hd.heap_39 (World.params w)).In h₀) (N : News h₀ L1 s.heap (news ++ own)) (T : Top hd.view_39 (looseW hd.view_39 [Str.ofString "SINGLE_WILDCARD", Str.ofString "MULTI_WILDCARD", Str.ofString "DEFAULT_FIRST_ELEMENT", Str.ofString "_path_to_elements", Str.ofString "_WILDCARD_RE"]) mean mg mb h₀) (D : KtsDicts ((envX cn cs L a ccd cl :: outer).filterMap (·.frame)) h₀) (XB : (hd.heap_39 (World.params w)).In base) (TB : Top hd.view_39 (looseW hd.view_39 [Str.ofString "SINGLE_WILDCARD", Str.ofString "MULTI_WILDCARD", Str.ofString "DEFAULT_FIRST_ELEMENT", Str.ofString "_path_to_elements", Str.ofString "_WILDCARD_RE"]) mean mg mb base)
  (hdp : dp + 11 < recursionLimit) (hun : un + 150 < cLine) (hap : ∀ p ∈ news, ∀ q ∈ own, q.1 ≠ p.1)
  (R : Rep path root l bk rr ts0 ⟨ks, e, 2, b, some 34⟩ m news),
  wpC (model (RowW.prog (OpenRow.toRowW (OpenLaw.row PySem.Challenge.rw_fu0002_01))) w) ((ktrTop dp un gd cn cs L a ccd cl outer).deeper (envOf (Str.ofString "_path_to_elements") (scopeOf (hd.heap_39 (World.params w)) 95) L1 95 (.ref 94))) (execs (forBody (hd.heap_39 (World.params w)) 95 10) (envOf (Str.ofString "_path_to_elements") (scopeOf (hd.heap_39 (World.params w)) 95) L1 95 (.ref 94))) (StepS ((envX cn cs L a ccd cl :: outer).filterMap (·.frame)) (ktrTop dp un gd cn cs L a ccd cl outer) base (envX cn cs L a ccd cl :: outer) L1 own (Rep path root l bk rr ts0 ⟨ks ++ ko.toList, Str.ofString "", 2, b, none⟩) h₀ s) E s := by
  intro w mean mg mb dp un gd cn cs a ccd cl outer base h₀ L L1 m s E path root l bk rr ts0 news own ct
  intro ks b e ko hw he hks B F X N T D XB TB hdp hun hap R
  obtain ⟨cv, pv, te, tq, ti, tb, rs, els, n, nb, rfl, hpv, rfl, hE, hlb, hts⟩ := R
  simp only [insV, quoS, Option.isSome, Bool.false_eq_true, ↓reduceIte, List.cons_append] at F N
  have hlt : ∀ p ∈ els ++ ts0 ++ own, p.1 ≠ l := fun p hp => (List.mem_append.mp hp).elim (fun h => (hts p h).1) (fun h => hap _ (.head _) p h)
  have hbt : ∀ p ∈ els ++ ts0 ++ own, p.1 ≠ bk := fun p hp => (List.mem_append.mp hp).elim (fun h => (hts p h).2) (fun h => hap _ (.tail _ (.head _)) p h)
  rw [show sg 34 = Str.ofString "\"" by decide +kernel] at F
  revert X
  k_fill
  intro X
  conv in (forBody _ _ _) => whnf
  repeat (conv in (scopeOf _ _) => whnf)
  with_reducible refine wpC_execs_cons (wpC_If ?_)
  k_steps
  with_reducible refine wpC_execs_cons (wpC_If ?_)
  k_steps
  refine wpC_execs_plain ?_
  k_steps
  with_reducible refine wpC_execs_cons (wpC_If ?_)
  k_steps
  refine wpC_execs_plain ?_
  k_steps
  with_reducible refine wpC_execs_cons (wpC_If ?_)
  k_steps
  refine wpC_execs_cons (wpC_Expr ?_)
  refine wpC_Call ?_
  k_steps
  refine' rest_def ?zho ?zhd ?_
  case zho => exact (Frag.In.keeps (by k_asm) (Fr.keep (by k_asm))) _ _ (by k_is)
  case zhd => rfl
  dsimp only [List.nil_append]
  refine' add_any _ _ _ _ _ _ _ _ _ _ _ _ _ _ _ _ _ ((bk, W.listOf _ _) :: (els ++ ts0 ++ own)) l (((Value.ref rr) :: rs.map Value.ref).toArray) n _ ti ?zvs ?zts ?zB ?zF ?zX ?zN ?zT ?zD XB TB rfl ?zdp ?zun _ 2 ko hw ?_
  case zvs => (simp [hE.len]; omega)
  case zts => exact List.forall_mem_cons.mpr ⟨Ne.symm hlb, hlt⟩
  case zB => assumption
  case zF => k_asm
  case zX => assumption
  case zN =>
    refine' news_sub (by assumption) (sub_two ?zm2 ?zm1 ?zt)
    case zm2 => k_mem
    case zm1 => k_mem
    case zt => (intro q hq; repeat (first | exact hq | apply List.mem_cons_of_mem))
  case zT => assumption
  case zD => assumption
  case zdp => omega
  case zun => (show un + 3 + 100 < cLine; omega)
  intro els2 vs2 n2 g2 h2 tk2 KT2 F2 B2 N2 G2
  obtain ⟨rs2, hE2, rfl⟩ := hE.grow rr rfl G2
  have X2 := XB.keeps B2.stays
  have T2 := TB.keeps B2.stays
  have D2 := D.turn KT2
  have N3 := news_sub N2 reord
  have hts2 : ∀ p ∈ els2 ++ els ++ ts0, p.1 ≠ l ∧ p.1 ≠ bk := fun p hp => by
    rw [List.append_assoc] at hp
    rcases List.mem_append.mp hp with hp | hp
    · exact ⟨grown_ne N2 (grown_cls G2) (fun q hq => List.mem_append_left _ hq) (List.mem_append_right _ (.head _)) p hp, grown_ne N2 (grown_cls G2) (fun q hq => List.mem_append_left _ hq) (List.mem_append_right _ (.tail _ (.head _))) p hp⟩
    · exact hts p hp
  (try clear N2); (try clear F); (try clear X); (try clear T); (try clear N); (try clear B); (try clear D); (try clear hlt); (try clear hbt)
  (try dsimp only)
  refine wpC.of ?_
  k_steps
  (try dsimp only)
  repeat (refine wpC_execs_nil ?_; dsimp only)
  refine wpC.of ?_
  (try refine gen_toks (fun tk => ?_))
  k_steps
  refine' stepS_ rfl (KT2) (by assumption) (by assumption) (by assumption) ⟨some _, _, _, _, _, tb, rs2, (els2 ++ els), _, _, rfl, .inr ⟨34, _, by decide, rfl⟩, rfl, hE2, hlb, hts2⟩ ?zhm ?zhn
  case zhm => (intro y; by_cases h0 : y = Str.ofString "char"; (· subst h0; rfl); by_cases h1 : y = Str.ofString "prev_char"; (· subst h1; rfl); by_cases h2 : y = Str.ofString "elem"; (· subst h2; rfl); by_cases h3 : y = Str.ofString "inside"; (· subst h3; rfl); by_cases h4 : y = Str.ofString "inside_quotes"; (· subst h4; rfl); by_cases h5 : y = Str.ofString "quote_used"; (· subst h5; rfl); by_cases h6 : y = Str.ofString "brackets"; (· subst h6; rfl); by_cases h7 : y = Str.ofString "elements"; (· subst h7; rfl); by_cases h8 : y = Str.ofString "path"; (· subst h8; rfl); by_cases h9 : y = Str.ofString "root_element"; (· subst h9; rfl); (simp only [pm, if_neg h0, if_neg h1, if_neg h2, if_neg h3, if_neg h4, if_neg h5, if_neg h6, if_neg h7, if_neg h8, if_neg h9]))
  case zhn => 
    simp only [List.cons_append, Bool.false_eq_true, ↓reduceIte]
    refine' sub_two ?zm2 ?zm1 ?zt
    case zm2 => k_mem
    case zm1 => k_mem
    case zt => (intro q hq; repeat (first | exact hq | apply List.mem_cons_of_mem))


set_option maxHeartbeats 2000000 in
theorem turn_bendfalse : ∀ {w : World} {mean : ExcName → Option Value} {mg mb : Str → Option Value} (dp un : Nat) (gd : Option (List Code)) (cn : Str) (cs : Scope) (a : Addr) (ccd : Value) (cl : List (Str × Addr)) (outer : List Env) (base h₀ : Heap) (L L1 : Addr) (m : Str → Option Value) (s : Shared) (E : Value → Shared → Prop)
  (path root : Value) (l bk rr : Addr) (ts0 news own : List (Addr × Obj)) (ct : Tok) (ks : List Nat) (e : Str) (ko : Option Nat) (hw : Wd e 2 ko) (hks : ks.length ≤ 20) 
  (B : Below (ktrTop dp un gd cn cs L a ccd cl outer) base (envX cn cs L a ccd cl :: outer) h₀) (F : Fr h₀ L1 s.heap (fun y => if y = Str.ofString "char" then some (.str (sg 93) ct) else m y)) (X : (hd.heap_39 (World.params w)).In h₀) (N : News h₀ L1 s.heap (news ++ own)) (T : Top hd.view_39 (looseW hd.view_39 [Str.ofString "SINGLE_WILDCARD", Str.ofString "MULTI_WILDCARD", Str.ofString "DEFAULT_FIRST_ELEMENT", Str.ofString "_path_to_elements", Str.ofString "_WILDCARD_RE"]) mean mg mb h₀) (D : KtsDicts ((envX cn cs L a ccd cl :: outer).filterMap (·.frame)) h₀) (XB : (hd.heap_39 (World.params w)).In base) (TB : Top hd.view_39 (looseW hd.view_39 [Str.ofString "SINGLE_WILDCARD", Str.ofString "MULTI_WILDCARD", Str.ofString "DEFAULT_FIRST_ELEMENT", Str.ofString "_path_to_elements", Str.ofString "_WILDCARD_RE"]) mean mg mb base)
  (hdp : dp + 11 < recursionLimit) (hun : un + 150 < cLine) (hap : ∀ p ∈ news, ∀ q ∈ own, q.1 ≠ p.1)
  (R : Rep path root l bk rr ts0 ⟨ks, e, 2, false, none⟩ m news),
  wpC (model (RowW.prog (OpenRow.toRowW (OpenLaw.row PySem.Challenge.rw_fu0002_01))) w) ((ktrTop dp un gd cn cs L a ccd cl outer).deeper (envOf (Str.ofString "_path_to_elements") (scopeOf (hd.heap_39 (World.params w)) 95) L1 95 (.ref 94))) (execs (forBody (hd.heap_39 (World.params w)) 95 10) (envOf (Str.ofString "_path_to_elements") (scopeOf (hd.heap_39 (World.params w)) 95) L1 95 (.ref 94))) (StepS ((envX cn cs L a ccd cl :: outer).filterMap (·.frame)) (ktrTop dp un gd cn cs L a ccd cl outer) base (envX cn cs L a ccd cl :: outer) L1 own (Rep path root l bk rr ts0 ⟨ks ++ ko.toList, Str.ofString "", 0, false, none⟩) h₀ s) E s := by
  intro w mean mg mb dp un gd cn cs a ccd cl outer base h₀ L L1 m s E path root l bk rr ts0 news own ct
  intro ks e ko hw hks B F X N T D XB TB hdp hun hap R
  obtain ⟨cv, pv, te, tq, ti, tb, rs, els, n, nb, rfl, hpv, rfl, hE, hlb, hts⟩ := R
  simp only [insV, quoS, Option.isSome, Bool.false_eq_true, ↓reduceIte, List.cons_append] at F N
  have hlt : ∀ p ∈ els ++ ts0 ++ own, p.1 ≠ l := fun p hp => (List.mem_append.mp hp).elim (fun h => (hts p h).1) (fun h => hap _ (.head _) p h)
  have hbt : ∀ p ∈ els ++ ts0 ++ own, p.1 ≠ bk := fun p hp => (List.mem_append.mp hp).elim (fun h => (hts p h).2) (fun h => hap _ (.tail _ (.head _)) p h)
  rw [show sg 93 = Str.ofString "]" by decide +kernel] at F
  revert X
  k_fill
  intro X
  conv in (forBody _ _ _) => whnf
  repeat (conv in (scopeOf _ _) => whnf)
  with_reducible refine wpC_execs_cons (wpC_If ?_)
  k_steps
  with_reducible refine wpC_execs_cons (wpC_If ?_)
  k_steps
  with_reducible refine wpC_execs_cons (wpC_If ?_)
  k_steps
  with_reducible refine wpC_execs_cons (wpC_If ?_)
  k_steps
  with_reducible refine wpC_execs_cons (wpC_If ?_)
  k_steps
  with_reducible refine wpC_execs_cons (wpC_If ?_)
  k_steps
  refine wpC_execs_plain ?_
  k_steps
  with_reducible refine wpC_execs_cons (wpC_If ?_)
  k_steps
  refine wpC_execs_cons (wpC_Expr ?_)
  refine wpC_Call ?_
  k_steps
  refine' rest_def ?zho ?zhd ?_
  case zho => exact (Frag.In.keeps (by k_asm) (Fr.keep (by k_asm))) _ _ (by k_is)
  case zhd => rfl
  dsimp only [List.nil_append]
  refine' add_any _ _ _ _ _ _ _ _ _ _ _ _ _ _ _ _ _ ((bk, W.listOf _ _) :: (els ++ ts0 ++ own)) l (((Value.ref rr) :: rs.map Value.ref).toArray) n _ ti ?zvs ?zts ?zB ?zF ?zX ?zN ?zT ?zD XB TB rfl ?zdp ?zun _ 2 ko hw ?_
  case zvs => (simp [hE.len]; omega)
  case zts => exact List.forall_mem_cons.mpr ⟨Ne.symm hlb, hlt⟩
  case zB => assumption
  case zF => k_asm
  case zX => assumption
  case zN =>
    refine' news_sub (by assumption) (sub_two ?zm2 ?zm1 ?zt)
    case zm2 => k_mem
    case zm1 => k_mem
    case zt => (intro q hq; repeat (first | exact hq | apply List.mem_cons_of_mem))
  case zT => assumption
  case zD => assumption
  case zdp => omega
  case zun => (show un + 3 + 100 < cLine; omega)
  intro els2 vs2 n2 g2 h2 tk2 KT2 F2 B2 N2 G2
  obtain ⟨rs2, hE2, rfl⟩ := hE.grow rr rfl G2
  have X2 := XB.keeps B2.stays
  have T2 := TB.keeps B2.stays
  have D2 := D.turn KT2
  have N3 := news_sub N2 reord
  have hts2 : ∀ p ∈ els2 ++ els ++ ts0, p.1 ≠ l ∧ p.1 ≠ bk := fun p hp => by
    rw [List.append_assoc] at hp
    rcases List.mem_append.mp hp with hp | hp
    · exact ⟨grown_ne N2 (grown_cls G2) (fun q hq => List.mem_append_left _ hq) (List.mem_append_right _ (.head _)) p hp, grown_ne N2 (grown_cls G2) (fun q hq => List.mem_append_left _ hq) (List.mem_append_right _ (.tail _ (.head _))) p hp⟩
    · exact hts p hp
  (try clear N2); (try clear F); (try clear X); (try clear T); (try clear N); (try clear B); (try clear D); (try clear hlt); (try clear hbt)
  (try dsimp only)
  refine wpC.of ?_
  k_steps
  (try dsimp only)
  repeat (refine wpC_execs_nil ?_; dsimp only)
  refine wpC.of ?_
  (try refine gen_toks (fun tk => ?_))
  k_steps
  refine' stepS_ rfl (KT2) (by assumption) (by assumption) (by assumption) ⟨some _, _, _, _, ti, tb, rs2, (els2 ++ els), _, _, rfl, .inr ⟨93, _, by decide, rfl⟩, rfl, hE2, hlb, hts2⟩ ?zhm ?zhn
  case zhm => (intro y; by_cases h0 : y = Str.ofString "char"; (· subst h0; rfl); by_cases h1 : y = Str.ofString "prev_char"; (· subst h1; rfl); by_cases h2 : y = Str.ofString "elem"; (· subst h2; rfl); by_cases h3 : y = Str.ofString "inside"; (· subst h3; rfl); by_cases h4 : y = Str.ofString "inside_quotes"; (· subst h4; rfl); by_cases h5 : y = Str.ofString "quote_used"; (· subst h5; rfl); by_cases h6 : y = Str.ofString "brackets"; (· subst h6; rfl); by_cases h7 : y = Str.ofString "elements"; (· subst h7; rfl); by_cases h8 : y = Str.ofString "path"; (· subst h8; rfl); by_cases h9 : y = Str.ofString "root_element"; (· subst h9; rfl); (simp only [pm, if_neg h0, if_neg h1, if_neg h2, if_neg h3, if_neg h4, if_neg h5, if_neg h6, if_neg h7, if_neg h8, if_neg h9]))
  case zhn => 
    simp only [List.cons_append, Bool.false_eq_true, ↓reduceIte]
    refine' sub_two ?zm2 ?zm1 ?zt
    case zm2 => k_mem
    case zm1 => k_mem
    case zt => (intro q hq; repeat (first | exact hq | apply List.mem_cons_of_mem))


set_option maxHeartbeats 2000000 in
theorem turn_bendtrue : ∀ {w : World} {mean : ExcName → Option Value} {mg mb : Str → Option Value} (dp un : Nat) (gd : Option (List Code)) (cn : Str) (cs : Scope) (a : Addr) (ccd : Value) (cl : List (Str × Addr)) (outer : List Env) (base h₀ : Heap) (L L1 : Addr) (m : Str → Option Value) (s : Shared) (E : Value → Shared → Prop)
  (path root : Value) (l bk rr : Addr) (ts0 news own : List (Addr × Obj)) (ct : Tok) (ks : List Nat) (e : Str) (ko : Option Nat) (hw : Wd e 2 ko) (hks : ks.length ≤ 20) 
  (B : Below (ktrTop dp un gd cn cs L a ccd cl outer) base (envX cn cs L a ccd cl :: outer) h₀) (F : Fr h₀ L1 s.heap (fun y => if y = Str.ofString "char" then some (.str (sg 93) ct) else m y)) (X : (hd.heap_39 (World.params w)).In h₀) (N : News h₀ L1 s.heap (news ++ own)) (T : Top hd.view_39 (looseW hd.view_39 [Str.ofString "SINGLE_WILDCARD", Str.ofString "MULTI_WILDCARD", Str.ofString "DEFAULT_FIRST_ELEMENT", Str.ofString "_path_to_elements", Str.ofString "_WILDCARD_RE"]) mean mg mb h₀) (D : KtsDicts ((envX cn cs L a ccd cl :: outer).filterMap (·.frame)) h₀) (XB : (hd.heap_39 (World.params w)).In base) (TB : Top hd.view_39 (looseW hd.view_39 [Str.ofString "SINGLE_WILDCARD", Str.ofString "MULTI_WILDCARD", Str.ofString "DEFAULT_FIRST_ELEMENT", Str.ofString "_path_to_elements", Str.ofString "_WILDCARD_RE"]) mean mg mb base)
  (hdp : dp + 11 < recursionLimit) (hun : un + 150 < cLine) (hap : ∀ p ∈ news, ∀ q ∈ own, q.1 ≠ p.1)
  (R : Rep path root l bk rr ts0 ⟨ks, e, 2, true, none⟩ m news),
  wpC (model (RowW.prog (OpenRow.toRowW (OpenLaw.row PySem.Challenge.rw_fu0002_01))) w) ((ktrTop dp un gd cn cs L a ccd cl outer).deeper (envOf (Str.ofString "_path_to_elements") (scopeOf (hd.heap_39 (World.params w)) 95) L1 95 (.ref 94))) (execs (forBody (hd.heap_39 (World.params w)) 95 10) (envOf (Str.ofString "_path_to_elements") (scopeOf (hd.heap_39 (World.params w)) 95) L1 95 (.ref 94))) (StepS ((envX cn cs L a ccd cl :: outer).filterMap (·.frame)) (ktrTop dp un gd cn cs L a ccd cl outer) base (envX cn cs L a ccd cl :: outer) L1 own (Rep path root l bk rr ts0 ⟨ks ++ ko.toList, Str.ofString "", 0, false, none⟩) h₀ s) E s := by
  intro w mean mg mb dp un gd cn cs a ccd cl outer base h₀ L L1 m s E path root l bk rr ts0 news own ct
  intro ks e ko hw hks B F X N T D XB TB hdp hun hap R
  obtain ⟨cv, pv, te, tq, ti, tb, rs, els, n, nb, rfl, hpv, rfl, hE, hlb, hts⟩ := R
  simp only [insV, quoS, Option.isSome, Bool.false_eq_true, ↓reduceIte, List.cons_append] at F N
  have hlt : ∀ p ∈ els ++ ts0 ++ own, p.1 ≠ l := fun p hp => (List.mem_append.mp hp).elim (fun h => (hts p h).1) (fun h => hap _ (.head _) p h)
  have hbt : ∀ p ∈ els ++ ts0 ++ own, p.1 ≠ bk := fun p hp => (List.mem_append.mp hp).elim (fun h => (hts p h).2) (fun h => hap _ (.tail _ (.head _)) p h)
  rw [show sg 93 = Str.ofString "]" by decide +kernel] at F
  revert X
  k_fill
  intro X
  conv in (forBody _ _ _) => whnf
  repeat (conv in (scopeOf _ _) => whnf)
  with_reducible refine wpC_execs_cons (wpC_If ?_)
  k_steps
  with_reducible refine wpC_execs_cons (wpC_If ?_)
  k_steps
  with_reducible refine wpC_execs_cons (wpC_If ?_)
  k_steps
  with_reducible refine wpC_execs_cons (wpC_If ?_)
  k_steps
  with_reducible refine wpC_execs_cons (wpC_If ?_)
  k_steps
  with_reducible refine wpC_execs_cons (wpC_If ?_)
  k_steps
  refine wpC_execs_plain ?_
  k_steps
  with_reducible refine wpC_execs_cons (wpC_If ?_)
  k_steps
  refine wpC_execs_cons (wpC_Expr ?_)
  refine wpC_Call ?_
  k_steps
  refine' rest_def ?zho ?zhd ?_
  case zho => exact (Frag.In.keeps (by k_asm) (Fr.keep (by k_asm))) _ _ (by k_is)
  case zhd => rfl
  dsimp only [List.nil_append]
  refine' add_any _ _ _ _ _ _ _ _ _ _ _ _ _ _ _ _ _ ((bk, W.listOf _ _) :: (els ++ ts0 ++ own)) l (((Value.ref rr) :: rs.map Value.ref).toArray) n _ ti ?zvs ?zts ?zB ?zF ?zX ?zN ?zT ?zD XB TB rfl ?zdp ?zun _ 2 ko hw ?_
  case zvs => (simp [hE.len]; omega)
  case zts => exact List.forall_mem_cons.mpr ⟨Ne.symm hlb, hlt⟩
  case zB => assumption
  case zF => k_asm
  case zX => assumption
  case zN =>
    refine' news_sub (by assumption) (sub_two ?zm2 ?zm1 ?zt)
    case zm2 => k_mem
    case zm1 => k_mem
    case zt => (intro q hq; repeat (first | exact hq | apply List.mem_cons_of_mem))
  case zT => assumption
  case zD => assumption
  case zdp => omega
  case zun => (show un + 3 + 100 < cLine; omega)
  intro els2 vs2 n2 g2 h2 tk2 KT2 F2 B2 N2 G2
  obtain ⟨rs2, hE2, rfl⟩ := hE.grow rr rfl G2
  have X2 := XB.keeps B2.stays
  have T2 := TB.keeps B2.stays
  have D2 := D.turn KT2
  have N3 := news_sub N2 reord
  have hts2 : ∀ p ∈ els2 ++ els ++ ts0, p.1 ≠ l ∧ p.1 ≠ bk := fun p hp => by
    rw [List.append_assoc] at hp
    rcases List.mem_append.mp hp with hp | hp
    · exact ⟨grown_ne N2 (grown_cls G2) (fun q hq => List.mem_append_left _ hq) (List.mem_append_right _ (.head _)) p hp, grown_ne N2 (grown_cls G2) (fun q hq => List.mem_append_left _ hq) (List.mem_append_right _ (.tail _ (.head _))) p hp⟩
    · exact hts p hp
  (try clear N2); (try clear F); (try clear X); (try clear T); (try clear N); (try clear B); (try clear D); (try clear hlt); (try clear hbt)
  (try dsimp only)
  refine wpC.of ?_
  k_steps
  (try dsimp only)
  repeat (refine wpC_execs_nil ?_; dsimp only)
  refine wpC.of ?_
  (try refine gen_toks (fun tk => ?_))
  k_steps
  refine' stepS_ rfl (KT2) (by assumption) (by assumption) (by assumption) ⟨some _, _, _, _, ti, tb, rs2, (els2 ++ els), _, _, rfl, .inr ⟨93, _, by decide, rfl⟩, rfl, hE2, hlb, hts2⟩ ?zhm ?zhn
  case zhm => (intro y; by_cases h0 : y = Str.ofString "char"; (· subst h0; rfl); by_cases h1 : y = Str.ofString "prev_char"; (· subst h1; rfl); by_cases h2 : y = Str.ofString "elem"; (· subst h2; rfl); by_cases h3 : y = Str.ofString "inside"; (· subst h3; rfl); by_cases h4 : y = Str.ofString "inside_quotes"; (· subst h4; rfl); by_cases h5 : y = Str.ofString "quote_used"; (· subst h5; rfl); by_cases h6 : y = Str.ofString "brackets"; (· subst h6; rfl); by_cases h7 : y = Str.ofString "elements"; (· subst h7; rfl); by_cases h8 : y = Str.ofString "path"; (· subst h8; rfl); by_cases h9 : y = Str.ofString "root_element"; (· subst h9; rfl); (simp only [pm, if_neg h0, if_neg h1, if_neg h2, if_neg h3, if_neg h4, if_neg h5, if_neg h6, if_neg h7, if_neg h8, if_neg h9]))
  case zhn => 
    simp only [List.cons_append, Bool.false_eq_true, ↓reduceIte]
    refine' sub_two ?zm2 ?zm1 ?zt
    case zm2 => k_mem
    case zm1 => k_mem
    case zt => (intro q hq; repeat (first | exact hq | apply List.mem_cons_of_mem))


set_option maxHeartbeats 1000000 in
theorem turn_any : ∀ {w : World} {mean : ExcName → Option Value} {mg mb : Str → Option Value} (dp un : Nat) (gd : Option (List Code)) (cn : Str) (cs : Scope) (a : Addr) (ccd : Value) (cl : List (Str × Addr)) (outer : List Env) (base h₀ : Heap) (L L1 : Addr) (m : Str → Option Value) (s : Shared) (E : Value → Shared → Prop)
  (path root : Value) (l bk rr : Addr) (ts0 news own : List (Addr × Obj)) (ct : Tok) (st st2 : PS) (c : Nat) (ht : Turn st c st2)
  (B : Below (ktrTop dp un gd cn cs L a ccd cl outer) base (envX cn cs L a ccd cl :: outer) h₀) (F : Fr h₀ L1 s.heap (fun y => if y = Str.ofString "char" then some (.str (sg c) ct) else m y)) (X : (hd.heap_39 (World.params w)).In h₀) (N : News h₀ L1 s.heap (news ++ own)) (T : Top hd.view_39 (looseW hd.view_39 [Str.ofString "SINGLE_WILDCARD", Str.ofString "MULTI_WILDCARD", Str.ofString "DEFAULT_FIRST_ELEMENT", Str.ofString "_path_to_elements", Str.ofString "_WILDCARD_RE"]) mean mg mb h₀) (D : KtsDicts ((envX cn cs L a ccd cl :: outer).filterMap (·.frame)) h₀) (XB : (hd.heap_39 (World.params w)).In base) (TB : Top hd.view_39 (looseW hd.view_39 [Str.ofString "SINGLE_WILDCARD", Str.ofString "MULTI_WILDCARD", Str.ofString "DEFAULT_FIRST_ELEMENT", Str.ofString "_path_to_elements", Str.ofString "_WILDCARD_RE"]) mean mg mb base)
  (hdp : dp + 11 < recursionLimit) (hun : un + 150 < cLine) (hap : ∀ p ∈ news, ∀ q ∈ own, q.1 ≠ p.1)
  (R : Rep path root l bk rr ts0 st m news),
  wpC (model (RowW.prog (OpenRow.toRowW (OpenLaw.row PySem.Challenge.rw_fu0002_01))) w) ((ktrTop dp un gd cn cs L a ccd cl outer).deeper (envOf (Str.ofString "_path_to_elements") (scopeOf (hd.heap_39 (World.params w)) 95) L1 95 (.ref 94))) (execs (forBody (hd.heap_39 (World.params w)) 95 10) (envOf (Str.ofString "_path_to_elements") (scopeOf (hd.heap_39 (World.params w)) 95) L1 95 (.ref 94))) (StepS ((envX cn cs L a ccd cl :: outer).filterMap (·.frame)) (ktrTop dp un gd cn cs L a ccd cl outer) base (envX cn cs L a ccd cl :: outer) L1 own (Rep path root l bk rr ts0 st2) h₀ s) E s := by
  intro w mean mg mb dp un gd cn cs a ccd cl outer base h₀ L L1 m s E path root l bk rr ts0 news own ct st st2 c ht B F X N T D XB TB hdp hun hap R
  cases ht with
  | dot0 => with_reducible exact turn_dot0 dp un gd cn cs a ccd cl outer base h₀ L L1 m s E path root l bk rr ts0 news own ct _ B F X N T D XB TB hdp hun hap R
  | br0 => with_reducible exact turn_br0 dp un gd cn cs a ccd cl outer base h₀ L L1 m s E path root l bk rr ts0 news own ct _ B F X N T D XB TB hdp hun hap R
  | dch hc he =>
    rcases hc with rfl | rfl | rfl
    · rw [show sg 42 = Str.ofString "*" by decide +kernel]; with_reducible exact turn_dch42 dp un gd cn cs a ccd cl outer base h₀ L L1 m s E path root l bk rr ts0 news own ct _ _ he B F X N T D XB TB hdp hun hap R
    · rw [show sg 97 = Str.ofString "a" by decide +kernel]; with_reducible exact turn_dch97 dp un gd cn cs a ccd cl outer base h₀ L L1 m s E path root l bk rr ts0 news own ct _ _ he B F X N T D XB TB hdp hun hap R
    · rw [show sg 98 = Str.ofString "b" by decide +kernel]; with_reducible exact turn_dch98 dp un gd cn cs a ccd cl outer base h₀ L L1 m s E path root l bk rr ts0 news own ct _ _ he B F X N T D XB TB hdp hun hap R
  | ddot hw hks => with_reducible exact turn_ddot dp un gd cn cs a ccd cl outer base h₀ L L1 m s E path root l bk rr ts0 news own ct _ _ _ hw hks B F X N T D XB TB hdp hun hap R
  | dbr hw hks => with_reducible exact turn_dbr dp un gd cn cs a ccd cl outer base h₀ L L1 m s E path root l bk rr ts0 news own ct _ _ _ hw hks B F X N T D XB TB hdp hun hap R
  | bch hc he =>
    rcases hc with rfl | rfl
    · rw [show sg 42 = Str.ofString "*" by decide +kernel]; with_reducible exact turn_bch42 dp un gd cn cs a ccd cl outer base h₀ L L1 m s E path root l bk rr ts0 news own ct _ _ _ he B F X N T D XB TB hdp hun hap R
    · rw [show sg 51 = Str.ofString "3" by decide +kernel]; with_reducible exact turn_bch51 dp un gd cn cs a ccd cl outer base h₀ L L1 m s E path root l bk rr ts0 news own ct _ _ _ he B F X N T D XB TB hdp hun hap R
  | bq hc he =>
    rcases hc with rfl | rfl
    · rw [show sg 39 = Str.ofString "'" by decide +kernel]; with_reducible exact turn_bq39 dp un gd cn cs a ccd cl outer base h₀ L L1 m s E path root l bk rr ts0 news own ct _ _ _ he B F X N T D XB TB hdp hun hap R
    · rw [show sg 34 = Str.ofString "\"" by decide +kernel]; with_reducible exact turn_bq34 dp un gd cn cs a ccd cl outer base h₀ L L1 m s E path root l bk rr ts0 news own ct _ _ _ he B F X N T D XB TB hdp hun hap R
  | @bend _ _ b _ hw hks =>
    cases b
    · exact turn_bendfalse dp un gd cn cs a ccd cl outer base h₀ L L1 m s E path root l bk rr ts0 news own ct _ _ _ hw hks B F X N T D XB TB hdp hun hap R
    · exact turn_bendtrue dp un gd cn cs a ccd cl outer base h₀ L L1 m s E path root l bk rr ts0 news own ct _ _ _ hw hks B F X N T D XB TB hdp hun hap R
  | qend hc hw he hks =>
    rcases hc with rfl | rfl
    · rw [show sg 39 = Str.ofString "'" by decide +kernel] at hw; with_reducible exact turn_qend39 dp un gd cn cs a ccd cl outer base h₀ L L1 m s E path root l bk rr ts0 news own ct _ _ _ _ hw he hks B F X N T D XB TB hdp hun hap R
    · rw [show sg 34 = Str.ofString "\"" by decide +kernel] at hw; with_reducible exact turn_qend34 dp un gd cn cs a ccd cl outer base h₀ L L1 m s E path root l bk rr ts0 news own ct _ _ _ _ hw he hks B F X N T D XB TB hdp hun hap R
  | qch hq hc he =>
    rcases hc with rfl | rfl | rfl | rfl | rfl | rfl
    · rw [show sg 42 = Str.ofString "*" by decide +kernel]; with_reducible exact turn_qch42 dp un gd cn cs a ccd cl outer base h₀ L L1 m s E path root l bk rr ts0 news own ct _ _ _ _ he B F X N T D XB TB hdp hun hap R
    · rw [show sg 97 = Str.ofString "a" by decide +kernel]; with_reducible exact turn_qch97 dp un gd cn cs a ccd cl outer base h₀ L L1 m s E path root l bk rr ts0 news own ct _ _ _ _ he B F X N T D XB TB hdp hun hap R
    · rw [show sg 98 = Str.ofString "b" by decide +kernel]; with_reducible exact turn_qch98 dp un gd cn cs a ccd cl outer base h₀ L L1 m s E path root l bk rr ts0 news own ct _ _ _ _ he B F X N T D XB TB hdp hun hap R
    · rw [show sg 105 = Str.ofString "i" by decide +kernel]; with_reducible exact turn_qch105 dp un gd cn cs a ccd cl outer base h₀ L L1 m s E path root l bk rr ts0 news own ct _ _ _ _ he B F X N T D XB TB hdp hun hap R
    · rw [show sg 116 = Str.ofString "t" by decide +kernel]; with_reducible exact turn_qch116 dp un gd cn cs a ccd cl outer base h₀ L L1 m s E path root l bk rr ts0 news own ct _ _ _ _ he B F X N T D XB TB hdp hun hap R
    · rw [show sg 115 = Str.ofString "s" by decide +kernel]; with_reducible exact turn_qch115 dp un gd cn cs a ccd cl outer base h₀ L L1 m s E path root l bk rr ts0 news own ct _ _ _ _ he B F X N T D XB TB hdp hun hap R
  | qoth he => rw [show sg 39 = Str.ofString "'" by decide +kernel]; with_reducible exact turn_qoth dp un gd cn cs a ccd cl outer base h₀ L L1 m s E path root l bk rr ts0 news own ct _ _ _ he B F X N T D XB TB hdp hun hap R

end Mine
end
section
theorem Mine.off_Sc : True := by
  w_top off
  trivial
open PySem PySem.W PyProof.Rows
set_option Elab.async false
set_option linter.unusedVariables false
set_option linter.unusedSimpArgs false
set_option maxRecDepth 100000
namespace Mine

theorem allLt_ne {d : Nat} {l : List (Addr × Obj)} (h : AllLt d l) : ∀ p ∈ l, p.1 ≠ d := by
  induction l with
  | nil => intro p hp; cases hp
  | cons q r ih =>
    intro p hp
    rcases List.mem_cons.mp hp with rfl | hp
    · exact Nat.ne_of_lt h.1
    · exact ih h.2 p hp
theorem lookup_two {y a b : Str} {v w : Value} (ha : y ≠ a) (hb : y ≠ b) : List.lookup y [(a, v), (b, w)] = none := by
  rw [List.lookup_cons, List.lookup_cons, beq_eq_false_iff_ne.mpr ha, beq_eq_false_iff_ne.mpr hb]; rfl
theorem wd_pos {e : Str} {k : Nat} (h : Wd e 1 (some k)) : ((e.length : Int) != 0) = true := by
  rcases h with h | h | h | h | h | h | h | h | h | h | h | h <;> (obtain ⟨q, rfl, r⟩ := h; first | decide +kernel | (exfalso; revert q; decide))
theorem drop_cons {xs : List Nat} {i c : Nat} (h : xs[i]? = some c) : xs.drop i = c :: xs.drop (i + 1) := by
  obtain ⟨hi, e⟩ := List.getElem?_eq_some_iff.mp h
  rw [List.drop_eq_getElem_cons hi, e]
theorem stepS_mono {fs : List Addr} {A₀ : Around} {base : Heap} {outer : List Env} {L : Addr} {own : List (Addr × Obj)} {J J' : (Str → Option Value) → List (Addr × Obj) → Prop} {g : Heap} {s₁ s₂ : Shared} {f : Flow}
    (h : StepS fs A₀ base outer L own J g s₁ f s₂) (hJ : ∀ m n, J m n → J' m n) : StepS fs A₀ base outer L own J' g s₁ f s₂ := by
  obtain ⟨hf, g₂, h₂, tk, m₂, n₂, e, a, b, c, d, j⟩ := h
  exact ⟨hf, g₂, h₂, tk, m₂, n₂, e, a, b, c, d, hJ _ _ j⟩
local macro_rules | `(tactic| walk_at "ite") => `(tactic| (k_closed; first | (with_reducible refine' ite_pos ?c ?_; (case c => decide +kernel)) | (with_reducible refine' ite_neg ?c ?_; (case c => decide +kernel))))
local macro_rules | `(tactic| kxi_size) => `(tactic| with_reducible assumption)

set_option maxHeartbeats 4000000 in
theorem scan_ok : ∀ {w : World} {mean : ExcName → Option Value} {mg mb : Str → Option Value}
  (dp un : Nat) (gd : Option (List Code)) (cn : Str) (cs : Scope) (a : Addr) (ccd : Value) (cl : List (Str × Addr)) (outer : List Env) (A₀ : Around) (base h₀ : Heap) (L : Addr) (m : Str → Option Value) (s : Shared) (Q E : Value → Shared → Prop) (ts : List (Addr × Obj))
  (rr : Addr) (rx ry : Value) (u : Str) (tk : Tok) (hu : u.length ≤ sizeLine) (ks : List Nat) (hks : ks.length ≤ 20) (stF : PS) (hrun : Runs ⟨[], Str.ofString "", 0, false, none⟩ (Txt.slice u (some 4) none).cps.toList stF) (hfin : Fin stF ks)
  (B : Below A₀ base outer h₀) (F : Fr h₀ L s.heap m) (X : (hd.heap_39 (World.params w)).In h₀) (N : News h₀ L s.heap ((rr, { cls := .type "tuple", data := .seq #[rx, ry] }) :: ts)) (T : Top hd.view_39 (looseW hd.view_39 [Str.ofString "SINGLE_WILDCARD", Str.ofString "MULTI_WILDCARD", Str.ofString "DEFAULT_FIRST_ELEMENT", Str.ofString "_path_to_elements", Str.ofString "_WILDCARD_RE"]) mean mg mb h₀) (D : KtsDicts (outer.filterMap (·.frame)) h₀) (XB : (hd.heap_39 (World.params w)).In base) (TB : Top hd.view_39 (looseW hd.view_39 [Str.ofString "SINGLE_WILDCARD", Str.ofString "MULTI_WILDCARD", Str.ofString "DEFAULT_FIRST_ELEMENT", Str.ofString "_path_to_elements", Str.ofString "_WILDCARD_RE"]) mean mg mb base) (hk : cs.kind = .function)
  (hdp : dp + 30 < recursionLimit) (hun : un + 300 < cLine)
  (hret : ∀ (T : Addr) els rs h₀' h' tk', KtsTurn (outer.filterMap (·.frame)) h₀ h₀' → Fr h₀' L h' m → Below A₀ base outer h₀' → News h₀' L h' ((T, { cls := .type "tuple", data := .seq ((Value.ref rr) :: rs.map Value.ref).toArray }) :: (els ++ (rr, { cls := .type "tuple", data := .seq #[rx, ry] }) :: ts)) → Els els rs ks → Q (.ref T) { s with heap := h', toks := tk' }),
  wpC (model (RowW.prog (OpenRow.toRowW (OpenLaw.row PySem.Challenge.rw_fu0002_01))) w) (ktrTop dp un gd cn cs L a ccd cl outer) (call (.ref 95) [.str u tk] [(Str.ofString "root_element", .ref rr)]) Q E s := by
  intro w mean mg mb dp un gd cn cs a ccd cl outer A₀ base h₀ L m s Q E ts rr rx ry u tk hu ks hks stF hrun hfin B F X N T D XB TB hk hdp hun hret
  revert X
  k_fill
  intro X
  refine wpC_call ?_
  k_dflt (refine' defC ?k1 ?k2 ?k3 ?k4 ?k5 ?kD ?kA ?kF ?kK ?k6 ?k7 ?k8 ?k9 ?kB ?_ ?c2 ?c3 ?c4 ?c5; (case kA => exact rfl); (case kF => exact rfl); (case kK => assumption); (case k1 => k_asm); (case k2 => k_asm); (case k3 => k_asm); (case k4 => exact N); (case k5 => k_asm); (case kD => exact D); (case k6 => k_is); (case k7 => k_is); (case k8 => ktr_room); (case k9 => first | exact BindsTo.of_eq rfl | exact binds_K (by k_in) rfl (by k_is) rfl rfl rfl); (case c5 => decide); (case kB => exact locs rfl); (case c2 => exact rfl); (case c3 => exact rfl); (case c4 => exact rfl); k_whole; intro g' L' h' F' N' B' X' T' D'; (try dsimp only); (try k_fold))
  clear F X T
  iterate 10 (refine wpC_execs_plain ?_; k_steps)
  refine wpC_execs_cons (wpC_For_str (A₀ := ktrTop dp un gd cn cs L a ccd cl outer) (base := base) (outer := envX cn cs L a ccd cl :: outer) (h₀ := g') ?_ rfl (by rfl) (by rfl))
  k_steps
  rename Fr _ _ _ _ => F9
  rename News _ _ _ _ => N9
  rename (_ ∧ _ ∧ AllLt _ ts) => la1
  rename (_ ∧ _ ∧ _ ∧ AllLt _ ts) => la2
  obtain ⟨l, bk, path, te, tq, n, nb, F10, N10, hlb, hts⟩ : ∃ (l bk : Addr) (path : Value) (te tq : Tok) (n nb : Nat), Fr g' L' _ (pm none path (.ref rr) (.ref l) (.ref bk) (.str (Str.ofString "") te) (.bool false) (.bool false) (.str (Str.ofString "") tq) .none) ∧
      News g' L' _ ((l, W.listOf #[Value.ref rr] n) :: (bk, W.listOf #[] nb) :: ((rr, { cls := .type "tuple", data := .seq #[rx, ry] }) :: ts)) ∧ l ≠ bk ∧ ∀ p ∈ (rr, { cls := .type "tuple", data := .seq #[rx, ry] }) :: ts, p.1 ≠ l ∧ p.1 ≠ bk := by
    refine' ⟨_, _, _, _, _, _, _, fr_eq F9 ?zhm, news_sub N9 ?zhn, ?zlb, ?zts⟩
    case zhm => (intro y; by_cases h0 : y = Str.ofString "char"; (· subst h0; rfl); by_cases h1 : y = Str.ofString "prev_char"; (· subst h1; rfl); by_cases h2 : y = Str.ofString "elem"; (· subst h2; rfl); by_cases h3 : y = Str.ofString "inside"; (· subst h3; rfl); by_cases h4 : y = Str.ofString "inside_quotes"; (· subst h4; rfl); by_cases h5 : y = Str.ofString "quote_used"; (· subst h5; rfl); by_cases h6 : y = Str.ofString "brackets"; (· subst h6; rfl); by_cases h7 : y = Str.ofString "elements"; (· subst h7; rfl); by_cases h8 : y = Str.ofString "path"; (· subst h8; rfl); by_cases h9 : y = Str.ofString "root_element"; (· subst h9; rfl); (simp only [pm, if_neg h0, if_neg h1, if_neg h2, if_neg h3, if_neg h4, if_neg h5, if_neg h6, if_neg h7, if_neg h8, if_neg h9]; exact lookup_two h9 h8))
    case zhn =>
      refine' sub_two ?zm2 ?zm1 ?zt
      case zm2 => k_mem
      case zm1 => k_mem
      case zt => (intro q hq; repeat (first | exact hq | apply List.mem_cons_of_mem))
    case zlb => (refine neN ?_; omega)
    case zts =>
      refine List.forall_mem_cons.mpr ⟨⟨by (refine neN ?_; omega), by (refine neN ?_; omega)⟩, fun p hp => ⟨allLt_ne la1.2.2 p hp, allLt_ne la2.2.2.2 p hp⟩⟩
  clear F9 N9 la1 la2
  refine' ⟨_, _, _, _, (fun i m news => ∃ st, Runs st ((Txt.slice u (some 4) none).cps.toList.drop i) stF ∧ Rep path (.ref rr) l bk rr ((rr, { cls := .type "tuple", data := .seq #[rx, ry] }) :: ts) st m news), rfl, B', F10, N10, ⟨_, hrun, none, .none, te, tq, 0, 0, [], [], n, nb, rfl, .inl rfl, rfl, Els.nil, hlb, hts⟩, ?zno, ?zstep, ?zfin⟩
  case zno =>
    rintro i m' news' ⟨st, _, cv, pv, te, tq, ti, tb, rs, els, n, nb, rfl, _, rfl, hE, _, _⟩ p hp
    rcases List.mem_cons.mp hp with rfl | hp
    · exact .inr ⟨_, .head _, rfl⟩
    rcases List.mem_cons.mp hp with rfl | hp
    · exact .inr ⟨_, .tail _ (.head _), rfl⟩
    rcases List.mem_append.mp hp with hp | hp
    · refine .inl ⟨?_, ?_⟩ <;> (rw [hE.tup p hp]; intro q; injection q with q; exact absurd q (by decide))
    · exact .inr ⟨p, .tail _ (.tail _ hp), rfl⟩
  case zstep =>
    rintro i c ct m₁ news₁ g₁ h₁ tk₁ own hc ⟨st, hr, R⟩ hap KT₁ B₁ F₁ N₁
    rw [drop_cons (by rw [Array.getElem?_toList]; exact hc)] at hr
    cases hr with
    | cons t r =>
      refine wpC_mono (turn_any dp un gd cn cs a ccd cl outer base g₁ L L' m₁ _ _ path (.ref rr) l bk rr ((rr, { cls := .type "tuple", data := .seq #[rx, ry] }) :: ts) news₁ own ct _ _ c t B₁ F₁ (XB.keeps B₁.stays) N₁ (TB.keeps B₁.stays) (D'.turn KT₁) XB TB (by omega) (by omega) hap R) (fun f s₃ h₃ => stepS_mono h₃ fun m n R => ⟨_, r, R⟩) fun _ _ x => x
  case zfin =>
    rintro g₁ h₁ tk₁ m₁ news₁ KT₁ B₁ F₁ N₁ ⟨st, hr, R⟩
    rw [List.drop_eq_nil_of_le (by simp)] at hr
    cases hr
    dsimp only
    obtain ⟨cv, pv, te, tq, ti, tb, rs, els, n, nb, rfl, hpv, rfl, hE, hlb, hts⟩ := R
    have X₁ := XB.keeps B₁.stays
    have T₁ := TB.keeps B₁.stays
    have D₁ := D'.turn KT₁
    obtain ⟨ks0, e0, i0, b0, q0⟩ := stF
    rcases hfin with ⟨hk0, he0, hq0⟩ | ⟨k, hi0, hq0, hne, hw, hk0⟩
    · dsimp only at hk0 he0 hq0 F₁ N₁ hE
      subst hk0 he0 hq0
      (try clear B'); (try clear F10); (try clear N10); (try clear X'); (try clear T')
      refine wpC.of ?_
      k_steps
      refine kde_tupleOf F₁ N₁ ⟨_, (N₁ _ (.head _)).1, rfl, _, rfl⟩ (by simp [hE.len]; omega) rfl fun T2 h2 F2 N2 _ => ?_
      refine leaveC_ F2 N2 KT₁ ?_
      intro h₀' KT2 F3 N3 B3
      exact hret T2 els rs h₀' _ _ KT2 F3 B3 (news_sub N3 fun p hp => by
        rcases List.mem_cons.mp hp with rfl | hp
        · exact .head _
        · exact .tail _ (.tail _ (.tail _ hp))) hE
    · dsimp only at hk0 hi0 hq0 hne hw F₁ N₁ hE
      subst hk0 hi0 hq0
      have hks' : ks0.length ≤ 19 := by simpa using hks
      (try clear B'); (try clear F10); (try clear N10); (try clear X'); (try clear T')
      simp only [insV] at F₁
      refine wpC_execs_cons (wpC_If ?_)
      k_steps
      refine P.truthy_str (by have := wd_len hw; omega) ?_
      rw [wd_pos hw, if_pos rfl]
      refine wpC_execs_cons (wpC_Expr ?_)
      refine wpC_Call ?_
      k_steps
      refine' rest_def ?zho ?zhd ?_
      case zho => exact (Frag.In.keeps X₁ (Fr.keep (by k_asm))) _ _ (by k_is)
      case zhd => rfl
      dsimp only [List.nil_append]
      refine add_any _ _ _ _ _ _ _ _ _ _ _ _ _ _ _ _ _ _ l _ n _ ti (by simp [hE.len]; omega) (List.forall_mem_cons.mpr ⟨Ne.symm hlb, fun p hp => (hts p hp).1⟩) B₁ F₁ X₁ N₁ T₁ D₁ XB TB rfl (by show dp + 1 + 10 < recursionLimit; omega) (by show un + 3 + 100 < cLine; omega) _ 1 (some k) hw ?_
      intro els2 vs2 n2 g2 h2 tk2 KT2 F2 B2 N2 G2
      obtain ⟨rs2, hE2, rfl⟩ := hE.grow rr rfl G2
      (try clear F₁); (try clear N₁); (try clear B₁); (try clear X₁); (try clear T₁)
      have X2 := XB.keeps B2.stays
      have T2 := TB.keeps B2.stays
      (try dsimp only)
      repeat (refine wpC_execs_nil ?_; dsimp only)
      refine wpC.of ?_
      k_steps
      refine kde_tupleOf F2 N2 ⟨_, (N2 _ (List.mem_append_right _ (.head _))).1, rfl, _, rfl⟩ (by have := hE2.len; simp at this ⊢; omega) rfl fun T2 h2 F2 N2 _ => ?_
      refine leaveC_ F2 N2 (KT₁.trans KT2) ?_
      intro h₀' KT2 F3 N3 B3
      exact hret T2 (els2 ++ els) rs2 h₀' _ _ KT2 F3 B3 (news_sub N3 fun p hp => by
        rcases List.mem_cons.mp hp with rfl | hp
        · exact .head _
        · refine List.mem_cons_of_mem _ ?_
          simp only [List.mem_append, List.mem_cons] at hp ⊢
          rcases hp with (h | h) | h | h
          · exact .inl h
          · exact .inr (.inr (.inr (.inl h)))
          · exact .inr (.inr (.inr (.inr (.inl h))))
          · exact .inr (.inr (.inr (.inr (.inr h))))) hE2

end Mine
end
section
theorem Mine.off_Ml : True := by
  w_top off
  trivial
open PySem PySem.W PyProof.Rows PyProof.V
set_option Elab.async false
set_option linter.unusedVariables false
set_option linter.unusedSimpArgs false
set_option maxRecDepth 100000
namespace Mine
/-- a beginning of the pattern fits the whole path -/
noncomputable def cdl : List Nat → List Nat → Bool
  | p, [] => !p.isEmpty
  | [], _ :: _ => false
  | k :: p, j :: t => if k = 1 then cdl p (j :: t) || cdl (k :: p) t else if k = 0 then cdl p t else k == j && cdl p t
termination_by p t => p.length + t.length
/-- the matcher's dict of attributes -/
def mDict (w : World) (t1 t2 : Tok) (v1 v2 : Value) : Obj := dictOf [⟨PyData.keyHash w.params (Str.ofString "original_pattern"), .str (Str.ofString "original_pattern") t1, v1⟩, ⟨PyData.keyHash w.params (Str.ofString "_pattern"), .str (Str.ofString "_pattern") t2, v2⟩] 2
abbrev tupObj (vs : Array Value) : Obj := { cls := .type "tuple", data := .seq vs }
/-- the elements of a tuple, by the kinds of steps -/
structure ElAt (news : List (Addr × Obj)) (prs : Array Value) (ks : List Nat) : Prop where
  size : prs.size = ks.length
  at_ : ∀ (i k : Nat), ks[i]? = some k → ∃ r x act, prs[i]? = some (.ref r) ∧ (r, elObj x act) ∈ news ∧ KRep k x
theorem ElAt.sub {news news' : List (Addr × Obj)} {prs : Array Value} {ks : List Nat} (H : ElAt news prs ks) (s : ∀ p ∈ news, p.2.cls = .type "tuple" → p ∈ news') : ElAt news' prs ks :=
  ⟨H.size, fun i k h => let ⟨r, x, act, a, b, c⟩ := H.at_ i k h; ⟨r, x, act, a, s _ b rfl, c⟩⟩
/-- the memo says what the plain function says -/
def Memo (f : Nat → Nat → Bool) (D : List (PyData × PyData)) : Prop := ∀ (p t : Nat) dv, Spec.lookup (encTuple PyData.int [(p : Int), (t : Int)]) D = some dv → dv = .bool (f p t)
theorem Memo.put {f : Nat → Nat → Bool} {D : List (PyData × PyData)} (H : Memo f D) (p t : Nat) : Memo f (putD (encTuple PyData.int [(p : Int), (t : Int)]) (.bool (f p t)) D) := fun p' t' dv h => by
  rw [lookup_putK (keyEnc_tuple keyEnc_int)] at h
  split at h
  · rename_i e
    simp only [List.cons.injEq, Int.ofNat_inj, and_true] at e
    obtain ⟨rfl, rfl⟩ := e
    exact (Option.some.inj h).symm
  · exact H p' t' dv h
section
variable {prog : Program} {w : World} {A : Around} {s : Shared} {E : Value → Shared → Prop} {g : Heap} {L : Addr} {news : List (Addr × Obj)} {Q : Value → Shared → Prop}
theorem tup_is {h : Heap} {t : Addr} {vs : Array Value} (N : News g L h news) (hm : (t, tupObj vs) ∈ news) : IsTup h t vs := ⟨_, (N _ hm).1, rfl, _, rfl⟩
noncomputable def KS (k : Nat) : Str := if k = 2 then Str.ofString "a" else if k = 3 then Str.ofString "b" else if k = 5 then Str.ofString "*" else Str.ofString "it's"
theorem krep_two {k : Nat} {x : Value} (h : KRep k x) (k2 : 2 ≤ k) : ((k = 2 ∨ k = 3 ∨ k = 5 ∨ k = 6) ∧ ∃ u, x = .str (KS k) u) ∨ (k = 4 ∧ ∃ u, x = .int 3 u) := by
  rcases h with ⟨rfl, _⟩ | ⟨rfl, _⟩ | ⟨rfl, u, rfl⟩ | ⟨rfl, u, rfl⟩ | ⟨rfl, u, rfl⟩ | ⟨rfl, u, rfl⟩ | ⟨rfl, u, rfl⟩
  · omega
  · omega
  · exact .inl ⟨.inl rfl, u, rfl⟩
  · exact .inl ⟨.inr (.inl rfl), u, rfl⟩
  · exact .inr ⟨rfl, u, rfl⟩
  · exact .inl ⟨.inr (.inr (.inl rfl)), u, rfl⟩
  · exact .inl ⟨.inr (.inr (.inr rfl)), u, rfl⟩
theorem ks_ne {k j : Nat} (hk : k = 2 ∨ k = 3 ∨ k = 5 ∨ k = 6) (hj : j = 2 ∨ j = 3 ∨ j = 5 ∨ j = 6) : (KS k != KS j) = (k != j) := by
  rcases hk with rfl | rfl | rfl | rfl <;> rcases hj with rfl | rfl | rfl | rfl <;> decide +kernel
theorem ne_kinds {k j : Nat} {x y : Value} (hk : KRep k x) (hj : KRep j y) (k2 : 2 ≤ k) (j2 : 2 ≤ j) (h : Q (.bool (k != j)) s) : wpAny (model prog w) A (compareOp .NotEq x y) Q E s := by
  rcases krep_two hk k2 with ⟨hk', u, rfl⟩ | ⟨rfl, u, rfl⟩ <;> rcases krep_two hj j2 with ⟨hj', v, rfl⟩ | ⟨rfl, v, rfl⟩
  · refine ne_str ?_
    rw [ks_ne hk' hj']; exact h
  · refine EqMixed.ne_str_int ?_
    rw [show (k != 4) = true from bne_iff_ne.mpr (by omega)] at h; exact h
  · refine EqMixed.ne_int_str ?_
    rw [show (4 != j) = true from bne_iff_ne.mpr (by omega)] at h; exact h
  · refine ne_int ?_
    exact h
theorem is_run {k : Nat} {x : Value} (hk : KRep k x) {o1 o2 : Obj} (h75 : s.heap.get? 75 = some o1) (h78 : s.heap.get? 78 = some o2) (hc : o1.cls ≠ .type "tuple") (h : Q (.bool (k == 1)) s) : wpAny (model prog w) A (compareOp .Is x (.ref 78)) Q E s := by
  rcases hk with ⟨rfl, rfl⟩ | ⟨rfl, rfl⟩ | ⟨rfl, u, rfl⟩ | ⟨rfl, u, rfl⟩ | ⟨rfl, u, rfl⟩ | ⟨rfl, u, rfl⟩ | ⟨rfl, u, rfl⟩
  · exact wpAny_is_ref_other (by decide) h75 h78 hc h
  · exact wpAny_is_ref_self h
  all_goals exact wpAny_is_other (by rfl) (by intro q; cases q) h
theorem is_one {k : Nat} {x : Value} (hk : KRep k x) {o1 o2 : Obj} (h75 : s.heap.get? 75 = some o1) (h78 : s.heap.get? 78 = some o2) (hc : o2.cls ≠ .type "tuple") (h : Q (.bool (k == 0)) s) : wpAny (model prog w) A (compareOp .Is x (.ref 75)) Q E s := by
  rcases hk with ⟨rfl, rfl⟩ | ⟨rfl, rfl⟩ | ⟨rfl, u, rfl⟩ | ⟨rfl, u, rfl⟩ | ⟨rfl, u, rfl⟩ | ⟨rfl, u, rfl⟩ | ⟨rfl, u, rfl⟩
  · exact wpAny_is_ref_self h
  · exact wpAny_is_ref_other (by decide) h78 h75 hc h
  all_goals exact wpAny_is_other (by rfl) (by intro q; cases q) h
end
end Mine
end
section
theorem Mine.off_Cd : True := by
  w_top off
  trivial
open PySem PySem.W PyProof.Rows
set_option Elab.async false
set_option linter.unusedVariables false
set_option linter.unusedSimpArgs false
set_option maxRecDepth 100000
namespace Mine

open PyProof.V
local macro_rules | `(tactic| k_mem) => `(tactic| assumption)
local macro_rules | `(tactic| walk_at "ite") => `(tactic| (k_closed; first | (with_reducible refine' ite_pos ?c ?_; (case c => decide +kernel)) | (with_reducible refine' ite_neg ?c ?_; (case c => decide +kernel))))
local macro_rules | `(tactic| k_all) => `(tactic| with_reducible assumption)
local macro_rules | `(tactic| walk_at "call builtin:len") => `(tactic| (k_here; (with_reducible show wpAny _ _ (call (Value.builtin "len") [Value.ref _]) _ _ _); k_dflt (refine len_tuple (tup_is (by k_asm) (by k_mem)) (by with_reducible assumption) ?_)))
local macro_rules | `(tactic| walk_at "subscriptTail Name Name ref int") => `(tactic| (k_here; (with_reducible show wpAny _ _ (subscriptTail _ _ (Value.ref _) (Value.int _ _)) _ _ _); k_dflt (refine item_tuple (tup_is (by k_asm) (by k_mem)) (by omega) (by omega) (seqIndex_of (by omega) (by omega)) (by with_reducible assumption) ?_)))
local macro_rules | `(tactic| walk_at "subscriptTail Subscript Name Name Constant ref int") => `(tactic| (k_here; (with_reducible show wpAny _ _ (subscriptTail _ _ (Value.ref _) (Value.int 0 _)) _ _ _); k_dflt (refine item_tuple (items := #[_, _]) (tup_is (by k_asm) (by k_mem)) (by decide) (by decide) (by rfl) (by rfl) ?_)))
local macro_rules | `(tactic| walk_at "compareOp Is") => `(tactic| (k_here; (first
  | (refine' is_run ?a ?b ?c ?d ?_; (case a => assumption); (case b => exact (Frag.In.keeps (by k_asm) (Fr.keep (by k_asm))) _ _ (by k_is)); (case c => exact (Frag.In.keeps (by k_asm) (Fr.keep (by k_asm))) _ _ (by k_is)); (case d => (intro q; cases q)))
  | (refine' is_one ?a ?b ?c ?d ?_; (case a => assumption); (case b => exact (Frag.In.keeps (by k_asm) (Fr.keep (by k_asm))) _ _ (by k_is)); (case c => exact (Frag.In.keeps (by k_asm) (Fr.keep (by k_asm))) _ _ (by k_is)); (case d => (intro q; cases q))))))
local macro_rules | `(tactic| walk_at "compareOp NotEq") => `(tactic| (k_here; refine' ne_kinds ?a ?b ?c ?d ?_; (case a => assumption); (case b => assumption); (case c => omega); (case d => omega)))

theorem len_putD (k v : PyData) (D : List (PyData × PyData)) : (putD k v D).length ≤ D.length + 1 := by
  unfold putD
  split <;> simp
theorem drop_at {xs : List Nat} {i : Nat} (h : i < xs.length) : xs.drop i = xs[i] :: xs.drop (i + 1) := List.drop_eq_getElem_cons h
theorem cdl_run {ps tg : List Nat} {pi ti : Nat} (hp : pi < ps.length) (ht : ti < tg.length) (h : ps[pi] = 1) : cdl (ps.drop pi) (tg.drop ti) = (cdl (ps.drop (pi + 1)) (tg.drop ti) || cdl (ps.drop pi) (tg.drop (ti + 1))) := by
  rw [drop_at hp, drop_at ht, cdl, if_pos h]
theorem cdl_one {ps tg : List Nat} {pi ti : Nat} (hp : pi < ps.length) (ht : ti < tg.length) (h : ps[pi] = 0) : cdl (ps.drop pi) (tg.drop ti) = cdl (ps.drop (pi + 1)) (tg.drop (ti + 1)) := by
  rw [drop_at hp, drop_at ht, cdl, if_neg (by omega), if_pos h]
theorem cdl_key {ps tg : List Nat} {pi ti : Nat} (hp : pi < ps.length) (ht : ti < tg.length) (h : 2 ≤ ps[pi]) : cdl (ps.drop pi) (tg.drop ti) = (ps[pi] == tg[ti] && cdl (ps.drop (pi + 1)) (tg.drop (ti + 1))) := by
  rw [drop_at hp, drop_at ht, cdl, if_neg (by omega), if_neg (by omega)]
theorem tab_ne {prog : Program} {w : World} {K : Type} [DecidableEq K] {knd : KeyKind prog w K} {enc : K → PyData} {g h : Heap} {L d : Addr} {news : List (Addr × Obj)} {D : List (PyData × PyData)} (N : News g L h news) (T : TupTab knd enc news d D) :
    ∀ p ∈ news, p.2.cls = .type "tuple" → p.1 ≠ d := fun p hp hc => by
  obtain ⟨lo, o, es, ep, xs, hm, hx, _⟩ := T
  refine news_ne N hp hm ?_
  rw [hc, hx.1]
  intro q; injection q with q; exact absurd q (by decide)
theorem tab_mem {prog : Program} {w : World} {K : Type} [DecidableEq K] {knd : KeyKind prog w K} {enc : K → PyData} {d : Addr} {news : List (Addr × Obj)} {D : List (PyData × PyData)} (T : TupTab knd enc news d D) : ∃ o, (d, o) ∈ news := by
  obtain ⟨lo, o, es, ep, xs, hm, _⟩ := T
  exact ⟨o, hm⟩

def CdSt (n : Nat) : Prop := ∀ {w : World} {mean : ExcName → Option Value} {mg mb : Str → Option Value}
  (dp un : Nat) (gd : Option (List Code)) (cn : Str) (cs : Scope) (a : Addr) (ccd : Value) (cl : List (Str × Addr)) (outer : List Env) (A₀ : Around) (base h₀ : Heap) (L : Addr) (m : Str → Option Value) (s : Shared) (Q E : Value → Shared → Prop)
  (mm dd PT TT dm : Addr) (t1 t2 tp tt : Tok) (v1 : Value) (ps tg : List Nat) (prs trs : Array Value) (news : List (Addr × Obj)) (D0 : List (PyData × PyData)) (pi ti : Nat) 
  (B : Below A₀ base outer h₀) (F : Fr h₀ L s.heap m) (X : (hd.heap_39 (World.params w)).In h₀) (N : News h₀ L s.heap news) (T : Top hd.view_39 (looseW hd.view_39 [Str.ofString "SINGLE_WILDCARD", Str.ofString "MULTI_WILDCARD", Str.ofString "DEFAULT_FIRST_ELEMENT", Str.ofString "_path_to_elements", Str.ofString "_WILDCARD_RE"]) mean mg mb h₀) (hk : cs.kind = .function)
  (hdp : dp + n + 10 < recursionLimit) (hun : un + 8 * n + 100 < cLine)
  (hm1 : (mm, instObj 159 dd) ∈ news) (hm2 : (dd, mDict w t1 t2 v1 (.ref PT)) ∈ news) (hm3 : (PT, tupObj prs) ∈ news) (hm4 : (TT, tupObj trs) ∈ news) (hdd : dd ≠ dm) (hmd : mm ≠ dm)
  (hP : ElAt news prs ps) (hT : ElAt news trs tg) (hps : ∀ k ∈ ps, k < 7) (htg : ∀ k ∈ tg, 2 ≤ k ∧ k < 7) (hpl : ps.length ≤ 20) (htl : tg.length ≤ 20)
  (TB0 : TupTab (intKind (RowW.prog (OpenRow.toRowW (OpenLaw.row PySem.Challenge.rw_fu0002_01))) w) PyData.int news dm D0) (hM : Memo (fun p t => cdl (ps.drop p) (tg.drop t)) D0) (hD : D0.length + 2 ^ (n + 1) ≤ 200000) (hpi : pi ≤ ps.length) (hti : ti ≤ tg.length) (hn : (ps.length - pi) + (tg.length - ti) ≤ n)
  (hret : ∀ h' tk' news₂ D₂, Fr h₀ L h' m → News h₀ L h' news₂ → (∀ p ∈ news, p.1 ≠ dm → p ∈ news₂) → TupTab (intKind (RowW.prog (OpenRow.toRowW (OpenLaw.row PySem.Challenge.rw_fu0002_01))) w) PyData.int news₂ dm D₂ → Memo (fun p t => cdl (ps.drop p) (tg.drop t)) D₂ → D₂.length < D0.length + 2 ^ (n + 1) → Q (.bool ((fun p t => cdl (ps.drop p) (tg.drop t)) pi ti)) { s with heap := h', toks := tk' }),
  wpAny (model (RowW.prog (OpenRow.toRowW (OpenLaw.row PySem.Challenge.rw_fu0002_01))) w) (ktrTop dp un gd cn cs L a ccd cl outer) (call (.ref 156) [.ref mm, .ref TT, .int pi tp, .int ti tt, .ref dm] []) Q E s

set_option maxHeartbeats 4000000 in
theorem cd_ok : ∀ (n : Nat), CdSt n := by
  intro n
  induction n using Nat.strongRecOn with
  | _ n ih =>
  intro w mean mg mb dp un gd cn cs a ccd cl outer A₀ base h₀ L m s Q E mm dd PT TT dm t1 t2 tp tt v1 ps tg prs trs news D0 pi ti B F X N T hk hdp hun hm1 hm2 hm3 hm4 hdd hmd hP hT hps htg hpl htl TB0 hM hD hpi hti hn hret
  have hszP : (prs.size : Int) < 2 ^ 63 := by have := hP.size; omega
  have hszT : (trs.size : Int) < 2 ^ 63 := by have := hT.size; omega
  have eP := hP.size
  have eT := hT.size
  have hpow : 2 ≤ 2 ^ (n + 1) := by have := @Nat.one_le_two_pow n; rw [Nat.pow_succ]; omega
  revert X
  k_fill
  intro X
  refine wpAny_call ?_
  k_dflt (refine' defA ?k1 ?k2 ?k3 ?k4 ?k5 ?kA ?kF ?kK ?k6 ?k7 ?k8 ?k9 ?kB ?_ ?c2 ?c3 ?c4 ?c5; (case kA => exact rfl); (case kF => exact rfl); (case kK => assumption); (case k1 => k_asm); (case k2 => k_asm); (case k3 => k_asm); (case k4 => exact N); (case k5 => k_asm); (case k6 => k_is); (case k7 => k_is); (case k8 => ktr_room); (case k9 => first | exact BindsTo.of_eq rfl | exact binds_K (by k_in) rfl (by k_is) rfl rfl rfl); (case c5 => decide); (case kB => exact locs rfl); (case c2 => exact rfl); (case c3 => exact rfl); (case c4 => exact rfl); k_whole; intro g' L' h' F' N' B' X' T'; (try dsimp only); (try k_fold))
  clear B F X T
  
  k_steps
  · obtain ⟨dv, hdv⟩ := Option.isSome_iff_exists.mp (by assumption : Option.isSome (Spec.lookup (encTuple PyData.int [(pi : Int), (ti : Int)]) D0) = true)
    obtain rfl := hM pi ti dv hdv
    rename News _ _ _ _ => N9
    rename Fr _ _ _ _ => F9
    refine item_tupTab (knd := intKind _ _) (enc := PyData.int) same_int (by show un + 3 + 1 < cLine; omega) N9 (TupTab.cons (by assumption) _) (.head _) (TupKeyObj.made (ItemsAre.cons (intKind_is _ _ _ _) (ItemsAre.cons (intKind_is _ _ _ _) ItemsAre.nil))) hdv (fun v hv => ?_)
    rw [Flat.bool_inv hv]
    dsimp only
    refine leaveK_ F9 N9 ?_
    intro F2 N2
    exact hret _ _ _ D0 F2 N2 (fun p hp _ => .tail _ hp) (TupTab.cons (by assumption) _) hM (by omega)
  · dsimp only
    rename News _ _ _ _ => N9
    rename Fr _ _ _ _ => F9
    rename (∀ p ∈ _, _ → p ∈ _) => K9
    rename TupTab _ _ _ _ _ => T9
    refine leaveK_ F9 N9 ?_
    intro F2 N2
    have e : decide ((pi : Int) < (prs.size : Int)) = cdl (ps.drop pi) (tg.drop ti) := by
      rw [List.drop_eq_nil_of_le (as := tg) (by omega)]
      simp [cdl, eP, List.isEmpty_iff]
      by_cases h : pi < ps.length <;> simp [h] <;> omega
    rw [e] at T9 ⊢
    exact hret _ _ _ _ F2 N2 (fun p hp h => K9 p (.tail _ hp) h) T9 (hM.put pi ti) (Nat.lt_of_le_of_lt (len_putD _ _ _) (by omega))
  · dsimp only
    rename News _ _ _ _ => N9
    rename Fr _ _ _ _ => F9
    rename (∀ p ∈ _, _ → p ∈ _) => K9
    rename TupTab _ _ _ _ _ => T9
    refine leaveK_ F9 N9 ?_
    intro F2 N2
    have e : false = cdl (ps.drop pi) (tg.drop ti) := by
      rw [List.drop_eq_nil_of_le (as := ps) (by omega), drop_at (xs := tg) (by omega)]
      rw [cdl]
    rw [e] at T9 ⊢
    exact hret _ _ _ _ F2 N2 (fun p hp h => K9 p (.tail _ hp) h) T9 (hM.put pi ti) (Nat.lt_of_le_of_lt (len_putD _ _ _) (by omega))
  · have hpi' : pi < ps.length := by omega
    have hti' : ti < tg.length := by omega
    obtain ⟨r, x, act, hr, hrm, hk⟩ := hP.at_ pi ps[pi] (by simp [hpi'])
    obtain ⟨r2, y, act2, hr2, hrm2, hk2⟩ := hT.at_ ti tg[ti] (by simp [hti'])
    have hr' : prs[((pi : Int)).toNat]? = some (.ref r) := hr
    have hr2' : trs[((ti : Int)).toNat]? = some (.ref r2) := hr2
    have hj2 := (htg tg[ti] (List.getElem_mem hti')).1
    have hpow2 : 2 ^ (n + 1) = 2 * 2 ^ (n - 1 + 1) := by rw [show n - 1 + 1 = n by omega, Nat.pow_succ]; omega
    have hpow3 : 1 ≤ 2 ^ (n - 1 + 1) := Nat.one_le_two_pow
    rename TupTab _ _ news _ D0 => TB8
    k_steps
    · have hk1 : ps[pi] = 1 := beq_iff_eq.mp (by assumption)
      rename News _ _ _ (_ :: news) => N8
      rename (∀ p ∈ news, p.1 < _) => l8
      have kd8 := Nat.ne_of_gt (l8 _ (tab_mem TB8).choose_spec)
      refine' ih (n - 1) (by omega) _ _ _ _ _ _ _ _ _ _ _ _ _ _ _ _ _ mm dd PT TT dm t1 t2 _ _ v1 ps tg prs trs _ _ (pi + 1) (ti) ?zB ?zF ?zX ?zN ?zT rfl ?zdp ?zun ?zm1 ?zm2 ?zm3 ?zm4 hdd hmd ?zP ?zT2 hps htg hpl htl ?zTB ?zM ?zD ?zpi ?zti ?zn ?zret
      case zB => assumption
      case zF => k_asm
      case zX => assumption
      case zN => assumption
      case zT => assumption
      case zdp => (show dp + 1 + (n - 1) + 10 < recursionLimit; omega)
      case zun => (show un + 3 + 8 * (n - 1) + 100 < cLine; omega)
      case zm1 => k_mem
      case zm2 => k_mem
      case zm3 => k_mem
      case zm4 => k_mem
      case zP => first | assumption | exact hP.sub (fun p hp _ => .tail _ hp)
      case zT2 => first | assumption | exact hT.sub (fun p hp _ => .tail _ hp)
      case zTB => first | assumption | exact TupTab.cons (by assumption) _
      case zM => assumption
      case zD => omega
      case zpi => omega
      case zti => omega
      case zn => omega
      case zret =>
      intro h1 tk1 news1 D1 F1 N1 K1 TB1 M1 hD1
      have sub1 : ∀ p ∈ news, p.2.cls = .type "tuple" → p ∈ news1 := fun p hp hc => K1 p (.tail _ hp) (tab_ne (fun p hp => N8 p (.tail _ hp)) TB8 p hp hc)
      have hky1 := K1 _ (List.mem_cons_self ..) kd8
      have km1 : ∀ p ∈ news, p.1 ≠ dm → p ∈ news1 := fun p hp h => K1 p (.tail _ hp) h
      have a11 := km1 _ hm1 hmd
      have a21 := km1 _ hm2 hdd
      have a31 := sub1 _ hm3 rfl
      have a41 := sub1 _ hm4 rfl
      have a51 := sub1 _ hrm rfl
      have a61 := sub1 _ hrm2 rfl
      have hP1 := hP.sub sub1
      have hT1 := hT.sub sub1
      (try dsimp only)
      k_steps
      · dsimp only
        rename News _ _ _ _ => N9
        rename Fr _ _ _ _ => F9
        rename (∀ p ∈ _, _ → p ∈ _) => K9
        rename TupTab _ _ _ _ _ => T9
        refine leaveK_ F9 N9 ?_
        intro F2 N2
        have e : cdl (ps.drop (pi + 1)) (tg.drop ti) = cdl (ps.drop pi) (tg.drop ti) := by
          rw [cdl_run hpi' hti' hk1, (by assumption : cdl (ps.drop (pi + 1)) (tg.drop ti) = true)]; rfl
        rw [e] at T9 ⊢
        exact hret _ _ _ _ F2 N2 (fun p hp h => K9 p (km1 p hp h) h) T9 (M1.put pi ti) (Nat.lt_of_le_of_lt (len_putD _ _ _) (by omega))
      · refine' ih (n - 1) (by omega) _ _ _ _ _ _ _ _ _ _ _ _ _ _ _ _ _ mm dd PT TT dm t1 t2 _ _ v1 ps tg prs trs _ _ (pi) (ti + 1) ?zB ?zF ?zX ?zN ?zT rfl ?zdp ?zun ?zm1 ?zm2 ?zm3 ?zm4 hdd hmd ?zP ?zT2 hps htg hpl htl ?zTB ?zM ?zD ?zpi ?zti ?zn ?zret
        case zB => assumption
        case zF => k_asm
        case zX => assumption
        case zN => assumption
        case zT => assumption
        case zdp => (show dp + 1 + (n - 1) + 10 < recursionLimit; omega)
        case zun => (show un + 3 + 8 * (n - 1) + 100 < cLine; omega)
        case zm1 => k_mem
        case zm2 => k_mem
        case zm3 => k_mem
        case zm4 => k_mem
        case zP => first | assumption | exact hP.sub (fun p hp _ => .tail _ hp)
        case zT2 => first | assumption | exact hT.sub (fun p hp _ => .tail _ hp)
        case zTB => first | assumption | exact TupTab.cons (by assumption) _
        case zM => assumption
        case zD => omega
        case zpi => omega
        case zti => omega
        case zn => omega
        case zret =>
        intro h2 tk2 news2 D2 F2 N2 K2 TB2 M2 hD2
        have sub2 : ∀ p ∈ news1, p.2.cls = .type "tuple" → p ∈ news2 := fun p hp hc => K2 p hp (tab_ne N1 TB1 p hp hc)
        have hky2 := sub2 _ hky1 rfl
        have km2 : ∀ p ∈ news, p.1 ≠ dm → p ∈ news2 := fun p hp h => K2 p (km1 p hp h) h
        (try dsimp only)
        k_steps
        dsimp only
        rename News _ _ _ _ => N9
        rename Fr _ _ _ _ => F9
        rename (∀ p ∈ _, _ → p ∈ _) => K9
        rename TupTab _ _ _ _ _ => T9
        refine leaveK_ F9 N9 ?_
        intro F2 N2
        have e : cdl (ps.drop pi) (tg.drop (ti + 1)) = cdl (ps.drop pi) (tg.drop ti) := by
          rw [cdl_run hpi' hti' hk1, (by assumption : cdl (ps.drop (pi + 1)) (tg.drop ti) = false)]; rfl
        rw [e] at T9 ⊢
        exact hret _ _ _ _ F2 N2 (fun p hp h => K9 p (km2 p hp h) h) T9 (M2.put pi ti) (Nat.lt_of_le_of_lt (len_putD _ _ _) (by omega))
    · have hk1 : ps[pi] = 0 := beq_iff_eq.mp (by assumption)
      rename News _ _ _ (_ :: news) => N8
      rename (∀ p ∈ news, p.1 < _) => l8
      have kd8 := Nat.ne_of_gt (l8 _ (tab_mem TB8).choose_spec)
      refine' ih (n - 1) (by omega) _ _ _ _ _ _ _ _ _ _ _ _ _ _ _ _ _ mm dd PT TT dm t1 t2 _ _ v1 ps tg prs trs _ _ (pi + 1) (ti + 1) ?zB ?zF ?zX ?zN ?zT rfl ?zdp ?zun ?zm1 ?zm2 ?zm3 ?zm4 hdd hmd ?zP ?zT2 hps htg hpl htl ?zTB ?zM ?zD ?zpi ?zti ?zn ?zret
      case zB => assumption
      case zF => k_asm
      case zX => assumption
      case zN => assumption
      case zT => assumption
      case zdp => (show dp + 1 + (n - 1) + 10 < recursionLimit; omega)
      case zun => (show un + 3 + 8 * (n - 1) + 100 < cLine; omega)
      case zm1 => k_mem
      case zm2 => k_mem
      case zm3 => k_mem
      case zm4 => k_mem
      case zP => first | assumption | exact hP.sub (fun p hp _ => .tail _ hp)
      case zT2 => first | assumption | exact hT.sub (fun p hp _ => .tail _ hp)
      case zTB => first | assumption | exact TupTab.cons (by assumption) _
      case zM => assumption
      case zD => omega
      case zpi => omega
      case zti => omega
      case zn => omega
      case zret =>
      intro h1 tk1 news1 D1 F1 N1 K1 TB1 M1 hD1
      have sub1 : ∀ p ∈ news, p.2.cls = .type "tuple" → p ∈ news1 := fun p hp hc => K1 p (.tail _ hp) (tab_ne (fun p hp => N8 p (.tail _ hp)) TB8 p hp hc)
      have hky1 := K1 _ (List.mem_cons_self ..) kd8
      have km1 : ∀ p ∈ news, p.1 ≠ dm → p ∈ news1 := fun p hp h => K1 p (.tail _ hp) h
      have a11 := km1 _ hm1 hmd
      have a21 := km1 _ hm2 hdd
      have a31 := sub1 _ hm3 rfl
      have a41 := sub1 _ hm4 rfl
      have a51 := sub1 _ hrm rfl
      have a61 := sub1 _ hrm2 rfl
      have hP1 := hP.sub sub1
      have hT1 := hT.sub sub1
      (try dsimp only)
      k_steps
      dsimp only
      rename News _ _ _ _ => N9
      rename Fr _ _ _ _ => F9
      rename (∀ p ∈ _, _ → p ∈ _) => K9
      rename TupTab _ _ _ _ _ => T9
      refine leaveK_ F9 N9 ?_
      intro F2 N2
      have e : cdl (ps.drop (pi + 1)) (tg.drop (ti + 1)) = cdl (ps.drop pi) (tg.drop ti) := by
        rw [cdl_one hpi' hti' hk1]
      rw [e] at T9 ⊢
      exact hret _ _ _ _ F2 N2 (fun p hp h => K9 p (km1 p hp h) h) T9 (M1.put pi ti) (Nat.lt_of_le_of_lt (len_putD _ _ _) (by omega))
    · have hk1 : 2 ≤ ps[pi] := by
        have q1 : ¬ ps[pi] = 1 := beq_eq_false_iff_ne.mp (by assumption)
        have q2 : ¬ ps[pi] = 0 := beq_eq_false_iff_ne.mp (by assumption)
        omega
      k_steps
      · dsimp only
        rename News _ _ _ _ => N9
        rename Fr _ _ _ _ => F9
        rename (∀ p ∈ _, _ → p ∈ _) => K9
        rename TupTab _ _ _ _ _ => T9
        refine leaveK_ F9 N9 ?_
        intro F2 N2
        have e : false = cdl (ps.drop pi) (tg.drop ti) := by
          have q := bne_iff_ne.mp (by assumption : (ps[pi] != tg[ti]) = true)
          rw [cdl_key hpi' hti' hk1, beq_eq_false_iff_ne.mpr q]; rfl
        rw [e] at T9 ⊢
        exact hret _ _ _ _ F2 N2 (fun p hp h => K9 p (.tail _ hp) h) T9 (hM.put pi ti) (Nat.lt_of_le_of_lt (len_putD _ _ _) (by omega))
      · have q : ps[pi] = tg[ti] := by
          have z : (ps[pi] != tg[ti]) = false := by assumption
          simpa using z
        rename News _ _ _ (_ :: news) => N8
        rename (∀ p ∈ news, p.1 < _) => l8
        have kd8 := Nat.ne_of_gt (l8 _ (tab_mem TB8).choose_spec)
        refine' ih (n - 1) (by omega) _ _ _ _ _ _ _ _ _ _ _ _ _ _ _ _ _ mm dd PT TT dm t1 t2 _ _ v1 ps tg prs trs _ _ (pi + 1) (ti + 1) ?zB ?zF ?zX ?zN ?zT rfl ?zdp ?zun ?zm1 ?zm2 ?zm3 ?zm4 hdd hmd ?zP ?zT2 hps htg hpl htl ?zTB ?zM ?zD ?zpi ?zti ?zn ?zret
        case zB => assumption
        case zF => k_asm
        case zX => assumption
        case zN => assumption
        case zT => assumption
        case zdp => (show dp + 1 + (n - 1) + 10 < recursionLimit; omega)
        case zun => (show un + 3 + 8 * (n - 1) + 100 < cLine; omega)
        case zm1 => k_mem
        case zm2 => k_mem
        case zm3 => k_mem
        case zm4 => k_mem
        case zP => first | assumption | exact hP.sub (fun p hp _ => .tail _ hp)
        case zT2 => first | assumption | exact hT.sub (fun p hp _ => .tail _ hp)
        case zTB => first | assumption | exact TupTab.cons (by assumption) _
        case zM => assumption
        case zD => omega
        case zpi => omega
        case zti => omega
        case zn => omega
        case zret =>
        intro h1 tk1 news1 D1 F1 N1 K1 TB1 M1 hD1
        have sub1 : ∀ p ∈ news, p.2.cls = .type "tuple" → p ∈ news1 := fun p hp hc => K1 p (.tail _ hp) (tab_ne (fun p hp => N8 p (.tail _ hp)) TB8 p hp hc)
        have hky1 := K1 _ (List.mem_cons_self ..) kd8
        have km1 : ∀ p ∈ news, p.1 ≠ dm → p ∈ news1 := fun p hp h => K1 p (.tail _ hp) h
        have a11 := km1 _ hm1 hmd
        have a21 := km1 _ hm2 hdd
        have a31 := sub1 _ hm3 rfl
        have a41 := sub1 _ hm4 rfl
        have a51 := sub1 _ hrm rfl
        have a61 := sub1 _ hrm2 rfl
        have hP1 := hP.sub sub1
        have hT1 := hT.sub sub1
        (try dsimp only)
        k_steps
        dsimp only
        rename News _ _ _ _ => N9
        rename Fr _ _ _ _ => F9
        rename (∀ p ∈ _, _ → p ∈ _) => K9
        rename TupTab _ _ _ _ _ => T9
        refine leaveK_ F9 N9 ?_
        intro F2 N2
        have e : cdl (ps.drop (pi + 1)) (tg.drop (ti + 1)) = cdl (ps.drop pi) (tg.drop ti) := by
          rw [cdl_key hpi' hti' hk1, q, beq_self_eq_true]; rfl
        rw [e] at T9 ⊢
        exact hret _ _ _ _ F2 N2 (fun p hp h => K9 p (km1 p hp h) h) T9 (M1.put pi ti) (Nat.lt_of_le_of_lt (len_putD _ _ _) (by omega))


end Mine
end
section
theorem Mine.off_Rl : True := by
  w_top off
  trivial
open PySem PySem.W PyProof.Rows PySem.Calls PySem.Spec
set_option Elab.async false
set_option linter.unusedVariables false
set_option maxRecDepth 100000
namespace Mine
/-- the walk halts here -/
def Stop (P : Prop) : Prop := P
theorem stop_on {P : Prop} (h : Stop P) : P := h
section
variable {M : Model} {A : Around} {E : Value → Shared → Prop} {s : Shared} {env : Env}
theorem execs_stop {st rest} {Q : Flow → Shared → Prop} (h : wpAny M A (exec st env) (fun f s' => match f with | .next => Stop (wpAny M A (execs rest env) Q E s') | f => Q f s') E s) :
    wpAny M A (execs (st :: rest) env) Q E s := by
  rw [execs_cons]
  refine wpAny_bind (wpAny_mono h (fun f s' h' => ?_) fun _ _ x => x)
  cases f <;> first | exact h' | exact wpAny_pure h'
theorem if_stop {test body orelse pos} {Q : Flow → Shared → Prop}
    (h : wpAny M A (isTrue test env (eval test env)) (fun b s₂ => if b then Stop (wpAny M A (execs body env) Q E s₂) else Stop (wpAny M A (execs orelse env) Q E s₂)) E s) :
    wpAny M A (exec (.If test body orelse pos) env) Q E s := by
  rw [exec_If]
  refine wpAny_bind (wpAny_standAt (wpAny_bind (wpAny_mono h (fun b s₂ h₂ => ?_) fun _ _ x => x)))
  cases b <;> exact h₂
end
section
variable {prog : Program} {w : World} {A : Around} {E : Value → Shared → Prop} {Q : Flow → Shared → Prop} {s : Shared} {env : Env} {h₀ : Heap} {L : Addr}
/-- what a turn of a while leaves: the next state, or an answer -/
def WStep (h₀ : Heap) (L : Addr) (s : Shared) (J : Nat → (Str → Option Value) → List (Addr × Obj) → Prop) (Q : Flow → Shared → Prop) (n : Nat) (f : Flow) (s₃ : Shared) : Prop := match f with
  | .next => WhileStep h₀ L s J n .next s₃
  | .ret v => Q (.ret v) s₃
  | _ => False
theorem While_invR {test : PySem.Expr} {body : List Stmt} {pos : Pos} {m : Str → Option Value} {news : List (Addr × Obj)} (J : Nat → (Str → Option Value) → List (Addr × Obj) → Prop) (Dn : (Str → Option Value) → List (Addr × Obj) → Prop) {n₀ : Nat}
    (F : Fr h₀ L s.heap m) (N : News h₀ L s.heap news) (hJ : J n₀ m news)
    (turn : ∀ n m₁ news₁ h₁ tk₁, Fr h₀ L h₁ m₁ → News h₀ L h₁ news₁ → J n m₁ news₁ →
      wpAny (model prog w) A (isTrue test env (eval test env)) (fun b s₂ =>
        if b = true then Stop (wpAny (model prog w) A (execs body env) (WStep h₀ L s J Q n) E s₂)
        else Stop (∃ h₂ tk₂ m₂ news₂, s₂ = { s with heap := h₂, toks := tk₂ } ∧ Fr h₀ L h₂ m₂ ∧ News h₀ L h₂ news₂ ∧ Dn m₂ news₂)) E { s with heap := h₁, toks := tk₁ })
    (done : ∀ m₂ news₂ h₂ tk₂, Fr h₀ L h₂ m₂ → News h₀ L h₂ news₂ → Dn m₂ news₂ → Q .next { s with heap := h₂, toks := tk₂ })
    (hE : PassesOwn (model prog w) A env E := by passes_own) :
    wpAny (model prog w) A (exec (.While test body [] pos) env) Q E s := by
  refine wpAny_While (codeAny_whileLoop (fun n s' => ∃ h₁ tk₁ m₁ news₁, s' = { s with heap := h₁, toks := tk₁ } ∧ Fr h₀ L h₁ m₁ ∧ News h₀ L h₁ news₁ ∧ J n m₁ news₁) ?_ n₀ ⟨s.heap, s.toks, m, news, rfl, F, N, hJ⟩)
  rintro n s' ⟨h₁, tk₁, m₁, news₁, rfl, F₁, N₁, J₁⟩
  refine wpAny_mono (turn n m₁ news₁ h₁ tk₁ F₁ N₁ J₁) (fun b s₂ h₂ => ?_) hE
  cases b with
  | false =>
    simp only [Bool.false_eq_true, if_false] at h₂ ⊢
    obtain ⟨h₂, tk₂, m₂, news₂, rfl, F₂, N₂, D₂⟩ := h₂
    exact wpAny_execs_nil (done m₂ news₂ h₂ tk₂ F₂ N₂ D₂)
  | true =>
    simp only [if_true] at h₂ ⊢
    refine wpAny_mono h₂ (fun f s₃ h₃ => ?_) hE
    cases f with
    | next =>
      obtain ⟨_, h', tk, m₂, news₂, n', rfl, F₂, N₂, hn, J₂⟩ := h₃
      exact ⟨n', hn, h', tk, m₂, news₂, rfl, F₂, N₂, J₂⟩
    | ret v => exact h₃
    | brk => exact h₃.elim
    | cont => exact h₃.elim
/-- what a turn over a range leaves -/
def RStep (h₀ : Heap) (L : Addr) (s₁ : Shared) (I : Addr) (o : Obj) (J : (Str → Option Value) → List (Addr × Obj) → Prop) (Q : Flow → Shared → Prop) (f : Flow) (s₂ : Shared) : Prop := match f with
  | .ret v => Q (.ret v) s₂
  | .next => ∃ h' tk m₂ news₂, s₂ = { s₁ with heap := h', toks := tk } ∧ Fr h₀ L h' m₂ ∧ News h₀ L h' news₂ ∧ (I, o) ∈ news₂ ∧ J m₂ (news₂.filter fun p => p.1 != I)
  | _ => False
def RangeAt (prog : Program) (w : World) (A : Around) (h₀ : Heap) (env : Env) (x : Str) (body : List Stmt) (Q : Flow → Shared → Prop) (E : Value → Shared → Prop) (xv : Value) (s₁ : Shared) : Prop :=
  ∃ (r : Addr) (a b : Int) (t u v : Tok) (n : Nat) (m : Str → Option Value) (news : List (Addr × Obj)) (J : Nat → (Str → Option Value) → List (Addr × Obj) → Prop),
    xv = .ref r ∧ IsRange s₁.heap r a b 1 t u v ∧ Builtin.Range.small a b 1 = true ∧ Builtin.Range.rangeSize a b 1 = (n : Int) ∧ Fr h₀ env.locals s₁.heap m ∧ News h₀ env.locals s₁.heap news ∧ J 0 m news ∧
    (∀ i ti m₁ news₁ h₁ tk₁ I o, i < n → J i m₁ news₁ → o.cls = .type "range_iterator" → (∀ p ∈ news₁, p.1 ≠ I) →
      Fr h₀ env.locals h₁ (fun y => if y = x then some (.int (a + (i : Int)) ti) else m₁ y) → News h₀ env.locals h₁ (news₁ ++ [(I, o)]) →
      wpAny (model prog w) A (execs body env) (RStep h₀ env.locals { s₁ with heap := h₁, toks := tk₁ } I o (J (i + 1)) Q) E { s₁ with heap := h₁, toks := tk₁ }) ∧
    ∀ h' tk m' news', Fr h₀ env.locals h' m' → News h₀ env.locals h' news' → J n m' news' → Q .next { s₁ with heap := h', toks := tk }
theorem For_rangeR {x : Str} {px pos : Pos} {iter : PySem.Expr} {body : List Stmt} (h₀ : Heap) (hA : A.handled = none) (hx : env.kindOf x = some .local)
    (hp : (env.scope.kind == .class || (env.scope.kind == .module && env.locals != env.globals)) = false)
    (h : wpAny (model prog w) A (eval iter env) (RangeAt prog w A h₀ env x body Q E) E s)
    (hs : ∀ x, foldedSetIterable iter env x = pure x := by intro _; rfl)
    (hE : PassesOwn (model prog w) A env E := by passes_own) :
    wpAny (model prog w) A (exec (.For (.Name x px) iter body [] pos) env) Q E s := by
  refine For_invV h₀ hx hp (wpAny_mono h (fun xv s₁ h₁ => ?_) fun _ _ e => e) hs hE
  obtain ⟨r, a, b, t, u, v, n, m, news, J, rfl, hr, hsm, hn, F, N, h0, step, hQ⟩ := h₁
  refine wpAny_pyIter_range hr hsm ?_
  have hIn : s₁.heap.get? s₁.heap.objs.size = none := by
    cases q : s₁.heap.get? s₁.heap.objs.size with
    | none => rfl
    | some o => exact absurd (Heap.lt_size q) (Nat.lt_irrefl _)
  have hI0 : h₀.get? s₁.heap.objs.size = none := kts_none F.keep hIn
  have hLI : env.locals ≠ s₁.heap.objs.size := fun q => by
    obtain ⟨oL, _, _, hL, _⟩ := F.ns
    rw [q, hIn] at hL; cases hL
  rw [hn]
  refine ⟨s₁.heap.objs.size, [s₁.heap.objs.size], [s₁.heap.objs.size], n, _, _, m, news, J, rfl, LCg.range_walks hA a n, by simpa using hLI, by simpa using hI0, fun p hp q => ?_, ?_, F.push _, fun p hp => ⟨Heap.get?_push_of_some _ (N p hp).1, (N p hp).2⟩, h0, ?_, ?_⟩
  · have e := (N p hp).1
    rw [List.mem_singleton.mp q, hIn] at e
    cases e
  · have z : IsRangeIter (s₁.heap.push { cls := .type "range_iterator", data := .fields #[rawInt a, rawInt (n : Int), rawInt 1] }) s₁.heap.objs.size a n 1 := Heap.get?_push_size _ rfl
    simpa using z
  · rintro i v m₁ news₁ s₂ own ⟨h₂, tk₂, rfl⟩ hi ⟨ti, rfl⟩ hJ hw ho1 ho2 ho3 st F₂ N₂
    obtain ⟨o, st', hoc⟩ : ∃ o : Obj, h₂.get? s₁.heap.objs.size = some o ∧ o.cls = .type "range_iterator" := ⟨_, st, rfl⟩
    have hmem := ho3 _ (List.mem_singleton.mpr rfl) hI0 _ st'
    have hown : ∀ p ∈ own, p = (s₁.heap.objs.size, o) := fun p hp => by
      have e1 := List.mem_singleton.mp (ho1 p hp)
      have e2 := ho2 p hp
      rw [e1, st'] at e2
      exact Prod.ext e1 (Option.some.inj e2).symm
    refine wpAny_mono (step i ti m₁ news₁ h₂ tk₂ s₁.heap.objs.size o hi hJ hoc (fun p hp q => hw p hp (List.mem_singleton.mpr q)) F₂ (fun p hp => ?_)) (fun f s₃ h₃ => ?_) fun _ _ e => e
    · rcases List.mem_append.mp hp with hp | hp
      · exact N₂ p (List.mem_append_right _ hp)
      · rw [List.mem_singleton.mp hp]; exact N₂ _ (List.mem_append_left _ hmem)
    · cases f with
      | ret v => exact h₃
      | brk => exact h₃.elim
      | cont => exact h₃.elim
      | next =>
        obtain ⟨h', tk, m₂, news₂, rfl, F₃, N₃, hI, hJ₂⟩ := h₃
        refine ⟨rfl, h', tk, m₂, _, rfl, F₃, fun p hp => ?_, fun p hp q => ?_, hJ₂⟩
        · rcases List.mem_append.mp hp with hp | hp
          · rw [hown p hp]; exact N₃ _ hI
          · exact N₃ p (List.mem_filter.mp hp).1
        · have z := (List.mem_filter.mp hp).2
          rw [List.mem_singleton.mp q] at z
          simp at z
  · intro h' tk m' news' F' N' _ hJ
    exact hQ h' tk m' news' F' N' hJ
end
end Mine
end
section
theorem Mine.off_Ms : True := by
  w_top off
  trivial
open PySem PySem.W PyProof.Rows
set_option Elab.async false
set_option linter.unusedVariables false
set_option linter.unusedSimpArgs false
set_option maxRecDepth 100000
namespace Mine

open PyProof.V
local macro_rules | `(tactic| k_mem) => `(tactic| assumption)
local macro_rules | `(tactic| walk_at "ite") => `(tactic| (k_closed; first | (with_reducible refine' ite_pos ?c ?_; (case c => decide +kernel)) | (with_reducible refine' ite_neg ?c ?_; (case c => decide +kernel))))
local macro_rules | `(tactic| k_all) => `(tactic| with_reducible assumption)
local macro_rules | `(tactic| walk_at "call builtin:len") => `(tactic| (k_here; (with_reducible show wpAny _ _ (call (Value.builtin "len") [Value.ref _]) _ _ _); k_dflt (refine len_tuple (tup_is (by k_asm) (by k_mem)) (by with_reducible assumption) ?_)))
local macro_rules | `(tactic| walk_at "subscriptTail Name Name ref int") => `(tactic| (k_here; (with_reducible show wpAny _ _ (subscriptTail _ _ (Value.ref _) (Value.int _ _)) _ _ _); k_dflt (refine item_tuple (tup_is (by k_asm) (by k_mem)) (by omega) (by omega) (seqIndex_of (by omega) (by omega)) (by with_reducible assumption) ?_)))
local macro_rules | `(tactic| walk_at "subscriptTail Subscript Name Name Constant ref int") => `(tactic| (k_here; (with_reducible show wpAny _ _ (subscriptTail _ _ (Value.ref _) (Value.int 0 _)) _ _ _); k_dflt (refine item_tuple (items := #[_, _]) (tup_is (by k_asm) (by k_mem)) (by decide) (by decide) (by rfl) (by rfl) ?_)))
local macro_rules | `(tactic| walk_at "compareOp Is") => `(tactic| (k_here; (first
  | (refine' is_run ?a ?b ?c ?d ?_; (case a => assumption); (case b => exact (Frag.In.keeps (by k_asm) (Fr.keep (by k_asm))) _ _ (by k_is)); (case c => exact (Frag.In.keeps (by k_asm) (Fr.keep (by k_asm))) _ _ (by k_is)); (case d => (intro q; cases q)))
  | (refine' is_one ?a ?b ?c ?d ?_; (case a => assumption); (case b => exact (Frag.In.keeps (by k_asm) (Fr.keep (by k_asm))) _ _ (by k_is)); (case c => exact (Frag.In.keeps (by k_asm) (Fr.keep (by k_asm))) _ _ (by k_is)); (case d => (intro q; cases q))))))
local macro_rules | `(tactic| walk_at "compareOp NotEq") => `(tactic| (k_here; refine' ne_kinds ?a ?b ?c ?d ?_; (case a => assumption); (case b => assumption); (case c => omega); (case d => omega)))

noncomputable def anyT (f : List Nat → Bool) : List Nat → Bool
  | [] => f []
  | j :: t => f (j :: t) || anyT f t
/-- the pattern fits the path, or (ext) a beginning of it -/
noncomputable def msl (ext : Bool) : List Nat → List Nat → Bool
  | [], t => ext || t.isEmpty
  | k :: p, t => if k = 1 then anyT (msl ext p) t else match t with
    | [] => false
    | j :: t' => (k == 0 || k == j) && msl ext p t'
noncomputable def msm (pi ti : Value) (pe kv : Option Value) (self tgt memo ext key pat tl pl : Value) : Str → Option Value := fun y =>
  if y = Str.ofString "pi" then some pi else if y = Str.ofString "ti" then some ti else if y = Str.ofString "pat_elem" then pe else if y = Str.ofString "k" then kv else
  if y = Str.ofString "self" then some self else if y = Str.ofString "target" then some tgt else if y = Str.ofString "memo" then some memo else if y = Str.ofString "allow_extra_target" then some ext else
  if y = Str.ofString "key" then some key else if y = Str.ofString "pattern" then some pat else if y = Str.ofString "target_len" then some tl else if y = Str.ofString "pattern_len" then some pl else none
section
variable {prog : Program} {w : World} {K : Type} [DecidableEq K] {knd : KeyKind prog w K} {enc : K → PyData} {g h : Heap} {L d : Addr} {news : List (Addr × Obj)} {D : List (PyData × PyData)}
theorem tab_mono {news' : List (Addr × Obj)} (T : TupTab knd enc news d D) (s : ∀ p ∈ news, p ∈ news') : TupTab knd enc news' d D :=
  let ⟨lo, o, es, ep, xs, hm, hc, hd, he, hn, hk, hf⟩ := T
  ⟨lo, o, es, ep, xs, s _ hm, hc, hd, he, hn, fun x hx => let ⟨okx, hmk, t⟩ := hk x hx; ⟨okx, s _ hmk, t⟩, hf⟩
theorem tab_filter {I : Addr} {oi : Obj} (N : News g L h news) (T : TupTab knd enc news d D) (hI : (I, oi) ∈ news) (hc : oi.cls = .type "range_iterator") : TupTab knd enc (news.filter fun p => p.1 != I) d D := by
  obtain ⟨lo, o, es, ep, xs, hm, hx, hd, he, hn, hk, hf⟩ := T
  refine ⟨lo, o, es, ep, xs, List.mem_filter.mpr ⟨hm, ?_⟩, hx, hd, he, hn, fun x hx => ?_, hf⟩
  · refine bne_iff_ne.mpr (news_ne N hm hI ?_)
    rw [hx.1, hc]
    intro q; injection q with q; exact absurd q (by decide)
  · obtain ⟨okx, hmk, t⟩ := hk x hx
    refine ⟨okx, List.mem_filter.mpr ⟨hmk, bne_iff_ne.mpr (news_ne N hmk hI ?_)⟩, t⟩
    rw [t.1, hc]
    intro q; injection q with q; exact absurd q (by decide)
end
theorem lookup_six {y a b c d e f : Str} {v1 v2 v3 v4 v5 v6 : Value} (h1 : y ≠ a) (h2 : y ≠ b) (h3 : y ≠ c) (h4 : y ≠ d) (h5 : y ≠ e) (h6 : y ≠ f) : List.lookup y [(a, v1), (b, v2), (c, v3), (d, v4), (e, v5), (f, v6)] = none := by
  rw [List.lookup_cons, List.lookup_cons, List.lookup_cons, List.lookup_cons, List.lookup_cons, List.lookup_cons, beq_eq_false_iff_ne.mpr h1, beq_eq_false_iff_ne.mpr h2, beq_eq_false_iff_ne.mpr h3, beq_eq_false_iff_ne.mpr h4, beq_eq_false_iff_ne.mpr h5, beq_eq_false_iff_ne.mpr h6]; rfl

theorem drop_at' {xs : List Nat} {i : Nat} (h : i < xs.length) : xs.drop i = xs[i] :: xs.drop (i + 1) := List.drop_eq_getElem_cons h
section
variable {ext : Bool} {ps tg : List Nat} {p t : Nat}
theorem msl_one (hp : p < ps.length) (ht : t < tg.length) (h : ps[p] = 0) : msl ext (ps.drop p) (tg.drop t) = msl ext (ps.drop (p + 1)) (tg.drop (t + 1)) := by
  rw [drop_at' hp, drop_at' ht, msl, if_neg (by omega), h]; rfl
theorem msl_eq (hp : p < ps.length) (ht : t < tg.length) (h : 2 ≤ ps[p]) (e : ps[p] = tg[t]) : msl ext (ps.drop p) (tg.drop t) = msl ext (ps.drop (p + 1)) (tg.drop (t + 1)) := by
  rw [drop_at' hp, drop_at' ht, msl, if_neg (by omega), e, beq_self_eq_true]; simp
theorem msl_ne (hp : p < ps.length) (ht : t < tg.length) (h : 2 ≤ ps[p]) (e : ps[p] ≠ tg[t]) : msl ext (ps.drop p) (tg.drop t) = false := by
  rw [drop_at' hp, drop_at' ht, msl, if_neg (by omega)]
  simp only [beq_eq_false_iff_ne.mpr e, beq_eq_false_iff_ne.mpr (show ps[p] ≠ 0 by omega)]; rfl
theorem msl_run (hp : p < ps.length) (h : ps[p] = 1) : msl ext (ps.drop p) (tg.drop t) = anyT (msl ext (ps.drop (p + 1))) (tg.drop t) := by
  rw [drop_at' hp, msl.eq_def]; simp only [if_pos h]
theorem msl_skip (hp : p < ps.length) (ht : t = tg.length) (h : ps[p] = 1) : msl ext (ps.drop p) (tg.drop t) = msl ext (ps.drop (p + 1)) (tg.drop t) := by
  subst ht
  rw [msl_run hp h, List.drop_length, anyT]
theorem anyT_drop (f : List Nat → Bool) : ∀ (xs : List Nat) (t : Nat), t ≤ xs.length → (anyT f (xs.drop t) = true ↔ ∃ k, t ≤ k ∧ k ≤ xs.length ∧ f (xs.drop k) = true)
  | xs, t, ht => by
    by_cases h : t < xs.length
    · have ih := anyT_drop f xs (t + 1) h
      rw [drop_at' h, anyT, Bool.or_eq_true, ih, ← drop_at' h]
      constructor
      · rintro (h1 | ⟨k, a, b, c⟩)
        · exact ⟨t, Nat.le_refl _, ht, h1⟩
        · exact ⟨k, by omega, b, c⟩
      · rintro ⟨k, a, b, c⟩
        by_cases e : k = t
        · subst e; exact .inl c
        · exact .inr ⟨k, by omega, b, c⟩
    · have e : t = xs.length := by omega
      subst e
      rw [List.drop_length, anyT]
      constructor
      · intro h1; exact ⟨xs.length, Nat.le_refl _, Nat.le_refl _, by rw [List.drop_length]; exact h1⟩
      · rintro ⟨k, a, b, c⟩
        have e : k = xs.length := by omega
        subst e
        rwa [List.drop_length] at c
termination_by xs t => xs.length - t
end

def MsSt (n : Nat) : Prop := ∀ {w : World} {mean : ExcName → Option Value} {mg mb : Str → Option Value}
  (dp un : Nat) (gd : Option (List Code)) (cn : Str) (cs : Scope) (a : Addr) (ccd : Value) (cl : List (Str × Addr)) (outer : List Env) (A₀ : Around) (base h₀ : Heap) (L : Addr) (m : Str → Option Value) (s : Shared) (Q E : Value → Shared → Prop)
  (mm dd PT TT dm : Addr) (t1 t2 tp tt : Tok) (v1 : Value) (ps tg : List Nat) (prs trs : Array Value) (news : List (Addr × Obj)) (D0 : List (PyData × PyData)) (pi ti : Nat) (ext : Bool)
  (B : Below A₀ base outer h₀) (F : Fr h₀ L s.heap m) (X : (hd.heap_39 (World.params w)).In h₀) (N : News h₀ L s.heap news) (T : Top hd.view_39 (looseW hd.view_39 [Str.ofString "SINGLE_WILDCARD", Str.ofString "MULTI_WILDCARD", Str.ofString "DEFAULT_FIRST_ELEMENT", Str.ofString "_path_to_elements", Str.ofString "_WILDCARD_RE"]) mean mg mb h₀) (hk : cs.kind = .function)
  (hdp : dp + n + 10 < recursionLimit) (hun : un + 8 * n + 100 < cLine)
  (hm1 : (mm, instObj 159 dd) ∈ news) (hm2 : (dd, mDict w t1 t2 v1 (.ref PT)) ∈ news) (hm3 : (PT, tupObj prs) ∈ news) (hm4 : (TT, tupObj trs) ∈ news) (hdd : dd ≠ dm) (hmd : mm ≠ dm)
  (hP : ElAt news prs ps) (hT : ElAt news trs tg) (hps : ∀ k ∈ ps, k < 7) (htg : ∀ k ∈ tg, 2 ≤ k ∧ k < 7) (hpl : ps.length ≤ 5) (htl : tg.length ≤ 5)
  (TB0 : TupTab (intKind (RowW.prog (OpenRow.toRowW (OpenLaw.row PySem.Challenge.rw_fu0002_01))) w) PyData.int news dm D0) (hM : Memo (fun p t => msl ext (ps.drop p) (tg.drop t)) D0) (hD : D0.length + 7 ^ (n + 1) ≤ 1000000) (hpi : pi ≤ ps.length) (hti : ti ≤ tg.length) (hn : ps.length - pi ≤ n)
  (hret : ∀ h' tk' news₂ D₂, Fr h₀ L h' m → News h₀ L h' news₂ → (∀ p ∈ news, p.1 ≠ dm → p ∈ news₂) → TupTab (intKind (RowW.prog (OpenRow.toRowW (OpenLaw.row PySem.Challenge.rw_fu0002_01))) w) PyData.int news₂ dm D₂ → Memo (fun p t => msl ext (ps.drop p) (tg.drop t)) D₂ → D₂.length < D0.length + 7 ^ (n + 1) → Q (.bool ((fun p t => msl ext (ps.drop p) (tg.drop t)) pi ti)) { s with heap := h', toks := tk' }),
  wpAny (model (RowW.prog (OpenRow.toRowW (OpenLaw.row PySem.Challenge.rw_fu0002_01))) w) (ktrTop dp un gd cn cs L a ccd cl outer) (call (.ref 149) [.ref mm, .ref TT, .int pi tp, .int ti tt, .ref dm, .bool ext] []) Q E s

set_option maxHeartbeats 4000000 in
theorem ms_body : ∀ (n : Nat) (ih : ∀ m, m < n → MsSt m) {w : World} {mean : ExcName → Option Value} {mg mb : Str → Option Value} (dp un : Nat) (gd : Option (List Code)) (cn : Str) (cs : Scope) (a : Addr) (ccd : Value) (cl : List (Str × Addr)) (outer : List Env) (base g' : Heap) (L L1 : Addr) (s : Shared) (Q : Flow → Shared → Prop) (E : Value → Shared → Prop)
  (mm dd PT TT dm : Addr) (t1 t2 tp tt : Tok) (v1 : Value) (ps tg : List Nat) (prs trs : Array Value) (news : List (Addr × Obj)) (D0 : List (PyData × PyData)) (pi ti : Nat) (ext : Bool)
  (B : Below (ktrTop dp un gd cn cs L a ccd cl outer) base (envX cn cs L a ccd cl :: outer) g') (F : Fr g' L1 s.heap (fun y => List.lookup y [(Str.ofString "allow_extra_target", .bool ext), (Str.ofString "memo", .ref dm), (Str.ofString "ti", .int ti tt), (Str.ofString "pi", .int pi tp), (Str.ofString "target", .ref TT), (Str.ofString "self", .ref mm)])) (X : (hd.heap_39 (World.params w)).In g') (N : News g' L1 s.heap news) (T : Top hd.view_39 (looseW hd.view_39 [Str.ofString "SINGLE_WILDCARD", Str.ofString "MULTI_WILDCARD", Str.ofString "DEFAULT_FIRST_ELEMENT", Str.ofString "_path_to_elements", Str.ofString "_WILDCARD_RE"]) mean mg mb g')
  (hdp : dp + n + 10 < recursionLimit) (hun : un + 8 * n + 100 < cLine) (hE : PassesOwn (model (RowW.prog (OpenRow.toRowW (OpenLaw.row PySem.Challenge.rw_fu0002_01))) w) ((ktrTop dp un gd cn cs L a ccd cl outer).deeper (envOf (Str.ofString "GlobPathMatcher._match_segments") (scopeOf (hd.heap_39 (World.params w)) 149) L1 149 (.ref 148))) (envOf (Str.ofString "GlobPathMatcher._match_segments") (scopeOf (hd.heap_39 (World.params w)) 149) L1 149 (.ref 148)) E)
  (hm1 : (mm, instObj 159 dd) ∈ news) (hm2 : (dd, mDict w t1 t2 v1 (.ref PT)) ∈ news) (hm3 : (PT, tupObj prs) ∈ news) (hm4 : (TT, tupObj trs) ∈ news) (hdd : dd ≠ dm) (hmd : mm ≠ dm)
  (hP : ElAt news prs ps) (hT : ElAt news trs tg) (hps : ∀ k ∈ ps, k < 7) (htg : ∀ k ∈ tg, 2 ≤ k ∧ k < 7) (hpl : ps.length ≤ 5) (htl : tg.length ≤ 5)
  (TB0 : TupTab (intKind (RowW.prog (OpenRow.toRowW (OpenLaw.row PySem.Challenge.rw_fu0002_01))) w) PyData.int news dm D0) (hM : Memo (fun p t => msl ext (ps.drop p) (tg.drop t)) D0) (hD : D0.length + 7 ^ (n + 1) ≤ 1000000) (hpi : pi ≤ ps.length) (hti : ti ≤ tg.length) (hn : ps.length - pi ≤ n)
  
  (hret : ∀ h' tk' m' news₂ D₂, Fr g' L1 h' m' → News g' L1 h' news₂ → (∀ p ∈ news, p.1 ≠ dm → p ∈ news₂) → TupTab (intKind (RowW.prog (OpenRow.toRowW (OpenLaw.row PySem.Challenge.rw_fu0002_01))) w) PyData.int news₂ dm D₂ → Memo (fun p t => msl ext (ps.drop p) (tg.drop t)) D₂ → D₂.length < D0.length + 7 ^ (n + 1) → Q (.ret (.bool ((fun p t => msl ext (ps.drop p) (tg.drop t)) pi ti))) { s with heap := h', toks := tk' }),
  wpAny (model (RowW.prog (OpenRow.toRowW (OpenLaw.row PySem.Challenge.rw_fu0002_01))) w) ((ktrTop dp un gd cn cs L a ccd cl outer).deeper (envOf (Str.ofString "GlobPathMatcher._match_segments") (scopeOf (hd.heap_39 (World.params w)) 149) L1 149 (.ref 148))) (execs (fnBody (hd.heap_39 (World.params w)) 149) (envOf (Str.ofString "GlobPathMatcher._match_segments") (scopeOf (hd.heap_39 (World.params w)) 149) L1 149 (.ref 148))) Q E s := by
  intro n ih w mean mg mb dp un gd cn cs a ccd cl outer base g' L L1 s Q E mm dd PT TT dm t1 t2 tp tt v1 ps tg prs trs news D0 pi ti ext B F X N T hdp hun hE hm1 hm2 hm3 hm4 hdd hmd hP hT hps htg hpl htl TB0 hM hD hpi hti hn hret
  have hszP : (prs.size : Int) < 2 ^ 63 := by have := hP.size; omega
  have hszT : (trs.size : Int) < 2 ^ 63 := by have := hT.size; omega
  have eP := hP.size
  have eT := hT.size
  have hpow : 7 ≤ 7 ^ (n + 1) := by have := Nat.pow_pos (n := n) (show 0 < 7 by decide); rw [Nat.pow_succ]; omega
  revert X
  k_fill
  intro X
  conv in (fnBody _ _) => whnf
  repeat (conv in (scopeOf _ _) => whnf)
  
  refine execs_stop ?_
  k_steps
  show wpAny _ _ _ _ _ _
  refine execs_stop ?_
  k_steps
  · obtain ⟨dv, hdv⟩ := Option.isSome_iff_exists.mp (by assumption : Option.isSome (Spec.lookup (encTuple PyData.int [(pi : Int), (ti : Int)]) D0) = true)
    obtain rfl := hM pi ti dv hdv
    rename News _ _ _ _ => N9
    rename Fr _ _ _ _ => F9
    refine item_tupTab (knd := intKind _ _) (enc := PyData.int) same_int (by show un + 3 + 1 < cLine; omega) N9 (TupTab.cons (by assumption) _) (.head _) (TupKeyObj.made (ItemsAre.cons (intKind_is _ _ _ _) (ItemsAre.cons (intKind_is _ _ _ _) ItemsAre.nil))) hdv (fun v hv => ?_)
    rw [Flat.bool_inv hv]
    dsimp only
    exact hret _ _ _ _ D0 F9 N9 (fun p hp _ => .tail _ hp) (TupTab.cons (by assumption) _) hM (by omega)
  show wpAny _ _ _ _ _ _
  iterate 3 (refine execs_stop ?_; k_steps; show wpAny _ _ _ _ _ _)
  rename TupTab _ _ news _ D0 => TB8
  rename Fr _ _ _ _ => F9
  rename News _ _ _ _ => N9
  rename (∀ p ∈ news, p.1 < _) => l8
  obtain ⟨D8, tl8, pl8, F10, N10, kd8⟩ : ∃ (D8 : Addr) (tl8 pl8 : Tok), Fr g' L1 _ (msm (.int pi tp) (.int ti tt) none none (.ref mm) (.ref TT) (.ref dm) (.bool ext) (.ref D8) (.ref PT) (.int (trs.size : Nat) tl8) (.int (prs.size : Nat) pl8)) ∧ News g' L1 _ ((D8, tupObj #[.int pi tp, .int ti tt]) :: news) ∧ D8 ≠ dm := by
    refine' ⟨_, _, _, fr_eq F9 ?zhm, N9, Nat.ne_of_gt (l8 _ (tab_mem TB8).choose_spec)⟩
    case zhm => (intro y; by_cases h0 : y = Str.ofString "pi"; (· subst h0; rfl); by_cases h1 : y = Str.ofString "ti"; (· subst h1; rfl); by_cases h2 : y = Str.ofString "pat_elem"; (· subst h2; rfl); by_cases h3 : y = Str.ofString "k"; (· subst h3; rfl); by_cases h4 : y = Str.ofString "self"; (· subst h4; rfl); by_cases h5 : y = Str.ofString "target"; (· subst h5; rfl); by_cases h6 : y = Str.ofString "memo"; (· subst h6; rfl); by_cases h7 : y = Str.ofString "allow_extra_target"; (· subst h7; rfl); by_cases h8 : y = Str.ofString "key"; (· subst h8; rfl); by_cases h9 : y = Str.ofString "pattern"; (· subst h9; rfl); by_cases h10 : y = Str.ofString "target_len"; (· subst h10; rfl); by_cases h11 : y = Str.ofString "pattern_len"; (· subst h11; rfl); (simp only [msm, if_neg h0, if_neg h1, if_neg h2, if_neg h3, if_neg h4, if_neg h5, if_neg h6, if_neg h7, if_neg h8, if_neg h9, if_neg h10, if_neg h11]; exact lookup_six h7 h6 h1 h0 h5 h4))
  clear F9 N9 l8
  refine execs_stop ?_
  refine While_invR (fun n' m₁ news₁ => ∃ (p t : Nat) (tpp ttt : Tok) (pe kv : Option Value), m₁ = msm (.int p tpp) (.int t ttt) pe kv (.ref mm) (.ref TT) (.ref dm) (.bool ext) (.ref D8) (.ref PT) (.int (trs.size : Nat) tl8) (.int (prs.size : Nat) pl8) ∧ news₁ = (D8, tupObj #[.int pi tp, .int ti tt]) :: news ∧ pi ≤ p ∧ p ≤ ps.length ∧ t ≤ tg.length ∧ msl ext (ps.drop p) (tg.drop t) = msl ext (ps.drop pi) (tg.drop ti) ∧ n' = ps.length - p)
    (fun m₁ news₁ => ∃ (p t : Nat) (tpp ttt : Tok) (pe kv : Option Value), m₁ = msm (.int p tpp) (.int t ttt) pe kv (.ref mm) (.ref TT) (.ref dm) (.bool ext) (.ref D8) (.ref PT) (.int (trs.size : Nat) tl8) (.int (prs.size : Nat) pl8) ∧ news₁ = (D8, tupObj #[.int pi tp, .int ti tt]) :: news ∧ p ≤ ps.length ∧ t ≤ tg.length ∧ msl ext (ps.drop p) (tg.drop t) = msl ext (ps.drop pi) (tg.drop ti) ∧ (p < ps.length → t = tg.length))
    F10 N10 ⟨pi, ti, tp, tt, none, none, rfl, rfl, Nat.le_refl _, hpi, hti, rfl, rfl⟩ ?zturn ?zdone
  case zturn =>
    rintro n₁ m₁ news₁ h₁ tk₁ F₁ N₁ ⟨p, t, tpp, ttt, pe, kv, rfl, rfl, hpp, hp, ht, hres, rfl⟩
    k_steps
    · show wpAny _ _ _ _ _ _
      have hp' : p < ps.length := by omega
      have ht' : t < tg.length := by omega
      obtain ⟨r, x, act, hr, hrm, hk⟩ := hP.at_ p ps[p] (by simp [hp'])
      obtain ⟨r2, y, act2, hr2, hrm2, hk2⟩ := hT.at_ t tg[t] (by simp [ht'])
      have hr' : prs[((p : Int)).toNat]? = some (.ref r) := hr
      have hr2' : trs[((t : Int)).toNat]? = some (.ref r2) := hr2
      have hj2 := (htg tg[t] (List.getElem_mem ht')).1
      refine execs_stop ?_
      k_steps
      show wpAny _ _ _ _ _ _
      refine execs_stop ?_
      refine if_stop ?_
      k_steps
      · have hk1 : ps[p] = 1 := beq_iff_eq.mp (by assumption)
        show wpAny _ _ _ _ _ _
        refine execs_stop ?_
        refine For_rangeR g' rfl (by rfl) (by rfl) ?_
        k_steps
        rename IsRange _ _ _ _ _ _ _ _ => hR
        rename Fr _ _ _ _ => F9
        rename News _ _ _ _ => N9
        have F9 : Fr g' L1 _ (msm (.int p tpp) (.int t ttt) (some x) kv (.ref mm) (.ref TT) (.ref dm) (.bool ext) (.ref D8) (.ref PT) (.int (trs.size : Nat) tl8) (.int (prs.size : Nat) pl8)) := fr_eq F9 (by (intro y; by_cases h0 : y = Str.ofString "pi"; (· subst h0; rfl); by_cases h1 : y = Str.ofString "ti"; (· subst h1; rfl); by_cases h2 : y = Str.ofString "pat_elem"; (· subst h2; rfl); by_cases h3 : y = Str.ofString "k"; (· subst h3; rfl); by_cases h4 : y = Str.ofString "self"; (· subst h4; rfl); by_cases h5 : y = Str.ofString "target"; (· subst h5; rfl); by_cases h6 : y = Str.ofString "memo"; (· subst h6; rfl); by_cases h7 : y = Str.ofString "allow_extra_target"; (· subst h7; rfl); by_cases h8 : y = Str.ofString "key"; (· subst h8; rfl); by_cases h9 : y = Str.ofString "pattern"; (· subst h9; rfl); by_cases h10 : y = Str.ofString "target_len"; (· subst h10; rfl); by_cases h11 : y = Str.ofString "pattern_len"; (· subst h11; rfl); (simp only [msm, if_neg h0, if_neg h1, if_neg h2, if_neg h3, if_neg h4, if_neg h5, if_neg h6, if_neg h7, if_neg h8, if_neg h9, if_neg h10, if_neg h11])))
        have hpw : 7 ^ (n + 1) = 7 * 7 ^ (n - 1 + 1) := by rw [show n - 1 + 1 = n by omega, Nat.pow_succ]; omega
        have hc7 : 7 ≤ 7 ^ (n - 1 + 1) := by have := Nat.pow_pos (n := n - 1) (show 0 < 7 by decide); rw [Nat.pow_succ]; omega
        generalize hcc : 7 ^ (n - 1 + 1) = c at hpw hc7
        refine ⟨_, _, _, _, _, _, tg.length + 1 - t, _, _, (fun i m₁ news₁ => ∃ (kv2 : Option Value) (D2 : List (PyData × PyData)), m₁ = msm (.int p tpp) (.int t ttt) (some x) kv2 (.ref mm) (.ref TT) (.ref dm) (.bool ext) (.ref D8) (.ref PT) (.int (trs.size : Nat) tl8) (.int (prs.size : Nat) pl8) ∧ (D8, tupObj #[.int pi tp, .int ti tt]) ∈ news₁ ∧ (∀ q ∈ news, q.1 ≠ dm → q ∈ news₁) ∧ TupTab (intKind (RowW.prog (OpenRow.toRowW (OpenLaw.row PySem.Challenge.rw_fu0002_01))) w) PyData.int news₁ dm D2 ∧ Memo (fun p t => msl ext (ps.drop p) (tg.drop t)) D2 ∧ D2.length + (7 - i) * c ≤ D0.length + 7 * c ∧ ∀ j, j < i → msl ext (ps.drop (p + 1)) (tg.drop (t + j)) = false), rfl, hR, small_one (by omega) (by omega) (by omega) (by omega), ?zsz, F9, N9, ?zinit, ?zstep, ?zfin⟩
        case zsz => (rw [rangeSize_nat]; omega)
        case zinit => exact ⟨kv, D0, rfl, .head _, fun q hq _ => .tail _ hq, TupTab.cons TB8 _, hM, by omega, fun j hj => by omega⟩
        case zstep =>
          rintro i ti' m₁ news₁ h₁ tk₁ I o hi ⟨kv2, D2, rfl, hky2, km2, TB2, M2, hD2, hall⟩ hoc hneI F₁ N₁
          have N10' : News g' L1 _ news := fun q hq => N9 q (.tail _ hq)
          have sub2 : ∀ q ∈ news, q.2.cls = .type "tuple" → q ∈ news₁ ++ [(I, o)] := fun q hq hc => List.mem_append_left _ (km2 q hq (tab_ne N10' TB8 q hq hc))
          have b1 := List.mem_append_left [(I, o)] (km2 _ hm1 hmd)
          have b2 := List.mem_append_left [(I, o)] (km2 _ hm2 hdd)
          have b3 := sub2 _ hm3 rfl
          have b4 := sub2 _ hm4 rfl
          have b5 := List.mem_append_left [(I, o)] hky2
          have hPW := hP.sub sub2
          have hTW := hT.sub sub2
          have TBW := tab_mono TB2 (fun q hq => List.mem_append_left [(I, o)] hq)
          have hprod : (7 - i) * c = (7 - (i + 1)) * c + c := by rw [show 7 - i = (7 - (i + 1)) + 1 by omega, Nat.succ_mul]
          have hprod2 : (7 - (i + 1)) * c = (7 - (i + 2)) * c + c := by rw [show 7 - (i + 1) = (7 - (i + 2)) + 1 by omega, Nat.succ_mul]
          have hdI : dm ≠ I := hneI _ (tab_mem TB2).choose_spec
          k_steps
          refine' ih (n - 1) (by omega) _ _ _ _ _ _ _ _ _ _ _ _ _ _ _ _ _ mm dd PT TT dm t1 t2 _ _ v1 ps tg prs trs _ _ (p + 1) (t + i) ext ?zB ?zF ?zX ?zN ?zT rfl ?zdp ?zun ?zm1 ?zm2 ?zm3 ?zm4 hdd hmd ?zP ?zT2 hps htg hpl htl ?zTB ?zM ?zD ?zpi ?zti ?zn ?zret
          case zB => assumption
          case zF => k_asm
          case zX => assumption
          case zN => assumption
          case zT => assumption
          case zdp => (show dp + 1 + (n - 1) + 10 < recursionLimit; omega)
          case zun => (show un + 3 + 8 * (n - 1) + 100 < cLine; omega)
          case zm1 => k_mem
          case zm2 => k_mem
          case zm3 => k_mem
          case zm4 => k_mem
          case zP => first | assumption | exact hP.sub (fun p hp _ => .tail _ hp)
          case zT2 => first | assumption | exact hT.sub (fun p hp _ => .tail _ hp)
          case zTB => first | assumption | exact TupTab.cons (by assumption) _
          case zM => assumption
          case zD => (rw [hcc]; omega)
          case zpi => omega
          case zti => omega
          case zn => omega
          case zret =>
            intro h1 tk1 news1 D1 F1 N1 K1 TB1 M1 hD1
            rw [hcc] at hD1
            have hkyW := K1 _ b5 kd8
            have hIW : (I, o) ∈ news1 := K1 _ (List.mem_append_right _ (List.mem_singleton.mpr rfl)) (Ne.symm hdI)
            have kmW : ∀ q ∈ news, q.1 ≠ dm → q ∈ news1 := fun q hq h => K1 q (List.mem_append_left _ (km2 q hq h)) h
            (try dsimp only)
            k_steps
            · dsimp only
              rename News _ _ _ _ => N9
              rename Fr _ _ _ _ => F9
              rename (∀ p ∈ _, _ → p ∈ _) => K9
              rename TupTab _ _ _ _ _ => T9
              (try unfold WStep)
              (try unfold RStep)
              (try dsimp only)
              have e : true = msl ext (ps.drop pi) (tg.drop ti) := by
                rw [← hres, msl_run hp' hk1]
                exact ((anyT_drop _ _ _ ht).mpr ⟨t + i, by omega, by omega, by assumption⟩).symm
              rw [e] at T9 ⊢
              exact hret _ _ _ _ _ F9 N9 (fun p hp h => K9 p (kmW p hp h) h) T9 (M1.put pi ti) (Nat.lt_of_le_of_lt (len_putD _ _ _) (by omega))
            · (try dsimp only)
              repeat (refine wpAny_execs_nil ?_; (try dsimp only))
              have F1' : Fr g' L1 _ (msm (.int p tpp) (.int t ttt) (some x) (some (.int ((t : Int) + (i : Int)) ti')) (.ref mm) (.ref TT) (.ref dm) (.bool ext) (.ref D8) (.ref PT) (.int (trs.size : Nat) tl8) (.int (prs.size : Nat) pl8)) := fr_eq F1 (by (intro y; by_cases h0 : y = Str.ofString "pi"; (· subst h0; rfl); by_cases h1 : y = Str.ofString "ti"; (· subst h1; rfl); by_cases h2 : y = Str.ofString "pat_elem"; (· subst h2; rfl); by_cases h3 : y = Str.ofString "k"; (· subst h3; rfl); by_cases h4 : y = Str.ofString "self"; (· subst h4; rfl); by_cases h5 : y = Str.ofString "target"; (· subst h5; rfl); by_cases h6 : y = Str.ofString "memo"; (· subst h6; rfl); by_cases h7 : y = Str.ofString "allow_extra_target"; (· subst h7; rfl); by_cases h8 : y = Str.ofString "key"; (· subst h8; rfl); by_cases h9 : y = Str.ofString "pattern"; (· subst h9; rfl); by_cases h10 : y = Str.ofString "target_len"; (· subst h10; rfl); by_cases h11 : y = Str.ofString "pattern_len"; (· subst h11; rfl); (simp only [msm, if_neg h0, if_neg h1, if_neg h2, if_neg h3, if_neg h4, if_neg h5, if_neg h6, if_neg h7, if_neg h8, if_neg h9, if_neg h10, if_neg h11])))
              refine ⟨_, _, _, _, rfl, F1', N1, hIW, _, D1, rfl, List.mem_filter.mpr ⟨hkyW, bne_iff_ne.mpr (hneI _ hky2)⟩, fun q hq h => List.mem_filter.mpr ⟨kmW q hq h, bne_iff_ne.mpr (hneI _ (km2 q hq h))⟩, tab_filter N1 TB1 hIW hoc, M1, by omega, fun j hj => ?_⟩
              rcases Nat.lt_succ_iff_lt_or_eq.mp hj with hj | rfl
              · exact hall j hj
              · assumption
        case zfin =>
          rintro h' tk' m' news' F' N' ⟨kv2, D2, rfl, hky2, km2, TB2, M2, hD2, hall⟩
          have hprod : (7 - (tg.length + 1 - t)) * c = (7 - (tg.length + 1 - t) - 1) * c + c := by rw [show 7 - (tg.length + 1 - t) = (7 - (tg.length + 1 - t) - 1) + 1 by omega, Nat.succ_mul]; rfl
          dsimp only
          show wpAny _ _ _ _ _ _
          k_steps
          dsimp only
          rename News _ _ _ _ => N9
          rename Fr _ _ _ _ => F9
          rename (∀ p ∈ _, _ → p ∈ _) => K9
          rename TupTab _ _ _ _ _ => T9
          (try unfold WStep)
          (try unfold RStep)
          (try dsimp only)
          have e : false = msl ext (ps.drop pi) (tg.drop ti) := by
            rw [← hres, msl_run hp' hk1]
            symm
            refine Bool.eq_false_iff.mpr fun h => ?_
            obtain ⟨k, a1, a2, a3⟩ := (anyT_drop _ _ _ ht).mp h
            have z := hall (k - t) (by omega)
            rw [show t + (k - t) = k by omega, a3] at z
            cases z
          rw [e] at T9 ⊢
          exact hret _ _ _ _ _ F9 N9 (fun p hp h => K9 p (km2 p hp h) h) T9 (M2.put pi ti) (Nat.lt_of_le_of_lt (len_putD _ _ _) (by omega))
      · show wpAny _ _ _ _ _ _
        k_steps
        · have hk1 : ps[p] = 0 := beq_iff_eq.mp (by assumption)
          show wpAny _ _ _ _ _ _
          (try dsimp only)
          rename News _ _ _ _ => N9
          rename Fr _ _ _ _ => F9
          repeat (refine wpAny_execs_nil ?_; (try dsimp only))
          refine' WhileStep.intro (n' := ps.length - (p + 1)) (fr_eq F9 ?zhm) N9 ?zn ⟨p + 1, t + 1, _, _, some x, kv, rfl, rfl, by omega, by omega, by omega, ?zr, rfl⟩
          case zhm => (intro y; by_cases h0 : y = Str.ofString "pi"; (· subst h0; rfl); by_cases h1 : y = Str.ofString "ti"; (· subst h1; rfl); by_cases h2 : y = Str.ofString "pat_elem"; (· subst h2; rfl); by_cases h3 : y = Str.ofString "k"; (· subst h3; rfl); by_cases h4 : y = Str.ofString "self"; (· subst h4; rfl); by_cases h5 : y = Str.ofString "target"; (· subst h5; rfl); by_cases h6 : y = Str.ofString "memo"; (· subst h6; rfl); by_cases h7 : y = Str.ofString "allow_extra_target"; (· subst h7; rfl); by_cases h8 : y = Str.ofString "key"; (· subst h8; rfl); by_cases h9 : y = Str.ofString "pattern"; (· subst h9; rfl); by_cases h10 : y = Str.ofString "target_len"; (· subst h10; rfl); by_cases h11 : y = Str.ofString "pattern_len"; (· subst h11; rfl); (simp only [msm, if_neg h0, if_neg h1, if_neg h2, if_neg h3, if_neg h4, if_neg h5, if_neg h6, if_neg h7, if_neg h8, if_neg h9, if_neg h10, if_neg h11]))
          case zn => omega
          case zr => rw [← msl_one hp' ht' hk1]; exact hres
        · have hk1 : 2 ≤ ps[p] := by
            have q1 : ¬ ps[p] = 1 := beq_eq_false_iff_ne.mp (by assumption)
            have q2 : ¬ ps[p] = 0 := beq_eq_false_iff_ne.mp (by assumption)
            omega
          k_steps
          · dsimp only
            rename News _ _ _ _ => N9
            rename Fr _ _ _ _ => F9
            rename (∀ p ∈ _, _ → p ∈ _) => K9
            rename TupTab _ _ _ _ _ => T9
            (try unfold WStep)
            (try unfold RStep)
            (try dsimp only)
            have e : false = msl ext (ps.drop pi) (tg.drop ti) := by
              have q := bne_iff_ne.mp (by assumption : (ps[p] != tg[t]) = true)
              rw [← hres, msl_ne hp' ht' hk1 q]
            rw [e] at T9 ⊢
            exact hret _ _ _ _ _ F9 N9 (fun p hp h => K9 p (.tail _ hp) h) T9 (hM.put pi ti) (Nat.lt_of_le_of_lt (len_putD _ _ _) (by omega))
          · have q : ps[p] = tg[t] := by
              have z : (ps[p] != tg[t]) = false := by assumption
              simpa using z
            show wpAny _ _ _ _ _ _
            (try dsimp only)
            rename News _ _ _ _ => N9
            rename Fr _ _ _ _ => F9
            repeat (refine wpAny_execs_nil ?_; (try dsimp only))
            refine' WhileStep.intro (n' := ps.length - (p + 1)) (fr_eq F9 ?zhm) N9 ?zn ⟨p + 1, t + 1, _, _, some x, kv, rfl, rfl, by omega, by omega, by omega, ?zr, rfl⟩
            case zhm => (intro y; by_cases h0 : y = Str.ofString "pi"; (· subst h0; rfl); by_cases h1 : y = Str.ofString "ti"; (· subst h1; rfl); by_cases h2 : y = Str.ofString "pat_elem"; (· subst h2; rfl); by_cases h3 : y = Str.ofString "k"; (· subst h3; rfl); by_cases h4 : y = Str.ofString "self"; (· subst h4; rfl); by_cases h5 : y = Str.ofString "target"; (· subst h5; rfl); by_cases h6 : y = Str.ofString "memo"; (· subst h6; rfl); by_cases h7 : y = Str.ofString "allow_extra_target"; (· subst h7; rfl); by_cases h8 : y = Str.ofString "key"; (· subst h8; rfl); by_cases h9 : y = Str.ofString "pattern"; (· subst h9; rfl); by_cases h10 : y = Str.ofString "target_len"; (· subst h10; rfl); by_cases h11 : y = Str.ofString "pattern_len"; (· subst h11; rfl); (simp only [msm, if_neg h0, if_neg h1, if_neg h2, if_neg h3, if_neg h4, if_neg h5, if_neg h6, if_neg h7, if_neg h8, if_neg h9, if_neg h10, if_neg h11]))
            case zn => omega
            case zr => rw [← msl_eq hp' ht' hk1 q]; exact hres
    · exact ⟨h₁, _, _, _, rfl, F₁, N₁, p, t, tpp, ttt, pe, kv, rfl, rfl, hp, ht, hres, fun _ => by omega⟩
    · exact ⟨h₁, _, _, _, rfl, F₁, N₁, p, t, tpp, ttt, pe, kv, rfl, rfl, hp, ht, hres, fun _ => by omega⟩
  case zdone =>
    rintro m₁ news₁ h₁ tk₁ F₁ N₁ ⟨p, t, tpp, ttt, pe, kv, rfl, rfl, hp, ht, hres, hpt⟩
    dsimp only
    show wpAny _ _ _ _ _ _
    refine execs_stop ?_
    refine While_invR (fun n' m₁ news₁ => ∃ (p t : Nat) (tpp ttt : Tok) (pe kv : Option Value), m₁ = msm (.int p tpp) (.int t ttt) pe kv (.ref mm) (.ref TT) (.ref dm) (.bool ext) (.ref D8) (.ref PT) (.int (trs.size : Nat) tl8) (.int (prs.size : Nat) pl8) ∧ news₁ = (D8, tupObj #[.int pi tp, .int ti tt]) :: news ∧ p ≤ ps.length ∧ t ≤ tg.length ∧ msl ext (ps.drop p) (tg.drop t) = msl ext (ps.drop pi) (tg.drop ti) ∧ (p < ps.length → t = tg.length) ∧ n' = ps.length - p)
      (fun m₁ news₁ => ∃ (p t : Nat) (tpp ttt : Tok) (pe kv : Option Value), m₁ = msm (.int p tpp) (.int t ttt) pe kv (.ref mm) (.ref TT) (.ref dm) (.bool ext) (.ref D8) (.ref PT) (.int (trs.size : Nat) tl8) (.int (prs.size : Nat) pl8) ∧ news₁ = (D8, tupObj #[.int pi tp, .int ti tt]) :: news ∧ p ≤ ps.length ∧ t ≤ tg.length ∧ msl ext (ps.drop p) (tg.drop t) = msl ext (ps.drop pi) (tg.drop ti) ∧ (p < ps.length → t = tg.length) ∧ ∀ h : p < ps.length, ps[p] ≠ 1)
      F₁ N₁ ⟨p, t, tpp, ttt, pe, kv, rfl, rfl, hp, ht, hres, hpt, rfl⟩ ?zturn2 ?zdone2
    case zturn2 =>
      clear F₁ N₁ hp ht hres hpt
      rintro n₁ m₁ news₁ h₁ tk₁ F₁ N₁ ⟨p, t, tpp, ttt, pe, kv, rfl, rfl, hp, ht, hres, hpt, rfl⟩
      by_cases hp' : p < ps.length
      · obtain ⟨r, x, act, hr, hrm, hk⟩ := hP.at_ p ps[p] (by simp [hp'])
        have hr' : prs[((p : Int)).toNat]? = some (.ref r) := hr
        k_steps
        all_goals (try (exfalso; omega))
        · have hk1 : ps[p] = 1 := beq_iff_eq.mp (by assumption)
          show wpAny _ _ _ _ _ _
          k_steps
          (try dsimp only)
          rename News _ _ _ _ => N9
          rename Fr _ _ _ _ => F9
          refine' WhileStep.intro (n' := ps.length - (p + 1)) (fr_eq F9 ?zhm) N9 ?zn ⟨p + 1, t, _, ttt, pe, kv, rfl, rfl, by omega, by omega, ?zr, fun h => hpt hp', rfl⟩
          case zhm => (intro y; by_cases h0 : y = Str.ofString "pi"; (· subst h0; rfl); by_cases h1 : y = Str.ofString "ti"; (· subst h1; rfl); by_cases h2 : y = Str.ofString "pat_elem"; (· subst h2; rfl); by_cases h3 : y = Str.ofString "k"; (· subst h3; rfl); by_cases h4 : y = Str.ofString "self"; (· subst h4; rfl); by_cases h5 : y = Str.ofString "target"; (· subst h5; rfl); by_cases h6 : y = Str.ofString "memo"; (· subst h6; rfl); by_cases h7 : y = Str.ofString "allow_extra_target"; (· subst h7; rfl); by_cases h8 : y = Str.ofString "key"; (· subst h8; rfl); by_cases h9 : y = Str.ofString "pattern"; (· subst h9; rfl); by_cases h10 : y = Str.ofString "target_len"; (· subst h10; rfl); by_cases h11 : y = Str.ofString "pattern_len"; (· subst h11; rfl); (simp only [msm, if_neg h0, if_neg h1, if_neg h2, if_neg h3, if_neg h4, if_neg h5, if_neg h6, if_neg h7, if_neg h8, if_neg h9, if_neg h10, if_neg h11]))
          case zn => omega
          case zr => rw [← msl_skip hp' (hpt hp') hk1]; exact hres
        · exact ⟨h₁, _, _, _, rfl, F₁, N₁, p, t, tpp, ttt, pe, kv, rfl, rfl, hp, ht, hres, hpt, fun _ => beq_eq_false_iff_ne.mp (by assumption)⟩
      · k_steps
        all_goals (try (exfalso; omega))
        exact ⟨h₁, _, _, _, rfl, F₁, N₁, p, t, tpp, ttt, pe, kv, rfl, rfl, hp, ht, hres, hpt, fun h => absurd h hp'⟩
    case zdone2 =>
      clear F₁ N₁ hp ht hres hpt
      rintro m₁ news₁ h₁ tk₁ F₁ N₁ ⟨p, t, tpp, ttt, pe, kv, rfl, rfl, hp, ht, hres, hpt, hne⟩
      dsimp only
      show wpAny _ _ _ _ _ _
      have hfin : msl ext (ps.drop p) (tg.drop t) = (decide (p = ps.length) && (ext || decide (t = tg.length))) := by
        by_cases hp' : p < ps.length
        · have h1 := hne hp'
          rw [hpt hp', List.drop_length, drop_at' hp', msl, if_neg h1, decide_eq_false (by omega)]
          rfl
        · have e : p = ps.length := by omega
          rw [decide_eq_true e, e, List.drop_length, msl]
          by_cases h2 : t = tg.length
          · rw [h2]; simp
          · simp [h2]; omega
      k_steps
      · dsimp only
        rename News _ _ _ _ => N9
        rename Fr _ _ _ _ => F9
        rename (∀ p ∈ _, _ → p ∈ _) => K9
        rename TupTab _ _ _ _ _ => T9
        (try dsimp only)
        have e : ((p : Int) == (prs.size : Int)) = msl ext (ps.drop pi) (tg.drop ti) := by
          rw [← hres, hfin, ← eP, ← eT]
          have c1 : (((p : Int) == (prs.size : Int)) = decide (p = prs.size)) := by
            by_cases h : p = prs.size
            · rw [h]; simp
            · rw [decide_eq_false h]; exact beq_eq_false_iff_ne.mpr (by omega)
          have c2 : (((t : Int) == (trs.size : Int)) = decide (t = trs.size)) := by
            by_cases h : t = trs.size
            · rw [h]; simp
            · rw [decide_eq_false h]; exact beq_eq_false_iff_ne.mpr (by omega)
          rw [c1, show ext = true by assumption]; simp
        rw [e] at T9 ⊢
        exact hret _ _ _ _ _ F9 N9 (fun p hp h => K9 p (.tail _ hp) h) T9 (hM.put pi ti) (Nat.lt_of_le_of_lt (len_putD _ _ _) (by omega))
      · dsimp only
        rename News _ _ _ _ => N9
        rename Fr _ _ _ _ => F9
        rename (∀ p ∈ _, _ → p ∈ _) => K9
        rename TupTab _ _ _ _ _ => T9
        (try dsimp only)
        have e : ((t : Int) == (trs.size : Int)) = msl ext (ps.drop pi) (tg.drop ti) := by
          rw [← hres, hfin, ← eP, ← eT]
          have c1 : (((p : Int) == (prs.size : Int)) = decide (p = prs.size)) := by
            by_cases h : p = prs.size
            · rw [h]; simp
            · rw [decide_eq_false h]; exact beq_eq_false_iff_ne.mpr (by omega)
          have c2 : (((t : Int) == (trs.size : Int)) = decide (t = trs.size)) := by
            by_cases h : t = trs.size
            · rw [h]; simp
            · rw [decide_eq_false h]; exact beq_eq_false_iff_ne.mpr (by omega)
          rw [c2, show ext = false by assumption, decide_eq_true (show p = prs.size by omega)]; simp
        rw [e] at T9 ⊢
        exact hret _ _ _ _ _ F9 N9 (fun p hp h => K9 p (.tail _ hp) h) T9 (hM.put pi ti) (Nat.lt_of_le_of_lt (len_putD _ _ _) (by omega))
      · dsimp only
        rename News _ _ _ _ => N9
        rename Fr _ _ _ _ => F9
        rename (∀ p ∈ _, _ → p ∈ _) => K9
        rename TupTab _ _ _ _ _ => T9
        (try dsimp only)
        have e : ((p : Int) == (prs.size : Int)) = msl ext (ps.drop pi) (tg.drop ti) := by
          rw [← hres, hfin, ← eP, ← eT]
          have c1 : (((p : Int) == (prs.size : Int)) = decide (p = prs.size)) := by
            by_cases h : p = prs.size
            · rw [h]; simp
            · rw [decide_eq_false h]; exact beq_eq_false_iff_ne.mpr (by omega)
          have c2 : (((t : Int) == (trs.size : Int)) = decide (t = trs.size)) := by
            by_cases h : t = trs.size
            · rw [h]; simp
            · rw [decide_eq_false h]; exact beq_eq_false_iff_ne.mpr (by omega)
          rw [c1, show ext = false by assumption, decide_eq_false (show ¬ p = prs.size by omega)]; simp
        rw [e] at T9 ⊢
        exact hret _ _ _ _ _ F9 N9 (fun p hp h => K9 p (.tail _ hp) h) T9 (hM.put pi ti) (Nat.lt_of_le_of_lt (len_putD _ _ _) (by omega))
  

set_option maxHeartbeats 1000000 in
theorem ms_step (n : Nat) (ih : ∀ m, m < n → MsSt m) : ∀ {w : World} {mean : ExcName → Option Value} {mg mb : Str → Option Value}
  (dp un : Nat) (gd : Option (List Code)) (cn : Str) (cs : Scope) (a : Addr) (ccd : Value) (cl : List (Str × Addr)) (outer : List Env) (A₀ : Around) (base h₀ : Heap) (L : Addr) (m : Str → Option Value) (s : Shared) (Q E : Value → Shared → Prop)
  (mm dd PT TT dm : Addr) (t1 t2 tp tt : Tok) (v1 : Value) (ps tg : List Nat) (prs trs : Array Value) (news : List (Addr × Obj)) (D0 : List (PyData × PyData)) (pi ti : Nat) (ext : Bool)
  (B : Below A₀ base outer h₀) (F : Fr h₀ L s.heap m) (X : (hd.heap_39 (World.params w)).In h₀) (N : News h₀ L s.heap news) (T : Top hd.view_39 (looseW hd.view_39 [Str.ofString "SINGLE_WILDCARD", Str.ofString "MULTI_WILDCARD", Str.ofString "DEFAULT_FIRST_ELEMENT", Str.ofString "_path_to_elements", Str.ofString "_WILDCARD_RE"]) mean mg mb h₀) (hk : cs.kind = .function)
  (hdp : dp + n + 10 < recursionLimit) (hun : un + 8 * n + 100 < cLine)
  (hm1 : (mm, instObj 159 dd) ∈ news) (hm2 : (dd, mDict w t1 t2 v1 (.ref PT)) ∈ news) (hm3 : (PT, tupObj prs) ∈ news) (hm4 : (TT, tupObj trs) ∈ news) (hdd : dd ≠ dm) (hmd : mm ≠ dm)
  (hP : ElAt news prs ps) (hT : ElAt news trs tg) (hps : ∀ k ∈ ps, k < 7) (htg : ∀ k ∈ tg, 2 ≤ k ∧ k < 7) (hpl : ps.length ≤ 5) (htl : tg.length ≤ 5)
  (TB0 : TupTab (intKind (RowW.prog (OpenRow.toRowW (OpenLaw.row PySem.Challenge.rw_fu0002_01))) w) PyData.int news dm D0) (hM : Memo (fun p t => msl ext (ps.drop p) (tg.drop t)) D0) (hD : D0.length + 7 ^ (n + 1) ≤ 1000000) (hpi : pi ≤ ps.length) (hti : ti ≤ tg.length) (hn : ps.length - pi ≤ n)
  (hret : ∀ h' tk' news₂ D₂, Fr h₀ L h' m → News h₀ L h' news₂ → (∀ p ∈ news, p.1 ≠ dm → p ∈ news₂) → TupTab (intKind (RowW.prog (OpenRow.toRowW (OpenLaw.row PySem.Challenge.rw_fu0002_01))) w) PyData.int news₂ dm D₂ → Memo (fun p t => msl ext (ps.drop p) (tg.drop t)) D₂ → D₂.length < D0.length + 7 ^ (n + 1) → Q (.bool ((fun p t => msl ext (ps.drop p) (tg.drop t)) pi ti)) { s with heap := h', toks := tk' }),
  wpAny (model (RowW.prog (OpenRow.toRowW (OpenLaw.row PySem.Challenge.rw_fu0002_01))) w) (ktrTop dp un gd cn cs L a ccd cl outer) (call (.ref 149) [.ref mm, .ref TT, .int pi tp, .int ti tt, .ref dm, .bool ext] []) Q E s := by
  intro w mean mg mb dp un gd cn cs a ccd cl outer A₀ base h₀ L m s Q E mm dd PT TT dm t1 t2 tp tt v1 ps tg prs trs news D0 pi ti ext B F X N T hk hdp hun hm1 hm2 hm3 hm4 hdd hmd hP hT hps htg hpl htl TB0 hM hD hpi hti hn hret
  revert X
  k_fill
  intro X
  refine wpAny_call ?_
  k_dflt (refine' defA ?k1 ?k2 ?k3 ?k4 ?k5 ?kA ?kF ?kK ?k6 ?k7 ?k8 ?k9 ?kB ?_ ?c2 ?c3 ?c4 ?c5; (case kA => exact rfl); (case kF => exact rfl); (case kK => assumption); (case k1 => k_asm); (case k2 => k_asm); (case k3 => k_asm); (case k4 => exact N); (case k5 => k_asm); (case k6 => k_is); (case k7 => k_is); (case k8 => ktr_room); (case k9 => first | exact BindsTo.of_eq rfl | exact binds_K (by k_in) rfl (by k_is) rfl rfl rfl); (case c5 => decide); (case kB => exact locs rfl); (case c2 => exact rfl); (case c3 => exact rfl); (case c4 => exact rfl); k_whole; intro g' L' h' F' N' B' X' T'; (try dsimp only); (try k_fold))
  exact ms_body n ih dp un gd cn cs a ccd cl outer base g' L L' _ _ _ mm dd PT TT dm t1 t2 tp tt v1 ps tg prs trs news D0 pi ti ext B' F' X' N' T' hdp hun PassesOwn.leaving hm1 hm2 hm3 hm4 hdd hmd hP hT hps htg hpl htl TB0 hM hD hpi hti hn (fun h1 tk1 m1 news₂ D₂ F2 N2 k1 k2 k3 k4 => leaveK_ F2 N2 fun F3 N3 => hret h1 tk1 news₂ D₂ F3 N3 k1 k2 k3 k4)

theorem ms_ok : ∀ (n : Nat), MsSt n := by
  intro n
  induction n using Nat.strongRecOn with
  | _ n ih => exact ms_step n ih

set_option maxHeartbeats 1000000 in
theorem ms_kw (n : Nat) (ih : ∀ m, m < n → MsSt m) : ∀ {w : World} {mean : ExcName → Option Value} {mg mb : Str → Option Value}
  (dp un : Nat) (gd : Option (List Code)) (cn : Str) (cs : Scope) (a : Addr) (ccd : Value) (cl : List (Str × Addr)) (outer : List Env) (A₀ : Around) (base h₀ : Heap) (L : Addr) (m : Str → Option Value) (s : Shared) (Q E : Value → Shared → Prop)
  (mm dd PT TT dm : Addr) (t1 t2 tp tt : Tok) (v1 : Value) (ps tg : List Nat) (prs trs : Array Value) (news : List (Addr × Obj)) (D0 : List (PyData × PyData)) (pi ti : Nat) (ext : Bool)
  (B : Below A₀ base outer h₀) (F : Fr h₀ L s.heap m) (X : (hd.heap_39 (World.params w)).In h₀) (N : News h₀ L s.heap news) (T : Top hd.view_39 (looseW hd.view_39 [Str.ofString "SINGLE_WILDCARD", Str.ofString "MULTI_WILDCARD", Str.ofString "DEFAULT_FIRST_ELEMENT", Str.ofString "_path_to_elements", Str.ofString "_WILDCARD_RE"]) mean mg mb h₀) (hk : cs.kind = .function)
  (hdp : dp + n + 10 < recursionLimit) (hun : un + 8 * n + 100 < cLine)
  (hm1 : (mm, instObj 159 dd) ∈ news) (hm2 : (dd, mDict w t1 t2 v1 (.ref PT)) ∈ news) (hm3 : (PT, tupObj prs) ∈ news) (hm4 : (TT, tupObj trs) ∈ news) (hdd : dd ≠ dm) (hmd : mm ≠ dm)
  (hP : ElAt news prs ps) (hT : ElAt news trs tg) (hps : ∀ k ∈ ps, k < 7) (htg : ∀ k ∈ tg, 2 ≤ k ∧ k < 7) (hpl : ps.length ≤ 5) (htl : tg.length ≤ 5)
  (TB0 : TupTab (intKind (RowW.prog (OpenRow.toRowW (OpenLaw.row PySem.Challenge.rw_fu0002_01))) w) PyData.int news dm D0) (hM : Memo (fun p t => msl ext (ps.drop p) (tg.drop t)) D0) (hD : D0.length + 7 ^ (n + 1) ≤ 1000000) (hpi : pi ≤ ps.length) (hti : ti ≤ tg.length) (hn : ps.length - pi ≤ n)
  (hret : ∀ h' tk' news₂ D₂, Fr h₀ L h' m → News h₀ L h' news₂ → (∀ p ∈ news, p.1 ≠ dm → p ∈ news₂) → TupTab (intKind (RowW.prog (OpenRow.toRowW (OpenLaw.row PySem.Challenge.rw_fu0002_01))) w) PyData.int news₂ dm D₂ → Memo (fun p t => msl ext (ps.drop p) (tg.drop t)) D₂ → D₂.length < D0.length + 7 ^ (n + 1) → Q (.bool ((fun p t => msl ext (ps.drop p) (tg.drop t)) pi ti)) { s with heap := h', toks := tk' }),
  wpAny (model (RowW.prog (OpenRow.toRowW (OpenLaw.row PySem.Challenge.rw_fu0002_01))) w) (ktrTop dp un gd cn cs L a ccd cl outer) (call (.ref 149) [.ref mm, .ref TT, .int pi tp, .int ti tt, .ref dm] [(Str.ofString "allow_extra_target", .bool ext)]) Q E s := by
  intro w mean mg mb dp un gd cn cs a ccd cl outer A₀ base h₀ L m s Q E mm dd PT TT dm t1 t2 tp tt v1 ps tg prs trs news D0 pi ti ext B F X N T hk hdp hun hm1 hm2 hm3 hm4 hdd hmd hP hT hps htg hpl htl TB0 hM hD hpi hti hn hret
  revert X
  k_fill
  intro X
  refine wpAny_call ?_
  k_dflt (refine' defA ?k1 ?k2 ?k3 ?k4 ?k5 ?kA ?kF ?kK ?k6 ?k7 ?k8 ?k9 ?kB ?_ ?c2 ?c3 ?c4 ?c5; (case kA => exact rfl); (case kF => exact rfl); (case kK => assumption); (case k1 => k_asm); (case k2 => k_asm); (case k3 => k_asm); (case k4 => exact N); (case k5 => k_asm); (case k6 => k_is); (case k7 => k_is); (case k8 => ktr_room); (case k9 => first | exact BindsTo.of_eq rfl | exact binds_K (by k_in) rfl (by k_is) rfl rfl rfl); (case c5 => decide); (case kB => exact locs rfl); (case c2 => exact rfl); (case c3 => exact rfl); (case c4 => exact rfl); k_whole; intro g' L' h' F' N' B' X' T'; (try dsimp only); (try k_fold))
  exact ms_body n ih dp un gd cn cs a ccd cl outer base g' L L' _ _ _ mm dd PT TT dm t1 t2 tp tt v1 ps tg prs trs news D0 pi ti ext B' F' X' N' T' hdp hun PassesOwn.leaving hm1 hm2 hm3 hm4 hdd hmd hP hT hps htg hpl htl TB0 hM hD hpi hti hn (fun h1 tk1 m1 news₂ D₂ F2 N2 k1 k2 k3 k4 => leaveK_ F2 N2 fun F3 N3 => hret h1 tk1 news₂ D₂ F3 N3 k1 k2 k3 k4)

end Mine
end
section
theorem Mine.off_Rm : True := by
  w_top off
  trivial
open PySem PySem.W PyProof.Rows PySem.Calls PySem.Spec
set_option Elab.async false
set_option linter.unusedVariables false
set_option maxRecDepth 100000
namespace Mine
section
variable {M : Model} {A : Around} {E : Value → Shared → Prop} {s : Shared} {env : Env}
theorem wpC_Subscript {value slice : PySem.Expr} {pos} {Q : Value → Shared → Prop}
    (h : wpC M A (eval value env) (fun o s₁ => wpAny M A (eval slice env) (fun i s₂ => wpAny M A (subscriptTail value slice o i) Q E s₂) E s₁) E s) :
    wpC M A (eval (.Subscript value slice pos) env) Q E s := by
  rw [eval_Subscript]
  exact wpC_bind (wpC_mono h (fun o s₁ h₁ => wpC_bind (wpC_holding (wpC.of (wpAny_mono h₁ (fun i s₂ h₂ => wpC_bind (wpC_standAt (wpC.of h₂))) fun _ _ x => x)))) fun _ _ x => x)
end
section
variable {prog : Program} {w : World} {A : Around} {E : Value → Shared → Prop} {s : Shared} {h₀ : Heap} {L : Addr} {m : Str → Option Value} {news : List (Addr × Obj)}
theorem slice_any {value slice : PySem.Expr} {t : Addr} {items : Array Value} {a : Nat} {u : Tok} {Q : Value → Shared → Prop}
    (F : Fr h₀ L s.heap m) (N : News h₀ L s.heap news) (ht : IsTup s.heap t items) (h1 : 1 ≤ a) (ha : a ≤ items.size)
    (h : ∀ (T3 : Addr) h', Fr h₀ L h' m → News h₀ L h' ((T3, { cls := .type "tuple", data := .seq (items.toList.drop a).toArray }) :: news) → Q (.ref T3) { s with heap := h' })
    (hs : subscripted slice false (.ref t) (.ref s.heap.objs.size) = operate [.ref s.heap.objs.size, .ref t] (getItem (.ref t) (.ref s.heap.objs.size)) := by with_unfolding_all rfl)
    (hsz : items.size ≤ sizeLine := by size_fits) :
    wpAny (model prog w) A (subscriptTail value slice (.ref t) (.ref s.heap.objs.size)) Q E { s with heap := s.heap.push { cls := .type "slice", data := .fields #[.int a u, .none, .none] } } := by
  have ht' : IsTup (s.heap.push { cls := .type "slice", data := .fields #[.int a u, .none, .none] }) t items := ht.keeps fun _ _ e => Heap.get?_push_of_some _ e
  refine tail_any (s := { s with heap := s.heap.push { cls := .type "slice", data := .fields #[.int a u, .none, .none] } }) ht'.typeIs slot_tuple_getitem.lookup
    (getItem_tuple_from ht' (Heap.IsSliceOf.new ..) h1 ha ?_ hsz) hs
  have N1 := News.push (F.push { cls := .type "slice", data := .fields #[.int a u, .none, .none] }) (N.grown fun _ _ e => Heap.get?_push_of_some _ e) { cls := .type "tuple", data := .seq (items.toList.drop a).toArray }
  rw [Heap.size_push] at N1
  show Q (.ref (s.heap.push _).objs.size) _
  rw [Heap.size_push]
  exact h _ _ ((F.push _).push _) N1
end
/-- the elements as the tuple of their references -/
theorem Els.elAt {els : List (Addr × Obj)} {rs : List Addr} {ks : List Nat} (H : Els els rs ks) {news : List (Addr × Obj)} (s : ∀ p ∈ els, p ∈ news) : ElAt news (rs.map Value.ref).toArray ks :=
  ⟨by simp [H.len], fun i k h => by
    have hi : i < rs.length := by rw [H.len]; exact (List.getElem?_eq_some_iff.mp h).1
    obtain ⟨x, act, h1, h2⟩ := H.at_ i rs[i] k (by simp [hi]) h
    exact ⟨rs[i], x, act, by simp [hi], s _ h1, h2⟩⟩
end Mine
end
section
theorem Mine.off_Mt : True := by
  w_top off
  trivial
open PySem PySem.W PyProof.Rows
set_option Elab.async false
set_option linter.unusedVariables false
set_option linter.unusedSimpArgs false
set_option maxRecDepth 100000
namespace Mine

open PyProof.V
local macro_rules | `(tactic| k_mem) => `(tactic| assumption)
local macro_rules | `(tactic| k_all) => `(tactic| with_reducible assumption)

local macro_rules | `(tactic| walk_at "subscriptTail Name Slice ref ref") => `(tactic| (k_here; refine stop_on ?_))
set_option maxHeartbeats 4000000 in
theorem match_ok : ∀ {w : World} {mean : ExcName → Option Value} {mg mb : Str → Option Value}
  (dp un : Nat) (gd : Option (List Code)) (cn : Str) (cs : Scope) (a : Addr) (ccd : Value) (cl : List (Str × Addr)) (outer : List Env) (A₀ : Around) (base h₀ : Heap) (L : Addr) (m : Str → Option Value) (s : Shared) (Q E : Value → Shared → Prop)
  (mm dd PT : Addr) (t1 t2 tk : Tok) (v1 : Value) (ps ks : List Nat) (prs : Array Value) (news : List (Addr × Obj)) (u : Str) (stF : PS)
  (B : Below A₀ base outer h₀) (F : Fr h₀ L s.heap m) (X : (hd.heap_39 (World.params w)).In h₀) (N : News h₀ L s.heap news) (T : Top hd.view_39 (looseW hd.view_39 [Str.ofString "SINGLE_WILDCARD", Str.ofString "MULTI_WILDCARD", Str.ofString "DEFAULT_FIRST_ELEMENT", Str.ofString "_path_to_elements", Str.ofString "_WILDCARD_RE"]) mean mg mb h₀) (D : KtsDicts (outer.filterMap (·.frame)) h₀) (XB : (hd.heap_39 (World.params w)).In base) (TB : Top hd.view_39 (looseW hd.view_39 [Str.ofString "SINGLE_WILDCARD", Str.ofString "MULTI_WILDCARD", Str.ofString "DEFAULT_FIRST_ELEMENT", Str.ofString "_path_to_elements", Str.ofString "_WILDCARD_RE"]) mean mg mb base) (hk : cs.kind = .function)
  (hdp : dp + 60 < recursionLimit) (hun : un + 600 < cLine)
  (hm1 : (mm, instObj 159 dd) ∈ news) (hm2 : (dd, mDict w t1 t2 v1 (.ref PT)) ∈ news) (hm3 : (PT, tupObj prs) ∈ news)
  (hP : ElAt news prs ps) (hps : ∀ k ∈ ps, k < 7) (htg : ∀ k ∈ ks, 2 ≤ k ∧ k < 7) (hpl : ps.length ≤ 5) (hks : ks.length ≤ 5) (hu : u.length ≤ sizeLine)
  (hrun : Runs ⟨[], Str.ofString "", 0, false, none⟩ (Txt.slice u (some 4) none).cps.toList stF) (hfin : Fin stF ks)
  (hret : ∀ h₀' h' tk' news₂, KtsTurn (outer.filterMap (·.frame)) h₀ h₀' → Fr h₀' L h' m → Below A₀ base outer h₀' → News h₀' L h' news₂ → (∀ p ∈ news, p ∈ news₂) → Q (.bool (msl false ps ks)) { s with heap := h', toks := tk' }),
  wpC (model (RowW.prog (OpenRow.toRowW (OpenLaw.row PySem.Challenge.rw_fu0002_01))) w) (ktrTop dp un gd cn cs L a ccd cl outer) (call (.ref 128) [.ref mm, .str u tk] []) Q E s := by
  intro w mean mg mb dp un gd cn cs a ccd cl outer A₀ base h₀ L m s Q E mm dd PT t1 t2 tk v1 ps ks prs news u stF B F X N T D XB TB hk hdp hun hm1 hm2 hm3 hP hps htg hpl hks hu hrun hfin hret
  revert X
  k_fill
  intro X
  refine wpC_call ?_
  k_dflt (refine' defC ?k1 ?k2 ?k3 ?k4 ?k5 ?kD ?kA ?kF ?kK ?k6 ?k7 ?k8 ?k9 ?kB ?_ ?c2 ?c3 ?c4 ?c5; (case kA => exact rfl); (case kF => exact rfl); (case kK => assumption); (case k1 => k_asm); (case k2 => k_asm); (case k3 => k_asm); (case k4 => exact N); (case k5 => k_asm); (case kD => exact D); (case k6 => k_is); (case k7 => k_is); (case k8 => ktr_room); (case k9 => first | exact BindsTo.of_eq rfl | exact binds_K (by k_in) rfl (by k_is) rfl rfl rfl); (case c5 => decide); (case kB => exact locs rfl); (case c2 => exact rfl); (case c3 => exact rfl); (case c4 => exact rfl); k_whole; intro g' L' h' F' N' B' X' T' D'; (try dsimp only); (try k_fold))
  clear B F X T
  refine wpC_execs_cons (wpC_Assign_Name ?_)
  refine wpC_Subscript ?_
  refine wpC_CallKw ?_
  k_steps
  rename News _ _ _ (_ :: news) => N8
  rename Fr _ _ _ _ => F8
  refine' rest_def ?zho ?zhd ?_
  case zho => exact (Frag.In.keeps (by k_asm) (Fr.keep (by k_asm))) _ _ (by k_is)
  case zhd => rfl
  dsimp only [List.nil_append]
  refine scan_ok _ _ _ _ _ _ _ _ _ _ _ _ _ _ _ _ _ news _ _ _ u tk hu ks (by omega) stF hrun hfin B' F8 X' N8 T' D' XB TB rfl (by show dp + 1 + 30 < recursionLimit; omega) (by show un + 3 + 300 < cLine; omega) ?_
  intro T els rs g2 h2 tk2 KT2 F2 B2 N2 hE
  have X2 := XB.keeps B2.stays
  have T2 := TB.keeps B2.stays
  (try clear F8); (try clear N8); (try clear B'); (try clear X'); (try clear T')
  obtain ⟨W, hW1, hW2, hW3, N2⟩ : ∃ W, (∀ p ∈ news, p ∈ W) ∧ (∀ p ∈ els, p ∈ W) ∧ (T, tupObj ((Value.ref _) :: rs.map Value.ref).toArray) ∈ W ∧ News g2 L' h2 W :=
    ⟨_, fun p hp => List.mem_cons_of_mem _ (List.mem_append_right _ (List.mem_cons_of_mem _ hp)), fun p hp => List.mem_cons_of_mem _ (List.mem_append_left _ hp), List.mem_cons_self .., N2⟩
  k_steps
  unfold Stop
  refine slice_any (s := ⟨_, _, _, _, _⟩) F2 N2 (tup_is N2 hW3) (Nat.le_refl _) (by simp) ?_ (hsz := by have := hE.len; rw [sizeLine_eq]; simp; omega)
  intro T3 h3 F3 N3
  have N3 : News _ _ _ ((_, tupObj (rs.map Value.ref).toArray) :: W) := N3
  (try clear N2); (try clear F2)
  (try dsimp only)
  k_steps
  have hm1W := hW1 _ hm1
  have hm2W := hW1 _ hm2
  have hpow7 : 7 ^ (ps.length + 1) ≤ 117649 := Nat.le_trans (Nat.pow_le_pow_right (by decide) (show ps.length + 1 ≤ 6 by omega)) (by decide)
  have hTm := hE.elAt hW2
  refine wpC.of ?_
  k_steps
  rename (_ ∧ AllLt _ W) => l8
  rename News _ _ _ _ => N9
  rename Fr _ _ _ _ => F9
  rename ((_ == sysModules) = false) => lo9
  rename Obj.IsDictOf _ _ [] => hi9
  refine ms_kw ps.length (fun m _ => ms_ok m) _ _ _ _ _ _ _ _ _ _ _ _ _ _ _ _ _ mm dd PT T3 _ t1 t2 _ _ v1 ps ks prs (rs.map Value.ref).toArray _ [] 0 0 false B2 F9 X2 N9 T2 rfl (by show dp + 1 + ps.length + 10 < recursionLimit; omega) (by show un + 3 + 8 * ps.length + 100 < cLine; omega)
    (.tail _ (.tail _ hm1W)) (.tail _ (.tail _ hm2W)) (.tail _ (.tail _ (hW1 _ hm3))) (.tail _ (.head _)) (allLt_ne l8.2 _ hm2W) (allLt_ne l8.2 _ hm1W)
    (hP.sub fun p hp _ => .tail _ (.tail _ (hW1 p hp))) (hTm.sub fun p hp _ => .tail _ (.tail _ hp)) hps htg hpl hks (TupTab.ofEmpty (List.mem_cons_self ..) lo9 hi9) (fun _ _ _ h => by cases h) (by simp; omega) (Nat.zero_le _) (Nat.zero_le _) (by omega) ?_
  intro h4 tk4 news4 D4 F4 N4 km _ _ _
  refine leaveC_ F4 N4 KT2 ?_
  intro h₀' KT F5 N5 B5
  exact hret h₀' _ _ news4 KT F5 B5 N5 (fun p hp => km p (.tail _ (.tail _ (hW1 p hp))) (allLt_ne l8.2 p (hW1 p hp)))


set_option maxHeartbeats 4000000 in
theorem desc_ok : ∀ {w : World} {mean : ExcName → Option Value} {mg mb : Str → Option Value}
  (dp un : Nat) (gd : Option (List Code)) (cn : Str) (cs : Scope) (a : Addr) (ccd : Value) (cl : List (Str × Addr)) (outer : List Env) (A₀ : Around) (base h₀ : Heap) (L : Addr) (m : Str → Option Value) (s : Shared) (Q E : Value → Shared → Prop)
  (mm dd PT : Addr) (t1 t2 tk : Tok) (v1 : Value) (ps ks : List Nat) (prs : Array Value) (news : List (Addr × Obj)) (u : Str) (stF : PS)
  (B : Below A₀ base outer h₀) (F : Fr h₀ L s.heap m) (X : (hd.heap_39 (World.params w)).In h₀) (N : News h₀ L s.heap news) (T : Top hd.view_39 (looseW hd.view_39 [Str.ofString "SINGLE_WILDCARD", Str.ofString "MULTI_WILDCARD", Str.ofString "DEFAULT_FIRST_ELEMENT", Str.ofString "_path_to_elements", Str.ofString "_WILDCARD_RE"]) mean mg mb h₀) (D : KtsDicts (outer.filterMap (·.frame)) h₀) (XB : (hd.heap_39 (World.params w)).In base) (TB : Top hd.view_39 (looseW hd.view_39 [Str.ofString "SINGLE_WILDCARD", Str.ofString "MULTI_WILDCARD", Str.ofString "DEFAULT_FIRST_ELEMENT", Str.ofString "_path_to_elements", Str.ofString "_WILDCARD_RE"]) mean mg mb base) (hk : cs.kind = .function)
  (hdp : dp + 60 < recursionLimit) (hun : un + 600 < cLine)
  (hm1 : (mm, instObj 159 dd) ∈ news) (hm2 : (dd, mDict w t1 t2 v1 (.ref PT)) ∈ news) (hm3 : (PT, tupObj prs) ∈ news)
  (hP : ElAt news prs ps) (hps : ∀ k ∈ ps, k < 7) (htg : ∀ k ∈ ks, 2 ≤ k ∧ k < 7) (hpl : ps.length ≤ 5) (hks : ks.length ≤ 5) (hu : u.length ≤ sizeLine)
  (hrun : Runs ⟨[], Str.ofString "", 0, false, none⟩ (Txt.slice u (some 4) none).cps.toList stF) (hfin : Fin stF ks)
  (hret : ∀ h₀' h' tk' news₂, KtsTurn (outer.filterMap (·.frame)) h₀ h₀' → Fr h₀' L h' m → Below A₀ base outer h₀' → News h₀' L h' news₂ → (∀ p ∈ news, p ∈ news₂) → Q (.bool (msl true ps ks)) { s with heap := h', toks := tk' }),
  wpC (model (RowW.prog (OpenRow.toRowW (OpenLaw.row PySem.Challenge.rw_fu0002_01))) w) (ktrTop dp un gd cn cs L a ccd cl outer) (call (.ref 142) [.ref mm, .str u tk] []) Q E s := by
  intro w mean mg mb dp un gd cn cs a ccd cl outer A₀ base h₀ L m s Q E mm dd PT t1 t2 tk v1 ps ks prs news u stF B F X N T D XB TB hk hdp hun hm1 hm2 hm3 hP hps htg hpl hks hu hrun hfin hret
  revert X
  k_fill
  intro X
  refine wpC_call ?_
  k_dflt (refine' defC ?k1 ?k2 ?k3 ?k4 ?k5 ?kD ?kA ?kF ?kK ?k6 ?k7 ?k8 ?k9 ?kB ?_ ?c2 ?c3 ?c4 ?c5; (case kA => exact rfl); (case kF => exact rfl); (case kK => assumption); (case k1 => k_asm); (case k2 => k_asm); (case k3 => k_asm); (case k4 => exact N); (case k5 => k_asm); (case kD => exact D); (case k6 => k_is); (case k7 => k_is); (case k8 => ktr_room); (case k9 => first | exact BindsTo.of_eq rfl | exact binds_K (by k_in) rfl (by k_is) rfl rfl rfl); (case c5 => decide); (case kB => exact locs rfl); (case c2 => exact rfl); (case c3 => exact rfl); (case c4 => exact rfl); k_whole; intro g' L' h' F' N' B' X' T' D'; (try dsimp only); (try k_fold))
  clear B F X T
  refine wpC_execs_cons (wpC_Assign_Name ?_)
  refine wpC_Subscript ?_
  refine wpC_CallKw ?_
  k_steps
  rename News _ _ _ (_ :: news) => N8
  rename Fr _ _ _ _ => F8
  refine' rest_def ?zho ?zhd ?_
  case zho => exact (Frag.In.keeps (by k_asm) (Fr.keep (by k_asm))) _ _ (by k_is)
  case zhd => rfl
  dsimp only [List.nil_append]
  refine scan_ok _ _ _ _ _ _ _ _ _ _ _ _ _ _ _ _ _ news _ _ _ u tk hu ks (by omega) stF hrun hfin B' F8 X' N8 T' D' XB TB rfl (by show dp + 1 + 30 < recursionLimit; omega) (by show un + 3 + 300 < cLine; omega) ?_
  intro T els rs g2 h2 tk2 KT2 F2 B2 N2 hE
  have X2 := XB.keeps B2.stays
  have T2 := TB.keeps B2.stays
  (try clear F8); (try clear N8); (try clear B'); (try clear X'); (try clear T')
  obtain ⟨W, hW1, hW2, hW3, N2⟩ : ∃ W, (∀ p ∈ news, p ∈ W) ∧ (∀ p ∈ els, p ∈ W) ∧ (T, tupObj ((Value.ref _) :: rs.map Value.ref).toArray) ∈ W ∧ News g2 L' h2 W :=
    ⟨_, fun p hp => List.mem_cons_of_mem _ (List.mem_append_right _ (List.mem_cons_of_mem _ hp)), fun p hp => List.mem_cons_of_mem _ (List.mem_append_left _ hp), List.mem_cons_self .., N2⟩
  k_steps
  unfold Stop
  refine slice_any (s := ⟨_, _, _, _, _⟩) F2 N2 (tup_is N2 hW3) (Nat.le_refl _) (by simp) ?_ (hsz := by have := hE.len; rw [sizeLine_eq]; simp; omega)
  intro T3 h3 F3 N3
  have N3 : News _ _ _ ((_, tupObj (rs.map Value.ref).toArray) :: W) := N3
  (try clear N2); (try clear F2)
  (try dsimp only)
  k_steps
  have hm1W := hW1 _ hm1
  have hm2W := hW1 _ hm2
  have hpow7 : 7 ^ (ps.length + 1) ≤ 117649 := Nat.le_trans (Nat.pow_le_pow_right (by decide) (show ps.length + 1 ≤ 6 by omega)) (by decide)
  have hTm := hE.elAt hW2
  refine wpC.of ?_
  k_steps
  rename (_ ∧ AllLt _ W) => l8
  rename News _ _ _ _ => N9
  rename Fr _ _ _ _ => F9
  rename ((_ == sysModules) = false) => lo9
  rename Obj.IsDictOf _ _ [] => hi9
  refine ms_kw ps.length (fun m _ => ms_ok m) _ _ _ _ _ _ _ _ _ _ _ _ _ _ _ _ _ mm dd PT T3 _ t1 t2 _ _ v1 ps ks prs (rs.map Value.ref).toArray _ [] 0 0 true B2 F9 X2 N9 T2 rfl (by show dp + 1 + ps.length + 10 < recursionLimit; omega) (by show un + 3 + 8 * ps.length + 100 < cLine; omega)
    (.tail _ (.tail _ hm1W)) (.tail _ (.tail _ hm2W)) (.tail _ (.tail _ (hW1 _ hm3))) (.tail _ (.head _)) (allLt_ne l8.2 _ hm2W) (allLt_ne l8.2 _ hm1W)
    (hP.sub fun p hp _ => .tail _ (.tail _ (hW1 p hp))) (hTm.sub fun p hp _ => .tail _ (.tail _ hp)) hps htg hpl hks (TupTab.ofEmpty (List.mem_cons_self ..) lo9 hi9) (fun _ _ _ h => by cases h) (by simp; omega) (Nat.zero_le _) (Nat.zero_le _) (by omega) ?_
  intro h4 tk4 news4 D4 F4 N4 km _ _ _
  refine leaveC_ F4 N4 KT2 ?_
  intro h₀' KT F5 N5 B5
  exact hret h₀' _ _ news4 KT F5 B5 N5 (fun p hp => km p (.tail _ (.tail _ (hW1 p hp))) (allLt_ne l8.2 p (hW1 p hp)))


set_option maxHeartbeats 4000000 in
theorem anc_ok : ∀ {w : World} {mean : ExcName → Option Value} {mg mb : Str → Option Value}
  (dp un : Nat) (gd : Option (List Code)) (cn : Str) (cs : Scope) (a : Addr) (ccd : Value) (cl : List (Str × Addr)) (outer : List Env) (A₀ : Around) (base h₀ : Heap) (L : Addr) (m : Str → Option Value) (s : Shared) (Q E : Value → Shared → Prop)
  (mm dd PT : Addr) (t1 t2 tk : Tok) (v1 : Value) (ps ks : List Nat) (prs : Array Value) (news : List (Addr × Obj)) (u : Str) (stF : PS)
  (B : Below A₀ base outer h₀) (F : Fr h₀ L s.heap m) (X : (hd.heap_39 (World.params w)).In h₀) (N : News h₀ L s.heap news) (T : Top hd.view_39 (looseW hd.view_39 [Str.ofString "SINGLE_WILDCARD", Str.ofString "MULTI_WILDCARD", Str.ofString "DEFAULT_FIRST_ELEMENT", Str.ofString "_path_to_elements", Str.ofString "_WILDCARD_RE"]) mean mg mb h₀) (D : KtsDicts (outer.filterMap (·.frame)) h₀) (XB : (hd.heap_39 (World.params w)).In base) (TB : Top hd.view_39 (looseW hd.view_39 [Str.ofString "SINGLE_WILDCARD", Str.ofString "MULTI_WILDCARD", Str.ofString "DEFAULT_FIRST_ELEMENT", Str.ofString "_path_to_elements", Str.ofString "_WILDCARD_RE"]) mean mg mb base) (hk : cs.kind = .function)
  (hdp : dp + 60 < recursionLimit) (hun : un + 600 < cLine)
  (hm1 : (mm, instObj 159 dd) ∈ news) (hm2 : (dd, mDict w t1 t2 v1 (.ref PT)) ∈ news) (hm3 : (PT, tupObj prs) ∈ news)
  (hP : ElAt news prs ps) (hps : ∀ k ∈ ps, k < 7) (htg : ∀ k ∈ ks, 2 ≤ k ∧ k < 7) (hpl : ps.length ≤ 5) (hks : ks.length ≤ 5) (hu : u.length ≤ sizeLine)
  (hrun : Runs ⟨[], Str.ofString "", 0, false, none⟩ (Txt.slice u (some 4) none).cps.toList stF) (hfin : Fin stF ks)
  (hret : ∀ h₀' h' tk' news₂, KtsTurn (outer.filterMap (·.frame)) h₀ h₀' → Fr h₀' L h' m → Below A₀ base outer h₀' → News h₀' L h' news₂ → (∀ p ∈ news, p ∈ news₂) → Q (.bool (msl false ps ks || cdl ps ks)) { s with heap := h', toks := tk' }),
  wpC (model (RowW.prog (OpenRow.toRowW (OpenLaw.row PySem.Challenge.rw_fu0002_01))) w) (ktrTop dp un gd cn cs L a ccd cl outer) (call (.ref 135) [.ref mm, .str u tk] []) Q E s := by
  intro w mean mg mb dp un gd cn cs a ccd cl outer A₀ base h₀ L m s Q E mm dd PT t1 t2 tk v1 ps ks prs news u stF B F X N T D XB TB hk hdp hun hm1 hm2 hm3 hP hps htg hpl hks hu hrun hfin hret
  revert X
  k_fill
  intro X
  refine wpC_call ?_
  k_dflt (refine' defC ?k1 ?k2 ?k3 ?k4 ?k5 ?kD ?kA ?kF ?kK ?k6 ?k7 ?k8 ?k9 ?kB ?_ ?c2 ?c3 ?c4 ?c5; (case kA => exact rfl); (case kF => exact rfl); (case kK => assumption); (case k1 => k_asm); (case k2 => k_asm); (case k3 => k_asm); (case k4 => exact N); (case k5 => k_asm); (case kD => exact D); (case k6 => k_is); (case k7 => k_is); (case k8 => ktr_room); (case k9 => first | exact BindsTo.of_eq rfl | exact binds_K (by k_in) rfl (by k_is) rfl rfl rfl); (case c5 => decide); (case kB => exact locs rfl); (case c2 => exact rfl); (case c3 => exact rfl); (case c4 => exact rfl); k_whole; intro g' L' h' F' N' B' X' T' D'; (try dsimp only); (try k_fold))
  clear B F X T
  refine wpC_execs_cons (wpC_Assign_Name ?_)
  refine wpC_Subscript ?_
  refine wpC_CallKw ?_
  k_steps
  rename News _ _ _ (_ :: news) => N8
  rename Fr _ _ _ _ => F8
  refine' rest_def ?zho ?zhd ?_
  case zho => exact (Frag.In.keeps (by k_asm) (Fr.keep (by k_asm))) _ _ (by k_is)
  case zhd => rfl
  dsimp only [List.nil_append]
  refine scan_ok _ _ _ _ _ _ _ _ _ _ _ _ _ _ _ _ _ news _ _ _ u tk hu ks (by omega) stF hrun hfin B' F8 X' N8 T' D' XB TB rfl (by show dp + 1 + 30 < recursionLimit; omega) (by show un + 3 + 300 < cLine; omega) ?_
  intro T els rs g2 h2 tk2 KT2 F2 B2 N2 hE
  have X2 := XB.keeps B2.stays
  have T2 := TB.keeps B2.stays
  (try clear F8); (try clear N8); (try clear B'); (try clear X'); (try clear T')
  obtain ⟨W, hW1, hW2, hW3, N2⟩ : ∃ W, (∀ p ∈ news, p ∈ W) ∧ (∀ p ∈ els, p ∈ W) ∧ (T, tupObj ((Value.ref _) :: rs.map Value.ref).toArray) ∈ W ∧ News g2 L' h2 W :=
    ⟨_, fun p hp => List.mem_cons_of_mem _ (List.mem_append_right _ (List.mem_cons_of_mem _ hp)), fun p hp => List.mem_cons_of_mem _ (List.mem_append_left _ hp), List.mem_cons_self .., N2⟩
  k_steps
  unfold Stop
  refine slice_any (s := ⟨_, _, _, _, _⟩) F2 N2 (tup_is N2 hW3) (Nat.le_refl _) (by simp) ?_ (hsz := by have := hE.len; rw [sizeLine_eq]; simp; omega)
  intro T3 h3 F3 N3
  have N3 : News _ _ _ ((_, tupObj (rs.map Value.ref).toArray) :: W) := N3
  (try clear N2); (try clear F2)
  (try dsimp only)
  k_steps
  have hm1W := hW1 _ hm1
  have hm2W := hW1 _ hm2
  have hpow7 : 7 ^ (ps.length + 1) ≤ 117649 := Nat.le_trans (Nat.pow_le_pow_right (by decide) (show ps.length + 1 ≤ 6 by omega)) (by decide)
  have hTm := hE.elAt hW2
  refine wpC_execs_plain ?_
  k_steps
  refine wpC.of ?_
  k_steps
  rename (_ ∧ AllLt _ W) => l8
  rename News _ _ _ _ => N9
  rename Fr _ _ _ _ => F9
  rename ((_ == sysModules) = false) => lo9
  rename Obj.IsDictOf _ _ [] => hi9
  refine ms_kw ps.length (fun m _ => ms_ok m) _ _ _ _ _ _ _ _ _ _ _ _ _ _ _ _ _ mm dd PT T3 _ t1 t2 _ _ v1 ps ks prs (rs.map Value.ref).toArray _ [] 0 0 false B2 F9 X2 N9 T2 rfl (by show dp + 1 + ps.length + 10 < recursionLimit; omega) (by show un + 3 + 8 * ps.length + 100 < cLine; omega)
    (.tail _ (.tail _ hm1W)) (.tail _ (.tail _ hm2W)) (.tail _ (.tail _ (hW1 _ hm3))) (.tail _ (.head _)) (allLt_ne l8.2 _ hm2W) (allLt_ne l8.2 _ hm1W)
    (hP.sub fun p hp _ => .tail _ (.tail _ (hW1 p hp))) (hTm.sub fun p hp _ => .tail _ (.tail _ hp)) hps htg hpl hks (TupTab.ofEmpty (List.mem_cons_self ..) lo9 hi9) (fun _ _ _ h => by cases h) (by simp; omega) (Nat.zero_le _) (Nat.zero_le _) (by omega) ?_
  intro h4 tk4 news4 D4 F4 N4 km _ _ _
  have a1 := km _ (.tail _ (.tail _ hm1W)) (allLt_ne l8.2 _ hm1W)
  have a2 := km _ (.tail _ (.tail _ hm2W)) (allLt_ne l8.2 _ hm2W)
  have a0 : ∀ p ∈ W, p ∈ news4 := fun p hp => km p (.tail _ (.tail _ hp)) (allLt_ne l8.2 p hp)
  have a3 := a0 _ (hW1 _ hm3)
  have a4 := km _ (.tail _ (.head _)) (Nat.ne_of_lt l8.1)
  have hP4 := hP.sub fun p hp _ => a0 p (hW1 p hp)
  have hT4 := hTm.sub fun p hp _ => a0 p hp
  (try clear N9); (try clear F9)
  (try dsimp only)
  k_steps
  · rename Fr _ _ _ _ => F9
    rename News _ _ _ _ => N9
    refine leaveC_ F9 N9 KT2 ?_
    intro h₀' KT F5 N5 B5
    have z : (msl false ps ks || cdl ps ks) = msl false ps ks := by
      have q : msl false ps ks = true := by assumption
      rw [q]; rfl
    rw [z] at hret
    exact hret h₀' _ _ news4 KT F5 B5 N5 (fun p hp => a0 p (hW1 p hp))
  · rename (∀ p ∈ news4, _ < _) => l8
    rename News _ _ _ _ => N9
    rename Fr _ _ _ _ => F9
    rename ((_ == sysModules) = false) => lo9
    rename Obj.IsDictOf _ _ [] => hi9
    have hpow2 : 2 ^ (ps.length + ks.length + 1) ≤ 2048 := Nat.le_trans (Nat.pow_le_pow_right (by decide) (show ps.length + ks.length + 1 ≤ 11 by omega)) (by decide)
    refine cd_ok (ps.length + ks.length) _ _ _ _ _ _ _ _ _ _ _ _ _ _ _ _ _ mm dd PT T3 _ t1 t2 _ _ v1 ps ks prs (rs.map Value.ref).toArray _ [] 0 0 B2 F9 X2 N9 T2 rfl (by show dp + 1 + (ps.length + ks.length) + 10 < recursionLimit; omega) (by show un + 3 + 8 * (ps.length + ks.length) + 100 < cLine; omega)
      (.tail _ a1) (.tail _ a2) (.tail _ a3) (.tail _ a4) (Nat.ne_of_lt (l8 _ a2)) (Nat.ne_of_lt (l8 _ a1))
      (hP4.sub fun p hp _ => .tail _ hp) (hT4.sub fun p hp _ => .tail _ hp) hps htg (by omega) (by omega) (TupTab.ofEmpty (List.mem_cons_self ..) lo9 hi9) (fun _ _ _ h => by cases h) (by simp; omega) (Nat.zero_le _) (Nat.zero_le _) (by omega) ?_
    intro h6 tk6 news6 D6 F6 N6 km6 _ _ _
    refine leaveC_ F6 N6 KT2 ?_
    intro h₀' KT F5 N5 B5
    have z : (msl false ps ks || cdl ps ks) = cdl ps ks := by
      have q : msl false ps ks = false := by assumption
      rw [q]; rfl
    rw [z] at hret
    exact hret h₀' _ _ news6 KT F5 B5 N5 (fun p hp => km6 p (.tail _ (a0 p (hW1 p hp))) (Nat.ne_of_lt (l8 p (a0 p (hW1 p hp)))))


end Mine
end
section
theorem Mine.off_Mk : True := by
  w_top off
  trivial
open PySem PySem.W PyProof.Rows PySem.Calls PySem.Spec PyProof.V
set_option Elab.async false
set_option linter.unusedVariables false
set_option maxRecDepth 100000
namespace Mine
section
variable {prog : Program} {w : World} {A : Around} {K : Frag} {C : Addr} {R : Result → Shared → Prop} {h : Heap} {g : Array GenState} {d : Drawn} {t : Nat} {os : OsState} {s : Shared}
theorem codeC_call_builtin_at {id : String} {args : Args} {b : Builtin} (hq : (Code.builtin id args).quiet = true) (hb : entryFor table id = some b)
    (h : wpAny (model prog w) A.in1 (checkBuiltinCall id args) (fun _ s₁ => wpC (model prog w) (A.under (.builtin id args)) (b args)
      (fun fin s' => match fin with | .done f => R (.ok f) s' | .again c' => c'.quiet = true ∧ codeC (model prog w) A c' R s') (fun e s' => R (.error e) s') s₁)
      (fun e s' => R (.error e) s') s) : codeC (model prog w) A (.call (.builtin id) args) R s := by
  refine codeC_of_tree ?_
  show wpC _ A.in1 (do checkBuiltinCall id args; again (.builtin id args)) _ _ s
  refine wpC_bindA (wpAny_mono h (fun _ s₁ h₁ => wpC_pure (And.intro hq (codeC_of_tree ?_))) fun _ _ h' => h')
  show wpC _ _ (match entryFor table id with | some b => b args | none => unsupported ((withoutEnding? id "#data").getD id)) _ _ s₁
  rw [hb]; exact h₁
set_option maxHeartbeats 1000000 in
theorem make_coreC {rest : List Value} {kw : List (Str × Value)} {init : Value} (Y : Makes (model prog w) h C) (hi : Looks (model prog w) h (typeLookup (.ref C) "__init__") (some init))
    (hb : ∀ self, Looks (model prog w) h (bindSpecial init self) (init, [self])) (hne : (some init != some (Value.builtin "object.__init__")) = true ∨ (rest = [] ∧ kw = []))
    (hq : codeC (model prog w) (A.under (.builtin "type.__call__" ⟨.ref C :: rest, kw⟩)) (.call init ⟨.ref (h.objs.size + 1) :: rest, kw⟩) (InitBack (h.objs.size + 1) R) ⟨(h.push emptyDict).push (instObj C h.objs.size), g, d, t, os⟩) :
    codeC (model prog w) A (.call (.ref C) ⟨rest, kw⟩) R ⟨h, g, d, t, os⟩ := by
  have Y' := Y
  obtain ⟨⟨oc, od, cd, sl, hC, e1, e2, e4⟩, made, base, self, top, call, typ⟩ := Y
  refine codeC_of_tree ?_
  show wpC _ _ (callAny (.ref C) _) _ _ _
  simp only [callAny]
  refine wpC_bindA (wpAny_load hC ?_)
  show wpC _ _ (callAny.viaDunder (.ref C) _) _ _ _
  unfold callAny.viaDunder
  refine wpC_bindA (call.at ?_)
  dsimp only
  rw [tc_bind]
  refine wpC_bind (wpC_pure (wpC_bind (wpC_pure ?_)))
  refine wpC_pure (a := Fin.again (.call (.builtin "type.__call__") ⟨.ref C :: rest, kw⟩)) (And.intro rfl ?_)
  refine codeC_call_builtin_at (Code.quiet_builtin _ (by decide +kernel)) entry_typeCall (check_slot tc_kind tc_split typ (tc_args _ _ _) ?_)
  unfold Builtin.«type.__call__»
  have hm : Looks (model prog w) h (mroOf (.ref C)) cd.mro := ((Looks.ld (part := none) hC).andThen .now).andThen .now
  dsimp only
  simp only [show (Value.ref C == Value.type "type") = false from rfl, Bool.false_eq_true, if_false]
  refine wpC_bindA (hm.at ?_)
  simp only [e4, Bool.false_eq_true, if_false]
  refine wpC_bindA (made.at ?_)
  dsimp only
  refine wpC_bind (wpC_pure ?_)
  refine wpC_bindA (wpAny_holding (wpAny_call (new_K Y' hi hne ?_)))
  dsimp only
  have k : ∀ b o, h.get? b = some o → ((h.push emptyDict).push (instObj C h.objs.size)).get? b = some o := fun b o e => Heap.get?_push_of_some _ (Heap.get?_push_of_some _ e)
  have hx : ((h.push emptyDict).push (instObj C h.objs.size)).get? (h.objs.size + 1) = some (instObj C h.objs.size) := by heap_get
  have t1 : Looks (model prog w) ((h.push emptyDict).push (instObj C h.objs.size)) (typeOf (.ref (h.objs.size + 1))) (.ref C) := (Looks.ld hx).andThen .now
  have s1 := self.keeps k
  have i1 := hi.keeps k
  have b1 := (hb (.ref (h.objs.size + 1))).keeps k
  refine wpC_bindA ?_
  unfold isInstance
  repeat lk
  (try dsimp only)
  unfold callSpecial? specialOf
  simp only [Bool.not_true, Bool.false_eq_true, if_false]
  refine wpC_bind (wpC_holding (wpC_bindA ?_))
  repeat lk
  (try dsimp only)
  refine wpC_holding (wpC_bindA (b1.at ?_))
  dsimp only
  refine wpC_bind (wpC_call (codeC_mono hq fun r s' z => ?_))
  rcases r with e | (v | _ | _ | _) <;> first | exact z | exact z.elim | skip
  obtain ⟨rfl, z⟩ := z
  exact wpC_pure (wpC_pure z)
theorem make_KC {L : Addr} {h₀ : Heap} {m : Str → Option Value} {news : List (Addr × Obj)} {rest : List Value} {kw : List (Str × Value)} {fI : Addr} (F : Fr h₀ L s.heap m) (N : News h₀ L s.heap news) (X : K.In s.heap) (hm : makesIn K C = true)
    (hi : findIn K (.ref C) "__init__" = some (some (.ref fI))) (hf : typeIn K (.ref fI) = some (.type "function"))
    (h : ∀ x dx h', Fr h₀ L h' m → News h₀ L h' ((x, instObj C dx) :: (dx, emptyDict) :: news) → (∀ p ∈ news, p.1 < dx) → dx < x →
      codeC (model prog w) (A.under (.builtin "type.__call__" ⟨.ref C :: rest, kw⟩)) (.call (.ref fI) ⟨.ref x :: rest, kw⟩) (InitBack x R) { s with heap := h' }) :
    codeC (model prog w) A (.call (.ref C) ⟨rest, kw⟩) R s := by
  obtain ⟨hh, g, d, t, os⟩ := s
  refine make_coreC (makes_of X hm) (looks_findIn X hi) (fun self => bind_fn X self hf) (.inl rfl) (h _ hh.objs.size _ ((F.push _).push _) ?_ (fun p hp => Heap.lt_size (N p hp).1) (Nat.lt_succ_self _))
  have := (N.push F emptyDict).push (F.push _) (instObj C hh.objs.size)
  rwa [Heap.size_push] at this
end
end Mine
end
section
theorem Mine.off_In : True := by
  w_top off
  trivial
open PySem PySem.W PyProof.Rows
set_option Elab.async false
set_option linter.unusedVariables false
set_option linter.unusedSimpArgs false
set_option maxRecDepth 100000
namespace Mine

open PyProof.V
local macro_rules | `(tactic| k_all) => `(tactic| with_reducible assumption)
theorem reW {g h : Heap} {L : Addr} {pT pR px pd : Addr × Obj} {els news : List (Addr × Obj)} (N : News g L h (pT :: (els ++ pR :: px :: pd :: news))) (hE : ∀ p ∈ els, p.2.cls = .type "tuple") (hT : pT.2.cls = .type "tuple") (hR : pR.2.cls = .type "tuple") (hd : pd.2.cls = .type "dict")
    (hnd : ∀ p ∈ news, p.1 ≠ pd.1) : ∃ W, (∀ p ∈ news, p ∈ W) ∧ (∀ p ∈ els, p ∈ W) ∧ pT ∈ W ∧ (∀ p ∈ W, p.1 ≠ pd.1) ∧ News g L h (px :: pd :: W) := by
  have hne : Value.type "tuple" ≠ Value.type "dict" := by intro q; injection q with q; exact absurd q (by decide)
  have md : pd ∈ pT :: (els ++ pR :: px :: pd :: news) := List.mem_cons_of_mem _ (List.mem_append_right els (List.mem_cons_of_mem _ (List.mem_cons_of_mem _ (List.mem_cons_self ..))))
  refine ⟨pT :: (els ++ news), fun p hp => List.mem_cons_of_mem _ (List.mem_append_right _ hp), fun p hp => List.mem_cons_of_mem _ (List.mem_append_left _ hp), List.mem_cons_self .., fun p hp => ?_, news_sub N fun p hp => ?_⟩
  · rcases List.mem_cons.mp hp with rfl | hp
    · exact news_ne N (List.mem_cons_self ..) md (by rw [hT, hd]; exact hne)
    rcases List.mem_append.mp hp with hp | hp
    · exact news_ne N (List.mem_cons_of_mem _ (List.mem_append_left _ hp)) md (by rw [hE p hp, hd]; exact hne)
    · exact hnd p hp
  · rcases List.mem_cons.mp hp with rfl | hp
    · exact List.mem_cons_of_mem _ (List.mem_append_right _ (List.mem_cons_of_mem _ (List.mem_cons_self ..)))
    rcases List.mem_cons.mp hp with rfl | hp
    · exact md
    rcases List.mem_cons.mp hp with rfl | hp
    · exact List.mem_cons_self ..
    rcases List.mem_append.mp hp with hp | hp
    · exact List.mem_cons_of_mem _ (List.mem_append_left _ hp)
    · exact List.mem_cons_of_mem _ (List.mem_append_right _ (List.mem_cons_of_mem _ (List.mem_cons_of_mem _ (List.mem_cons_of_mem _ hp))))

local macro_rules | `(tactic| walk_at "subscriptTail Name Slice ref ref") => `(tactic| (k_here; refine stop_on ?_))
set_option maxHeartbeats 4000000 in
theorem new_ok : ∀ {w : World} {mean : ExcName → Option Value} {mg mb : Str → Option Value}
  (dp un : Nat) (gd : Option (List Code)) (cn : Str) (cs : Scope) (a : Addr) (ccd : Value) (cl : List (Str × Addr)) (outer : List Env) (A₀ : Around) (base h₀ : Heap) (L : Addr) (m : Str → Option Value) (s : Shared) (Q E : Value → Shared → Prop)
  (tk0 : Tok) (ks : List Nat) (news : List (Addr × Obj)) (u : Str) (stF : PS)
  (B : Below A₀ base outer h₀) (F : Fr h₀ L s.heap m) (X : (hd.heap_39 (World.params w)).In h₀) (N : News h₀ L s.heap news) (T : Top hd.view_39 (looseW hd.view_39 [Str.ofString "SINGLE_WILDCARD", Str.ofString "MULTI_WILDCARD", Str.ofString "DEFAULT_FIRST_ELEMENT", Str.ofString "_path_to_elements", Str.ofString "_WILDCARD_RE"]) mean mg mb h₀) (D : KtsDicts (outer.filterMap (·.frame)) h₀) (XB : (hd.heap_39 (World.params w)).In base) (TB : Top hd.view_39 (looseW hd.view_39 [Str.ofString "SINGLE_WILDCARD", Str.ofString "MULTI_WILDCARD", Str.ofString "DEFAULT_FIRST_ELEMENT", Str.ofString "_path_to_elements", Str.ofString "_WILDCARD_RE"]) mean mg mb base) (hk : cs.kind = .function)
  (hdp : dp + 60 < recursionLimit) (hun : un + 600 < cLine)
  (htg : ∀ k ∈ ks, k < 7) (hks : ks.length ≤ 5) (hu : u.length ≤ sizeLine)
  (hrun : Runs ⟨[], Str.ofString "", 0, false, none⟩ (Txt.slice u (some 4) none).cps.toList stF) (hfin : Fin stF ks)
  (hret : ∀ (x dx PT : Addr) (t1 t2 : Tok) (prs : Array Value) h₀' h' tk' news₂, KtsTurn (outer.filterMap (·.frame)) h₀ h₀' → Fr h₀' L h' m → Below A₀ base outer h₀' → News h₀' L h' news₂ → (∀ p ∈ news, p ∈ news₂) →
    (x, instObj 159 dx) ∈ news₂ → (dx, mDict w t1 t2 (.str u tk0) (.ref PT)) ∈ news₂ → (PT, tupObj prs) ∈ news₂ → ElAt news₂ prs ks → (∀ p ∈ news, p.1 ≠ x ∧ p.1 ≠ dx) → Q (.ref x) { s with heap := h', toks := tk' }),
  wpC (model (RowW.prog (OpenRow.toRowW (OpenLaw.row PySem.Challenge.rw_fu0002_01))) w) (ktrTop dp un gd cn cs L a ccd cl outer) (call (.ref 159) [.str u tk0] []) Q E s := by
  intro w mean mg mb dp un gd cn cs a ccd cl outer A₀ base h₀ L m s Q E tk0 ks news u stF B F X N T D XB TB hk hdp hun htg hks hu hrun hfin hret
  revert X
  k_fill
  intro X
  refine wpC_call ?_
  k_dflt (refine' make_KC (fI := 121) F N (X.keeps F.keep) ?k4 ?k5 ?k6 ?_; (case k4 => k_is); (case k5 => k_is); (case k6 => exact beq_iff_eq.mp (show isFn _ _ = true by k_is)); k_whole)
  intro x dx hA FA NA lA lB
  have lB := ltN lB
  have hnd : ∀ p ∈ news, p.1 ≠ dx := fun p hp => Nat.ne_of_lt (lA p hp)
  have hnx : ∀ p ∈ news, p.1 ≠ x := fun p hp => Nat.ne_of_lt (Nat.lt_trans (lA p hp) lB)
  have NA : News h₀ L hA ((x, instObj 159 dx) :: (dx, dictOf [] 0) :: news) := NA
  clear N F
  have N := NA
  have F := FA
  clear NA FA
  k_dflt (refine' defC ?k1 ?k2 ?k3 ?k4 ?k5 ?kD ?kA ?kF ?kK ?k6 ?k7 ?k8 ?k9 ?kB ?_ ?c2 ?c3 ?c4 ?c5; (case kA => exact rfl); (case kF => exact rfl); (case kK => assumption); (case k1 => k_asm); (case k2 => k_asm); (case k3 => k_asm); (case k4 => exact N); (case k5 => k_asm); (case kD => exact D); (case k6 => k_is); (case k7 => k_is); (case k8 => ktr_room); (case k9 => first | exact BindsTo.of_eq rfl | exact binds_K (by k_in) rfl (by k_is) rfl rfl rfl); (case c5 => decide); (case kB => exact locs rfl); (case c2 => exact rfl); (case c3 => exact rfl); (case c4 => exact rfl); k_whole; intro g' L' h' F' N' B' X' T' D'; (try dsimp only); (try k_fold))
  clear B F X T
  refine wpC_execs_plain ?_
  k_steps
  dsimp only
  refine wpC_execs_cons (wpC_Assign_Name ?_)
  refine wpC_CallKw ?_
  k_steps
  rename News _ _ _ _ => N8
  rename Fr _ _ _ _ => F8
  refine' rest_def ?zho ?zhd ?_
  case zho => exact (Frag.In.keeps (by k_asm) (Fr.keep (by k_asm))) _ _ (by k_is)
  case zhd => rfl
  dsimp only [List.nil_append]
  refine scan_ok _ _ _ _ _ _ _ _ _ _ _ _ _ _ _ _ _ _ _ _ _ u tk0 hu ks (by omega) stF hrun hfin B' F8 X' N8 T' D' XB TB rfl (by show dp + 1 + 1 + 30 < recursionLimit; omega) (by show un + (Code.builtin "type.__call__" ⟨[.ref 159, .str u tk0], []⟩).cUnits + 3 + 300 < cLine; rw [show (Code.builtin "type.__call__" ⟨[.ref 159, .str u tk0], []⟩).cUnits = 1 from rfl]; omega) ?_
  intro T els rs g2 h2 tk2 KT2 F2 B2 N2 hE
  have X2 := XB.keeps B2.stays
  have T2 := TB.keeps B2.stays
  (try clear F8); (try clear N8); (try clear B'); (try clear X'); (try clear T')
  obtain ⟨W, hW1, hW2, hW3, hWd, N2⟩ := reW N2 hE.tup rfl rfl rfl hnd
  k_steps
  refine wpC.of ?_
  k_steps
  rename News _ _ _ _ => N9
  rename Fr _ _ _ _ => F9
  unfold Stop
  refine slice_any (s := ⟨_, _, _, _, _⟩) F9 N9 (tup_is N9 (List.mem_cons_of_mem _ (List.mem_cons_of_mem _ hW3))) (Nat.le_refl _) (by simp) ?_ (hsz := by have := hE.len; rw [sizeLine_eq]; simp; omega)
  intro T3 h3 F3 N3
  have N3 : News _ _ _ ((T3, tupObj (rs.map Value.ref).toArray) :: (x, instObj 159 dx) :: (dx, dictOf [⟨PyData.keyHash w.params (Str.ofString "original_pattern"), .str (Str.ofString "original_pattern") _, .str u tk0⟩] 1) :: W) := N3
  have hx3 : T3 ≠ dx := news_ne N3 (List.mem_cons_self ..) (List.mem_cons_of_mem _ (List.mem_cons_of_mem _ (List.mem_cons_self ..))) (by intro q; injection q with q; exact absurd q (by decide))
  have hx4 : T3 ≠ x := news_ne N3 (List.mem_cons_self ..) (List.mem_cons_of_mem _ (List.mem_cons_self ..)) (by intro q; cases q)
  (try clear N9); (try clear F9)
  (try dsimp only)
  k_steps
  rename News _ _ _ _ => N9
  rename Fr _ _ _ _ => F9
  refine leaveC_ F9 N9 KT2 ?_
  intro h₀' KT F5 N5 B5
  refine ⟨rfl, ?_⟩
  exact hret x dx T3 _ _ (rs.map Value.ref).toArray h₀' _ _ _ KT F5 B5 N5 (fun p hp => .tail _ (.tail _ (.tail _ (hW1 p hp)))) (.tail _ (.head _)) (.tail _ (.tail _ (.head _))) (.head _) (hE.elAt (fun p hp => .tail _ (.tail _ (.tail _ (hW2 p hp))))) (fun p hp => ⟨hnx p hp, hnd p hp⟩)


end Mine
end
section
theorem Mine.off_Cc : True := by
  w_top off
  trivial
open PySem PySem.W PyProof.Rows PySem.Calls PySem.Spec
set_option Elab.async false
set_option linter.unusedVariables false
set_option maxRecDepth 100000
namespace Mine
section
variable {M : Model} {A : Around} {E : Value → Shared → Prop} {s : Shared} {env : Env}
theorem wpC_standIf {α : Type} {c : Prop} [Decidable c] {pos : Pos} {k : PUnit → Sem α} {Q : α → Shared → Prop} (h : wpC M A (k ()) Q E s) :
    wpC M A (if c then (standAt pos >>= k) else k ()) Q E s := by
  split
  · exact wpC_bind (wpC_standAt h)
  · exact h
theorem wpC_comprehension {e : PySem.Expr} {scope : Scope} {pos : Pos} {newAcc first : Sem Value} {g : Comprehension} {gs : List Comprehension} {Q : Value → Shared → Prop}
    (hcl : clausesOf e = g :: gs) (hs : ∀ x, foldedSetIterable g.iter env x = pure x)
    (hfree : ∀ x ∈ scope.names, x.2 ≠ .free) (hkind : scope.kind = .function) (hnames : ∀ x ∈ scope.names, x.2 = .local → scope.names.lookup x.1 = some .local)
    (h : wpAny M A first (fun x s₁ => wpAny M A (pyIter x) (fun it s₂ => wpAny M A newAcc (fun acc s₃ =>
      wpAny M A (newFunctionEnv scope env.globals [] [] env.qual none .none (some env)) (fun cenv s₄ =>
        codeC M A (.compStart e 0 it acc { cenv with scope := scope }) (fun r s' => ∃ m, s'.heap.Ns cenv.locals m ∧ ∀ h', Heap.SameBut cenv.locals s'.heap h' →
          match r with | .ok _ => Q acc { s' with heap := h' } | .error x => wpAny M A (passOn "comprehension.variables-let-go" x { cenv with scope := scope }) Q E { s' with heap := h' }) s₄) E s₃) E s₂) E s₁) E s) :
    wpC M A (comprehension e scope env pos newAcc false first) Q E s := by
  unfold comprehension
  rw [closureFor_none hfree, hcl]
  refine wpC_bindA (wpAny_mono h (fun x s₁ h₁ => wpC_bind (wpC_standAt (wpC_bindA (wpAny_of_eq (hs x) (wpC_bindA (wpAny_holding (wpAny_mono h₁ (fun it s₂ h₂ =>
    wpC_standIf (wpC_bindA (wpAny_mono h₂ (fun acc s₃ h₃ => wpC_bind (wpC_pure (wpC_bindA (wpAny_mono h₃ (fun cenv s₄ h₄ => ?_) fun _ _ h' => h')))) fun _ _ h' => h')))
      fun _ _ h' => h'))))))) fun _ _ h' => h')
  dsimp only
  rw [map_eq_self (l := scope.names) (fun x hx => by
    obtain ⟨n, k⟩ := x
    have : (k == NameKind.free) = false := by simpa using hfree _ hx
    simp [this])]
  have hv : ∀ x ∈ (scope.names.filter fun x => (x.2 == .local || x.2 == .cell) && x.1 != (".0" : Str)).reverse, x.2 = .local →
      Env.kindOf { cenv with scope := scope } x.1 = some .local := fun x hx hl => hnames x (List.mem_filter.mp (List.mem_reverse.mp hx)).1 hl
  refine wpC_holding (wpC_bind (wpC_attempt (wpC_holding (wpC_run (codeC_mono h₄ fun r s' hr => ?_)))))
  obtain ⟨m, hn, hr⟩ := hr
  cases r with
  | ok f => exact wpC.of (wpAny_bind (wpAny_holding (wpAny_comp_letGo (cenv := { cenv with scope := scope }) hkind _ s' m hv hn fun h' m' _ hs' => wpAny_pure (hr h' hs'))))
  | error x => exact wpC.of (wpAny_bind (wpAny_holding (wpAny_comp_letGo (cenv := { cenv with scope := scope }) hkind _ s' m hv hn fun h' m' _ hs' => hr h' hs')))
theorem wpC_ListComp {elt target iter : PySem.Expr} {ifs : List PySem.Expr} {rest : List Comprehension} {scope : Scope} {pos : Pos} {Q : Value → Shared → Prop}
    (hfree : ∀ x ∈ scope.names, x.2 ≠ .free) (hkind : scope.kind = .function) (hnames : ∀ x ∈ scope.names, x.2 = .local → scope.names.lookup x.1 = some .local)
    (h : wpAny M A (eval iter env) (fun x s₁ => wpAny M A (pyIter x) (fun it s₂ => wpAny M A (newList []) (fun acc s₃ =>
      wpAny M A (newFunctionEnv scope env.globals [] [] env.qual none .none (some env)) (fun cenv s₄ =>
        codeC M A (.compStart (.ListComp elt (⟨target, iter, ifs, 0⟩ :: rest) scope pos) 0 it acc { cenv with scope := scope })
          (fun r s' => ∃ m, s'.heap.Ns cenv.locals m ∧ ∀ h', Heap.SameBut cenv.locals s'.heap h' →
            match r with | .ok _ => Q acc { s' with heap := h' } | .error x => wpAny M A (passOn "comprehension.variables-let-go" x { cenv with scope := scope }) Q E { s' with heap := h' }) s₄) E s₃) E s₂) E s₁) E s)
    (hs : ∀ x, foldedSetIterable iter env x = pure x := by intro _; rfl) :
    wpC M A (eval (.ListComp elt (⟨target, iter, ifs, 0⟩ :: rest) scope pos) env) Q E s := by
  rw [eval_ListComp]; exact wpC_comprehension rfl hs hfree hkind hnames h
end
section
variable {prog : Program} {w : World} {A : Around} {E : Value → Shared → Prop} {R : Result → Shared → Prop} {s : Shared}
theorem wpC_notedAt {α : Type} {M : Model} {env : Env} {m : Sem α} {pos : Pos} {Q : α → Shared → Prop} (h : wpC M A m Q (notedBy M A env E) s) : wpC M A (m.onRaise fun x => do noteFrame x env; standAt pos) Q E s :=
  wpC_onRaise (wpC_mono h (fun _ _ q => q) fun _ _ hx => wpAny_bind (wpAny_mono hx (fun _ _ e => wpAny_standAt e) fun _ _ e => e))
theorem codeC_compStart_list {elt target iter ifs rest scope pos it acc env}
    (h0 : codeC (model prog w) A (.compLoop (.ListComp elt (⟨target, iter, ifs, 0⟩ :: rest) scope pos) 0 it acc env) R s)
    (h : wpAny (model prog w) A (pyIter it) (fun it' s' => codeC (model prog w) A (.compLoop (.ListComp elt (⟨target, iter, ifs, 0⟩ :: rest) scope pos) 0 it' acc env) R s')
      (notedBy (model prog w) A env fun x s' => R (.error x) s') s) :
    codeC (model prog w) A (.compStart (.ListComp elt (⟨target, iter, ifs, 0⟩ :: rest) scope pos) 0 it acc env) R s := by
  refine codeC_of_tree ?_
  show wpC _ _ ((compStart (.ListComp elt (⟨target, iter, ifs, 0⟩ :: rest) scope pos) 0 it acc env).onRaise (fun x => do noteFrame x env; standAt theWindowsPlace)) _ _ s
  refine wpC_notedAt ?_
  unfold compStart
  show wpC _ _ (ask >>= _) _ _ s
  refine wpC_bindA (wpAny_askSetting ?_)
  dsimp only
  split
  · first
      | exact wpC_bind (wpC_pure (wpC_pure (And.intro rfl h0)))
      | exact wpC_pure (And.intro rfl h0)
  · first
      | exact wpC_bindA (wpAny_rule (wpC_bind (wpC_standAt (wpC_bindA (wpAny_mono h (fun it' s' h' => wpC_pure (And.intro rfl h')) fun _ _ x => x)))))
      | (refine wpC_bindA (wpAny_rule ?_); show wpC _ _ (standAt iter.pos >>= _) _ _ s; exact wpC_bind (wpC_standAt (wpC_bindA (wpAny_mono h (fun it' s' h' => wpC_pure (And.intro rfl h')) fun _ _ x => x))))
theorem codeC_compLoop {elt target iter : PySem.Expr} {scope : Scope} {pos : Pos} {it acc : Value} {env : Env} (I : Nat → Shared → Prop)
    (turn : ∀ n s, I n s → wpAny (model prog w) A (pyNext it) (fun r s₁ => match r with
      | none => R (.ok .next) s₁
      | some v => wpAny (model prog w) A (assign target env v) (fun _ s₂ =>
          wpC (model prog w) A (eval elt env) (fun x s₄ =>
              wpAny (model prog w) A (call (.builtin "list.append") [acc, x]) (fun _ s₅ => ∃ m, m < n ∧ I m s₅) (notedBy (model prog w) A env fun e s' => R (.error e) s') s₄) (notedBy (model prog w) A env fun e s' => R (.error e) s') s₂)
            (notedBy (model prog w) A env fun e s' => R (.error e) s') s₁) (notedBy (model prog w) A env fun e s' => R (.error e) s') s)
    (n : Nat) (h : I n s) (ht : ∀ v, letOwnedTupleGo target it v = pure () := by intro _; rfl) :
    codeC (model prog w) A (.compLoop (.ListComp elt [⟨target, iter, [], 0⟩] scope pos) 0 it acc env) R s := by
  refine codeC_loop rfl I (fun n s hI => ?_) n h
  show wpC _ A ((compTurn (.ListComp elt [⟨target, iter, [], 0⟩] scope pos) 0 it acc env).onRaise (fun x => do noteFrame x env; theTreesLotGoes x)) _ _ s
  refine wpC_noted ?_
  rw [compTurn_list]
  refine wpC_bind (wpC_standAt (wpC_bindA (wpAny_mono (turn n s hI) (fun r s₁ h₁ => ?_) fun _ _ h' => h')))
  cases r with
  | none => exact wpC_pure h₁
  | some v =>
    refine wpC_bindA (wpAny_of_eq (ht v) ?_)
    refine wpC_bindA (wpAny_mono h₁ (fun _ s₂ h₂ => wpC_bindA (wpAny_tests_nil ?_)) fun _ _ h' => h')
    exact wpC_bind (wpC_bind (wpC_mono h₂ (fun x s₄ h₄ => wpC_bindA (wpAny_mono h₄ (fun _ s₅ h₅ => wpC_pure (wpC_pure (.inl ⟨rfl, h₅⟩))) fun _ _ h' => h')) fun _ _ h' => h'))
end
end Mine
end
section
theorem Mine.off_Cm : True := by
  w_top off
  trivial
open PySem PySem.W PyProof.Rows PySem.Calls PySem.Spec
set_option Elab.async false
set_option linter.unusedVariables false
set_option maxRecDepth 100000
namespace Mine
/-- a comprehension's own: iterator, list, names -/
def Off (I D C : Addr) (p : Addr × Obj) : Bool := p.1 != I && p.1 != D && p.1 != C
theorem off_iff {I D C : Addr} {p : Addr × Obj} : Off I D C p = true ↔ p.1 ≠ I ∧ p.1 ≠ D ∧ p.1 ≠ C := by
  unfold Off
  simp only [Bool.and_eq_true, bne_iff_ne]
  exact ⟨fun ⟨⟨a, b⟩, c⟩ => ⟨a, b, c⟩, fun ⟨a, b, c⟩ => ⟨⟨a, b⟩, c⟩⟩
section
variable {prog : Program} {w : World} {A A₀ : Around} {E : Value → Shared → Prop} {s : Shared} {env : Env} {h₀ base : Heap} {outer : List Env} {L : Addr}
set_option maxHeartbeats 1000000 in
theorem wpC_ListComp_list {elt iter : PySem.Expr} {x : Str} {px : Pos} {scope : Scope} {pos : Pos} {Q : Value → Shared → Prop}
    (hh : A.handled = none) (hfree : ∀ y ∈ scope.names, y.2 ≠ .free) (hcell : ∀ y ∈ scope.names, y.2 ≠ .cell) (hkind : scope.kind = .function)
    (hnames : ∀ y ∈ scope.names, y.2 = .local → scope.names.lookup y.1 = some .local) (hx : scope.names.lookup x = some .local)
    (h : wpAny (model prog w) A (eval iter env) (fun xv s₁ => ∃ (ax : Addr) (items : Array Value) (nn : Nat) (m : Str → Option Value) (news : List (Addr × Obj)) (J : Nat → List Value → List (Addr × Obj) → Prop),
      xv = .ref ax ∧ (ax, W.listOf items nn) ∈ news ∧ items.size ≤ 1000 ∧ Below A₀ base outer h₀ ∧ Fr h₀ L s₁.heap m ∧ News h₀ L s₁.heap news ∧ J 0 [] news ∧ (∀ i ys n', J i ys n' → (ax, W.listOf items nn) ∈ n') ∧
      (∀ i v ys I D C oI oD oC mC g h₁ tk₁ news₁, items[i]? = some v → J i ys news₁ → (∀ p ∈ news₁, p.1 ≠ I ∧ p.1 ≠ D ∧ p.1 ≠ C) → oI.cls = .type "list_iterator" → oD.cls = .type "list" → (∃ es ep, oC.data = .dict es ep) → KtsTurn (outer.filterMap (·.frame)) h₀ g → Below A₀ base outer g →
        Fr g L h₁ m → News g L h₁ (news₁ ++ [(I, oI), (D, oD), (C, oC)]) → h₁.Ns C mC → mC x = some v →
        wpC (model prog w) A (eval elt (compEnv scope C env)) (fun y s₂ => ∃ g₂ h₂ tk₂ news₂, s₂ = { s₁ with heap := h₂, toks := tk₂ } ∧ KtsTurn (outer.filterMap (·.frame)) g g₂ ∧ Below A₀ base outer g₂ ∧ Fr g₂ L h₂ m ∧ News g₂ L h₂ news₂ ∧
          (I, oI) ∈ news₂ ∧ (D, oD) ∈ news₂ ∧ (C, oC) ∈ news₂ ∧ J (i + 1) (ys ++ [y]) (news₂.filter (Off I D C))) (fun _ _ => False) { s₁ with heap := h₁, toks := tk₁ }) ∧
      (∀ ys D nD g h' tk' news', J items.size ys news' → KtsTurn (outer.filterMap (·.frame)) h₀ g → Below A₀ base outer g → Fr g L h' m → News g L h' ((D, W.listOf ys.toArray nD) :: news') →
        Q (.ref D) { s₁ with heap := h', toks := tk' })) E s)
    (hs : ∀ x, foldedSetIterable iter env x = pure x := by intro _; rfl) :
    wpC (model prog w) A (eval (.ListComp elt [⟨.Name x px, iter, [], 0⟩] scope pos) env) Q E s := by
  refine wpC_ListComp hfree hkind hnames (wpAny_mono h (fun xv s₁ h₁ => ?_) fun _ _ e => e) hs
  obtain ⟨ax, items, nn, m, news, J, rfl, hax, hsz, B, F, N, h0, hJax, step, hQ⟩ := h₁
  have hl : s₁.heap.IsList ax items := ⟨_, (N _ hax).1, rfl, _, rfl⟩
  refine wpAny_pyIter_list hl (wpAny_newObj_type (hd := by size_fits) (wpAny_newFunctionEnv hcell (by intro y hy; simp at hy) (fun h₁ hns₁ hsb₁ => ?_) hkind))
  dsimp only at hns₁ hsb₁ ⊢
  generalize hH1 : s₁.heap.push { cls := .type "list_iterator", data := .fields #[.ref ax, .int 0 0] } = H1 at hns₁ hsb₁ ⊢
  have hD : H1.objs.size = s₁.heap.objs.size + 1 := by rw [← hH1, Heap.size_push]
  generalize hH2 : H1.push { cls := .type "list", dict := none, data := .seq ([] : List Value).toArray } = H2 at hns₁ hsb₁ ⊢
  have hC : H2.objs.size = s₁.heap.objs.size + 2 := by rw [← hH2, Heap.size_push, hD]
  have hDI : H1.objs.size ≠ s₁.heap.objs.size := by rw [hD]; exact Nat.succ_ne_self _
  have hDC : H1.objs.size ≠ H2.objs.size := by rw [hD, hC]; exact Nat.ne_of_lt (Nat.lt_succ_self _)
  have hIC : s₁.heap.objs.size ≠ H2.objs.size := by rw [hC]; exact Nat.ne_of_lt (Nat.lt_succ_of_lt (Nat.lt_succ_self _))
  have fresh : ∀ a, s₁.heap.objs.size ≤ a → s₁.heap.get? a = none := fun a ha => by
    cases e : s₁.heap.get? a with
    | none => rfl
    | some o' => exact absurd (Heap.lt_size e) (Nat.not_lt.mpr ha)
  have fI := fresh s₁.heap.objs.size (Nat.le_refl _)
  have fD := fresh H1.objs.size (by rw [hD]; exact Nat.le_succ _)
  have fC := fresh H2.objs.size (by rw [hC]; exact Nat.le_add_right _ _)
  have ne_of : ∀ {a b : Addr} {o : Obj}, s₁.heap.get? a = some o → s₁.heap.get? b = none → a ≠ b := fun e n q => by rw [q, n] at e; cases e
  have old : ∀ b o, s₁.heap.get? b = some o → h₁.get? b = some o := fun b o e =>
    hsb₁.extBut b o (ne_of e fC) (Heap.get?_push_of_some _ (hH2 ▸ Heap.get?_push_of_some _ (hH1 ▸ Heap.get?_push_of_some _ e)))
  have hit : h₁.IsListIter s₁.heap.objs.size ax 0 :=
    ⟨_, hsb₁.extBut _ _ hIC (Heap.get?_push_of_some _ (hH2 ▸ Heap.get?_push_of_some _ (hH1 ▸ Heap.get?_push_size _ rfl))), rfl, rfl⟩
  have hacc : h₁.PlainList H1.objs.size #[] := ⟨_, hsb₁.extBut _ _ hDC (Heap.get?_push_of_some _ (hH2 ▸ Heap.get?_push_size _ rfl))⟩
  generalize hIe : s₁.heap.objs.size = I at *
  generalize hDe : H1.objs.size = D at *
  generalize hCe : H2.objs.size = C at *
  obtain ⟨oL, esL, epL, hL, _⟩ := F.ns
  have LI : L ≠ I := ne_of hL fI
  have LD : L ≠ D := ne_of hL fD
  have LC : L ≠ C := ne_of hL fC
  have gI : h₀.get? I = none := kts_none F.keep fI
  have gD : h₀.get? D = none := kts_none F.keep fD
  have gC : h₀.get? C = none := kts_none F.keep fC
  have loop : ∀ s₂ : Shared, s₂ = { s₁ with heap := h₁, toks := s₁.toks + ([] : List (Str × Value)).length } →
      codeC (model prog w) A (.compLoop (.ListComp elt [⟨.Name x px, iter, [], 0⟩] scope pos) 0 (.ref I) (.ref D) (compEnv scope C env))
        (fun r s' => ∃ m, s'.heap.Ns C m ∧ ∀ h', Heap.SameBut C s'.heap h' →
          match r with | .ok _ => Q (.ref D) { s' with heap := h' } | .error x => wpAny (model prog w) A (passOn "comprehension.variables-let-go" x (compEnv scope C env)) Q E { s' with heap := h' }) s₂ := by
    rintro s₂ rfl
    refine codeC_compLoop (fun k s' => ∃ g h' tk i ys mC news', s' = { s₁ with heap := h', toks := tk } ∧ KtsTurn (outer.filterMap (·.frame)) h₀ g ∧ Below A₀ base outer g ∧ Fr g L h' m ∧ News g L h' news' ∧ (∀ p ∈ news', p.1 ≠ I ∧ p.1 ≠ D ∧ p.1 ≠ C) ∧
      h'.IsListIter I ax i ∧ h'.PlainList D ys.toArray ∧ h'.Ns C mC ∧ J i ys news' ∧ i ≤ items.size ∧ ys.length = i ∧ k = items.size + 1 - i) ?_ (items.size + 1)
      ⟨h₀, h₁, _, 0, [], _, news, rfl, KtsTurn.refl, B, F.keeps old, fun p hp => ⟨old _ _ (N p hp).1, (N p hp).2⟩, fun p hp => ⟨ne_of (N p hp).1 fI, ne_of (N p hp).1 fD, ne_of (N p hp).1 fC⟩, hit, hacc, hns₁, h0, Nat.zero_le _, rfl, rfl⟩
    rintro k s' ⟨g, h', tk, i, ys, mC, news', rfl, KT, B', F', N', hne, hit', hacc', hn', hJ, hi, hy, rfl⟩
    have gI' := KT.none_ _ gI
    have gD' := KT.none_ _ gD
    have gC' := KT.none_ _ gC
    have ne_g : ∀ {a b : Addr} {o : Obj}, g.get? a = some o → g.get? b = none → a ≠ b := fun e n q => by rw [q, n] at e; cases e
    have keepF : ∀ h₂ : Heap, (∀ b o, b ≠ I → b ≠ D → b ≠ C → h'.get? b = some o → h₂.get? b = some o) → Fr g L h₂ m := fun h₂ kk =>
      ⟨F'.ns.at' fun o e => kk _ o LI LD LC e, fun b o e => kk b o (ne_g e gI') (ne_g e gD') (ne_g e gC') (F'.keep b o e), F'.above⟩
    have keepN : ∀ h₂ : Heap, (∀ b o, b ≠ I → b ≠ D → b ≠ C → h'.get? b = some o → h₂.get? b = some o) → News g L h₂ news' := fun h₂ kk p hp =>
      ⟨kk _ _ (hne p hp).1 (hne p hp).2.1 (hne p hp).2.2 (N' p hp).1, (N' p hp).2⟩
    have hl' : h'.IsList ax items := ⟨_, (N' _ (hJax _ _ _ hJ)).1, rfl, _, rfl⟩
    cases hv : items[i]? with
    | none =>
      have hin : i = items.size := by
        have : items.size ≤ i := by simpa using hv
        omega
      subst hin
      refine wpAny_pyNext_list_end hh hit' hl' hv fun h₂ he₂ => ?_
      refine ⟨mC, hn'.extBut he₂ (Ne.symm hIC), fun h₃ hs₃ => ?_⟩
      have kk : ∀ b o, b ≠ I → b ≠ D → b ≠ C → h'.get? b = some o → h₃.get? b = some o := fun b o bI bD bC e => hs₃.extBut b o bC (he₂ b o bI e)
      obtain ⟨nD, hDl⟩ := hacc'
      have hD3 : h₃.get? D = some (W.listOf ys.toArray nD) := hs₃.extBut _ _ hDC (he₂ _ _ hDI hDl)
      refine hQ ys D nD g h₃ _ news' hJ KT B' (keepF h₃ kk) fun p hp => ?_
      rcases List.mem_cons.mp hp with rfl | hp
      · exact ⟨hD3, Ne.symm LD, gD'⟩
      · exact keepN h₃ kk p hp
    | some v =>
      have hlt : i < items.size := (Array.getElem?_eq_some_iff.mp hv).1
      refine wpAny_pyNext_list_item hit' hl' hv fun h₂ hit₂ hs₂ => ?_
      refine wpAny_assign_Name (wpAny_storeName_local (env := compEnv scope C env) (m := mC) hx (hn'.sameBut hs₂ (Ne.symm hIC)) (fun h₃ hn₃ hs₃ => ?_) (by simp [compEnv, hkind]))
      have kk : ∀ b o, b ≠ I → b ≠ D → b ≠ C → h'.get? b = some o → h₃.get? b = some o := fun b o bI bD bC e => hs₃.extBut b o bC (hs₂.extBut b o bI e)
      obtain ⟨nD, hDl⟩ := hacc'
      have hD3 : h₃.get? D = some (W.listOf ys.toArray nD) := hs₃.extBut _ _ hDC (hs₂.extBut _ _ hDI hDl)
      have hit₃ : h₃.IsListIter I ax (i + 1) := hit₂.extBut hs₃.extBut hIC
      obtain ⟨oI, hI3, hIc, hId⟩ := id hit₃
      obtain ⟨oC, esC, epC, hC3, hCd, _⟩ := id hn₃
      refine wpC_mono (step i v ys I D C oI (W.listOf ys.toArray nD) oC _ g h₃ _ news' hv hJ hne hIc rfl ⟨esC, epC, hCd⟩ KT B' (keepF h₃ kk) (fun p hp => ?_) hn₃ (by simp)) (fun y s₂ hy2 => ?_) (fun _ _ q => q.elim)
      · rcases List.mem_append.mp hp with hp | hp
        · exact keepN h₃ kk p hp
        · simp only [List.mem_cons, List.not_mem_nil, or_false] at hp
          rcases hp with rfl | rfl | rfl
          · exact ⟨hI3, Ne.symm LI, gI'⟩
          · exact ⟨hD3, Ne.symm LD, gD'⟩
          · exact ⟨hC3, Ne.symm LC, gC'⟩
      · obtain ⟨g₂, h₄, tk₄, news₂, rfl, KT₂, B₂, F₂, N₂, mI, mD, mC', hJ₂⟩ := hy2
        have hD4 : h₄.PlainList D ys.toArray := ⟨nD, (N₂ _ mD).1⟩
        refine wpAny_list_append_plain (hsz := by rw [List.size_toArray, hy, sizeLine_eq]; omega) hD4 fun h₅ hl₅ hs₅ => ?_
        have gI2 := (N₂ _ mI).2.2
        have gD2 := (N₂ _ mD).2.2
        have fd : ∀ b o, b ≠ D → h₄.get? b = some o → h₅.get? b = some o := fun b o bD e => hs₅.extBut b o bD e
        refine ⟨items.size + 1 - (i + 1), by omega, g₂, h₅, _, i + 1, ys ++ [y], _, _, rfl, KT.trans KT₂, B₂,
          ⟨F₂.ns.at' fun o e => fd _ o LD e, fun b o e => fd b o (fun q => by rw [q, gD2] at e; cases e) (F₂.keep b o e), F₂.above⟩,
          fun p hp => ?_, fun p hp => off_iff.mp (List.mem_filter.mp hp).2, ⟨oI, fd _ _ (Ne.symm hDI) (N₂ _ mI).1, hIc, hId⟩, by simpa using hl₅, hn₃.at' (fun o e => ?_), hJ₂, hlt, by simp [hy], rfl⟩
        · obtain ⟨h1, h2⟩ := List.mem_filter.mp hp
          exact ⟨fd _ _ (off_iff.mp h2).2.1 (N₂ p h1).1, (N₂ p h1).2⟩
        · have e' : o = oC := Option.some.inj (e.symm.trans hC3)
          subst e'
          exact fd _ _ (Ne.symm hDC) (N₂ _ mC').1
  exact codeC_compStart_list (loop _ rfl) (wpAny_pyIter_listiter hit (loop _ rfl))
end
end Mine
end
section
theorem Mine.off_Gp : True := by
  w_top off
  trivial
open PySem PySem.W PyProof.Rows PySem.Calls PySem.Spec PyProof.V
set_option Elab.async false
set_option linter.unusedVariables false
set_option linter.unusedSimpArgs false
set_option maxRecDepth 100000
namespace Mine
section
variable {M : Model} {A : Around} {E : Value → Shared → Prop} {s : Shared} {env : Env}
theorem rest_cls {pos : Pos} {f : Addr} {first : List Value} {n : Nat} {a : Args} {Q : Value → Shared → Prop} (Y : Makes M s.heap f)
    (h : wpC M A (call (.ref f) (first ++ a.pos) a.kw) Q E s) : wpC M A (callRest pos (.ref f) first n false a) Q E s := by
  obtain ⟨⟨oc, od, cd, sl, hC, e1, e2, e4⟩, made, base, self, top, hcall, typ⟩ := Y
  unfold callRest
  refine wpC_bind (wpC_standAt ?_)
  have hk : wpAny M A (keeperOf (.ref f)) (fun k s' => k = .machine ∧ s' = s) E s := by
    unfold keeperOf
    refine wpAny_bind (wpAny_load hC ?_)
    dsimp only
    exact wpAny_bind (hcall.at (wpAny_pure ⟨rfl, rfl⟩))
  refine wpC_bindA (wpAny_mono hk (fun k s' hk => ?_) fun _ _ x => x)
  obtain ⟨rfl, rfl⟩ := hk
  exact rest_tail h
end
end Mine
end
section
theorem Mine.off_Gq : True := by
  w_top off
  trivial
open PySem PySem.W PyProof.Rows
set_option Elab.async false
set_option linter.unusedVariables false
set_option linter.unusedSimpArgs false
set_option maxRecDepth 100000
namespace Mine

open PyProof.V PySem.Calls PySem.Spec
local macro_rules | `(tactic| k_all) => `(tactic| with_reducible assumption)
local macro_rules | `(tactic| k_mem) => `(tactic| assumption)
/-- a matcher, whole, in the ledger -/
structure Mat (w : World) (news : List (Addr × Obj)) (y : Value) (ks : List Nat) : Prop where
  ex : ∃ (x dx PT : Addr) (t1 t2 tk0 : Tok) (u : Str) (prs : Array Value), y = .ref x ∧ (x, instObj 159 dx) ∈ news ∧ (dx, mDict w t1 t2 (.str u tk0) (.ref PT)) ∈ news ∧ (PT, tupObj prs) ∈ news ∧ ElAt news prs ks
theorem Mat.sub {w : World} {a b : List (Addr × Obj)} {y : Value} {ks : List Nat} (H : Mat w a y ks) (s : ∀ p ∈ a, p ∈ b) : Mat w b y ks := by
  obtain ⟨x, dx, PT, t1, t2, tk0, u, prs, h1, h2, h3, h4, h5⟩ := H.ex
  exact ⟨x, dx, PT, t1, t2, tk0, u, prs, h1, s _ h2, s _ h3, s _ h4, h5.sub fun p hp _ => s p hp⟩
/-- of a ledger, what is not a comprehension's own -/
theorem mem_off {g h : Heap} {L : Addr} {news : List (Addr × Obj)} {I D C : Addr} {oI oD oC : Obj} (N : News g L h news) (mI : (I, oI) ∈ news) (mD : (D, oD) ∈ news) (mC : (C, oC) ∈ news)
    {p : Addr × Obj} (hp : p ∈ news) (h : p.1 ≠ I ∧ p.1 ≠ D ∧ p.1 ≠ C) : p ∈ news.filter (Off I D C) := List.mem_filter.mpr ⟨hp, off_iff.mpr h⟩
theorem tup_off {g h : Heap} {L : Addr} {news : List (Addr × Obj)} {I D C : Addr} {oI oD oC : Obj} (N : News g L h news) (mI : (I, oI) ∈ news) (mD : (D, oD) ∈ news) (mC : (C, oC) ∈ news)
    (cI : oI.cls = .type "list_iterator") (cD : oD.cls = .type "list") (dC : ∃ es ep, oC.data = .dict es ep) {p : Addr × Obj} {vs : Array Value} (hp : p ∈ news) (hc : p.2.cls = .type "tuple") (hv : p.2.data = .seq vs) : p.1 ≠ I ∧ p.1 ≠ D ∧ p.1 ≠ C := by
  refine ⟨news_ne N hp mI (by rw [hc, cI]; intro q; injection q with q; exact absurd q (by decide)), news_ne N hp mD (by rw [hc, cD]; intro q; injection q with q; exact absurd q (by decide)), fun q => ?_⟩
  obtain ⟨es, ep, e⟩ := dC
  have h1 := (N _ hp).1
  rw [q, (N _ mC).1] at h1
  cases h1
  rw [e] at hv
  cases hv
theorem Mat.off {w : World} {g h : Heap} {L : Addr} {news : List (Addr × Obj)} {I D C : Addr} {oI oD oC : Obj} (N : News g L h news) (mI : (I, oI) ∈ news) (mD : (D, oD) ∈ news) (mC : (C, oC) ∈ news)
    (cI : oI.cls = .type "list_iterator") (cD : oD.cls = .type "list") (dC : ∃ es ep, oC.data = .dict es ep)
    {x dx PT : Addr} {t1 t2 tk0 : Tok} {u : Str} {prs : Array Value} {ks : List Nat} (h1 : (x, instObj 159 dx) ∈ news) (h2 : (dx, mDict w t1 t2 (.str u tk0) (.ref PT)) ∈ news) (h3 : (PT, tupObj prs) ∈ news) (h4 : ElAt news prs ks)
    (hI : I ≠ x ∧ I ≠ dx) (hD : D ≠ x ∧ D ≠ dx) (hC : C ≠ x ∧ C ≠ dx) : Mat w (news.filter (Off I D C)) (.ref x) ks :=
  ⟨x, dx, PT, t1, t2, tk0, u, prs, rfl, mem_off N mI mD mC h1 ⟨Ne.symm hI.1, Ne.symm hD.1, Ne.symm hC.1⟩, mem_off N mI mD mC h2 ⟨Ne.symm hI.2, Ne.symm hD.2, Ne.symm hC.2⟩,
    mem_off N mI mD mC h3 (tup_off N mI mD mC cI cD dC h3 rfl rfl), ⟨h4.size, fun i k hk => by
      obtain ⟨r, y, act, a, b, c⟩ := h4.at_ i k hk
      exact ⟨r, y, act, a, mem_off N mI mD mC b (tup_off N mI mD mC cI cD dC b rfl rfl), c⟩⟩⟩
/-- a text of a pattern, by the kinds of its steps -/
def Pat (v : Value) (ks : List Nat) : Prop := ∃ (u : Str) (tk0 : Tok) (stF : PS), v = .str u tk0 ∧ (∀ k ∈ ks, k < 7) ∧ ks.length ≤ 5 ∧ u.length ≤ sizeLine ∧ Runs ⟨[], Str.ofString "", 0, false, none⟩ (Txt.slice u (some 4) none).cps.toList stF ∧ Fin stF ks

set_option maxHeartbeats 4000000 in
theorem comp_ok : ∀ {w : World} {mean : ExcName → Option Value} {mg mb : Str → Option Value}
  (dp un : Nat) (gd : Option (List Code)) (cn : Str) (cs : Scope) (a : Addr) (ccd : Value) (cl : List (Str × Addr)) (outer : List Env) (A₀ : Around) (base h₀ : Heap) (L : Addr) (m : Str → Option Value) (s : Shared) (Q E : Value → Shared → Prop)
  (P : Addr) (nP : Nat) (x1 x2 : Value) (k1 k2 : List Nat) (news : List (Addr × Obj))
  (B : Below A₀ base outer h₀) (F : Fr h₀ L s.heap m) (X : (hd.heap_39 (World.params w)).In h₀) (N : News h₀ L s.heap news) (T : Top hd.view_39 (looseW hd.view_39 [Str.ofString "SINGLE_WILDCARD", Str.ofString "MULTI_WILDCARD", Str.ofString "DEFAULT_FIRST_ELEMENT", Str.ofString "_path_to_elements", Str.ofString "_WILDCARD_RE"]) mean mg mb h₀) (D : KtsDicts (outer.filterMap (·.frame)) h₀) (XB : (hd.heap_39 (World.params w)).In base) (TB : Top hd.view_39 (looseW hd.view_39 [Str.ofString "SINGLE_WILDCARD", Str.ofString "MULTI_WILDCARD", Str.ofString "DEFAULT_FIRST_ELEMENT", Str.ofString "_path_to_elements", Str.ofString "_WILDCARD_RE"]) mean mg mb base) (hk : cs.kind = .function)
  (hdp : dp + 80 < recursionLimit) (hun : un + 800 < cLine)
  (hP : (P, W.listOf #[x1, x2] nP) ∈ news) (hp1 : Pat x1 k1) (hp2 : Pat x2 k2)
  (hret : ∀ (D : Addr) (y1 y2 : Value) (nD : Nat) h₀' h' tk' news₂, KtsTurn (outer.filterMap (·.frame)) h₀ h₀' → Fr h₀' L h' m → Below A₀ base outer h₀' → News h₀' L h' news₂ → (∀ p ∈ news, p ∈ news₂) →
    (D, W.listOf #[y1, y2] nD) ∈ news₂ → Mat w news₂ y1 k1 → Mat w news₂ y2 k2 → Q (.ref D) { s with heap := h', toks := tk' }),
  wpC (model (RowW.prog (OpenRow.toRowW (OpenLaw.row PySem.Challenge.rw_fu0002_01))) w) (ktrTop dp un gd cn cs L a ccd cl outer) (call (.ref 168) [.ref P] []) Q E s := by
  intro w mean mg mb dp un gd cn cs a ccd cl outer A₀ base h₀ L m s Q E P nP x1 x2 k1 k2 news B F X N T D XB TB hk hdp hun hP hp1 hp2 hret
  revert X
  k_fill
  intro X
  refine wpC_call ?_
  k_dflt (refine' defC ?k1 ?k2 ?k3 ?k4 ?k5 ?kD ?kA ?kF ?kK ?k6 ?k7 ?k8 ?k9 ?kB ?_ ?c2 ?c3 ?c4 ?c5; (case kA => exact rfl); (case kF => exact rfl); (case kK => assumption); (case k1 => k_asm); (case k2 => k_asm); (case k3 => k_asm); (case k4 => exact N); (case k5 => k_asm); (case kD => exact D); (case k6 => k_is); (case k7 => k_is); (case k8 => ktr_room); (case k9 => first | exact BindsTo.of_eq rfl | exact binds_K (by k_in) rfl (by k_is) rfl rfl rfl); (case c5 => decide); (case kB => exact locs rfl); (case c2 => exact rfl); (case c3 => exact rfl); (case c4 => exact rfl); k_whole; intro g' L' h' F' N' B' X' T' D'; (try dsimp only); (try k_fold))
  clear B F X T
  refine wpC_execs_plain ?_
  k_steps
  refine wpAny_truthy_list (s := ⟨_, _, _, _, _⟩) (items := #[x1, x2]) ⟨_, (N' _ hP).1, rfl, _, rfl⟩ (by simp) ?_
  dsimp only
  rw [if_neg (by simp)]
  k_steps
  dsimp only
  refine wpC_execs_cons (wpC_Return_some ?_)
  refine wpC_ListComp_list (A₀ := ktrTop dp un gd cn cs L a ccd cl outer) (base := base) (outer := envX cn cs L a ccd cl :: outer) (h₀ := g') (L := L') ?hh ?hfree ?hcell ?hkind ?hnames ?hx ?_ (by intro _; rfl)
  case hh => rfl
  case hfree => decide
  case hcell => decide
  case hkind => rfl
  case hnames => decide
  case hx => rfl
  refine wpAny_Name (wpAny_loadName_local rfl rfl F'.ns rfl ?_) rfl
  refine ⟨P, #[x1, x2], nP, _, news, fun i ys n' => (∀ p ∈ news, p ∈ n') ∧ ys.length = i ∧ ∀ (j : Nat) (y : Value) (ks : List Nat), ys[j]? = some y → [k1, k2][j]? = some ks → Mat w n' y ks, rfl, hP, (show (2 : Nat) ≤ 1000 by decide), B', F', N', ⟨fun p hp => hp, rfl, ?zero⟩, fun i ys n' hJ => hJ.1 _ hP, ?step, ?fin⟩
  case zero =>
    intro j y ks h
    exact absurd h (by show ¬ ([] : List Value)[j]? = some y; simp)
  case fin =>
    intro ys D nD g h₂ tk₂ news₂ hJ KT BB FF NN
    obtain ⟨hJ1, hJ2, hJ3⟩ := hJ
    match ys, hJ2 with
    | [y1, y2], _ =>
      refine leaveC_ FF NN KT ?_
      intro h₀' KT5 F5 N5 B5
      exact hret D y1 y2 nD h₀' h₂ tk₂ _ KT5 F5 B5 N5 (fun p hp => .tail _ (hJ1 p hp)) (.head _) ((hJ3 0 y1 k1 rfl rfl).sub fun p hp => .tail _ hp) ((hJ3 1 y2 k2 rfl rfl).sub fun p hp => .tail _ hp)
  case step =>
    intro i v ys I D C oI oD oC mC g h₁ tk₁ news₁ hv hJ hne cI cD dC KT BB FF NN hC hx
    obtain ⟨hJ1, hJ2, hJ3⟩ := hJ
    obtain ⟨ks, hks, u, tk0, stF, rfl, q1, q2, q3, q4, q5⟩ : ∃ ks, [k1, k2][i]? = some ks ∧ Pat v ks := by
      match i, hv with
      | 0, hv => simp at hv; subst hv; exact ⟨k1, rfl, hp1⟩
      | 1, hv => simp at hv; subst hv; exact ⟨k2, rfl, hp2⟩
    have X2 := XB.keeps BB.stays
    have T2 := TB.keeps BB.stays
    refine wpC_Call ?_
    refine Name_function_global rfl rfl (loadGlobal_global (env := compEnv _ C _) (show Heap.Ns _ mainGlobals mg from (T2.keeps FF.keep).g) (mg_of X2 T2.g (v := .ref 159) ?e) ?_) (by decide)
    case e => k_is
    k_steps
    refine rest_cls (makes_of (X2.keeps FF.keep) ?mk) ?_
    case mk => k_is
    dsimp only [List.nil_append]
    have D2 : KtsDicts (List.filterMap (fun x => Env.frame x) (envX cn cs L a ccd cl :: outer)) g := D'.turn KT
    refine new_ok _ _ _ _ _ _ _ _ _ _ _ _ _ _ _ _ _ tk0 ks _ u stF BB FF X2 NN T2 D2 XB TB rfl (by show dp + 1 + 60 < recursionLimit; omega) (by show un + 3 + 600 < cLine; omega) q1 q2 q3 q4 q5 ?_
    intro x dx PT t1 t2 prs g2 h2 tk2 news2 KT2 F2 B2 N2 hsub m1 m2 m3 m4 hneo
    have mI : (I, oI) ∈ news2 := hsub _ (List.mem_append_right _ (.head _))
    have mD : (D, oD) ∈ news2 := hsub _ (List.mem_append_right _ (.tail _ (.head _)))
    have mC2 : (C, oC) ∈ news2 := hsub _ (List.mem_append_right _ (.tail _ (.tail _ (.head _))))
    have nI := hneo _ (List.mem_append_right _ (.head _))
    have nD := hneo _ (List.mem_append_right _ (.tail _ (.head _)))
    have nC := hneo _ (List.mem_append_right _ (.tail _ (.tail _ (.head _))))
    have up : ∀ p ∈ news₁, p ∈ news2.filter (Off I D C) := fun p hp => mem_off N2 mI mD mC2 (hsub _ (List.mem_append_left _ hp)) (hne p hp)
    refine ⟨g2, h2, tk2, news2, rfl, KT2, B2, F2, N2, mI, mD, mC2, fun p hp => up p (hJ1 p hp), by simp [hJ2], fun j y ks' hj hk' => ?_⟩
    rcases Nat.lt_or_ge j ys.length with hl | hl
    · rw [List.getElem?_append_left hl] at hj
      exact (hJ3 j y ks' hj hk').sub up
    · have hj0 : j = i := by
        have := (List.getElem?_eq_some_iff.mp hj).1
        simp only [List.length_append, List.length_cons, List.length_nil] at this
        omega
      subst hj0
      rw [List.getElem?_append_right hl, hJ2, Nat.sub_self] at hj
      cases hj
      rw [hks] at hk'
      cases hk'
      exact Mat.off N2 mI mD mC2 cI cD dC m1 m2 m3 m4 nI nD nC

end Mine
end
section
theorem Mine.off_Pl : True := by
  w_top off
  trivial
set_option Elab.async false
set_option linter.unusedVariables false
set_option linter.unusedSimpArgs false
namespace Mine
/-- a pattern fits a road whole -/
noncomputable def fits : List Nat → List Nat → Prop
  | [], t => t = []
  | k :: p, t => if k = 1 then ∃ a b, t = a ++ b ∧ fits p b else ∃ j t', t = j :: t' ∧ (k = 0 ∨ k = j) ∧ fits p t'
theorem anyT_iff {f : List Nat → Bool} : ∀ {t : List Nat}, anyT f t = true ↔ ∃ a b, t = a ++ b ∧ f b = true
  | [] => by
    simp only [anyT, Bool.or_false]
    exact ⟨fun h => ⟨[], [], rfl, h⟩, fun ⟨a, b, h, hf⟩ => by
      obtain ⟨rfl, rfl⟩ := List.append_eq_nil_iff.mp h.symm
      exact hf⟩
  | j :: t => by
    simp only [anyT, Bool.or_eq_true, anyT_iff (t := t)]
    constructor
    · rintro (h | ⟨a, b, rfl, h⟩)
      · exact ⟨[], _, rfl, h⟩
      · exact ⟨j :: a, b, rfl, h⟩
    · rintro ⟨a, b, h, hf⟩
      cases a with
      | nil => exact .inl (h ▸ hf)
      | cons c a =>
        injection h with h1 h2
        exact .inr ⟨a, b, h2, hf⟩
theorem msl_iff (ext : Bool) : ∀ (p t : List Nat), msl ext p t = true ↔ ∃ a b, t = a ++ b ∧ fits p a ∧ (ext = true ∨ b = [])
  | [], t => by
    simp only [msl, Bool.or_eq_true, List.isEmpty_iff, fits]
    constructor
    · rintro (h | h)
      · exact ⟨[], t, rfl, rfl, .inl h⟩
      · exact ⟨[], t, rfl, rfl, .inr h⟩
    · rintro ⟨a, b, rfl, rfl, h⟩
      exact h
  | k :: p, t => by
    unfold msl fits
    split
    · rw [anyT_iff]
      constructor
      · rintro ⟨a, b, rfl, h⟩
        obtain ⟨c, d, rfl, h1, h2⟩ := (msl_iff ext p b).mp h
        exact ⟨a ++ c, d, (List.append_assoc ..).symm, ⟨a, c, rfl, h1⟩, h2⟩
      · rintro ⟨a, b, rfl, ⟨c, d, rfl, h1⟩, h2⟩
        exact ⟨c, d ++ b, List.append_assoc .., (msl_iff ext p _).mpr ⟨d, b, rfl, h1, h2⟩⟩
    · constructor
      · intro h
        cases t with
        | nil => cases h
        | cons j t =>
          simp only [Bool.and_eq_true, Bool.or_eq_true, beq_iff_eq] at h
          obtain ⟨a, b, rfl, h1, h2⟩ := (msl_iff ext p t).mp h.2
          exact ⟨j :: a, b, rfl, ⟨j, a, rfl, h.1, h1⟩, h2⟩
      · rintro ⟨a, b, rfl, ⟨j, t', rfl, h1, h2⟩, h3⟩
        simp only [List.cons_append, Bool.and_eq_true, Bool.or_eq_true, beq_iff_eq]
        exact ⟨h1, (msl_iff ext p _).mpr ⟨t', b, rfl, h2, h3⟩⟩
theorem msl_false {p t : List Nat} : msl false p t = true ↔ fits p t := by
  rw [msl_iff]
  constructor
  · rintro ⟨a, b, rfl, h, h2⟩
    rcases h2 with h2 | rfl
    · cases h2
    · rwa [List.append_nil]
  · exact fun h => ⟨t, [], (List.append_nil t).symm, h, .inr rfl⟩
theorem msl_true {p t : List Nat} : msl true p t = true ↔ ∃ a b, t = a ++ b ∧ fits p a := by
  rw [msl_iff]
  exact ⟨fun ⟨a, b, h, h1, _⟩ => ⟨a, b, h, h1⟩, fun ⟨a, b, h, h1⟩ => ⟨a, b, h, h1, .inl rfl⟩⟩
theorem fits_append : ∀ {p q t : List Nat}, fits (p ++ q) t ↔ ∃ a b, t = a ++ b ∧ fits p a ∧ fits q b
  | [], q, t => by
    simp only [List.nil_append, fits]
    exact ⟨fun h => ⟨[], t, rfl, rfl, h⟩, fun ⟨a, b, h, h1, h2⟩ => by subst h1; exact h ▸ h2⟩
  | k :: p, q, t => by
    rw [List.cons_append]
    simp only [fits]
    split
    · constructor
      · rintro ⟨a, b, rfl, h⟩
        obtain ⟨c, d, rfl, h1, h2⟩ := fits_append.mp h
        exact ⟨a ++ c, d, (List.append_assoc ..).symm, ⟨a, c, rfl, h1⟩, h2⟩
      · rintro ⟨a, b, rfl, ⟨c, d, rfl, h1⟩, h2⟩
        exact ⟨c, d ++ b, List.append_assoc .., fits_append.mpr ⟨d, b, rfl, h1, h2⟩⟩
    · constructor
      · rintro ⟨j, t', rfl, h, h'⟩
        obtain ⟨c, d, rfl, h1, h2⟩ := fits_append.mp h'
        exact ⟨j :: c, d, rfl, ⟨j, c, rfl, h, h1⟩, h2⟩
      · rintro ⟨a, b, rfl, ⟨j, t', rfl, h, h1⟩, h2⟩
        exact ⟨j, t' ++ b, rfl, h, fits_append.mpr ⟨t', b, rfl, h1, h2⟩⟩
theorem cdl_sound (p t : List Nat) (h : cdl p t = true) : ∃ q r, p = q ++ r ∧ fits q t := by
  induction p, t using cdl.induct with
  | case1 p => exact ⟨[], p, rfl, rfl⟩
  | case2 => simp [cdl] at h
  | case3 p j t ih1 ih2 =>
    rw [cdl] at h
    simp only [if_true, Bool.or_eq_true] at h
    rcases h with h | h
    · obtain ⟨q, r, rfl, hf⟩ := ih1 h
      refine ⟨1 :: q, r, rfl, ?_⟩
      simp only [fits, if_true]
      exact ⟨[], _, rfl, hf⟩
    · obtain ⟨q, r, e, hf⟩ := ih2 h
      cases q with
      | nil =>
        refine ⟨[1], p, rfl, ?_⟩
        simp only [fits, if_true]
        exact ⟨_, [], (List.append_nil _).symm, rfl⟩
      | cons c q =>
        injection e with e1 e2
        subst e1 e2
        refine ⟨1 :: q, r, rfl, ?_⟩
        simp only [fits, if_true] at hf ⊢
        obtain ⟨a, b, rfl, hf⟩ := hf
        exact ⟨j :: a, b, rfl, hf⟩
  | case4 p j t _ ih =>
    rw [cdl] at h
    obtain ⟨q, r, rfl, hf⟩ := ih (by simpa using h)
    refine ⟨0 :: q, r, rfl, ?_⟩
    simp only [fits]
    rw [if_neg (by decide)]
    exact ⟨j, t, rfl, by simp, hf⟩
  | case5 k p j t h1 h0 ih =>
    rw [cdl, if_neg h1, if_neg h0] at h
    simp only [Bool.and_eq_true, beq_iff_eq] at h
    obtain ⟨q, r, rfl, hf⟩ := ih h.2
    refine ⟨k :: q, r, rfl, ?_⟩
    simp only [fits]
    rw [if_neg h1]
    exact ⟨j, t, rfl, .inr h.1, hf⟩
theorem cdl_full (p t : List Nat) (h : ∃ q k r, p = q ++ k :: r ∧ fits q t) : cdl p t = true := by
  induction p, t using cdl.induct with
  | case1 p =>
    obtain ⟨q, k, r, rfl, _⟩ := h
    rw [cdl]; simp
  | case2 =>
    obtain ⟨q, k, r, e, _⟩ := h
    simp at e
  | case3 p j t ih1 ih2 =>
    obtain ⟨q, k, r, e, hf⟩ := h
    rw [cdl]
    simp only [if_true, Bool.or_eq_true]
    cases q with
    | nil => cases hf
    | cons c q =>
      injection e with e1 e2
      subst e1 e2
      simp only [fits, if_true] at hf
      obtain ⟨a, b, e, hf⟩ := hf
      cases a with
      | nil => exact .inl (ih1 ⟨q, k, r, rfl, e ▸ hf⟩)
      | cons c a =>
        injection e with e1 e2
        refine .inr (ih2 ⟨1 :: q, k, r, rfl, ?_⟩)
        simp only [fits, if_true]
        exact ⟨a, b, e2, hf⟩
  | case4 p j t _ ih =>
    obtain ⟨q, k, r, e, hf⟩ := h
    rw [cdl]
    cases q with
    | nil => cases hf
    | cons c q =>
      injection e with e1 e2
      subst e1 e2
      simp only [fits] at hf
      rw [if_neg (by decide)] at hf
      obtain ⟨j', t', e, _, hf⟩ := hf
      injection e with e1 e2
      simpa using ih ⟨q, k, r, rfl, e2 ▸ hf⟩
  | case5 k0 p j t h1 h0 ih =>
    obtain ⟨q, k, r, e, hf⟩ := h
    rw [cdl, if_neg h1, if_neg h0]
    cases q with
    | nil => cases hf
    | cons c q =>
      injection e with e1 e2
      subst e1 e2
      simp only [fits] at hf
      rw [if_neg h1] at hf
      obtain ⟨j', t', e, hk, hf⟩ := hf
      injection e with e1 e2
      simp only [Bool.and_eq_true, beq_iff_eq]
      exact ⟨(hk.resolve_left h0).trans e1.symm, ih ⟨q, k, r, rfl, e2 ▸ hf⟩⟩
theorem anc_iff {p t : List Nat} : (msl false p t || cdl p t) = true ↔ ∃ q r, p = q ++ r ∧ fits q t := by
  rw [Bool.or_eq_true, msl_false]
  constructor
  · rintro (h | h)
    · exact ⟨p, [], (List.append_nil p).symm, h⟩
    · exact cdl_sound _ _ h
  · rintro ⟨q, r, rfl, h⟩
    cases r with
    | nil => rw [List.append_nil]; exact .inl h
    | cons k r => exact .inr (cdl_full _ _ ⟨q, k, r, rfl, h⟩)
/-- the table's value: row of a pattern, column j -/
noncomputable def tab (p goal : List Nat) (j : Nat) : Bool := msl false p (goal.take j)
theorem tab_iff {p goal : List Nat} {j : Nat} : tab p goal j = true ↔ fits p (goal.take j) := msl_false
theorem tab_nil {goal : List Nat} {j : Nat} (h : j ≤ goal.length) : tab [] goal j = (j == 0) := by
  rw [Bool.eq_iff_iff, tab_iff, beq_iff_eq]
  simp only [fits, List.take_eq_nil_iff]
  constructor
  · rintro (h' | rfl)
    · exact h'
    · simpa using h
  · exact .inl
theorem tab_run0 {p goal : List Nat} : tab (p ++ [1]) goal 0 = tab p goal 0 := by
  rw [Bool.eq_iff_iff, tab_iff, tab_iff, fits_append]
  simp only [List.take_zero, fits, if_true]
  constructor
  · rintro ⟨a, b, h, h1, _⟩
    obtain ⟨rfl, rfl⟩ := List.append_eq_nil_iff.mp h.symm
    exact h1
  · exact fun h => ⟨[], [], rfl, h, [], [], rfl, rfl⟩
theorem tab_one0 {p goal : List Nat} {k : Nat} (hk : k ≠ 1) : tab (p ++ [k]) goal 0 = false := by
  rw [Bool.eq_false_iff, Ne, tab_iff, fits_append]
  simp only [List.take_zero, fits, if_neg hk]
  rintro ⟨a, b, h, h1, j, t', rfl, _⟩
  simp at h
theorem fits_run {p t : List Nat} : fits (p ++ [1]) t ↔ ∃ a b, t = a ++ b ∧ fits p a := by
  rw [fits_append]
  simp only [fits, if_true]
  exact ⟨fun ⟨a, b, h, h1, _⟩ => ⟨a, b, h, h1⟩, fun ⟨a, b, h, h1⟩ => ⟨a, b, h, h1, b, [], (List.append_nil b).symm, rfl⟩⟩
theorem tab_run {p goal : List Nat} {j : Nat} (hj : j < goal.length) : tab (p ++ [1]) goal (j + 1) = (tab (p ++ [1]) goal j || tab p goal (j + 1)) := by
  rw [Bool.eq_iff_iff, Bool.or_eq_true, tab_iff, tab_iff, tab_iff, fits_run, fits_run, List.take_succ_eq_append_getElem hj]
  constructor
  · rintro ⟨a, b, h, h1⟩
    rcases List.eq_nil_or_concat b with rfl | ⟨b', x, rfl⟩
    · rw [List.append_nil] at h
      exact .inr (h ▸ h1)
    · rw [List.concat_eq_append, ← List.append_assoc] at h
      obtain ⟨h2, _⟩ := List.append_inj' h rfl
      exact .inl ⟨a, b', h2, h1⟩
  · rintro (⟨a, b, h, h1⟩ | h)
    · exact ⟨a, b ++ [goal[j]], by rw [h, List.append_assoc], h1⟩
    · exact ⟨_, [], (List.append_nil _).symm, h⟩
theorem tab_one {p goal : List Nat} {k j : Nat} (hk : k ≠ 1) (hj : j < goal.length) : tab (p ++ [k]) goal (j + 1) = (tab p goal j && (k == 0 || k == goal[j])) := by
  rw [Bool.eq_iff_iff, Bool.and_eq_true, tab_iff, tab_iff, fits_append, List.take_succ_eq_append_getElem hj]
  simp only [fits, Bool.or_eq_true, beq_iff_eq, if_neg hk]
  constructor
  · rintro ⟨a, b, h, h1, x, t', rfl, h2, rfl⟩
    obtain ⟨h3, h4⟩ := List.append_inj' h rfl
    injection h4 with h4 _
    exact ⟨h3 ▸ h1, h4 ▸ h2⟩
  · rintro ⟨h1, h2⟩
    exact ⟨_, _, rfl, h1, goal[j], [], rfl, h2, rfl⟩
/-- the last row's last, any of the last row, any of the last column -/
theorem tab_match {p goal : List Nat} : tab p goal goal.length = msl false p goal := by rw [tab, List.take_length]
theorem tab_desc {p goal : List Nat} : (∃ j, j ≤ goal.length ∧ tab p goal j = true) ↔ msl true p goal = true := by
  rw [msl_true]
  constructor
  · rintro ⟨j, hj, h⟩
    exact ⟨goal.take j, goal.drop j, (List.take_append_drop j goal).symm, tab_iff.mp h⟩
  · rintro ⟨a, b, rfl, h⟩
    exact ⟨a.length, by simp, tab_iff.mpr (by rw [List.take_left]; exact h)⟩
theorem tab_anc {p goal : List Nat} : (∃ i, i ≤ p.length ∧ tab (p.take i) goal goal.length = true) ↔ (msl false p goal || cdl p goal) = true := by
  rw [anc_iff]
  constructor
  · rintro ⟨i, hi, h⟩
    rw [tab_match, msl_false] at h
    exact ⟨p.take i, p.drop i, (List.take_append_drop i p).symm, h⟩
  · rintro ⟨q, r, rfl, h⟩
    exact ⟨q.length, by simp, by rw [List.take_left, tab_match, msl_false]; exact h⟩
end Mine
end
section
theorem Mine.off_Rx : True := by
  w_top off
  trivial
open PySem
set_option Elab.async false
set_option linter.unusedVariables false
set_option linter.unusedSimpArgs false
namespace Mine
namespace Rx
open PySem.Sre
/-- the code of the pattern of wildcards -/
def C : Array Nat := #[14, 9, 4, 2, 4, 16, 91, 16, 46, 0, 7, 16, 16, 91, 16, 42, 24, 6, 0, 1, 16, 42, 1, 16, 93, 15, 37, 35, 16, 46, 16, 42, 24, 6, 0, 1, 16, 42, 1, 4, 20, 0, 7, 10, 13, 6, 16, 46, 16, 91, 0, 15, 7, 5, 6, 5, 15, 2, 0, 1, 15, 2, 0, 1]
/-- a state of the machine over this code -/
def st (T : Array Nat) (start : Nat) (pc pos handed : Nat) (om : Bool) (fr : List Sre.Frame) (wt : Nat) (ans : Option Bool) (sn : Seen) : M :=
  { code := C, text := T, lim := T.size, start := start, lastStart := T.size, mustAdvance := false, pc := pc, pos := pos, handed := handed, outermost := om, marks := #[], frames := fr, weight := wt, answer := ans, seen := sn }
/-- n steps -/
noncomputable def steps : Nat → M → M
  | 0, m => m
  | n + 1, m => steps n m.step
theorem steps_add (a b : Nat) (m : M) : steps (a + b) m = steps b (steps a m) := by
  induction a generalizing m with
  | zero => rw [Nat.zero_add]; rfl
  | succ a ih => rw [Nat.succ_add]; exact ih _
variable {T : Array Nat} {start pc pos handed wt : Nat} {om : Bool} {fr : List Sre.Frame} {sn : Seen}
theorem run_step (hpc : pc < 64) : (st T start pc pos handed om fr wt none sn).step = (st T start pc pos handed om fr wt none sn).exec := by
  show (if pc < C.size then M.exec (st T start pc pos handed om fr wt none sn) else M.stick (st T start pc pos handed om fr wt none sn) "code:ran-off") = _
  exact if_pos hpc
theorem lit_ok {c : Nat} (h0 : C.getD pc 0 = 16) (h1 : C.getD (pc + 1) 0 = c) (hp : pos < T.size) (hc : T.getD pos 0 = c) (hpc : pc < 64) :
    ∃ sn', (st T start pc pos handed om fr wt none sn).step = st T start (pc + 2) (pos + 1) handed om fr wt none sn' := by
  rw [run_step hpc]
  refine ⟨sn.add 16, ?_⟩
  unfold M.exec M.word
  simp only [st, Nat.add_zero, h0, show ops[16]? = some Op.LITERAL from rfl, Nat.not_le.mpr hp, if_false, ge_iff_le, accepts, hc, h1, beq_self_eq_true, itemWidth]
theorem lit_no {c : Nat} (h0 : C.getD pc 0 = 16) (h1 : C.getD (pc + 1) 0 = c) (hc : ¬ (pos < T.size ∧ T.getD pos 0 = c)) (hpc : pc < 64) :
    ∃ sn', (st T start pc pos handed om fr wt none sn).step = st T start pc pos handed om fr wt (some false) sn' := by
  rw [run_step hpc]
  unfold M.exec M.word
  by_cases hp : pos < T.size
  · have hc' : (T.getD pos 0 == c) = false := by simpa using fun e => hc ⟨hp, e⟩
    refine ⟨sn.add 16, ?_⟩
    simp only [st, Nat.add_zero, h0, show ops[16]? = some Op.LITERAL from rfl, Nat.not_le.mpr hp, if_false, ge_iff_le, accepts, h1, hc', itemWidth]
    rfl
  · refine ⟨sn.add 16, ?_⟩
    simp only [st, Nat.add_zero, h0, show ops[16]? = some Op.LITERAL from rfl, Nat.not_lt.mp hp, if_true, ge_iff_le]
    rfl
abbrev kp : Sre.Kept := { lastmark := -1, lastindex := -1, whole := false, marks := #[] }
abbrev bf (alt pos : Nat) (om : Bool) : Sre.Frame := { wait := .nextBranch, pc := alt, pos := pos, outermost := om, kept := kp }
abbrev ns (pos : Nat) (om : Bool) : Sre.Frame := { wait := .nextStart, pc := 10, pos := pos, outermost := om }
abbrev gb (pc pos : Nat) (om : Bool) (n : Int) : Sre.Frame := { wait := .giveBack, pc := pc, pos := pos, outermost := om, count := n, kept := kp }
abbrev lk (pos : Nat) (om : Bool) : Sre.Frame := { wait := .look, pc := 39, pos := pos, outermost := om, kept := kp }
/-- an attempt at a place -/
abbrev att (T : Array Nat) (s : Nat) (om : Bool) (sn : Seen) : M := st T s 10 s s om [ns s om] 1 none sn
theorem br10 {s : Nat} : (att T s om sn).step = st T s 12 s s om [bf 11 s om, ns s om] 2 none (sn.add 7) := rfl
theorem br42 {p : Nat} : (st T start 42 p handed om fr 4 none sn).step = st T start 44 p p om (bf 43 p om :: fr) 5 none (sn.add 7) := rfl
theorem jmp25 : (st T start 25 pos handed om fr wt none sn).step = st T start 63 pos handed om fr wt none (sn.add 15) := rfl
theorem jmp51 : (st T start 51 pos handed om fr wt none sn).step = st T start 59 pos handed om fr wt none (sn.add 15) := rfl
theorem jmp56 : (st T start 56 pos handed om fr wt none sn).step = st T start 59 pos handed om fr wt none (sn.add 15) := rfl
theorem jmp60 : (st T start 60 pos handed om fr wt none sn).step = st T start 63 pos handed om fr wt none (sn.add 15) := rfl
theorem suc63 : (st T start 63 pos handed om fr wt none sn).step = st T start 63 pos pos om fr wt (some true) (sn.add 1) := by
  rw [run_step (by decide)]
  show (if (om && (false || (false && _))) = true then _ else _) = _
  rw [if_neg (by simp)]
  rfl
theorem suc59 : (st T start 59 pos handed om fr wt none sn).step = st T start 59 pos pos om fr wt (some true) (sn.add 1) := by
  rw [run_step (by decide)]
  show (if (om && (false || (false && _))) = true then _ else _) = _
  rw [if_neg (by simp)]
  rfl
theorem as39 : (st T start 39 pos handed om fr 3 none sn).step = st T start 42 pos pos false (lk pos om :: fr) 4 none (sn.add 4) := by
  rw [run_step (by decide)]
  unfold M.exec M.word
  simp only [st, show ops[C.getD (39 + 0) 0]? = some Op.ASSERT from rfl, show C.getD (39 + 2) 0 = 0 from rfl, Nat.not_lt_zero, if_false]
  rfl
theorem back_b {a q : Nat} {o : Bool} : (st T start pc pos handed om (bf a q o :: fr) (wt + 1) (some true) sn).step = st T start a q handed o fr wt (some true) sn := rfl
theorem back_g {a q : Nat} {o : Bool} {n : Int} : (st T start pc pos handed om (gb a q o n :: fr) (wt + 1) (some true) sn).step = st T start a q handed o fr wt (some true) sn := rfl
theorem back_n {q : Nat} {o : Bool} : (st T start pc pos handed om (ns q o :: fr) (wt + 1) (some true) sn).step = st T start 10 q handed o fr wt (some true) sn := rfl
theorem back_l {q : Nat} {o : Bool} : (st T start pc pos handed om (lk q o :: fr) (wt + 1) (some true) sn).step = st T start 60 q handed o fr wt none sn := rfl
theorem no_b11 {q : Nat} {o : Bool} : (st T start pc pos handed om (bf 11 q o :: fr) 2 (some false) sn).step = st T start 28 q q o (bf 27 q o :: fr) 2 none sn := rfl
theorem no_b27 {q : Nat} {o : Bool} : (st T start pc pos handed om (bf 27 q o :: fr) 2 (some false) sn).step = st T start 27 q handed o fr 1 (some false) sn := rfl
theorem no_b43 {q : Nat} {o : Bool} : (st T start pc pos handed om (bf 43 q o :: fr) 5 (some false) sn).step = st T start 54 q q o (bf 53 q o :: fr) 5 none sn := rfl
theorem rep_yes {pc : Nat} (hpc : pc = 16 ∨ pc = 32) (hp : pos < T.size) (hc : T.getD pos 0 = 42) :
    ∃ sn', (st T start pc pos handed om fr 2 none sn).step = st T start (pc + 7) (pos + 1) (pos + 1) om (gb pc (pos + 1) om 1 :: fr) 3 none sn' := by
  have h1 : min 1 ((T.size : Int) - (pos : Int)).toNat = 1 := by omega
  have h2 : ¬ ((0 : Nat) : Int) > (T.size : Int) - (pos : Int) := by omega
  refine ⟨(sn.add 24).add 16, ?_⟩
  rcases hpc with rfl | rfl
  all_goals
    rw [run_step (by decide)]
    unfold M.exec M.word
    simp only [st, show ops[C.getD (16 + 0) 0]? = some Op.REPEAT_ONE from rfl, show ops[C.getD (32 + 0) 0]? = some Op.REPEAT_ONE from rfl, show C.getD (16 + 2) 0 = 0 from rfl, show C.getD (16 + 3) 0 = 1 from rfl, show C.getD (32 + 2) 0 = 0 from rfl, show C.getD (32 + 3) 0 = 1 from rfl, if_neg h2, h1, if_false, Bool.false_eq_true]
    unfold Sre.run
    simp only [accepts, show ops[C.getD (16 + 4) 0]? = some Op.LITERAL from rfl, show ops[C.getD (32 + 4) 0]? = some Op.LITERAL from rfl, hc]
    rfl
theorem rep_no {pc : Nat} (hpc : pc = 16 ∨ pc = 32) (hq : pos ≤ T.size) (hc : ¬ (pos < T.size ∧ T.getD pos 0 = 42)) :
    ∃ sn', (st T start pc pos handed om fr 2 none sn).step = st T start (pc + 7) pos pos om (gb pc pos om 0 :: fr) 3 none sn' := by
  have h2 : ¬ ((0 : Nat) : Int) > (T.size : Int) - (pos : Int) := by omega
  refine ⟨(sn.add 24).add 16, ?_⟩
  by_cases hp : pos < T.size
  · have h1 : min 1 ((T.size : Int) - (pos : Int)).toNat = 1 := by omega
    have h3 : (T.getD pos 0 == 42) = false := by simpa using fun e => hc ⟨hp, e⟩
    rcases hpc with rfl | rfl
    all_goals
      rw [run_step (by decide)]
      unfold M.exec M.word
      simp only [st, show ops[C.getD (16 + 0) 0]? = some Op.REPEAT_ONE from rfl, show ops[C.getD (32 + 0) 0]? = some Op.REPEAT_ONE from rfl, show C.getD (16 + 2) 0 = 0 from rfl, show C.getD (16 + 3) 0 = 1 from rfl, show C.getD (32 + 2) 0 = 0 from rfl, show C.getD (32 + 3) 0 = 1 from rfl, if_neg h2, h1, if_false, Bool.false_eq_true]
      unfold Sre.run
      simp only [accepts, show ops[C.getD (16 + 4) 0]? = some Op.LITERAL from rfl, show ops[C.getD (32 + 4) 0]? = some Op.LITERAL from rfl, show C.getD (16 + 4 + 1) 0 = 42 from rfl, show C.getD (32 + 4 + 1) 0 = 42 from rfl, h3]
      rfl
  · have h1 : min 1 ((T.size : Int) - (pos : Int)).toNat = 0 := by omega
    rcases hpc with rfl | rfl
    all_goals
      rw [run_step (by decide)]
      unfold M.exec M.word
      simp only [st, show ops[C.getD (16 + 0) 0]? = some Op.REPEAT_ONE from rfl, show ops[C.getD (32 + 0) 0]? = some Op.REPEAT_ONE from rfl, show C.getD (16 + 2) 0 = 0 from rfl, show C.getD (16 + 3) 0 = 1 from rfl, show C.getD (32 + 2) 0 = 0 from rfl, show C.getD (32 + 3) 0 = 1 from rfl, if_neg h2, h1, if_false, Bool.false_eq_true]
      rfl
theorem in_C (c : Nat) : ∃ sn', inSet C c C.size 5 true sn = .ok (c == 91 || c == 46, sn') := by
  by_cases h : c = 91
  · subst h; exact ⟨_, rfl⟩
  by_cases h' : c = 46
  · subst h'; exact ⟨_, rfl⟩
  have e1 : (c == 91) = false := by simpa using h
  have e2 : (c == 46) = false := by simpa using h'
  refine ⟨((sn.add 16).add 16).add 0, ?_⟩
  rw [e1, e2]
  show inSet C c 64 5 true sn = _
  simp only [inSet, show ops[C.getD (5 + 0) 0]? = some Op.LITERAL from rfl, show C.getD (5 + 1) 0 = 91 from rfl, e1, show ops[C.getD (5 + 2 + 0) 0]? = some Op.LITERAL from rfl, show C.getD (5 + 2 + 1) 0 = 46 from rfl, e2, show ops[C.getD (5 + 2 + 2 + 0) 0]? = some Op.FAILURE from rfl, if_false, Bool.false_eq_true]
  rfl
theorem set_yes {c : Nat} (hp : pos < T.size) (hc : T.getD pos 0 = c) (h : c = 46 ∨ c = 91) : ∃ sn', (st T start 44 pos handed om fr 5 none sn).step = st T start 51 (pos + 1) handed om fr 5 none sn' := by
  have e : ∃ sn', inSet C c C.size 46 true (sn.add 13) = .ok (true, sn') := by
    rcases h with rfl | rfl
    · exact ⟨_, rfl⟩
    · exact ⟨_, rfl⟩
  obtain ⟨sn', e⟩ := e
  refine ⟨sn', ?_⟩
  rw [run_step (by decide)]
  unfold M.exec M.word
  simp only [st, show ops[C.getD (44 + 0) 0]? = some Op.IN from rfl, ge_iff_le, Nat.not_le.mpr hp, if_false, hc]
  have e2 : accepts C 44 c (sn.add (C.getD (44 + 0) 0)) = .ok (true, sn') := e
  rw [e2]
  rfl
theorem set_end (hp : pos = T.size) : ∃ sn', (st T start 44 pos handed om fr 5 none sn).step = st T start 44 pos handed om fr 5 (some false) sn' := by
  refine ⟨sn.add 13, ?_⟩
  rw [run_step (by decide)]
  unfold M.exec M.word
  simp only [st, show ops[C.getD (44 + 0) 0]? = some Op.IN from rfl, ge_iff_le, Nat.le_of_eq hp.symm, if_true]
  rfl
theorem at_end (hp : pos = T.size) : ∃ sn', (st T start 54 pos handed om fr 5 none sn).step = st T start 56 pos handed om fr 5 none sn' := by
  subst hp
  refine ⟨(sn.add 6).add 48, ?_⟩
  rw [run_step (by decide)]
  unfold M.exec M.word
  simp only [st, show ops[C.getD (54 + 0) 0]? = some Op.AT from rfl, M.isAt, show C.getD (54 + 1) 0 = 5 from rfl, beq_self_eq_true, Bool.true_or, if_true]
  rfl
/-- the search for a place to start -/
theorem adm_some {m : M} (hC : m.code = C) : ∀ (n s e : Nat) (sn : Seen), e = s + n → e < m.lim → (∀ i, s ≤ i → i < e → m.text.getD i 0 ≠ 91 ∧ m.text.getD i 0 ≠ 46) → (m.text.getD e 0 = 91 ∨ m.text.getD e 0 = 46) →
    ∀ fuel, n < fuel → ∃ sn', M.admitted m fuel s sn = .ok (some e, sn') := by
  intro n
  induction n with
  | zero =>
    intro s e sn he hl _ hc fuel hf
    obtain ⟨fuel, rfl⟩ : ∃ f, fuel = f + 1 := ⟨fuel - 1, by omega⟩
    have he' : e = s := he
    clear he
    subst he'
    obtain ⟨sn', h⟩ := in_C (sn := sn) (m.text.getD e 0)
    refine ⟨sn', ?_⟩
    unfold M.admitted
    rw [if_neg (Nat.not_le.mpr hl), hC, h]
    have hc' : (m.text.getD e 0 == 91 || m.text.getD e 0 == 46) = true := by
      rcases hc with hc | hc <;> rw [hc] <;> rfl
    rw [hc']
  | succ n ih =>
    intro s e sn he hl hn hc fuel hf
    obtain ⟨fuel, rfl⟩ : ∃ f, fuel = f + 1 := ⟨fuel - 1, by omega⟩
    obtain ⟨sn', h⟩ := in_C (sn := sn) (m.text.getD s 0)
    obtain ⟨sn2, h2⟩ := ih (s + 1) e sn' (by omega) hl (fun i h1 h2 => hn i (by omega) h2) hc fuel (by omega)
    refine ⟨sn2, ?_⟩
    unfold M.admitted
    obtain ⟨n1, n2⟩ := hn s (Nat.le_refl _) (by omega)
    rw [if_neg (by omega), hC, h, beq_eq_false_iff_ne.mpr n1, beq_eq_false_iff_ne.mpr n2]
    exact h2
theorem adm_none {m : M} (hC : m.code = C) : ∀ (n s : Nat) (sn : Seen), m.lim = s + n → (∀ i, s ≤ i → i < m.lim → m.text.getD i 0 ≠ 91 ∧ m.text.getD i 0 ≠ 46) →
    ∀ fuel, ∃ sn', M.admitted m fuel s sn = .ok (none, sn') := by
  intro n
  induction n with
  | zero =>
    intro s sn he hn fuel
    refine ⟨sn, ?_⟩
    cases fuel with
    | zero => rfl
    | succ f =>
      unfold M.admitted
      rw [if_pos (by omega)]
  | succ n ih =>
    intro s sn he hn fuel
    cases fuel with
    | zero => exact ⟨sn, rfl⟩
    | succ f =>
      obtain ⟨sn', h⟩ := in_C (sn := sn) (m.text.getD s 0)
      obtain ⟨sn2, h2⟩ := ih (s + 1) sn' (by omega) (fun i h1 h2 => hn i (by omega) h2) f
      refine ⟨sn2, ?_⟩
      unfold M.admitted
      obtain ⟨n1, n2⟩ := hn s (Nat.le_refl _) (by omega)
      rw [if_neg (by omega), hC, h, beq_eq_false_iff_ne.mpr n1, beq_eq_false_iff_ne.mpr n2]
      exact h2
/-- an attempt failed: on to the next place -/
theorem next_some {q e : Nat} {o : Bool} (hq : q < e) (he : e < T.size) (hn : ∀ i, q + 1 ≤ i → i < e → T.getD i 0 ≠ 91 ∧ T.getD i 0 ≠ 46) (hc : T.getD e 0 = 91 ∨ T.getD e 0 = 46) :
    ∃ sn', (st T start pc pos handed om [ns q o] 1 (some false) sn).step = att T e false sn' := by
  have hs : (st T start pc pos handed om [ns q o] 1 (some false) sn).step = M.attemptFrom (st T start 10 q handed o [] 0 none sn) (q + 1) false := by
    show (if q < T.size then _ else _) = _
    exact if_pos (Nat.lt_trans hq he)
  rw [hs]
  obtain ⟨sn', h⟩ := adm_some (m := st T start 10 q handed o [] 0 none sn) rfl (e - (q + 1)) (q + 1) e sn (by omega) he hn hc (T.size + 1 - (q + 1)) (by omega)
  refine ⟨sn', ?_⟩
  show (match M.admitted (st T start 10 q handed o [] 0 none sn) (T.size + 1 - (q + 1)) (q + 1) sn with
    | .ok (some s, seen) => _ | .ok (none, seen) => _ | .error why => _) = _
  rw [h]
  rfl
theorem next_none {q : Nat} {o : Bool} (hq : q < T.size) (hn : ∀ i, q + 1 ≤ i → i < T.size → T.getD i 0 ≠ 91 ∧ T.getD i 0 ≠ 46) :
    ∃ sn', (st T start pc pos handed om [ns q o] 1 (some false) sn).step = st T start 10 q handed o [] 0 (some false) sn' := by
  have hs : (st T start pc pos handed om [ns q o] 1 (some false) sn).step = M.attemptFrom (st T start 10 q handed o [] 0 none sn) (q + 1) false := by
    show (if q < T.size then _ else _) = _
    exact if_pos hq
  rw [hs]
  obtain ⟨sn', h⟩ := adm_none (m := st T start 10 q handed o [] 0 none sn) rfl (T.size - (q + 1)) (q + 1) sn (show T.size = _ by omega) hn (T.size + 1 - (q + 1))
  refine ⟨sn', ?_⟩
  show (match M.admitted (st T start 10 q handed o [] 0 none sn) (T.size + 1 - (q + 1)) (q + 1) sn with
    | .ok (some s, seen) => _ | .ok (none, seen) => _ | .error why => _) = _
  rw [h]
  rfl
/-- the machine comes to an answer, in at most n steps -/
def Ends (T : Array Nat) (n : Nat) (b : Bool) (m : M) : Prop := ∃ k start pc pos handed om sn, k ≤ n ∧ steps k m = st T start pc pos handed om [] 0 (some b) sn
theorem Ends.one {n : Nat} {b : Bool} {m m' : M} (h : m.step = m') (H : Ends T n b m') : Ends T (n + 1) b m := by
  obtain ⟨k, a1, a2, a3, a4, a5, a6, hk, e⟩ := H
  refine ⟨k + 1, a1, a2, a3, a4, a5, a6, Nat.succ_le_succ hk, ?_⟩
  show steps k m.step = _
  rw [h]; exact e
theorem Ends.ex {n : Nat} {b : Bool} {m : M} {f : Seen → M} (h : ∃ sn', m.step = f sn') (H : ∀ sn', Ends T n b (f sn')) : Ends T (n + 1) b m :=
  let ⟨sn', e⟩ := h; Ends.one e (H sn')
theorem Ends.now {b : Bool} : Ends T 0 b (st T start pc pos handed om [] 0 (some b) sn) := ⟨0, _, _, _, _, _, _, Nat.le_refl _, rfl⟩
theorem Ends.mono {n n' : Nat} {b : Bool} {m : M} (h : n ≤ n') (H : Ends T n b m) : Ends T n' b m := by
  obtain ⟨k, a1, a2, a3, a4, a5, a6, hk, e⟩ := H
  exact ⟨k, a1, a2, a3, a4, a5, a6, Nat.le_trans hk h, e⟩
theorem ends63 {a p q q' s : Nat} {o o' o'' : Bool} {n : Int} : Ends T 4 true (st T start 63 pos handed om [gb a p o n, bf q q' o', ns s o''] 3 none sn) :=
  .one suc63 (.one back_g (.one back_b (.one back_n .now)))
theorem wild_br {s : Nat} {n : Nat} (h0 : s < T.size ∧ T.getD s 0 = 91) (h1 : s + 1 < T.size ∧ T.getD (s + 1) 0 = 42)
    (h2 : (s + 2 < T.size ∧ T.getD (s + 2) 0 = 93) ∨ (s + 2 < T.size ∧ T.getD (s + 2) 0 = 42 ∧ s + 3 < T.size ∧ T.getD (s + 3) 0 = 93)) : Ends T 10 true (att T s om sn) := by
  refine .one br10 (.ex (lit_ok rfl rfl h0.1 h0.2 (by decide)) fun _ => .ex (lit_ok rfl rfl h1.1 h1.2 (by decide)) fun _ => ?_)
  rcases h2 with h2 | h2
  · exact .ex (rep_no (.inl rfl) (Nat.le_of_lt h2.1) (fun q => by have := q.2; rw [h2.2] at this; cases this)) fun _ => .ex (lit_ok rfl rfl h2.1 h2.2 (by decide)) fun _ => .one jmp25 ends63
  · exact .ex (rep_yes (.inl rfl) h2.1 h2.2.1) fun _ => .ex (lit_ok rfl rfl h2.2.2.1 h2.2.2.2 (by decide)) fun _ => .one jmp25 ends63
theorem ends39 {a p q q' s : Nat} {o o' o'' : Bool} {n : Int} (h : pos = T.size ∨ (pos < T.size ∧ (T.getD pos 0 = 46 ∨ T.getD pos 0 = 91))) :
    Ends T 16 true (st T start 39 pos handed om [gb a p o n, bf q q' o', ns s o''] 3 none sn) := by
  refine .one as39 (.one br42 ?_)
  rcases h with h | h
  · exact .mono (by decide) (.ex (set_end h) fun _ => .one no_b43 (.ex (at_end h) fun _ => .one jmp56 (.one suc59 (.one back_b (.one back_l (.one jmp60 ends63))))))
  · exact .mono (by decide) (.ex (set_yes h.1 rfl h.2) fun _ => .one jmp51 (.one suc59 (.one back_b (.one back_l (.one jmp60 ends63)))))
theorem wild_dot {s : Nat} (h0 : s < T.size ∧ T.getD s 0 = 46) (h1 : s + 1 < T.size ∧ T.getD (s + 1) 0 = 42)
    (h2 : (s + 2 = T.size ∨ (s + 2 < T.size ∧ (T.getD (s + 2) 0 = 46 ∨ T.getD (s + 2) 0 = 91))) ∨
      (s + 2 < T.size ∧ T.getD (s + 2) 0 = 42 ∧ (s + 3 = T.size ∨ (s + 3 < T.size ∧ (T.getD (s + 3) 0 = 46 ∨ T.getD (s + 3) 0 = 91))))) : Ends T 22 true (att T s om sn) := by
  refine .one br10 (.ex (lit_no (c := 91) rfl rfl (fun q => by have := q.2; rw [h0.2] at this; cases this) (by decide)) fun _ => .one no_b11 (.ex (lit_ok rfl rfl h0.1 h0.2 (by decide)) fun _ => .ex (lit_ok rfl rfl h1.1 h1.2 (by decide)) fun _ => ?_))
  rcases h2 with h2 | h2
  · refine .ex (rep_no (.inr rfl) (by omega) (fun q => ?_)) fun _ => ends39 h2
    rcases h2 with h2 | h2
    · have := q.1; omega
    · rcases h2.2 with e | e <;> · have := q.2; rw [e] at this; cases this
  · exact .ex (rep_yes (.inr rfl) h2.1 h2.2.1) fun _ => ends39 h2.2.2
/-- no wildcard at this place: on to the next -/
theorem plain_go {n s : Nat} {b : Bool} (h0 : s < T.size ∧ (T.getD s 0 = 91 ∨ T.getD s 0 = 46)) (h1 : ¬ (s + 1 < T.size ∧ T.getD (s + 1) 0 = 42))
    (H : ∀ handed sn', Ends T n b (st T s 27 s handed om [ns s om] 1 (some false) sn')) : Ends T (n + 6) b (att T s om sn) := by
  rcases h0 with ⟨h0, h2 | h2⟩
  · exact .one br10 (.ex (lit_ok rfl rfl h0 h2 (by decide)) fun _ => .ex (lit_no rfl rfl h1 (by decide)) fun _ => .one no_b11 (.ex (lit_no (c := 46) rfl rfl (fun q => by have := q.2; rw [h2] at this; cases this) (by decide)) fun _ => .one no_b27 (H _ _)))
  · exact .one br10 (.ex (lit_no (c := 91) rfl rfl (fun q => by have := q.2; rw [h2] at this; cases this) (by decide)) fun _ => .one no_b11 (.ex (lit_ok rfl rfl h0 h2 (by decide)) fun _ => .ex (lit_no rfl rfl h1 (by decide)) fun _ => .one no_b27 (H _ _)))
end Rx
end Mine
end
section
theorem Mine.off_Ry : True := by
  w_top off
  trivial
open PySem
set_option Elab.async false
set_option linter.unusedVariables false
set_option linter.unusedSimpArgs false
namespace Mine
namespace Rx
open PySem.Sre
theorem getT {pre l : List Nat} {T : Array Nat} (hT : T = (pre ++ l).toArray) (i : Nat) : T.getD (pre.length + i) 0 = l.getD i 0 := by
  subst hT
  simp [Array.getD_eq_getD_getElem?, List.getD_eq_getElem?_getD, List.getElem?_append_right]
theorem sizeT {pre l : List Nat} {T : Array Nat} (hT : T = (pre ++ l).toArray) : T.size = pre.length + l.length := by
  subst hT; simp
/-- a step's signs: the first opens it, no other one does -/
theorem step_shape {k : Nat} (d : Bool) (hk : k < 7) : ∃ c cs, stepCs k d = c :: cs ∧ (c = 91 ∨ c = 46) ∧ (∀ x ∈ cs, x ≠ 91 ∧ x ≠ 46) ∧ (2 ≤ k → ∃ x xs, cs = x :: xs ∧ x ≠ 42) := by
  have : k = 0 ∨ k = 1 ∨ k = 2 ∨ k = 3 ∨ k = 4 ∨ k = 5 ∨ k = 6 := by omega
  rcases this with rfl | rfl | rfl | rfl | rfl | rfl | rfl <;> cases d <;> exact ⟨_, _, rfl, by decide, by decide, fun h => by first | (exfalso; revert h; decide) | exact ⟨_, _, rfl, by decide⟩⟩
theorem road_head {r : List (Nat × Bool)} (hk : ∀ p ∈ r, p.1 < 7) (hr : r ≠ []) : 0 < (roadCs r).length ∧ ((roadCs r).getD 0 0 = 91 ∨ (roadCs r).getD 0 0 = 46) := by
  cases r with
  | nil => exact absurd rfl hr
  | cons p r =>
    obtain ⟨k, d⟩ := p
    obtain ⟨c, cs, e, hc, _⟩ := step_shape d (hk (k, d) (.head _))
    rw [roadCs, e]
    exact ⟨by simp, hc⟩
theorem road_ends {T : Array Nat} : ∀ (r : List (Nat × Bool)) (pre : List Nat) (om : Bool) (sn : Seen), T = (pre ++ roadCs r).toArray → r ≠ [] → (∀ p ∈ r, p.1 < 7) →
    Ends T (7 * r.length + 22) (r.any fun p => p.1 == 0 || p.1 == 1) (att T pre.length om sn)
  | [], _, _, _, _, hr, _ => absurd rfl hr
  | (k, d) :: r, pre, om, sn, hT, _, hk => by
    have hk0 := hk (k, d) (.head _)
    have hkr : ∀ p ∈ r, p.1 < 7 := fun p hp => hk p (.tail _ hp)
    have hz := sizeT hT
    have hg := getT hT
    have hnext : roadCs r = [] ∧ r = [] ∨ (r ≠ [] ∧ 0 < (roadCs r).length ∧ ((roadCs r).getD 0 0 = 91 ∨ (roadCs r).getD 0 0 = 46)) := by
      by_cases hr : r = []
      · subst hr; exact .inl ⟨rfl, rfl⟩
      · exact .inr ⟨hr, road_head hkr hr⟩
    by_cases h2 : 2 ≤ k
    · obtain ⟨c, cs, e, hc, hcs, hx⟩ := step_shape d hk0
      obtain ⟨x, xs, rfl, h42⟩ := hx h2
      have hl : (roadCs ((k, d) :: r)).length = 2 + xs.length + (roadCs r).length := by rw [roadCs, e]; simp; omega
      have g0 : T.getD pre.length 0 = c := by have := hg 0; rwa [roadCs, e] at this
      have g1 : T.getD (pre.length + 1) 0 = x := by have := hg 1; rwa [roadCs, e] at this
      have gi : ∀ i, pre.length + 1 ≤ i → i < pre.length + (2 + xs.length) → T.getD i 0 ≠ 91 ∧ T.getD i 0 ≠ 46 := fun i h1 h3 => by
        obtain ⟨j, rfl⟩ : ∃ j, i = pre.length + (j + 1) := ⟨i - pre.length - 1, by omega⟩
        have hj : j < (x :: xs).length := by simp; omega
        have : T.getD (pre.length + (j + 1)) 0 = (x :: xs)[j] := by
          rw [hg (j + 1), roadCs, e, List.cons_append, List.getD_cons_succ, List.getD_eq_getElem?_getD, List.getElem?_append_left hj, List.getElem?_eq_getElem hj]
          rfl
        rw [this]
        exact hcs _ (List.getElem_mem hj)
      have hw : (((k, d) :: r).any fun p => p.1 == 0 || p.1 == 1) = r.any fun p => p.1 == 0 || p.1 == 1 := by
        rw [List.any_cons, beq_eq_false_iff_ne.mpr (show k ≠ 0 by omega), beq_eq_false_iff_ne.mpr (show k ≠ 1 by omega)]; rfl
      rw [hw]
      rcases hnext with ⟨hn, rfl⟩ | ⟨hr, hn, hn2⟩
      · refine .mono (show (0 + 1) + 6 ≤ _ by simp) (plain_go ⟨by omega, g0 ▸ hc⟩ (fun q => h42 (g1.symm.trans q.2)) fun handed sn' => .ex (next_none (by omega) fun i h1 h3 => gi i h1 (by rw [hz, hl, hn] at h3; simpa using h3)) fun sn2 => .now)
      · have hT2 : T = ((pre ++ stepCs k d) ++ roadCs r).toArray := by rw [hT, roadCs, List.append_assoc]
        have ih := fun sn2 => road_ends r (pre ++ stepCs k d) false sn2 hT2 hr hkr
        have hpl : (pre ++ stepCs k d).length = pre.length + (2 + xs.length) := by rw [e]; simp; omega
        have ge := getT hT2 0
        rw [Nat.add_zero, hpl] at ge
        rw [hpl] at ih
        refine .mono (show (7 * r.length + 22 + 1) + 6 ≤ _ by simp; omega) (plain_go ⟨by omega, g0 ▸ hc⟩ (fun q => h42 (g1.symm.trans q.2)) fun handed sn' => .ex (next_some (e := pre.length + (2 + xs.length)) (by omega) (by omega) (fun i h1 h3 => gi i h1 h3) (by rw [ge]; exact hn2)) fun sn2 => ih sn2)
    · have hw : (((k, d) :: r).any fun p => p.1 == 0 || p.1 == 1) = true := by
        have : k = 0 ∨ k = 1 := by omega
        rcases this with rfl | rfl <;> rfl
      rw [hw]
      have hend : ∀ n, roadCs ((k, d) :: r) = stepCs k d ++ roadCs r → (stepCs k d).length = n → (pre.length + n = T.size ∨ (pre.length + n < T.size ∧ (T.getD (pre.length + n) 0 = 46 ∨ T.getD (pre.length + n) 0 = 91))) := by
        intro n e hn
        have hl : (roadCs ((k, d) :: r)).length = n + (roadCs r).length := by rw [e, List.length_append, hn]
        rcases hnext with ⟨h, _⟩ | ⟨_, h, h'⟩
        · left; rw [hz, hl, h]; rfl
        · right
          have : T.getD (pre.length + n) 0 = (roadCs r).getD 0 0 := by
            rw [hg n, e, List.getD_eq_getElem?_getD, List.getElem?_append_right (by omega), hn, Nat.sub_self, List.getD_eq_getElem?_getD]
          rw [this]
          exact ⟨by omega, h'.symm⟩
      have hz' : T.size = pre.length + (stepCs k d ++ roadCs r).length := hz
      have h01 : k = 0 ∨ k = 1 := by omega
      have a0 := hg 0
      have a1 := hg 1
      have a2 := hg 2
      have a3 := hg 3
      rcases h01 with rfl | rfl <;> cases d
      · have : T.size ≥ pre.length + 3 := by rw [hz']; simp [stepCs]
        exact .mono (by omega) (wild_br (n := 0) ⟨by omega, a0⟩ ⟨by omega, a1⟩ (.inl ⟨by omega, a2⟩))
      · have : T.size ≥ pre.length + 2 := by rw [hz']; simp [stepCs]
        exact .mono (by omega) (wild_dot ⟨by omega, a0⟩ ⟨by omega, a1⟩ (.inl (hend 2 rfl rfl)))
      · have : T.size ≥ pre.length + 4 := by rw [hz']; simp [stepCs]
        exact .mono (by omega) (wild_br (n := 0) ⟨by omega, a0⟩ ⟨by omega, a1⟩ (.inr ⟨by omega, a2, by omega, a3⟩))
      · have : T.size ≥ pre.length + 3 := by rw [hz']; simp [stepCs]
        exact .mono (by omega) (wild_dot ⟨by omega, a0⟩ ⟨by omega, a1⟩ (.inr ⟨by omega, a2, hend 3 rfl rfl⟩))
end Rx
end Mine
end
section
theorem Mine.off_Rz : True := by
  w_top off
  trivial
open PySem PySem.W PyProof.Rows PySem.Calls PySem.Builtin.Re
set_option Elab.async false
set_option linter.unusedVariables false
set_option linter.unusedSimpArgs false
namespace Mine
namespace Rx
open PySem.Sre
theorem search_start {T : Array Nat} (h : 2 ≤ T.size) : forSearch C T 0 0 T.size false = M.attemptFrom (st T 0 10 0 0 true [] 0 none (Seen.add {} 14)) 0 true := by
  have : ¬ (decide (0 > T.size) || decide (T.size - 0 < 2)) = true := by simp; omega
  unfold forSearch
  refine (if_neg this).trans ?_
  rfl
theorem search_ends {T : Array Nat} {pre : List Nat} (r : List (Nat × Bool)) (hpre : pre.length = 4) (hp : ∀ x ∈ pre, x ≠ 91 ∧ x ≠ 46) (hT : T = (pre ++ roadCs r).toArray) (hk : ∀ p ∈ r, p.1 < 7) :
    Ends T (7 * r.length + 22) (r.any fun p => p.1 == 0 || p.1 == 1) (forSearch C T 0 0 T.size false) := by
  have hz := sizeT hT
  have gi : ∀ i, 0 ≤ i → i < 4 → T.getD i 0 ≠ 91 ∧ T.getD i 0 ≠ 46 := fun i _ hi => by
    have hi' : i < pre.length := by omega
    have : T.getD i 0 = pre[i] := by
      subst hT
      simp [Array.getD_eq_getD_getElem?, List.getElem?_append_left hi', List.getElem?_eq_getElem hi']
    rw [this]
    exact hp _ (List.getElem_mem hi')
  rw [search_start (by omega)]
  by_cases hr : r = []
  · subst hr
    have hz4 : T.size = 4 := by rw [hz, hpre]; rfl
    obtain ⟨sn', h⟩ := adm_none (m := st T 0 10 0 0 true [] 0 none (Seen.add {} 14)) rfl T.size 0 (Seen.add {} 14) (show T.size = _ by omega) (fun i h1 h2 => gi i h1 (by rw [← hz4]; exact h2)) (T.size + 1 - 0)
    refine .mono (Nat.zero_le _) ?_
    show Ends T 0 false (match M.admitted (st T 0 10 0 0 true [] 0 none (Seen.add {} 14)) (T.size + 1 - 0) 0 (Seen.add {} 14) with
      | .ok (some s, seen) => _ | .ok (none, seen) => _ | .error why => _)
    rw [h]
    exact .now
  · obtain ⟨h1, h2⟩ := road_head hk hr
    have ge := getT hT 0
    rw [Nat.add_zero, hpre] at ge
    obtain ⟨sn', h⟩ := adm_some (m := st T 0 10 0 0 true [] 0 none (Seen.add {} 14)) rfl 4 0 4 (Seen.add {} 14) rfl (show 4 < T.size by omega) (fun i h1 h2 => gi i h1 h2) (by show T.getD 4 0 = 91 ∨ T.getD 4 0 = 46; rw [ge]; exact h2) (T.size + 1 - 0) (by omega)
    have ih := road_ends r pre true sn' hT hr hk
    rw [hpre] at ih
    show Ends T _ _ (match M.admitted (st T 0 10 0 0 true [] 0 none (Seen.add {} 14)) (T.size + 1 - 0) 0 (Seen.add {} 14) with
      | .ok (some s, seen) => _ | .ok (none, seen) => _ | .error why => _)
    rw [h]
    exact ih
theorem step_done {m : M} (h : m.outcome.isSome = true) : m.step = m := by unfold M.step; rw [if_pos h]
theorem steps_done {m : M} (h : m.outcome.isSome = true) : ∀ n, steps n m = m
  | 0 => rfl
  | n + 1 => by show steps n m.step = m; rw [step_done h]; exact steps_done h n
theorem runFor_steps : ∀ (n : Nat) (m : M), M.runFor n m = steps n m
  | 0, _ => rfl
  | n + 1, m => by
    unfold M.runFor
    split
    · rename_i h; exact (steps_done h (n + 1)).symm
    · exact runFor_steps n m.step
/-- the last state: an outcome -/
theorem Ends.out {T : Array Nat} {n : Nat} {b : Bool} {m : M} (H : Ends T n b m) : ∃ k start pc pos handed om sn, k ≤ n + 1 ∧ steps k m = { st T start pc pos handed om [] 0 (some b) sn with outcome := some (if b then .matched else .failed) } := by
  obtain ⟨k, a1, a2, a3, a4, a5, a6, hk, e⟩ := H
  refine ⟨k + 1, a1, a2, a3, a4, a5, a6, Nat.succ_le_succ hk, ?_⟩
  rw [steps_add, e]
  rfl
theorem wpAny_reDrive {MM : Model} {A : Around} {E : Value → Shared → Prop} {s : Shared} {Q : M → Shared → Prop} {m' : M} (ho : m'.outcome.isSome = true) (hQ : Q m' s) : ∀ (turns : Nat) (m : M) (k : Nat), steps k m = m' → k < 4 * turns → wpAny MM A (reDrive turns m) Q E s
  | 0, _, _, _, hk => by omega
  | t + 1, m, k, he, hk => by
    unfold reDrive
    dsimp only
    rw [show reTurnSteps = 4 from rfl, runFor_steps]
    rcases Nat.lt_or_ge k 5 with hk4 | hk4
    · have e4 : steps 4 m = m' := by
        rw [show (4 : Nat) = k + (4 - k) by omega, steps_add, he]
        exact steps_done ho _
      rw [e4, if_pos ho]
      exact wpAny_pure hQ
    · split
      · rename_i h
        have : steps 4 m = m' := by
          rw [← he, show k = 4 + (k - 4) by omega, steps_add, steps_done h]
        rw [this]
        exact wpAny_pure hQ
      · refine wpAny_bind (wpAny_rule ?_)
        refine wpAny_reDrive ho hQ t _ (k - 4) ?_ (by omega)
        rw [← steps_add, show 4 + (k - 4) = k by omega]
        exact he
end Rx
end Mine
end
section
theorem Mine.off_Rr : True := by
  w_top off
  trivial
open PySem PySem.W PyProof.Rows PySem.Calls PySem.Builtin.Re
set_option Elab.async false
set_option linter.unusedVariables false
namespace Mine
namespace Rx
open PySem.Sre
theorem wpAny_rules {MM : Model} {A : Around} {E : Value → Shared → Prop} {s : Shared} (c : Nat → Bool) (nm : Nat → String) {Q : PUnit → Shared → Prop} (h : Q ⟨⟩ s) : ∀ l : List Nat,
    wpAny MM A (forIn l PUnit.unit fun i (_ : PUnit) => do
      if c i then
        rule (nm i)
      pure (ForInStep.yield PUnit.unit)) Q E s
  | [] => by rw [List.forIn_nil]; exact wpAny_pure h
  | i :: l => by
    rw [List.forIn_cons]
    refine wpAny_bind ?_
    split
    · exact wpAny_bind (wpAny_rule (wpAny_pure (wpAny_rules c nm h l)))
    · exact wpAny_pure (wpAny_rules c nm h l)
theorem wpAny_runToEnd {MM : Model} {A : Around} {E : Value → Shared → Prop} {s : Shared} {Q : Option M → Shared → Prop} {T : Array Nat} {n : Nat} {b : Bool} {m : M} (H : Ends T n b m) (hn : n < 1000)
    (h0 : b = false → Q none s) (h1 : b = true → ∀ start pc pos handed om sn, Q (some { st T start pc pos handed om [] 0 (some true) sn with outcome := some .matched }) s) : wpAny MM A (reRunToEnd m) Q E s := by
  obtain ⟨k, a1, a2, a3, a4, a5, a6, hk, e⟩ := H.out
  unfold reRunToEnd
  refine wpAny_bind (wpAny_reDrive (m' := _) rfl ?_ (2 ^ 64) m k e (by omega))
  refine wpAny_bind (wpAny_rules _ _ ?_ _)
  cases b with
  | false => exact wpAny_pure (h0 rfl)
  | true => exact wpAny_pure (h1 rfl ..)
end Rx
end Mine
end
section
theorem Mine.off_Pz : True := by
  w_top off
  trivial
open PySem PySem.W PyProof.Rows PySem.Calls PySem.Spec
set_option Elab.async false
set_option linter.unusedVariables false
set_option maxRecDepth 100000
namespace Mine
theorem get_method {M : Model} {A : Around} {E : Value → Shared → Prop} {s : Shared} {K : Frag} {a : Addr} {name : Str} {b : String} {pl : Sem Bool} {o : Obj} {Q : Value × List Value → Shared → Prop} (X : K.In s.heap)
    (e1 : specialIn K (.ref a) "__getattribute__" = some (some (.builtin "object.__getattribute__"))) (e2 : specialIn K (.ref a) "__getattr__" = some none) (e3 : specialIn K (.ref a) name = some (some (.builtin b)))
    (tf : typeIn K (.builtin b) = some (.type "method_descriptor")) (ho : K.lookup a = some o) (hd : o.dict = none) (h : Q (.builtin b, [.ref a]) s) : wpAny M A (getMethod (.ref a) name pl) Q E s := by
  have L1 := looks_specialIn (M := M) X e1
  have L2 := looks_specialIn (M := M) X e2
  have L3 := looks_specialIn (M := M) X e3
  have L4 := looks_typeIn (M := M) X tf
  unfold getMethod
  refine wpAny_bind (L1.at ?_)
  (try dsimp only)
  rw [if_neg (by decide)]
  refine wpAny_bind (L2.at ?_)
  (try dsimp only)
  refine wpAny_bind (L3.at ?_)
  (try dsimp only)
  refine wpAny_bind (L4.at ?_)
  rw [if_neg (by decide)]
  refine wpAny_bind (wpAny_loadPart (X _ _ ho) ?_)
  rw [hd]
  exact wpAny_bind (wpAny_rule (wpAny_pure h))
theorem pat_search {p} : specialIn (hd.heap_39 p) (.ref 100) "search" = some (some (.builtin "re.Pattern.search")) := by rfl
theorem pat_kind {p} : typeIn (hd.heap_39 p) (.builtin "re.Pattern.search") = some (.type "method_descriptor") := by rfl
end Mine
end
section
theorem Mine.off_Qx : True := by
  w_top off
  trivial
open PySem PySem.W PyProof.Rows PySem.Calls
namespace Mine
/-- the compiled pattern in the heap -/
theorem pat_obj {p} : ∃ o fs q, (hd.heap_39 p).lookup 100 = some o ∧ o.data = .fields fs ∧ fs.getD 5 .none = .ref q ∧ ∃ o2 vs, (hd.heap_39 p).lookup q = some o2 ∧ o2.data = .seq vs ∧ o2.cls = .type "tuple" ∧ vs.map (fun v => (PySem.Builtin.Re.reRawOf v).toNat) = Rx.C ∧ PySem.Builtin.Re.reRawNat (fs.getD 6 .none) = 0 ∧ PySem.Builtin.Re.reRawNat (fs.getD 2 .none) = 0 := ⟨_, _, _, rfl, rfl, rfl, _, _, rfl, rfl, rfl, by decide +kernel, rfl, rfl⟩
end Mine
end
section
theorem Mine.off_Qy : True := by
  w_top off
  trivial
open PySem PySem.W PyProof.Rows PySem.Calls PySem.Builtin.Re
namespace Mine
theorem named_search {v : Value} : reNamed "re.Pattern.search" "search" ["string", "pos", "endpos"] 1 [v] [] = pure [some v, none, none] := by
  first | rfl | (unfold reNamed; rfl) | (unfold reNamed; simp)
end Mine
end
section
theorem Mine.off_Qz : True := by
  w_top off
  trivial
open PySem PySem.W PyProof.Rows PySem.Calls PySem.Builtin.Re
namespace Mine
theorem wpAny_target {M : Model} {A : Around} {E : Value → Shared → Prop} {s : Shared} {p} {u : Str} {tk0 : Tok} {Q : ReTarget → Shared → Prop} (X : (hd.heap_39 p).In s.heap) (hu : u.cps.size < 1000)
    (h : Q { pattern := .ref 100, string := .str u tk0, code := Rx.C, text := u.cps, kind := 0, groups := 0, pos := 0, lim := u.cps.size } s) :
    wpAny M A (reTarget "re.Pattern.search" "search" ⟨[.ref 100, .str u tk0], []⟩) Q E s := by
  obtain ⟨o, fs, q, h1, h2, h3, o2, vs, h4, h5, h6, h7, h8, h9⟩ := pat_obj (p := p)
  unfold reTarget
  dsimp only
  rw [named_search]
  refine wpAny_bind (wpAny_pure ?_)
  dsimp only
  refine wpAny_bind (wpAny_pure (wpAny_bind (wpAny_pure ?_)))
  refine wpAny_bind (wpAny_fieldsOf (X _ _ h1) h2 ?_)
  refine wpAny_bind (m := reTextOf (.str u tk0)) (wpAny_pure (a := (u.cps, 0)) ?_)
  dsimp only
  rw [h8, h9, h3]
  refine wpAny_bind (m := reNoCollectionInside (.str u tk0) 0) (wpAny_pure ?_)
  unfold reRawItems
  refine wpAny_bind (wpAny_bind (wpAny_seqItems (X _ _ h4) h5 (wpAny_pure ?_)))
  refine wpAny_pure ?_
  have e : (Array.map Int.toNat (Array.map reRawOf vs)) = Rx.C := by rw [Array.map_map]; exact h7
  have e2 : min ((2 : Int) ^ 63 - 1).toNat u.cps.size = u.cps.size := by
    have e4 : ((2 : Int) ^ 63 - 1).toNat = 9223372036854775807 := by decide
    omega
  have e3 : min (0 : Int).toNat u.cps.size = 0 := by simp
  simpa only [Option.getD_some, e, e2, e3] using h
end Mine
end
section
theorem Mine.off_Qs : True := by
  w_top off
  trivial
open PySem PySem.W PyProof.Rows PySem.Calls PySem.Builtin.Re
set_option linter.unusedVariables false
namespace Mine
theorem wpAny_answer {MM : Model} {A : Around} {E : Value → Shared → Prop} {s : Shared} {u : Str} {tk0 : Tok} {Q : PySem.Fin → Shared → Prop} {n : Nat} {b : Bool} {m : Sre.M} (H : Rx.Ends u.cps n b m) (hn : n < 1000)
    (h0 : b = false → Q (.done (.ret .none)) s)
    (h1 : b = true → ∀ vs d, (∃ xs, d = Data.fields xs) → Q (.done (.ret (.ref (s.heap.push { cls := .type "tuple", data := .seq vs }).objs.size))) { s with heap := (s.heap.push { cls := .type "tuple", data := .seq vs }).push { cls := .type "re.Match", data := d } }) :
    wpAny MM A (reAnswer { pattern := .ref 100, string := .str u tk0, code := Rx.C, text := u.cps, kind := 0, groups := 0, pos := 0, lim := u.cps.size } m) Q E s := by
  unfold reAnswer
  refine wpAny_bind (Rx.wpAny_runToEnd H hn (fun e => ?_) (fun e start pc pos handed om sn => ?_))
  · exact wpAny_pure (h0 e)
  · dsimp only
    refine wpAny_bind ?_
    unfold reNewMatch
    dsimp only
    refine wpAny_bind (wpAny_newTuple ?_ (by show (2 : Nat) ≤ sizeLine; rw [sizeLine_eq]; decide))
    refine wpAny_newObj_type ?_ (by first | trivial | rfl | size_fits)
    exact wpAny_pure (h1 e _ _ ⟨_, rfl⟩)
end Mine
end
section
theorem Mine.off_Qt : True := by
  w_top off
  trivial
open PySem PySem.W PyProof.Rows PySem.Calls PySem.Builtin.Re
set_option linter.unusedVariables false
namespace Mine
theorem sr_kind : builtinKind "re.Pattern.search" = some .method := by kernel_rfl
theorem sr_split : splitId "re.Pattern.search" = some ("re.Pattern", "search") := by kernel_rfl
theorem sr_entry : entryFor table "re.Pattern.search" = some Builtin.«re.Pattern.search» := entryFor_of_tree (by kernel_rfl)
end Mine
end
section
theorem Mine.off_Qu : True := by
  w_top off
  trivial
open PySem PySem.W PyProof.Rows PySem.Calls PySem.Builtin.Re
set_option linter.unusedVariables false
namespace Mine
theorem check_method {M : Model} {A : Around} {E : Value → Shared → Prop} {s : Shared} {i owner n : String} {self : Value} {rest : List Value} {kw : List (Str × Value)} {Q : Unit → Shared → Prop}
    (hk : builtinKind i = some .method) (hs : splitId i = some (owner, n)) (hi : Looks M s.heap (isInstance self (.type owner)) true) (ha : argsOk i ⟨self :: rest, kw⟩) (q : Q () s) :
    wpAny M A (checkBuiltinCall i ⟨self :: rest, kw⟩) Q E s := by
  simp only [checkBuiltinCall, hk, hs]
  refine wpAny_bind (hi.here ?_)
  simp only [Bool.not_true, Bool.false_eq_true, if_false]
  cases hsig : Manifest.signature? i with
  | none => exact wpAny_pure q
  | some sig =>
    simp only [argsOk, hsig] at ha
    have h2 : Bind.checkArgs i sig ⟨self :: rest, kw⟩ = pure () := ha
    show wpAny M A (Bind.checkArgs i sig ⟨self :: rest, kw⟩) Q E s
    rw [h2]; exact wpAny_pure q
theorem sr_args (a v : Value) : argsOk "re.Pattern.search" ⟨[a, v], []⟩ := by unfold argsOk; kernel_rfl
theorem pat_inst {p} : instIn (hd.heap_39 p) (.ref 100) (.type "re.Pattern") = some true := by rfl
end Mine
end
section
theorem Mine.off_Qv : True := by
  w_top off
  trivial
open PySem PySem.W PyProof.Rows PySem.Calls PySem.Builtin.Re
set_option linter.unusedVariables false
namespace Mine
theorem se_inst {prog : Program} {w : World} {s : Shared} {p} (X : (hd.heap_39 p).In s.heap) : Looks (model prog w) s.heap (isInstance (.ref 100) (.type "re.Pattern")) true :=
  looks_instIn X pat_inst
theorem se_check {prog : Program} {w : World} {A : Around} {E : Value → Shared → Prop} {s : Shared} {v : Value} {Q : Unit → Shared → Prop} (hi : Looks (model prog w) s.heap (isInstance (.ref 100) (.type "re.Pattern")) true) (q : Q () s) :
    wpAny (model prog w) A (checkBuiltinCall "re.Pattern.search" ⟨[.ref 100, v], []⟩) Q E s := by
  refine check_method (i := "re.Pattern.search") (owner := "re.Pattern") (n := "search") (self := .ref 100) (rest := [v]) (kw := []) ?_ ?_ ?_ ?_ ?_
  · exact sr_kind
  · exact sr_split
  · exact hi
  · exact sr_args _ _
  · exact q
set_option maxHeartbeats 2000000 in
theorem search_call {prog : Program} {w : World} {A : Around} {E : Value → Shared → Prop} {s : Shared} {p} {u : Str} {tk0 : Tok} {Q : Value → Shared → Prop} {n : Nat} {b : Bool} (X : (hd.heap_39 p).In s.heap) (hu : u.cps.size < 1000)
    (H : Rx.Ends u.cps n b (Sre.forSearch Rx.C u.cps 0 0 u.cps.size false)) (hn : n < 1000)
    (h0 : b = false → Q .none s)
    (h1 : b = true → ∀ vs xs, Q (.ref (s.heap.push { cls := .type "tuple", data := .seq vs }).objs.size) { s with heap := (s.heap.push { cls := .type "tuple", data := .seq vs }).push { cls := .type "re.Match", data := .fields xs } }) :
    wpAny (model prog w) A (call (.builtin "re.Pattern.search") [.ref 100, .str u tk0]) Q E s := by
  refine wpAny_call ?_
  refine codeAny_call_builtin_at (b := Builtin.«re.Pattern.search») (Code.quiet_builtin _ (by decide +kernel)) sr_entry ?_
  refine se_check (se_inst X) ?_
  unfold Builtin.«re.Pattern.search»
  refine wpAny_bind ?_
  refine wpAny_target X hu ?_
  exact wpAny_answer H hn (fun e => h0 e) (fun e vs d hd => by obtain ⟨xs, rfl⟩ := hd; exact h1 e vs xs)
end Mine
end
section
theorem Mine.off_Qm : True := by
  w_top off
  trivial
open PySem PySem.W PyProof.Rows PySem.Calls PySem.Builtin.Re
set_option linter.unusedVariables false
namespace Mine
theorem noBool_match : typeLookup (.type "re.Match") (Str.ofString "__bool__") = pure none := by rw [typeLookup_type, builtinLookup_eq_fast]; kernel_rfl
theorem noLen_match : typeLookup (.type "re.Match") (Str.ofString "__len__") = pure none := by rw [typeLookup_type, builtinLookup_eq_fast]; kernel_rfl
theorem truthy_match {prog : Program} {w : World} {A : Around} {E : Value → Shared → Prop} {s : Shared} {a : Addr} {o : Obj} {Q : Bool → Shared → Prop} (ho : s.heap.get? a = some o) (hc : o.cls = .type "re.Match") (q : Q true s) :
    wpAny (model prog w) A (truthy (.ref a)) Q E s := by
  have ht : s.TypeIs (.ref a) "re.Match" := ⟨o, ho, hc⟩
  unfold truthy
  refine wpAny_bind (wpAny_callSpecial?_none (name := Str.ofString "__bool__") ht noBool_match ?_)
  refine wpAny_bind (wpAny_specialOf (name := Str.ofString "__len__") ht noLen_match ?_)
  exact wpAny_pure q
end Mine
end
section
theorem Mine.off_Qn : True := by
  w_top off
  trivial
open PySem PySem.W PyProof.Rows PySem.Calls
open Sem (wp)
set_option linter.unusedVariables false
namespace Mine
theorem meets_bool_match (a : Addr) : Meets (Builtin.«bool.__new__» ⟨[.type "bool", .ref a], []⟩) (fun _ R s => (∃ o, s.heap.get? a = some o ∧ o.cls = .type "re.Match") ∧ R (.ok (.ret (.bool true))) s) :=
  Meets.of_wp fun prog w A R s hs => by
    obtain ⟨⟨o, ho, hc⟩, hs⟩ := hs
    have f1 := F.conv_sub_bool
    repeat (any_goals (first | assumption | (with_reducible refine truthy_match ho hc ?_) | wp_step))
    all_goals first | exact ⟨_, rfl, hs⟩ | exact hs | skip
theorem call_bool_match {prog : Program} {w : World} {A : Around} {E : Value → Shared → Prop} {s : Shared} {a : Addr} {o : Obj} {Q : Value → Shared → Prop} (ho : s.heap.get? a = some o) (hc : o.cls = .type "re.Match") (h : Q (.bool true) s) :
    wpAny (model prog w) A (call (.type "bool") [.ref a]) Q E s :=
  call_bool_1 (meets_bool_match a) ⟨⟨o, ho, hc⟩, show wants (fun obj s₁ => s₁.TypeIs obj "bool" ∧ Q obj s₁) E _ _ from ⟨rfl, h⟩⟩
end Mine
end
section
theorem Mine.off_Pw : True := by
  w_top off
  trivial
open PySem PySem.W PyProof.Rows
set_option Elab.async false
set_option linter.unusedVariables false
set_option linter.unusedSimpArgs false
set_option maxRecDepth 100000
namespace Mine

open PyProof.V PySem.Calls PySem.Spec
local macro_rules | `(tactic| k_all) => `(tactic| with_reducible assumption)
local macro_rules | `(tactic| k_mem) => `(tactic| assumption)

theorem step_len (k : Nat) (d : Bool) (hk : k < 7) : (stepCs k d).length ≤ 12 := by
  revert d; revert k; decide
theorem road_len : ∀ (r : List (Nat × Bool)), (∀ p ∈ r, p.1 < 7) → (roadCs r).length ≤ 12 * r.length
  | [], _ => Nat.le_refl _
  | (k, d) :: r, h => by
    have h1 := step_len k d (h (k, d) List.mem_cons_self)
    have h2 := road_len r fun p hp => h p (List.mem_cons_of_mem _ hp)
    simp only [roadCs, List.length_append, List.length_cons]
    omega

local macro_rules | `(tactic| walk_at "getMethod ref") => `(tactic| (k_here; refine stop_on ?_))
set_option maxHeartbeats 4000000 in
theorem wild_ok : ∀ {w : World} {mean : ExcName → Option Value} {mg mb : Str → Option Value}
  (dp un : Nat) (gd : Option (List Code)) (cn : Str) (cs : Scope) (a : Addr) (ccd : Value) (cl : List (Str × Addr)) (outer : List Env) (A₀ : Around) (base h₀ : Heap) (L : Addr) (m : Str → Option Value) (s : Shared) (Q E : Value → Shared → Prop)
  (tk0 : Tok) (u : Str) (r : List (Nat × Bool)) (news : List (Addr × Obj))
  (B : Below A₀ base outer h₀) (F : Fr h₀ L s.heap m) (X : (hd.heap_39 (World.params w)).In h₀) (N : News h₀ L s.heap news) (T : Top hd.view_39 (looseW hd.view_39 [Str.ofString "SINGLE_WILDCARD", Str.ofString "MULTI_WILDCARD", Str.ofString "DEFAULT_FIRST_ELEMENT", Str.ofString "_path_to_elements", Str.ofString "_WILDCARD_RE"]) mean mg mb h₀) (hk : cs.kind = .function)
  (hdp : dp + 60 < recursionLimit) (hun : un + 600 < cLine)
  (hu : u.cps.toList = [114, 111, 111, 116] ++ roadCs r) (hr : ∀ p ∈ r, p.1 < 7) (hrl : r.length ≤ 5)
  (hret : ∀ h' tk' news₂, Fr h₀ L h' m → News h₀ L h' news₂ → (∀ p ∈ news, p ∈ news₂) → Q (.bool (r.any fun p => p.1 == 0 || p.1 == 1)) { s with heap := h', toks := tk' }),
  wpAny (model (RowW.prog (OpenRow.toRowW (OpenLaw.row PySem.Challenge.rw_fu0002_01))) w) (ktrTop dp un gd cn cs L a ccd cl outer) (call (.ref 107) [.str u tk0] []) Q E s := by
  intro w mean mg mb dp un gd cn cs a ccd cl outer A₀ base h₀ L m s Q E tk0 u r news B F X N T hk hdp hun hu hr hrl hret
  revert X
  k_fill
  intro X
  refine wpAny_call ?_
  k_dflt (refine' defA ?k1 ?k2 ?k3 ?k4 ?k5 ?kA ?kF ?kK ?k6 ?k7 ?k8 ?k9 ?kB ?_ ?c2 ?c3 ?c4 ?c5; (case kA => exact rfl); (case kF => exact rfl); (case kK => assumption); (case k1 => k_asm); (case k2 => k_asm); (case k3 => k_asm); (case k4 => exact N); (case k5 => k_asm); (case k6 => k_is); (case k7 => k_is); (case k8 => ktr_room); (case k9 => first | exact BindsTo.of_eq rfl | exact binds_K (by k_in) rfl (by k_is) rfl rfl rfl); (case c5 => decide); (case kB => exact locs rfl); (case c2 => exact rfl); (case c3 => exact rfl); (case c4 => exact rfl); k_whole; intro g' L' h' F' N' B' X' T'; (try dsimp only); (try k_fold))
  clear B F X T
  k_steps
  rename Fr _ _ _ _ => F8
  rename News _ _ _ _ => N8
  show wpAny _ _ _ _ _ _
  refine' get_method (X'.keeps F8.keep) (by rfl) (by rfl) pat_search pat_kind ?ho ?hd ?_
  case ho => rfl
  case hd => rfl
  (try dsimp only)
  k_steps
  have hT : u.cps = ([114, 111, 111, 116] ++ roadCs r).toArray := by rw [← hu]
  have hsz : u.cps.size < 1000 := by
    have := road_len r hr
    rw [hT]; simp only [List.size_toArray, List.length_append, List.length_cons, List.length_nil]; omega
  have HE := Rx.search_ends r (pre := [114, 111, 111, 116]) rfl (by decide) hT hr
  rename Fr _ _ _ _ => F9
  rename News _ _ _ _ => N9
  refine search_call (X'.keeps F9.keep) hsz HE (by omega) (fun hb => ?_) (fun hb vs xs => ?_)
  · k_steps
    refine leaveK_ F9 N9 fun F5 N5 => ?_
    have z := hret _ tk _ F5 N5 (fun _ h => h)
    rw [hb] at z
    exact z
  · have F10 := (F9.push { cls := .type "tuple", data := .seq vs }).push { cls := .type "re.Match", data := .fields xs }
    have N10 : News g' L' ((h'.push { cls := .type "tuple", data := .seq vs }).push { cls := .type "re.Match", data := .fields xs }) news := fun p hp => ⟨Heap.get?_push_of_some _ (Heap.get?_push_of_some _ (N9 p hp).1), (N9 p hp).2⟩
    refine spliced_none ?_
    refine call_bool_match (o := { cls := .type "re.Match", data := .fields xs }) (Heap.get?_push_size _ rfl) rfl ?_
    refine leaveK_ F10 N10 fun F5 N5 => ?_
    have z := hret _ tk _ F5 N5 (fun _ h => h)
    rw [hb] at z
    exact z
end Mine
end
section
theorem Mine.off_Lp : True := by
  w_top off
  trivial
open PySem PySem.W PyProof.Rows PySem.Calls
open PySem (Expr)
set_option Elab.async false
set_option linter.unusedVariables false
set_option maxRecDepth 100000
namespace Mine
abbrev Up := (Str → Option Value) → Str → Option Value
/-- a loop's source with its target: what a turn does to the heap and to the names -/
structure TurnOf (prog : Program) (w : World) (A : Around) (env : Env) (target : PySem.Expr) (I : Addr) (fp wr : List Addr) (n : Nat) (P : Nat → Up → Prop) (St : Nat → Heap → Prop) : Prop where
  sub : ∀ b ∈ wr, b ∈ fp
  frame : ∀ i h h', St i h → (∀ b ∈ fp, ∀ o, h.get? b = some o → h'.get? b = some o) → St i h'
  item : ∀ i (s : Shared) (m : Str → Option Value) (Q : Shared → Prop) (E : Value → Shared → Prop), i < n → St i s.heap → s.heap.Ns env.locals m → env.locals ∉ fp →
    (∀ up h' tk, P i up → St (i + 1) h' → h'.Ns env.locals (up m) → (∀ b o, b ∉ wr → b ≠ env.locals → s.heap.get? b = some o → h'.get? b = some o) → Q { s with heap := h', toks := tk }) →
    wpAny (model prog w) A (pyNext (.ref I)) (fun r s₁ => match r with
      | none => False
      | some v => wpAny (model prog w) A (letOwnedTupleGo target (.ref I) v) (fun _ s₂ => wpAny (model prog w) A (assign target env v) (fun _ s₃ => Q s₃) E s₂) E s₁) E s
  done : ∀ (s : Shared) (Q : Option Value → Shared → Prop) (E : Value → Shared → Prop), St n s.heap →
    (∀ h' tk, (∀ b o, b ∉ wr → s.heap.get? b = some o → h'.get? b = some o) → Q none { s with heap := h', toks := tk }) → wpAny (model prog w) A (pyNext (.ref I)) Q E s
section
variable {prog : Program} {w : World} {A A₀ : Around} {s : Shared} {env : Env} {h₀ base : Heap} {outer : List Env} {fp wr : List Addr} {n : Nat} {St : Nat → Heap → Prop} {I : Addr}
theorem TurnOf.name {P : Nat → Value → Prop} {x : Str} {px : Pos} (W : Walks prog w A I fp wr n P St) (hx : env.kindOf x = some .local)
    (hp : (env.scope.kind == .class || (env.scope.kind == .module && env.locals != env.globals)) = false)
    (ht : ∀ v, letOwnedTupleGo (.Name x px) (.ref I) v = pure () := by intro _; rfl) :
    TurnOf prog w A env (.Name x px) I fp wr n (fun i up => ∃ v, P i v ∧ up = fun m y => if y = x then some v else m y) St where
  sub := W.sub
  frame := W.frame
  item := fun i s m Q E hi hst hns hL hQ => by
    refine W.item i _ _ _ hi hst fun v h₁ tk₁ hP hst₁ hk₁ => ?_
    have hLw : env.locals ∉ wr := fun h => hL (W.sub _ h)
    refine wpAny_of_eq (ht v) ?_
    refine wpAny_assign_Name (wpAny_storeName_local hx (hns.at' fun o e => hk₁ _ o hLw e) (fun h₂ hn₂ hs₂ => ?_) hp)
    replace hs₂ : Heap.SameBut env.locals h₁ h₂ := hs₂
    exact hQ _ h₂ _ ⟨v, hP, rfl⟩ (W.frame _ _ _ hst₁ fun b hb o e => hs₂.extBut b o (fun q => hL (q ▸ hb)) e) hn₂ fun b o h1 h2 e => hs₂.extBut b o h2 (hk₁ b o h1 e)
  done := W.done
/-- names assigned in order from a tuple -/
theorem assign_names2 {xi xc : Str} {pk pv pt : Pos} {x1 : Nat} {T : Addr} {v0 v1 : Value} {m : Str → Option Value} {Q : Unit → Shared → Prop} {E : Value → Shared → Prop} (hh : A.handled = none) (hT : s.heap.IsTuple T #[v0, v1]) (hns : s.heap.Ns env.locals m)
    (hxi : env.kindOf xi = some .local) (hxc : env.kindOf xc = some .local) (hp : (env.scope.kind == .class || (env.scope.kind == .module && env.locals != env.globals)) = false)
    (hQ : ∀ h' tk, h'.Ns env.locals (fun y => if y = xc then some v1 else if y = xi then some v0 else m y) → (∀ b o, b ≠ env.locals → s.heap.get? b = some o → h'.get? b = some o) → Q () { s with heap := h', toks := tk }) :
    wpAny (model prog w) A (assign (.Tuple [.Name xi pk, .Name xc pv] x1 pt) env (.ref T)) Q E s := by
  refine wpAny_assign_Tuple hh hT rfl rfl fun h₃ hx₃ => ?_
  replace hx₃ : Heap.ExtBut s.heap.objs.size s.heap h₃ := hx₃
  have up₃ : ∀ b o, s.heap.get? b = some o → h₃.get? b = some o := fun b o x => hx₃ b o (Nat.ne_of_lt (Heap.lt_size x)) x
  show wpAny _ A (do holding [v1] (assign (.Name xi pk) env v0); do holding [] (assign (.Name xc pv) env v1); pure ()) _ _ _
  refine wpAny_bind (wpAny_holding (wpAny_assign_Name (wpAny_storeName_local hxi (hns.keeps up₃) (fun h₄ hn₄ hs₄ => ?_) hp)))
  replace hs₄ : Heap.SameBut env.locals h₃ h₄ := hs₄
  refine wpAny_bind (wpAny_holding (wpAny_assign_Name (wpAny_storeName_local hxc hn₄ (fun h₅ hn₅ hs₅ => wpAny_pure ?_) hp)))
  replace hs₅ : Heap.SameBut env.locals h₄ h₅ := hs₅
  exact hQ h₅ _ hn₅ fun b o h1 e => hs₅.extBut b o h1 (hs₄.extBut b o h1 (up₃ b o e))
theorem assign_names3 {xi xc xd : Str} {pk pv pw pt : Pos} {x1 : Nat} {T : Addr} {v0 v1 v2 : Value} {m : Str → Option Value} {Q : Unit → Shared → Prop} {E : Value → Shared → Prop} (hh : A.handled = none) (hT : s.heap.IsTuple T #[v0, v1, v2]) (hns : s.heap.Ns env.locals m)
    (hxi : env.kindOf xi = some .local) (hxc : env.kindOf xc = some .local) (hxd : env.kindOf xd = some .local) (hp : (env.scope.kind == .class || (env.scope.kind == .module && env.locals != env.globals)) = false)
    (hQ : ∀ h' tk, h'.Ns env.locals (fun y => if y = xd then some v2 else if y = xc then some v1 else if y = xi then some v0 else m y) → (∀ b o, b ≠ env.locals → s.heap.get? b = some o → h'.get? b = some o) → Q () { s with heap := h', toks := tk }) :
    wpAny (model prog w) A (assign (.Tuple [.Name xi pk, .Name xc pv, .Name xd pw] x1 pt) env (.ref T)) Q E s := by
  refine wpAny_assign_Tuple hh hT rfl rfl fun h₃ hx₃ => ?_
  replace hx₃ : Heap.ExtBut s.heap.objs.size s.heap h₃ := hx₃
  have up₃ : ∀ b o, s.heap.get? b = some o → h₃.get? b = some o := fun b o x => hx₃ b o (Nat.ne_of_lt (Heap.lt_size x)) x
  show wpAny _ A (do holding [v1, v2] (assign (.Name xi pk) env v0); do holding [v2] (assign (.Name xc pv) env v1); do holding [] (assign (.Name xd pw) env v2); pure ()) _ _ _
  refine wpAny_bind (wpAny_holding (wpAny_assign_Name (wpAny_storeName_local hxi (hns.keeps up₃) (fun h₄ hn₄ hs₄ => ?_) hp)))
  replace hs₄ : Heap.SameBut env.locals h₃ h₄ := hs₄
  refine wpAny_bind (wpAny_holding (wpAny_assign_Name (wpAny_storeName_local hxc hn₄ (fun h₅ hn₅ hs₅ => ?_) hp)))
  replace hs₅ : Heap.SameBut env.locals h₄ h₅ := hs₅
  refine wpAny_bind (wpAny_holding (wpAny_assign_Name (wpAny_storeName_local hxd hn₅ (fun h₆ hn₆ hs₆ => wpAny_pure ?_) hp)))
  replace hs₆ : Heap.SameBut env.locals h₅ h₆ := hs₆
  exact hQ h₆ _ hn₆ fun b o h1 e => hs₆.extBut b o h1 (hs₅.extBut b o h1 (hs₄.extBut b o h1 (up₃ b o e)))
theorem TurnOf.pair {Pt : Nat → Array Value → Prop} {Mid : Nat → Addr → Heap → Prop} {xi xc : Str} {pk pv pt : Pos} {x1 : Nat} (hh : A.handled = none) (W : WalksT prog w A I fp wr n Pt St Mid) (h2 : ∀ i vals, Pt i vals → ∃ v0 v1, vals = #[v0, v1])
    (hxi : env.kindOf xi = some .local) (hxc : env.kindOf xc = some .local)
    (hp : (env.scope.kind == .class || (env.scope.kind == .module && env.locals != env.globals)) = false) :
    TurnOf prog w A env (.Tuple [.Name xi pk, .Name xc pv] x1 pt) I fp wr n (fun i up => ∃ v0 v1, Pt i #[v0, v1] ∧ up = fun m y => if y = xc then some v1 else if y = xi then some v0 else m y) St where
  sub := W.sub
  frame := W.frame
  item := fun i s m Q E hi hst hns hL hQ => by
    have hLw : env.locals ∉ wr := fun h => hL (W.sub _ h)
    refine W.item i _ _ _ hi hst fun T vals h₁ tk₁ hPt _ hT hMid hk₁ => ?_
    obtain ⟨v0, v1, rfl⟩ := h2 i vals hPt
    refine W.go _ x1 pt i T _ _ _ hMid fun h₂ hst₂ hk₂ => ?_
    have ht₂ : h₂.IsTuple T #[v0, v1] := hT.at fun o e => hk₂ T o (W.apart i T h₁ hMid) e
    refine assign_names2 hh ht₂ (hns.at' fun o e => hk₂ _ o hLw (hk₁ _ o hLw e)) hxi hxc hp fun h₃ tk₃ hn₃ hk₃ => ?_
    exact hQ _ h₃ _ ⟨v0, v1, hPt, rfl⟩ (W.frame _ _ _ hst₂ fun b hb o e => hk₃ b o (fun q => hL (q ▸ hb)) e) hn₃ fun b o h1 h2 e => hk₃ b o h2 (hk₂ b o h1 (hk₁ b o h1 e))
  done := W.done
/-- the end of a turn, plain -/
def EndA (h₀ : Heap) (L : Addr) (wr : List Addr) (own : List (Addr × Obj)) (J : (Str → Option Value) → List (Addr × Obj) → Prop) (s₁ : Shared) (f : Flow) (s₂ : Shared) : Prop :=
  f = .next ∧ ∃ h₂ tk m₂ news₂, s₂ = { s₁ with heap := h₂, toks := tk } ∧ Fr h₀ L h₂ m₂ ∧ News h₀ L h₂ news₂ ∧ (∀ p ∈ own, p ∈ news₂) ∧ J m₂ (news₂.filter fun p => decide (p.1 ∉ wr))
/-- what a fresh object of the ledger is not -/
def FreeOf (wr : List Addr) (own : List (Addr × Obj)) (cl : List Value) : Prop := ∀ b ∈ wr, ∃ o, (b, o) ∈ own ∧ o.cls ∈ cl
theorem FreeOf.not {wr : List Addr} {own ns : List (Addr × Obj)} {cl : List Value} {g h : Heap} {L : Addr} (H : FreeOf wr own cl) (N : News g L h ns) (hs : ∀ p ∈ own, p ∈ ns) {p : Addr × Obj} (hp : p ∈ ns) (hc : p.2.cls ∉ cl) : p.1 ∉ wr := fun hb => by
  obtain ⟨o, ho, hcl⟩ := H _ hb
  have e1 := (N _ (hs _ ho)).1
  have e2 := (N p hp).1
  rw [e1] at e2
  exact hc ((Option.some.inj e2) ▸ hcl)
theorem FreeOf.mem {wr : List Addr} {own ns : List (Addr × Obj)} {cl : List Value} {g h : Heap} {L : Addr} (H : FreeOf wr own cl) (N : News g L h ns) (hs : ∀ p ∈ own, p ∈ ns) {p : Addr × Obj} (hp : p ∈ ns) (hc : p.2.cls ∉ cl) : p ∈ ns.filter fun p => decide (p.1 ∉ wr) :=
  List.mem_filter.mpr ⟨hp, by simpa using H.not N hs hp hc⟩
theorem mem_free {wr : List Addr} {ns : List (Addr × Obj)} {p : Addr × Obj} (hp : p ∈ ns) (hc : p.1 ∉ wr) : p ∈ ns.filter fun p => decide (p.1 ∉ wr) := List.mem_filter.mpr ⟨hp, by simpa using hc⟩
/-- a loop in the plain logic, in a ledger that may grow -/
theorem codeA_forLoop {R : Result → Shared → Prop} {target : PySem.Expr} {body : List Stmt} {P : Nat → Up → Prop} {m : Str → Option Value} {news : List (Addr × Obj)} {cl : List Value}
    (W : TurnOf prog w A env target I fp wr n P St) (hcl : ∀ i h, St i h → ∀ b ∈ wr, ∃ o, h.get? b = some o ∧ o.cls ∈ cl)
    (hLf : env.locals ∉ fp) (hwr : ∀ b ∈ wr, h₀.get? b = none) (hnw : ∀ p ∈ news, p.1 ∉ wr)
    (hst : St 0 s.heap) (F : Fr h₀ env.locals s.heap m) (N : News h₀ env.locals s.heap news)
    (J : Nat → (Str → Option Value) → List (Addr × Obj) → Prop) (h0 : J 0 m news)
    (step : ∀ i up m₁ news₁ h₁ tk₁ own, i < n → P i up → J i m₁ news₁ → (∀ p ∈ news₁, p.1 ∉ wr) → (∀ p ∈ own, p.1 ∈ fp) → FreeOf wr own cl →
      Fr h₀ env.locals h₁ (up m₁) → News h₀ env.locals h₁ (news₁ ++ own) →
      wpAny (model prog w) A (execs body env) (EndA h₀ env.locals wr own (J (i + 1)) { s with heap := h₁, toks := tk₁ }) (notedBy (model prog w) A env fun e s' => R (.error e) s') { s with heap := h₁, toks := tk₁ })
    (hR : ∀ h' tk m' news', Fr h₀ env.locals h' m' → News h₀ env.locals h' news' → J n m' news' → R (.ok .next) { s with heap := h', toks := tk }) :
    codeAny (model prog w) A (.forLoop target (.ref I) body [] env) R s := by
  have hLw : env.locals ∉ wr := fun h => hLf (W.sub _ h)
  have old : ∀ b o, h₀.get? b = some o → b ∉ wr := fun b o e hb => by rw [hwr b hb] at e; cases e
  refine codeAny_forLoop_any
    (fun k s' => ∃ h' tk m' news' i, s' = { s with heap := h', toks := tk } ∧ St i h' ∧ Fr h₀ env.locals h' m' ∧ News h₀ env.locals h' news' ∧ (∀ p ∈ news', p.1 ∉ wr) ∧ J i m' news' ∧ i ≤ n ∧ k = n + 1 - i) ?_ (n + 1)
    ⟨s.heap, s.toks, m, news, 0, rfl, hst, F, N, hnw, h0, Nat.zero_le _, rfl⟩
  rintro k s' ⟨h', tk, m', news', i, rfl, hst', F', N', hnw', hJ, hi, rfl⟩
  by_cases hlt : i < n
  · refine wpAny_mono (W.item i _ m' (fun s₃ => ?_) (notedBy (model prog w) A env fun e s' => R (.error e) s') hlt hst' F'.ns hLf fun up h₂ tk₂ hP hst₂ hn₂ hk₂ => ?_) (fun r s₁ h₁ => ?_) fun _ _ e => e
    · exact wpAny (model prog w) A (execs body env) (fun f s₃ => match f with
            | .next | .cont => ∃ m, m < n + 1 - i ∧ ∃ h' tk m' news' i, s₃ = { s with heap := h', toks := tk } ∧ St i h' ∧ Fr h₀ env.locals h' m' ∧ News h₀ env.locals h' news' ∧ (∀ p ∈ news', p.1 ∉ wr) ∧ J i m' news' ∧ i ≤ n ∧ m = n + 1 - i
            | .brk => R (.ok .next) s₃
            | .ret v => R (.ok (.ret v)) s₃) (notedBy (model prog w) A env fun e s' => R (.error e) s') s₃
    · have F₂ : Fr h₀ env.locals h₂ (up m') := ⟨hn₂, fun b o e => hk₂ b o (old b o e) (fun q => by
        have := F'.above
        rw [q] at e
        exact absurd (Heap.lt_size e) (Nat.not_lt.mpr this)) (F'.keep b o e), F'.above⟩
      have N₂ : News h₀ env.locals h₂ news' := fun p hp => ⟨hk₂ _ _ (hnw' p hp) (N' p hp).2.1 (N' p hp).1, (N' p hp).2⟩
      have Nown : News h₀ env.locals h₂ (ownOf h₀ fp h₂) := news_ownOf hLf
      refine wpAny_mono (step i up m' news' h₂ tk₂ (ownOf h₀ fp h₂) hlt hP hJ hnw' ownOf_sub (fun b hb => ?_) F₂ (N₂.append Nown)) (fun f s₃ h₃ => ?_) fun _ _ e => e
      · obtain ⟨o, ho, hc⟩ := hcl _ _ hst₂ b hb
        exact ⟨o, mem_ownOf (W.sub _ hb) (hwr b hb) ho, hc⟩
      · obtain ⟨rfl, h₃', tk₃, m₂, news₂, rfl, F₃, N₃, ho₃, hJ₃⟩ := h₃
        refine ⟨n + 1 - (i + 1), by omega, h₃', tk₃, m₂, _, i + 1, rfl, ?_, F₃, (fun p hp => N₃ p (List.mem_filter.mp hp).1), (fun p hp => by simpa using (List.mem_filter.mp hp).2), hJ₃, hlt, rfl⟩
        refine W.frame _ _ _ hst₂ fun b hb o e => ?_
        cases hn : h₀.get? b with
        | some o₀ =>
          have : o₀ = o := by have q := F₂.keep b o₀ hn; rw [e] at q; exact (Option.some.inj q).symm
          exact this ▸ F₃.keep b o₀ hn
        | none => exact (N₃ _ (ho₃ _ (mem_ownOf hb hn e))).1
    · cases r with
      | none => exact h₁.elim
      | some v => exact h₁
  · have hin : i = n := by omega
    subst hin
    refine W.done _ _ _ hst' fun h₁ tk₁ hk₁ => wpAny_execs_nil ?_
    exact hR h₁ tk₁ m' news' ⟨F'.ns.at' fun o e => hk₁ _ o hLw e, fun b o e => hk₁ b o (old b o e) (F'.keep b o e), F'.above⟩ (fun p hp => ⟨hk₁ _ _ (hnw' p hp) (N' p hp).1, (N' p hp).2⟩) hJ
end
end Mine
end
section
theorem Mine.off_Lb : True := by
  w_top off
  trivial
open PySem PySem.W PyProof.Rows PySem.Calls PySem.Spec
open PySem (Expr)
set_option Elab.async false
set_option linter.unusedVariables false
set_option maxRecDepth 100000
namespace Mine
/-- one drawn bit -/
def bitOf (d z : Int) : Bool := (z.fdiv d).fmod 2 == 1
section
variable {prog : Program} {w : World} {A : Around} {E : Value → Shared → Prop} {s : Shared} {env : Env} {h₀ : Heap} {L : Addr}
def LcSrc (h₀ : Heap) (L : Addr) (m : Str → Option Value) (G : List Value → List Int → Prop) (Q : Value → Shared → Prop) (xv : Value) (s₁ : Shared) : Prop :=
  ∃ (ax : Addr) (vs : List Value) (zs : List Int) (news : List (Addr × Obj)) (n : Nat), xv = .ref ax ∧ Fr h₀ L s₁.heap m ∧ News h₀ L s₁.heap news ∧ (ax, W.listOf vs.toArray n) ∈ news ∧ IntsAre vs zs ∧ (∀ z ∈ zs, 0 ≤ z ∧ z < 100) ∧ zs.length ≤ 64 ∧
    ∀ D nD h' tk (ys : List Value), Fr h₀ L h' m → News h₀ L h' ((D, W.listOf ys.toArray nD) :: news) → G ys zs → LCg.Off1 D news → Q (.ref D) { s₁ with heap := h', toks := tk }
theorem LcSrc.intro {m : Str → Option Value} {G : List Value → List Int → Prop} {Q : Value → Shared → Prop} {s₁ : Shared} {ax : Addr} {vs : List Value} {zs : List Int} {news : List (Addr × Obj)} {n : Nat} (F : Fr h₀ L s₁.heap m) (N : News h₀ L s₁.heap news) (h1 : (ax, W.listOf vs.toArray n) ∈ news) (h2 : IntsAre vs zs) (h3 : ∀ z ∈ zs, 0 ≤ z ∧ z < 100) (h4 : zs.length ≤ 64)
    (k : ∀ D nD h' tk (ys : List Value), Fr h₀ L h' m → News h₀ L h' ((D, W.listOf ys.toArray nD) :: news) → G ys zs → LCg.Off1 D news → Q (.ref D) { s₁ with heap := h', toks := tk }) : LcSrc h₀ L m G Q (.ref ax) s₁ := ⟨ax, vs, zs, news, n, rfl, F, N, h1, h2, h3, h4, k⟩
theorem off1_of {D : Addr} : ∀ {l : List (Addr × Obj)}, (∀ p ∈ l, p.1 ≠ D) → LCg.Off1 D l
  | [], _ => trivial
  | _ :: _, h => ⟨h _ List.mem_cons_self, off1_of fun p hp => h p (List.mem_cons_of_mem _ hp)⟩
theorem carried_bools {f : Int → Bool} : ∀ {ys : List Value} {zs : List Int}, CarriedAll ys (zs.map fun z => PyData.bool (f z)) → ys = zs.map fun z => Value.bool (f z)
  | _, [], .nil => rfl
  | _, _ :: _, .cons (.bool _) r => by rw [List.map_cons, carried_bools r]
theorem lcB {d : Int} {p1 p2 p3 p4 p5 p6 p7 px pos : Pos} {k1 k2 k3 : Nat} {iter : PySem.Expr} {x : Str} {scope : Scope} {Q : Value → Shared → Prop} {m : Str → Option Value} (F₀ : Fr h₀ L s.heap m) (hd : 0 < d ∧ d < 100)
    (hh : A.handled = none) (hfree : ∀ y ∈ scope.names, y.2 ≠ .free) (hcell : ∀ y ∈ scope.names, y.2 ≠ .cell) (hkind : scope.kind = .function)
    (hnames : ∀ y ∈ scope.names, y.2 = .local → scope.names.lookup y.1 = some .local) (hx : scope.names.lookup x = some .local) (hxd : (x == ("__debug__" : Str)) = false)
    (hs : ∀ x, foldedSetIterable iter env x = pure x) (h : wpAny (model prog w) A (eval iter env) (LcSrc h₀ L m (fun ys zs => ys = zs.map fun z => Value.bool (bitOf d z)) Q) E s) :
    wpAny (model prog w) A (eval (.ListComp (.Compare (.BinOp (.BinOp (.Name x p1) .FloorDiv (.Constant (.int d) k1 p2) p3) .Mod (.Constant (.int 2) k2 p4) p5) [.Eq] [.Constant (.int 1) k3 p6] p7) [⟨.Name x px, iter, [], 0⟩] scope pos) env) Q E s := by
  have hcl : closureFor scope env = pure [] := closureFor_none hfree
  refine ListComp_DCn (K := .int) (h₀ := h₀) (L := L) (m := m) (pz := fun _ => true) (d := fun z => PyData.bool (bitOf d z)) hh hcl hcell hkind hnames hx (wpAny_mono h (fun xv s₁ h₁ => ?_) fun _ _ e => e) hs
  obtain ⟨ax, vs, zs, news, n, rfl, F, N, hax, hi, hz, hlen, hQ⟩ := h₁
  refine ⟨news, ax, vs, zs, rfl, ⟨_, (N _ hax).1, rfl, _, rfl⟩, hi.areOf, by rw [sizeLine_eq]; omega, F, N, fun C a v s₂ m₂ E' _ _ _ _ _ _ => ?_, fun C a v s₂ m₂ E' _ ha hk _ hns hv _ => ?_, fun D ys h' tk F' N' hD _ hp hc => ?_⟩
  · exact wpAny_pure ⟨rfl, s₂.heap, s₂.toks, rfl, fun _ _ e => e⟩
  · obtain ⟨t, rfl⟩ := hk
    have hloc : (compEnvC scope [] C env).kindOf x = some .local := lookup_relabel_local hx
    refine wpAny_Compare1 (wpAny_BinOp (wpAny_BinOp (wpAny_Name (wpAny_loadName_local hkind hloc hns hv ?_) hxd)))
    refine wpAny_Constant_int ?_
    have hza := hz a ha
    refine floordiv_int (by omega) ?_ (Or.inl (PyProof.noPylong_small (by omega)))
    refine wpAny_Constant_int ?_
    refine mod_int' (by decide) ?_
    refine wpAny_Constant_int ?_
    refine eq_int ?_
    exact ⟨.bool _, _, _, rfl, fun _ _ e => e⟩
  · rw [show zs.filter (fun _ => true) = zs from List.filter_eq_self.mpr (by simp)] at hc
    obtain ⟨nD, hN⟩ := made_enters hp F' N' hD
    exact hQ D nD h' tk ys F' hN (carried_bools hc) (off1_of hp.2)
theorem lcI {d : Int} {p1 p2 p3 px pos : Pos} {k1 : Nat} {iter : PySem.Expr} {x : Str} {scope : Scope} {Q : Value → Shared → Prop} {m : Str → Option Value} (F₀ : Fr h₀ L s.heap m) (hd : 0 < d ∧ d < 100)
    (hh : A.handled = none) (hfree : ∀ y ∈ scope.names, y.2 ≠ .free) (hcell : ∀ y ∈ scope.names, y.2 ≠ .cell) (hkind : scope.kind = .function)
    (hnames : ∀ y ∈ scope.names, y.2 = .local → scope.names.lookup y.1 = some .local) (hx : scope.names.lookup x = some .local) (hxd : (x == ("__debug__" : Str)) = false)
    (hs : ∀ x, foldedSetIterable iter env x = pure x) (h : wpAny (model prog w) A (eval iter env) (LcSrc h₀ L m (fun ys zs => IntsAre ys (zs.map fun z => z.fmod d)) Q) E s) :
    wpAny (model prog w) A (eval (.ListComp (.BinOp (.Name x p1) .Mod (.Constant (.int d) k1 p2) p3) [⟨.Name x px, iter, [], 0⟩] scope pos) env) Q E s := by
  have hcl : closureFor scope env = pure [] := closureFor_none hfree
  refine ListComp_DCn (K := .int) (h₀ := h₀) (L := L) (m := m) (pz := fun _ => true) (d := fun z => PyData.int (z.fmod d)) hh hcl hcell hkind hnames hx (wpAny_mono h (fun xv s₁ h₁ => ?_) fun _ _ e => e) hs
  obtain ⟨ax, vs, zs, news, n, rfl, F, N, hax, hi, hz, hlen, hQ⟩ := h₁
  refine ⟨news, ax, vs, zs, rfl, ⟨_, (N _ hax).1, rfl, _, rfl⟩, hi.areOf, by rw [sizeLine_eq]; omega, F, N, fun C a v s₂ m₂ E' _ _ _ _ _ _ => ?_, fun C a v s₂ m₂ E' _ ha hk _ hns hv _ => ?_, fun D ys h' tk F' N' hD _ hp hc => ?_⟩
  · exact wpAny_pure ⟨rfl, s₂.heap, s₂.toks, rfl, fun _ _ e => e⟩
  · obtain ⟨t, rfl⟩ := hk
    have hloc : (compEnvC scope [] C env).kindOf x = some .local := lookup_relabel_local hx
    refine wpAny_BinOp (wpAny_Name (wpAny_loadName_local hkind hloc hns hv ?_) hxd)
    refine wpAny_Constant_int ?_
    refine mod_int' (by omega) ?_
    exact ⟨.int _ _, _, _, rfl, fun _ _ e => e⟩
  · rw [show zs.filter (fun _ => true) = zs from List.filter_eq_self.mpr (by simp)] at hc
    obtain ⟨nD, hN⟩ := made_enters hp F' N' hD
    exact hQ D nD h' tk ys F' hN (CarriedAll.intsOf hc) (off1_of hp.2)
theorem lcJ {d c : Int} {p1 p2 p3 p4 p5 px pos : Pos} {k1 k2 : Nat} {iter : PySem.Expr} {x : Str} {scope : Scope} {Q : Value → Shared → Prop} {m : Str → Option Value} (F₀ : Fr h₀ L s.heap m) (hd : 0 < d ∧ d < 100)
    (hh : A.handled = none) (hfree : ∀ y ∈ scope.names, y.2 ≠ .free) (hcell : ∀ y ∈ scope.names, y.2 ≠ .cell) (hkind : scope.kind = .function)
    (hnames : ∀ y ∈ scope.names, y.2 = .local → scope.names.lookup y.1 = some .local) (hx : scope.names.lookup x = some .local) (hxd : (x == ("__debug__" : Str)) = false)
    (hs : ∀ x, foldedSetIterable iter env x = pure x) (h : wpAny (model prog w) A (eval iter env) (LcSrc h₀ L m (fun ys zs => IntsAre ys (zs.map fun z => z.fmod d + c)) Q) E s) :
    wpAny (model prog w) A (eval (.ListComp (.BinOp (.BinOp (.Name x p1) .Mod (.Constant (.int d) k1 p2) p3) .Add (.Constant (.int c) k2 p4) p5) [⟨.Name x px, iter, [], 0⟩] scope pos) env) Q E s := by
  have hcl : closureFor scope env = pure [] := closureFor_none hfree
  refine ListComp_DCn (K := .int) (h₀ := h₀) (L := L) (m := m) (pz := fun _ => true) (d := fun z => PyData.int (z.fmod d + c)) hh hcl hcell hkind hnames hx (wpAny_mono h (fun xv s₁ h₁ => ?_) fun _ _ e => e) hs
  obtain ⟨ax, vs, zs, news, n, rfl, F, N, hax, hi, hz, hlen, hQ⟩ := h₁
  refine ⟨news, ax, vs, zs, rfl, ⟨_, (N _ hax).1, rfl, _, rfl⟩, hi.areOf, by rw [sizeLine_eq]; omega, F, N, fun C a v s₂ m₂ E' _ _ _ _ _ _ => ?_, fun C a v s₂ m₂ E' _ ha hk _ hns hv _ => ?_, fun D ys h' tk F' N' hD _ hp hc => ?_⟩
  · exact wpAny_pure ⟨rfl, s₂.heap, s₂.toks, rfl, fun _ _ e => e⟩
  · obtain ⟨t, rfl⟩ := hk
    have hloc : (compEnvC scope [] C env).kindOf x = some .local := lookup_relabel_local hx
    refine wpAny_BinOp (wpAny_BinOp (wpAny_Name (wpAny_loadName_local hkind hloc hns hv ?_) hxd))
    refine wpAny_Constant_int ?_
    refine mod_int' (by omega) ?_
    refine wpAny_Constant_int ?_
    refine add_int ?_
    exact ⟨.int _ _, _, _, rfl, fun _ _ e => e⟩
  · rw [show zs.filter (fun _ => true) = zs from List.filter_eq_self.mpr (by simp)] at hc
    obtain ⟨nD, hN⟩ := made_enters hp F' N' hD
    exact hQ D nD h' tk ys F' hN (CarriedAll.intsOf hc) (off1_of hp.2)
end
end Mine
end
section
theorem Mine.off_Wo : True := by
  w_top off
  trivial
open PySem PySem.W PyProof.Rows
set_option Elab.async false
set_option linter.unusedVariables false
set_option linter.unusedSimpArgs false
set_option maxRecDepth 100000
namespace Mine

open PyProof.V PySem.Calls PySem.Spec
local macro_rules | `(tactic| k_all) => `(tactic| with_reducible assumption)
local macro_rules | `(tactic| k_mem) => `(tactic| assumption)

set_option maxHeartbeats 2000000 in
theorem words_ok : ∀ {w : World} {mean : ExcName → Option Value} {mg mb : Str → Option Value}
  (dp un : Nat) (gd : Option (List Code)) (cn : Str) (cs : Scope) (a : Addr) (ccd : Value) (cl : List (Str × Addr)) (outer : List Env) (A₀ : Around) (base h₀ : Heap) (L : Addr) (m : Str → Option Value) (s : Shared) (Q E : Value → Shared → Prop)
  (news : List (Addr × Obj))
  (B : Below A₀ base outer h₀) (F : Fr h₀ L s.heap m) (X : (hd.heap_39 (World.params w)).In h₀) (N : News h₀ L s.heap news) (T : Top hd.view_39 (looseW hd.view_39 [Str.ofString "SINGLE_WILDCARD", Str.ofString "MULTI_WILDCARD", Str.ofString "DEFAULT_FIRST_ELEMENT", Str.ofString "_path_to_elements", Str.ofString "_WILDCARD_RE"]) mean mg mb h₀) (hk : cs.kind = .function)
  (hdp : dp + 20 < recursionLimit) (hun : un + 100 < cLine)
  (hret : ∀ h' tk' (l : Addr) (t1 t2 t3 t4 t5 t6 t7 : Tok), Fr h₀ L h' m → News h₀ L h' ((l, W.listOf #[.str (Str.ofString "*") t1, .str (Str.ofString "**") t2, .str (Str.ofString "a") t3, .str (Str.ofString "b") t4, .str (Str.ofString "3") t5, .str (Str.ofString "'*'") t6, .str (Str.ofString "\"it's\"") t7] 0) :: news) → Q (.ref l) { s with heap := h', toks := tk' }),
  wpAny (model (RowW.prog (OpenRow.toRowW (OpenLaw.row PySem.Challenge.rw_fu0002_01))) w) (ktrTop dp un gd cn cs L a ccd cl outer) (call (.ref 175) []) Q E s := by
  intro w mean mg mb dp un gd cn cs a ccd cl outer A₀ base h₀ L m s Q E news B F X N T hk hdp hun hret
  revert X
  k_fill
  intro X
  refine wpAny_call ?_
  k_dflt (refine' defA ?k1 ?k2 ?k3 ?k4 ?k5 ?kA ?kF ?kK ?k6 ?k7 ?k8 ?k9 ?kB ?_ ?c2 ?c3 ?c4 ?c5; (case kA => exact rfl); (case kF => exact rfl); (case kK => assumption); (case k1 => k_asm); (case k2 => k_asm); (case k3 => k_asm); (case k4 => exact N); (case k5 => k_asm); (case k6 => k_is); (case k7 => k_is); (case k8 => ktr_room); (case k9 => first | exact BindsTo.of_eq rfl | exact binds_K (by k_in) rfl (by k_is) rfl rfl rfl); (case c5 => decide); (case kB => exact locs rfl); (case c2 => exact rfl); (case c3 => exact rfl); (case c4 => exact rfl); k_whole; intro g' L' h' F' N' B' X' T'; (try dsimp only); (try k_fold))
  clear B F X T
  k_steps
  skip
  rename Fr _ _ _ _ => F8
  rename News _ _ _ _ => N8
  refine leaveK_ F8 N8 fun F5 N5 => ?_
  exact hret _ _ _ _ _ _ _ _ _ _ F5 N5
end Mine
end
section
theorem Mine.off_Tx : True := by
  w_top off
  trivial
open PySem PySem.W PyProof.Rows
set_option Elab.async false
set_option linter.unusedVariables false
set_option linter.unusedSimpArgs false
set_option maxRecDepth 100000
namespace Mine

open PyProof.V PySem.Calls PySem.Spec
local macro_rules | `(tactic| k_all) => `(tactic| with_reducible assumption)
local macro_rules | `(tactic| k_mem) => `(tactic| assumption)
def roadOf (ks : List Int) (bs : List Bool) : List (Nat × Bool) := (ks.map Int.toNat).zip bs
def mT (P D : Addr) (vp vd vw : Option Value) (u : Str) (t : Tok) : Str → Option Value := fun y =>
  if y = Str.ofString "text" then some (.str u t) else if y = Str.ofString "word" then vw else if y = Str.ofString "dot" then vd else if y = Str.ofString "part" then vp else
    [(Str.ofString "parts", Value.ref P), (Str.ofString "dotted", Value.ref D)].reverse.lookup y
theorem mT_up {P D : Addr} {vp vd vw : Option Value} {u : Str} {t : Tok} {u2 : Str} {t2 : Tok} {k b x : Value} : mT P D (some k) (some b) (some x) u2 t2 =
    (fun y => if y = Str.ofString "text" then some (.str u2 t2) else if y = Str.ofString "word" then some x else if y = Str.ofString "dot" then some b else if y = Str.ofString "part" then some k else mT P D vp vd vw u t y) := by
  funext y
  unfold mT
  split
  · rfl
  · split
    · rfl
    · split
      · rfl
      · split
        · rfl
        · rfl
theorem app_toList (a b : Str) : (a ++ b).cps.toList = a.cps.toList ++ b.cps.toList := by
  show (a.cps ++ b.cps).toList = _
  rw [Array.toList_append]
theorem road_snoc : ∀ (r : List (Nat × Bool)) (k : Nat) (d : Bool), roadCs (r ++ [(k, d)]) = roadCs r ++ stepCs k d
  | [], k, d => by simp [roadCs]
  | (k', d') :: r, k, d => by rw [List.cons_append, roadCs, roadCs, road_snoc r k d, List.append_assoc]
theorem text_app3 {u a b c : Str} {r : List (Nat × Bool)} {k : Nat} {d : Bool} (hu : u.cps.toList = [114, 111, 111, 116] ++ roadCs r) (h : a.cps.toList ++ (b.cps.toList ++ c.cps.toList) = stepCs k d) :
    (u ++ a ++ b ++ c).cps.toList = [114, 111, 111, 116] ++ roadCs (r ++ [(k, d)]) := by
  rw [app_toList, app_toList, app_toList, hu, road_snoc, ← h]
  simp only [List.append_assoc]
theorem text_app2 {u a b : Str} {r : List (Nat × Bool)} {k : Nat} {d : Bool} (hu : u.cps.toList = [114, 111, 111, 116] ++ roadCs r) (h : a.cps.toList ++ b.cps.toList = stepCs k d) :
    (u ++ a ++ b).cps.toList = [114, 111, 111, 116] ++ roadCs (r ++ [(k, d)]) := by
  rw [app_toList, app_toList, hu, road_snoc, ← h]
  simp only [List.append_assoc]
def wordS : Nat → Str
  | 0 => Str.ofString "*" | 1 => Str.ofString "**" | 2 => Str.ofString "a" | 3 => Str.ofString "b" | 4 => Str.ofString "3" | 5 => Str.ofString "'*'" | _ => Str.ofString "\"it's\""
theorem wordS_len (k : Nat) : (wordS k).length ≤ 6 := by
  unfold wordS
  split <;> decide +kernel
def TextJ (P D : Addr) (ps ds : List Value) (nP nD : Nat) (ks : List Int) (bs : List Bool) (news : List (Addr × Obj)) (i : Nat) (m : Str → Option Value) (news' : List (Addr × Obj)) : Prop :=
  ∃ vp vd vw u t, m = mT P D vp vd vw u t ∧ u.cps.toList = [114, 111, 111, 116] ++ roadCs ((roadOf ks bs).take i) ∧ ∀ p ∈ news, p ∈ news'

local macro_rules | `(tactic| walk_at "subscriptTail Name Name ref int") => `(tactic| (k_here; refine stop_on ?_))
local macro_rules | `(tactic| walk_at "call ref") => `(tactic| (k_here; refine stop_on ?_))
set_option maxHeartbeats 2000000 in
theorem text_turn : ∀ {w : World} {mean : ExcName → Option Value} {mg mb : Str → Option Value}
  (dp un : Nat) (gd : Option (List Code)) (cn : Str) (cs : Scope) (a : Addr) (ccd : Value) (cl : List (Str × Addr)) (outer : List Env) (A₀ : Around) (base h₀ : Heap) (L : Addr) (m : Str → Option Value) (s : Shared) (Q E : Value → Shared → Prop)
  (base1 : Heap) (L1 : Addr) (P D : Addr) (vp vd vw : Option Value) (u : Str) (t tk1 : Tok) (k : Nat) (b : Bool) (r : List (Nat × Bool)) (news own : List (Addr × Obj)) (wr : List Addr) (J : (Str → Option Value) → List (Addr × Obj) → Prop)
  (B : Below (ktrTop dp un gd cn cs L a ccd cl outer) base (envX cn cs L a ccd cl :: outer) h₀) (F : Fr h₀ L1 s.heap (fun y => if y = Str.ofString "dot" then some (.bool b) else if y = Str.ofString "part" then some (.int (k : Int) tk1) else mT P D vp vd vw u t y)) (X : (hd.heap_39 (World.params w)).In h₀) (N : News h₀ L1 s.heap news) (T : Top hd.view_39 (looseW hd.view_39 [Str.ofString "SINGLE_WILDCARD", Str.ofString "MULTI_WILDCARD", Str.ofString "DEFAULT_FIRST_ELEMENT", Str.ofString "_path_to_elements", Str.ofString "_WILDCARD_RE"]) mean mg mb h₀)
  (hdp : dp + 40 < recursionLimit) (hun : un + 300 < cLine) (hk : k < 7) (hu : u.cps.toList = [114, 111, 111, 116] ++ roadCs r) (hul : u.length ≤ 200)
  (hend : ∀ h' tk' vw' u' t' news₂, Fr h₀ L1 h' (mT P D (some (.int (k : Int) tk1)) (some (.bool b)) vw' u' t') → News h₀ L1 h' news₂ → (∀ p ∈ news, p ∈ news₂) → u'.cps.toList = [114, 111, 111, 116] ++ roadCs (r ++ [(k, b)]) → EndA h₀ L1 wr own J s .next { s with heap := h', toks := tk' }),
  wpAny (model (RowW.prog (OpenRow.toRowW (OpenLaw.row PySem.Challenge.rw_fu0002_01))) w) ((ktrTop dp un gd cn cs L a ccd cl outer).deeper (envOf (Str.ofString "_law_text") (scopeOf (hd.heap_39 (World.params w)) 189) L1 189 (.ref 188))) (execs (forBody (hd.heap_39 (World.params w)) 189 1) (envOf (Str.ofString "_law_text") (scopeOf (hd.heap_39 (World.params w)) 189) L1 189 (.ref 188))) (EndA h₀ L1 wr own J s) E s := by
  intro w mean mg mb dp un gd cn cs a ccd cl outer A₀ base h₀ L m s Q E base1 L1 P D vp vd vw u t tk1 k b r news own wr J B F X N T hdp hun hk hu hul hend
  revert X
  k_fill
  intro X
  conv in (forBody _ _ _) => whnf
  repeat (conv in (scopeOf _ _) => whnf)
  unfold mT at F
  refine execs_stop ?_
  k_steps
  show wpAny _ _ _ _ _ _
  refine words_ok _ _ _ _ _ _ _ _ _ _ _ _ _ _ _ _ _ news B F X N T rfl (by show dp + 1 + 20 < recursionLimit; omega) (by show un + 3 + 100 < cLine; omega) ?_
  intro h2 tk2 l t1 t2 t3 t4 t5 t6 t7 F2 N2
  k_steps
  obtain ⟨tw, hw⟩ : ∃ tw, (#[.str (Str.ofString "*") t1, .str (Str.ofString "**") t2, .str (Str.ofString "a") t3, .str (Str.ofString "b") t4, .str (Str.ofString "3") t5, .str (Str.ofString "'*'") t6, .str (Str.ofString "\"it's\"") t7] : Array Value)[((k : Int)).toNat]? = some (.str (wordS k) tw) := by
    obtain rfl | rfl | rfl | rfl | rfl | rfl | rfl : k = 0 ∨ k = 1 ∨ k = 2 ∨ k = 3 ∨ k = 4 ∨ k = 5 ∨ k = 6 := by omega
    all_goals exact ⟨_, rfl⟩
  show wpAny _ _ _ _ _ _
  refine item_list (s := ⟨_, _, _, _, _⟩) ⟨_, (N2 _ (.head _)).1, rfl, _, rfl⟩ (by omega) (by omega) hw ?_
  k_steps
  unfold Stop
  have hwl : (wordS k).length ≤ 6 := wordS_len k
  generalize hwd : wordS k = wd at *
  clear hw
  (try clear F)
  cases b
  · k_steps
    all_goals (
      rename Fr _ _ _ _ => F9
      rename News _ _ _ _ => N9
      refine hend _ _ _ _ _ _ (by rw [mT_up (vp := vp) (vd := vd) (vw := vw) (u := u) (t := t)]; exact F9) N9 (fun p hp => by simp only [List.mem_cons]; first | exact .inr hp | exact .inr (.inr hp)) ?_
      subst hwd
      clear hend F9 N9
      first | with_reducible refine text_app3 hu ?_ | with_reducible refine text_app2 hu ?_ | refine text_app3 hu ?_ | refine text_app2 hu ?_
      obtain rfl | rfl | rfl | rfl | rfl | rfl | rfl : k = 0 ∨ k = 1 ∨ k = 2 ∨ k = 3 ∨ k = 4 ∨ k = 5 ∨ k = 6 := by omega
      all_goals first | decide +kernel | (exfalso; omega) | (rename (List.any _ _ = _) => q; exact absurd q (by decide)))
  · k_steps
    all_goals (
      rename Fr _ _ _ _ => F9
      rename News _ _ _ _ => N9
      refine hend _ _ _ _ _ _ (by rw [mT_up (vp := vp) (vd := vd) (vw := vw) (u := u) (t := t)]; exact F9) N9 (fun p hp => by simp only [List.mem_cons]; first | exact .inr hp | exact .inr (.inr hp)) ?_
      subst hwd
      clear hend F9 N9
      first | with_reducible refine text_app3 hu ?_ | with_reducible refine text_app2 hu ?_ | refine text_app3 hu ?_ | refine text_app2 hu ?_
      obtain rfl | rfl | rfl | rfl | rfl | rfl | rfl : k = 0 ∨ k = 1 ∨ k = 2 ∨ k = 3 ∨ k = 4 ∨ k = 5 ∨ k = 6 := by omega
      all_goals first | decide +kernel | (exfalso; omega) | (rename (List.any _ _ = _) => q; exact absurd q (by decide)))
end Mine
end
section
theorem Mine.off_Lz : True := by
  w_top off
  trivial
open PySem PySem.W PyProof.Rows PySem.Calls
open PySem (Expr)
set_option Elab.async false
set_option linter.unusedVariables false
set_option maxRecDepth 100000
namespace Mine
def loopCl : List Value := [.type "zip", .type "tuple", .type "list_iterator", .type "tuple_iterator", .type "enumerate", .type "range_iterator"]
section
variable {prog : Program} {w : World} {A A₀ : Around} {s : Shared} {env : Env} {h₀ base : Heap} {outer : List Env} {E : Value → Shared → Prop}
abbrev ForR (prog : Program) (w : World) (A : Around) (env : Env) (Q : Flow → Shared → Prop) (E : Value → Shared → Prop) : Result → Shared → Prop := fun r s' => match r with | .ok f => Q f s' | .error e => cameBackBy (model prog w) A env E e s'
theorem zip_loop {Q : Flow → Shared → Prop} {xi xc : Str} {pk pv pt : Pos} {x1 : Nat} {body : List Stmt} {l1 l2 : Addr} {xs ys : Array Value} {n1 n2 : Nat} {m : Str → Option Value} {news : List (Addr × Obj)} (hh : A.handled = none)
    (F : Fr h₀ env.locals s.heap m) (N : News h₀ env.locals s.heap news) (h1 : (l1, W.listOf xs n1) ∈ news) (h2 : (l2, W.listOf ys n2) ∈ news)
    (hxi : env.kindOf xi = some .local) (hxc : env.kindOf xc = some .local)
    (hp : (env.scope.kind == .class || (env.scope.kind == .module && env.locals != env.globals)) = false)
    (J : Nat → (Str → Option Value) → List (Addr × Obj) → Prop) (h0 : J 0 m news)
    (step : ∀ i x y m₁ news₁ h₁ tk₁ own wr, xs[i]? = some x → ys[i]? = some y → J i m₁ news₁ → (∀ p ∈ news₁, p.1 ∉ wr) → FreeOf wr own loopCl →
      Fr h₀ env.locals h₁ (fun q => if q = xc then some y else if q = xi then some x else m₁ q) → News h₀ env.locals h₁ (news₁ ++ own) →
      wpAny (model prog w) A (execs body env) (EndA h₀ env.locals wr own (J (i + 1)) { s with heap := h₁, toks := tk₁ }) E { s with heap := h₁, toks := tk₁ })
    (hQ : ∀ h' tk m' news', Fr h₀ env.locals h' m' → News h₀ env.locals h' news' → J (min xs.size ys.size) m' news' → Q .next { s with heap := h', toks := tk })
    (hE : PassesOwn (model prog w) A env E := by passes_own) :
    wpAny (model prog w) A (call (.type "zip") [.ref l1, .ref l2]) (fun xv s₁ => wpAny (model prog w) A (pyIter xv) (fun it s₂ => codeAny (model prog w) A (.forLoop (.Tuple [.Name xi pk, .Name xc pv] x1 pt) it body [] env) (ForR prog w A env Q E) s₂) E s₁) E s := by
  have hl1 : s.heap.IsList l1 xs := ⟨_, (N _ h1).1, rfl, _, rfl⟩
  have hl2 : s.heap.IsList l2 ys := ⟨_, (N _ h2).1, rfl, _, rfl⟩
  have a1 : l1 < s.heap.objs.size := Heap.lt_size (N _ h1).1
  have a2 : l2 < s.heap.objs.size := Heap.lt_size (N _ h2).1
  have hLs : env.locals < s.heap.objs.size := F.ns.lt
  refine call_zip_2 hl1 hl2 fun h' hz hTI hTO hit1 hit2 hsz hk => ?_
  refine wpAny_pyIter_zip hz ?_
  have nw : ∀ k, h₀.get? (s.heap.objs.size + k) = none := fun k => Heap.get?_none_of_le (Nat.le_trans F.above (Nat.le_trans (Nat.le_of_lt hLs) (Nat.le_add_right _ k)))
  have up : ∀ a, a < s.heap.objs.size → ∀ k, a ≠ s.heap.objs.size + k := fun a h k e => Nat.ne_of_lt (Nat.lt_of_lt_of_le h (Nat.le_add_right _ k)) e
  refine codeA_forLoop (s := { s with heap := h' }) (cl := loopCl) (TurnOf.pair hh (WalksT.zip2 hh _ _ _ _ _ _ _ (zipApart_new a1 a2) xs ys) (fun i vals h => by obtain ⟨x, y, _, _, rfl⟩ := h; exact ⟨x, y, rfl⟩) hxi hxc hp) ?_ ?_ ?_ ?_ ⟨hz, hTI, ⟨_, _, hTO⟩, hit1, hit2, hl1.at fun o e => hk l1 o e, hl2.at fun o e => hk l2 o e⟩
    ⟨F.ns.keeps hk, fun b o e => hk b o (F.keep b o e), F.above⟩ (fun p hp => ⟨hk _ _ (N p hp).1, (N p hp).2⟩) J h0 ?_ ?_
  · rintro i h ⟨q1, q2, ⟨_, _, q3⟩, ⟨_, q4, q4', _⟩, ⟨_, q5, q5', _⟩, _⟩ b hb
    simp only [List.mem_cons, List.not_mem_nil, or_false] at hb
    rcases hb with rfl | rfl | rfl | rfl
    · exact ⟨_, q1, .head _⟩
    · exact ⟨_, q3, .tail _ (.head _)⟩
    · exact ⟨_, q4, by rw [q4']; decide⟩
    · exact ⟨_, q5, by rw [q5']; decide⟩
  · intro hm
    simp only [List.mem_cons, List.not_mem_nil, or_false] at hm
    rcases hm with e | e | e | e | e | e | e
    · exact up _ hLs 4 e
    · exact up _ hLs 2 e
    · exact up _ hLs 3 e
    · exact up _ hLs 0 e
    · exact up _ hLs 1 e
    · exact (N _ h1).2.1 e.symm
    · exact (N _ h2).2.1 e.symm
  · intro b hb
    simp only [List.mem_cons, List.not_mem_nil, or_false] at hb
    rcases hb with rfl | rfl | rfl | rfl
    · exact nw 4
    · exact nw 3
    · exact nw 0
    · exact nw 1
  · intro p hp hm
    have hq := Heap.lt_size (N p hp).1
    simp only [List.mem_cons, List.not_mem_nil, or_false] at hm
    rcases hm with e | e | e | e
    · exact up _ hq 4 e
    · exact up _ hq 3 e
    · exact up _ hq 0 e
    · exact up _ hq 1 e
  · rintro i _ m₁ news₁ h₁ tk₁ own hi ⟨v0, v1, ⟨x, y, hx, hy, hv⟩, rfl⟩ hJ hnw _ hfr F₁ N₁
    obtain ⟨rfl, rfl⟩ : v0 = x ∧ v1 = y := by simpa using hv
    exact wpAny_passesOwn hE (step i v0 v1 m₁ news₁ h₁ tk₁ own _ hx hy hJ hnw hfr F₁ N₁)
  · intro h'' tk m' news' F' N' hJ
    exact hQ h'' tk m' news' F' N' hJ
end
end Mine
end
section
theorem Mine.off_Ty : True := by
  w_top off
  trivial
open PySem PySem.W PyProof.Rows
set_option Elab.async false
set_option linter.unusedVariables false
set_option linter.unusedSimpArgs false
set_option maxRecDepth 100000
namespace Mine

open PyProof.V PySem.Calls PySem.Spec
local macro_rules | `(tactic| k_all) => `(tactic| with_reducible assumption)
local macro_rules | `(tactic| k_mem) => `(tactic| assumption)
theorem intsAt : ∀ {vs : List Value} {zs : List Int}, IntsAre vs zs → ∀ (i : Nat) (v : Value), vs[i]? = some v → ∃ (t : Tok) (z : Int), v = Value.int z t ∧ zs[i]? = some z
  | _, _, .nil, i, v, h => by simp at h
  | _, _, .cons _ t r, 0, v, h => by simp at h; exact ⟨t, _, h.symm, rfl⟩
  | _, _, .cons _ _ r, i + 1, v, h => by simp at h; simpa using intsAt r i v h
theorem mT_zero {P D : Addr} {u : Str} {t : Tok} : mT P D none none none u t = fun y => if y = Str.ofString "text" then some (.str u t) else [(Str.ofString "parts", Value.ref P), (Str.ofString "dotted", Value.ref D)].reverse.lookup y := by
  funext y
  unfold mT
  split
  · rfl
  · split
    · next h => subst h; rfl
    · split
      · next h => subst h; rfl
      · split
        · next h => subst h; rfl
        · rfl
theorem take_snoc {α : Type} {l : List α} {i : Nat} {x : α} (h : l[i]? = some x) : l.take (i + 1) = l.take i ++ [x] := by
  rw [List.take_add_one, h]; rfl
theorem road_get {zs : List Int} {bs : List Bool} {i : Nat} {z : Int} {b : Bool} (h1 : zs[i]? = some z) (h2 : bs[i]? = some b) : (roadOf zs bs)[i]? = some (z.toNat, b) := by
  simp [roadOf, List.getElem?_zip_eq_some, h1, h2]

set_option maxHeartbeats 2000000 in
theorem text_ok : ∀ {w : World} {mean : ExcName → Option Value} {mg mb : Str → Option Value}
  (dp un : Nat) (gd : Option (List Code)) (cn : Str) (cs : Scope) (a : Addr) (ccd : Value) (cl : List (Str × Addr)) (outer : List Env) (A₀ : Around) (base h₀ : Heap) (L : Addr) (m : Str → Option Value) (s : Shared) (Q E : Value → Shared → Prop)
  (P D : Addr) (ps : List Value) (zs : List Int) (bs : List Bool) (nP nD : Nat) (news : List (Addr × Obj))
  (B : Below A₀ base outer h₀) (F : Fr h₀ L s.heap m) (X : (hd.heap_39 (World.params w)).In h₀) (N : News h₀ L s.heap news) (T : Top hd.view_39 (looseW hd.view_39 [Str.ofString "SINGLE_WILDCARD", Str.ofString "MULTI_WILDCARD", Str.ofString "DEFAULT_FIRST_ELEMENT", Str.ofString "_path_to_elements", Str.ofString "_WILDCARD_RE"]) mean mg mb h₀) (hk : cs.kind = .function)
  (hdp : dp + 60 < recursionLimit) (hun : un + 400 < cLine)
  (hP : (P, W.listOf ps.toArray nP) ∈ news) (hD : (D, W.listOf (bs.map Value.bool).toArray nD) ∈ news) (hi : IntsAre ps zs) (hz : ∀ z ∈ zs, 0 ≤ z ∧ z < 7) (hl : zs.length ≤ 5)
  (hret : ∀ h' tk' u tku news₂, Fr h₀ L h' m → News h₀ L h' news₂ → (∀ p ∈ news, p ∈ news₂) → u.cps.toList = [114, 111, 111, 116] ++ roadCs (roadOf zs bs) → Q (.str u tku) { s with heap := h', toks := tk' }),
  wpAny (model (RowW.prog (OpenRow.toRowW (OpenLaw.row PySem.Challenge.rw_fu0002_01))) w) (ktrTop dp un gd cn cs L a ccd cl outer) (call (.ref 189) [.ref P, .ref D]) Q E s := by
  intro w mean mg mb dp un gd cn cs a ccd cl outer A₀ base h₀ L m s Q E P D ps zs bs nP nD news B F X N T hk hdp hun hP hD hi hz hl hret
  revert X
  k_fill
  intro X
  refine wpAny_call ?_
  k_dflt (refine' defA ?k1 ?k2 ?k3 ?k4 ?k5 ?kA ?kF ?kK ?k6 ?k7 ?k8 ?k9 ?kB ?_ ?c2 ?c3 ?c4 ?c5; (case kA => exact rfl); (case kF => exact rfl); (case kK => assumption); (case k1 => k_asm); (case k2 => k_asm); (case k3 => k_asm); (case k4 => exact N); (case k5 => k_asm); (case k6 => k_is); (case k7 => k_is); (case k8 => ktr_room); (case k9 => first | exact BindsTo.of_eq rfl | exact binds_K (by k_in) rfl (by k_is) rfl rfl rfl); (case c5 => decide); (case kB => exact locs rfl); (case c2 => exact rfl); (case c3 => exact rfl); (case c4 => exact rfl); k_whole; intro g' L' h' F' N' B' X' T'; (try dsimp only); (try k_fold))
  clear B F X T
  refine execs_stop ?_
  k_steps
  unfold Stop
  refine execs_stop ?_
  refine wpAny_For ?_
  k_steps
  rename Fr _ _ _ _ => F8
  rename News _ _ _ _ => N8
  have hr : ∀ p ∈ roadOf zs bs, p.1 < 7 := fun p hp => by
    obtain ⟨h1, _⟩ := List.of_mem_zip hp
    obtain ⟨z, hz1, hz2⟩ := List.mem_map.mp h1
    have := hz z hz1
    omega
  have hrl : (roadOf zs bs).length ≤ 5 := by simp only [roadOf, List.length_zip, List.length_map]; omega
  refine zip_loop (h₀ := g') rfl F8 N8 hP hD (by rfl) (by rfl) (by rfl) (TextJ P D ps (bs.map Value.bool) nP nD zs bs news) ⟨none, none, none, Str.ofString "root", _, mT_zero.symm, by simp [roadCs]; decide +kernel, fun p hp => hp⟩ ?_ ?_
  · intro i x y m₁ news₁ h₁ tk₁ own wr hx hy hJ hnw hfr F₁ N₁
    obtain ⟨vp, vd, vw, u, t, rfl, hu, hsub⟩ := hJ
    obtain ⟨tx, z, rfl, hzi⟩ := intsAt hi i x (by simpa using hx)
    obtain ⟨b, hbi, rfl⟩ : ∃ b, bs[i]? = some b ∧ .bool b = y := by simpa using hy
    have hzb := hz z (List.mem_of_getElem? hzi)
    obtain ⟨k, rfl⟩ : ∃ k : Nat, z = k := ⟨z.toNat, by omega⟩
    have hul : u.length ≤ 200 := by
      have h1 := road_len ((roadOf zs bs).take i) fun p hp => hr p (List.mem_of_mem_take hp)
      have h2 : u.cps.toList.length = u.length := rfl
      rw [hu] at h2
      simp only [List.length_append, List.length_cons, List.length_nil, List.length_take] at h1 h2
      omega
    refine text_turn _ _ _ _ _ _ _ _ _ A₀ _ _ L m _ Q _ g' L' P D vp vd vw u t tx k b ((roadOf zs bs).take i) _ own wr _ B' F₁ X' N₁ T' (by omega) (by omega) (by omega) hu hul ?_
    intro h' tk' vw' u' t' news₂ F' N' hs' hu'
    have hown : ∀ p ∈ own, p ∈ news₂ := fun p hp => hs' p (List.mem_append_right _ hp)
    refine ⟨rfl, h', tk', _, news₂, rfl, F', N', hown, _, _, vw', u', t', rfl, ?_, fun p hp => mem_free (hs' p (List.mem_append_left _ (hsub p hp))) (hnw p (hsub p hp))⟩
    rw [take_snoc (road_get hzi hbi)]
    exact hu'
  · intro h' tk' m' news' F' N' hJ
    obtain ⟨vp, vd, vw, u, t, rfl, hu, hsub⟩ := hJ
    unfold Stop
    unfold mT at F'
    k_steps
    skip
    refine leaveK_ F' N' fun F5 N5 => ?_
    refine hret _ _ u _ _ F5 N5 hsub ?_
    rw [hu, List.take_of_length_le ?_]
    have := congrArg List.length (show (roadOf zs bs) = _ from rfl)
    have h3 := PyProof.Rows.IntsAre.length hi
    simp only [roadOf, List.length_zip, List.length_map, List.size_toArray] at this ⊢
    omega
end Mine
end
section
theorem Mine.off_Le : True := by
  w_top off
  trivial
open PySem PySem.W PyProof.Rows PySem.Calls
open PySem (Expr)
set_option Elab.async false
set_option linter.unusedVariables false
set_option maxRecDepth 100000
namespace Mine
section
variable {prog : Program} {w : World} {A A₀ : Around} {s : Shared} {env : Env} {h₀ base : Heap} {outer : List Env} {E : Value → Shared → Prop}
theorem enum_loop {Q : Flow → Shared → Prop} {xi xc : Str} {pk pv pt : Pos} {x1 : Nat} {body : List Stmt} {l : Addr} {xs : Array Value} {n1 : Nat} {m : Str → Option Value} {news : List (Addr × Obj)} (hh : A.handled = none)
    (F : Fr h₀ env.locals s.heap m) (N : News h₀ env.locals s.heap news) (h1 : (l, W.listOf xs n1) ∈ news)
    (hxi : env.kindOf xi = some .local) (hxc : env.kindOf xc = some .local)
    (hp : (env.scope.kind == .class || (env.scope.kind == .module && env.locals != env.globals)) = false)
    (J : Nat → (Str → Option Value) → List (Addr × Obj) → Prop) (h0 : J 0 m news)
    (step : ∀ (i : Nat) (t : Tok) (x : Value) m₁ news₁ h₁ tk₁ own wr, xs[i]? = some x → J i m₁ news₁ → (∀ p ∈ news₁, p.1 ∉ wr) → FreeOf wr own loopCl → (∀ p ∈ own, p.1 ∈ wr ∨ p.1 = l) →
      Fr h₀ env.locals h₁ (fun q => if q = xc then some x else if q = xi then some (.int (i : Int) t) else m₁ q) → News h₀ env.locals h₁ (news₁ ++ own) →
      wpAny (model prog w) A (execs body env) (EndA h₀ env.locals wr own (J (i + 1)) { s with heap := h₁, toks := tk₁ }) E { s with heap := h₁, toks := tk₁ })
    (hQ : ∀ h' tk m' news', Fr h₀ env.locals h' m' → News h₀ env.locals h' news' → J xs.size m' news' → Q .next { s with heap := h', toks := tk })
    (hE : PassesOwn (model prog w) A env E := by passes_own) :
    wpAny (model prog w) A (call (.type "enumerate") [.ref l]) (fun xv s₁ => wpAny (model prog w) A (pyIter xv) (fun it s₂ => codeAny (model prog w) A (.forLoop (.Tuple [.Name xi pk, .Name xc pv] x1 pt) it body [] env) (ForR prog w A env Q E) s₂) E s₁) E s := by
  have hl1 : s.heap.IsList l xs := ⟨_, (N _ h1).1, rfl, _, rfl⟩
  have a1 : l < s.heap.objs.size := Heap.lt_size (N _ h1).1
  have hLs : env.locals < s.heap.objs.size := F.ns.lt
  refine call_enumerate_list hl1 fun h' he hit hsz hk => ?_
  refine wpAny_pyIter_enum he ?_
  have nw : ∀ k, h₀.get? (s.heap.objs.size + k) = none := fun k => Heap.get?_none_of_le (Nat.le_trans F.above (Nat.le_trans (Nat.le_of_lt hLs) (Nat.le_add_right _ k)))
  have up : ∀ a, a < s.heap.objs.size → ∀ k, a ≠ s.heap.objs.size + k := fun a h k e => Nat.ne_of_lt (Nat.lt_of_lt_of_le h (Nat.le_add_right _ k)) e
  refine codeA_forLoop (s := { s with heap := h' }) (cl := loopCl) (TurnOf.pair hh (WalksT.enumerate hh _ _ l (Nat.succ_ne_self _) (up _ a1 1) (up _ a1 0) xs) (fun i vals h => by obtain ⟨t, x, _, rfl⟩ := h; exact ⟨_, x, rfl⟩) hxi hxc hp) ?_ ?_ ?_ ?_ ⟨⟨_, he⟩, hit, hl1.at fun o e => hk l o e⟩
    ⟨F.ns.keeps hk, fun b o e => hk b o (F.keep b o e), F.above⟩ (fun p hp => ⟨hk _ _ (N p hp).1, (N p hp).2⟩) J h0 ?_ ?_
  · rintro i h ⟨⟨_, q1⟩, ⟨_, q4, q4', _⟩, _⟩ b hb
    simp only [List.mem_cons, List.not_mem_nil, or_false] at hb
    rcases hb with rfl | rfl
    · exact ⟨_, q1, by show Value.type "enumerate" ∈ loopCl; simp [loopCl]⟩
    · exact ⟨_, q4, by rw [q4']; simp [loopCl]⟩
  · intro hm
    simp only [List.mem_cons, List.not_mem_nil, or_false] at hm
    rcases hm with e | e | e
    · exact up _ hLs 1 e
    · exact up _ hLs 0 e
    · exact (N _ h1).2.1 e.symm
  · intro b hb
    simp only [List.mem_cons, List.not_mem_nil, or_false] at hb
    rcases hb with rfl | rfl
    · exact nw 1
    · exact nw 0
  · intro p hp hm
    have hq := Heap.lt_size (N p hp).1
    simp only [List.mem_cons, List.not_mem_nil, or_false] at hm
    rcases hm with e | e
    · exact up _ hq 1 e
    · exact up _ hq 0 e
  · rintro i _ m₁ news₁ h₁ tk₁ own hi ⟨v0, v1, ⟨t, x, hx, hv⟩, rfl⟩ hJ hnw hfp hfr F₁ N₁
    obtain ⟨rfl, rfl⟩ : v0 = .int i t ∧ v1 = x := by simpa using hv
    exact wpAny_passesOwn hE (step i t v1 m₁ news₁ h₁ tk₁ own _ hx hJ hnw hfr (fun p hp => by
      have := hfp p hp
      simp only [List.mem_cons, List.not_mem_nil, or_false] at this ⊢
      rcases this with e | e | e
      · exact .inl (.inl e)
      · exact .inl (.inr e)
      · exact .inr e) F₁ N₁)
  · intro h'' tk m' news' F' N' hJ
    exact hQ h'' tk m' news' F' N' hJ
theorem list_loop {Q : Flow → Shared → Prop} {x : Str} {px : Pos} {body : List Stmt} {l : Addr} {xs : Array Value} {n1 : Nat} {m : Str → Option Value} {news : List (Addr × Obj)} (hh : A.handled = none)
    (F : Fr h₀ env.locals s.heap m) (N : News h₀ env.locals s.heap news) (h1 : (l, W.listOf xs n1) ∈ news) (hx : env.kindOf x = some .local)
    (hp : (env.scope.kind == .class || (env.scope.kind == .module && env.locals != env.globals)) = false)
    (J : Nat → (Str → Option Value) → List (Addr × Obj) → Prop) (h0 : J 0 m news)
    (step : ∀ (i : Nat) (v : Value) m₁ news₁ h₁ tk₁ own wr, xs[i]? = some v → J i m₁ news₁ → (∀ p ∈ news₁, p.1 ∉ wr) → FreeOf wr own loopCl → (∀ p ∈ own, p.1 ∈ wr ∨ p.1 = l) →
      Fr h₀ env.locals h₁ (fun q => if q = x then some v else m₁ q) → News h₀ env.locals h₁ (news₁ ++ own) →
      wpAny (model prog w) A (execs body env) (EndA h₀ env.locals wr own (J (i + 1)) { s with heap := h₁, toks := tk₁ }) E { s with heap := h₁, toks := tk₁ })
    (hQ : ∀ h' tk m' news', Fr h₀ env.locals h' m' → News h₀ env.locals h' news' → J xs.size m' news' → Q .next { s with heap := h', toks := tk })
    (hE : PassesOwn (model prog w) A env E := by passes_own) :
    wpAny (model prog w) A (pyIter (.ref l)) (fun it s₂ => codeAny (model prog w) A (.forLoop (.Name x px) it body [] env) (ForR prog w A env Q E) s₂) E s := by
  have hl1 : s.heap.IsList l xs := ⟨_, (N _ h1).1, rfl, _, rfl⟩
  have a1 : l < s.heap.objs.size := Heap.lt_size (N _ h1).1
  have hLs : env.locals < s.heap.objs.size := F.ns.lt
  have hk : ∀ b o, s.heap.get? b = some o → (s.heap.push { cls := .type "list_iterator", data := .fields #[.ref l, .int 0 0] }).get? b = some o := fun b o e => Heap.get?_push_of_some _ e
  refine wpAny_pyIter_list hl1 ?_
  refine codeA_forLoop (s := { s with heap := _ }) (cl := loopCl) (TurnOf.name (Walks.list hh s.heap.objs.size l (Nat.ne_of_lt a1) xs) hx hp) ?_ ?_ ?_ ?_ ⟨⟨_, Heap.get?_push_size _ rfl, rfl, rfl⟩, hl1.at fun o e => hk l o e⟩
    (F.push _) (fun p hp => ⟨hk _ _ (N p hp).1, (N p hp).2⟩) J h0 ?_ ?_
  · rintro i h ⟨⟨_, q4, q4', _⟩, _⟩ b hb
    rw [List.mem_singleton.mp hb]
    exact ⟨_, q4, by rw [q4']; simp [loopCl]⟩
  · intro hm
    simp only [List.mem_cons, List.not_mem_nil, or_false] at hm
    rcases hm with e | e
    · exact Nat.ne_of_lt hLs e
    · exact (N _ h1).2.1 e.symm
  · intro b hb
    rw [List.mem_singleton.mp hb]
    exact Heap.get?_none_of_le (Nat.le_trans F.above (Nat.le_of_lt hLs))
  · intro p hp hm
    exact Nat.ne_of_lt (Heap.lt_size (N p hp).1) (List.mem_singleton.mp hm)
  · rintro i _ m₁ news₁ h₁ tk₁ own hi ⟨v, hv, rfl⟩ hJ hnw hfp hfr F₁ N₁
    exact wpAny_passesOwn hE (step i v m₁ news₁ h₁ tk₁ own _ hv hJ hnw hfr (fun p hp => by
      have := hfp p hp
      simp only [List.mem_cons, List.not_mem_nil, or_false] at this ⊢
      exact this) F₁ N₁)
  · intro h'' tk m' news' F' N' hJ
    exact hQ h'' tk m' news' F' N' hJ
/-- append to a list of the ledger -/
theorem append_led {L l : Addr} {xs : Array Value} {n : Nat} {x : Value} {m : Str → Option Value} {news : List (Addr × Obj)} {Q : Value → Shared → Prop} (F : Fr h₀ L s.heap m) (N : News h₀ L s.heap news) (hm : (l, W.listOf xs n) ∈ news) (hsz : xs.size ≤ 1000)
    (h : ∀ h' n', Fr h₀ L h' m → News h₀ L h' ((l, W.listOf (xs.push x) n') :: news.filter fun p => decide (p.1 ≠ l)) → Q .none { s with heap := h' }) :
    wpAny (model prog w) A (call (.builtin "list.append") [.ref l, x]) Q E s := by
  have z := N _ hm
  refine wpAny_list_append_plain (hsz := by rw [sizeLine_eq]; omega) ⟨n, z.1⟩ fun h' hl hs => ?_
  obtain ⟨n', hl⟩ := hl
  have nl : ∀ b o, h₀.get? b = some o → b ≠ l := fun b o e q => by rw [q, z.2.2] at e; cases e
  refine h h' n' ⟨F.ns.at' fun o e => hs.extBut _ o (fun q => z.2.1 q.symm) e, fun b o e => hs.extBut b o (nl b o e) (F.keep b o e), F.above⟩ fun p hp => ?_
  rcases List.mem_cons.mp hp with rfl | hp
  · exact ⟨hl, z.2⟩
  · obtain ⟨hp, hne⟩ := List.mem_filter.mp hp
    exact ⟨hs.extBut _ _ (by simpa using hne) (N p hp).1, (N p hp).2⟩
theorem mem_offL {news : List (Addr × Obj)} {l : Addr} {p : Addr × Obj} (h : p ∈ news) (hne : p.1 ≠ l) : p ∈ news.filter fun p => decide (p.1 ≠ l) := List.mem_filter.mpr ⟨h, by simpa using hne⟩
end
end Mine
end
section
theorem Mine.off_Ta : True := by
  w_top off
  trivial
open PySem PySem.W PyProof.Rows
set_option Elab.async false
set_option linter.unusedVariables false
set_option linter.unusedSimpArgs false
set_option maxRecDepth 100000
namespace Mine

open PyProof.V PySem.Calls PySem.Spec
local macro_rules | `(tactic| k_all) => `(tactic| with_reducible assumption)
local macro_rules | `(tactic| k_mem) => `(tactic| assumption)
def innerBody (K : Frag) (a : Addr) (i j : Nat) : List Stmt := match (forBody K a i)[j]? with
  | some (.For _ _ b _ _) => b
  | _ => []
def mB (P G R : Addr) (vp vl vr va vo : Option Value) : Str → Option Value := fun y =>
  if y = Str.ofString "one" then vo else if y = Str.ofString "at" then va else if y = Str.ofString "row" then vr else if y = Str.ofString "last" then vl else if y = Str.ofString "part" then vp else
  if y = Str.ofString "rows" then some (.ref R) else [(Str.ofString "parts", Value.ref P), (Str.ofString "goal", Value.ref G)].reverse.lookup y
theorem mB_up {P G R : Addr} {vp vl vr va vo : Option Value} {a o : Value} : mB P G R vp vl vr (some a) (some o) =
    (fun y => if y = Str.ofString "one" then some o else if y = Str.ofString "at" then some a else mB P G R vp vl vr va vo y) := by
  funext y
  unfold mB
  split
  · rfl
  · split
    · rfl
    · rfl
def bitsOf (bs : List Bool) (n : Nat) : Obj := W.listOf (bs.map Value.bool).toArray n
def nextBit (k z i : Nat) (vals lst : List Bool) : Bool := if k = 1 then (vals.getD i false || lst.getD (i + 1) false) else (lst.getD i false && (k == 0 || k == z))
theorem bits_at {bs : List Bool} {i : Nat} (h : i < bs.length) : ((bs.map Value.bool).toArray)[((i : Int)).toNat]? = some (.bool (bs.getD i false)) := by
  simp [List.getD_eq_getElem?_getD, h]
theorem bits_at1 {bs : List Bool} {i : Nat} (h : i + 1 < bs.length) : ((bs.map Value.bool).toArray)[((i : Int) + 1).toNat]? = some (.bool (bs.getD (i + 1) false)) := bits_at (i := i + 1) h
theorem bits_push {bs : List Bool} {b : Bool} : ((bs.map Value.bool).toArray).push (.bool b) = ((bs ++ [b]).map Value.bool).toArray := by simp

local macro_rules | `(tactic| walk_at "subscriptTail Name Name ref int") => `(tactic| (k_here; refine stop_on ?_))
local macro_rules | `(tactic| walk_at "subscriptTail Name BinOp ref int") => `(tactic| (k_here; refine stop_on ?_))
local macro_rules | `(tactic| walk_at "call builtin:list.append") => `(tactic| (k_here; refine stop_on ?_))
set_option maxHeartbeats 2000000 in
theorem table_turn : ∀ {w : World} {mean : ExcName → Option Value} {mg mb : Str → Option Value}
  (dp un : Nat) (gd : Option (List Code)) (cn : Str) (cs : Scope) (a : Addr) (ccd : Value) (cl : List (Str × Addr)) (outer : List Env) (A₀ : Around) (base h₀ : Heap) (L : Addr) (m : Str → Option Value) (s : Shared) (Q E : Value → Shared → Prop)
  (L1 : Addr) (P G R Lst Rw : Addr) (va vo : Option Value) (k z i : Nat) (tkk ti tz : Tok) (vals lst : List Bool) (nL nR : Nat) (news own : List (Addr × Obj)) (wr : List Addr) (J : (Str → Option Value) → List (Addr × Obj) → Prop)
  (B : Below (ktrTop dp un gd cn cs L a ccd cl outer) base (envX cn cs L a ccd cl :: outer) h₀) (F : Fr h₀ L1 s.heap (fun y => if y = Str.ofString "one" then some (.int (z : Int) tz) else if y = Str.ofString "at" then some (.int (i : Int) ti) else mB P G R (some (.int (k : Int) tkk)) (some (.ref Lst)) (some (.ref Rw)) va vo y)) (X : (hd.heap_39 (World.params w)).In h₀) (N : News h₀ L1 s.heap news) (T : Top hd.view_39 (looseW hd.view_39 [Str.ofString "SINGLE_WILDCARD", Str.ofString "MULTI_WILDCARD", Str.ofString "DEFAULT_FIRST_ELEMENT", Str.ofString "_path_to_elements", Str.ofString "_WILDCARD_RE"]) mean mg mb h₀)
  (hdp : dp + 40 < recursionLimit) (hun : un + 300 < cLine) (hL : (Lst, bitsOf lst nL) ∈ news) (hR : (Rw, bitsOf vals nR) ∈ news) (hi : i + 1 < lst.length) (hv : i < vals.length) (hll : lst.length ≤ 6) (hvl : vals.length ≤ 6)
  (hend : ∀ h' tk' n', Fr h₀ L1 h' (mB P G R (some (.int (k : Int) tkk)) (some (.ref Lst)) (some (.ref Rw)) (some (.int (i : Int) ti)) (some (.int (z : Int) tz))) → News h₀ L1 h' ((Rw, bitsOf (vals ++ [nextBit k z i vals lst]) n') :: news.filter fun p => decide (p.1 ≠ Rw)) → EndA h₀ L1 wr own J s .next { s with heap := h', toks := tk' }),
  wpAny (model (RowW.prog (OpenRow.toRowW (OpenLaw.row PySem.Challenge.rw_fu0002_01))) w) ((ktrTop dp un gd cn cs L a ccd cl outer).deeper (envOf (Str.ofString "_law_table") (scopeOf (hd.heap_39 (World.params w)) 196) L1 196 (.ref 195))) (execs (innerBody (hd.heap_39 (World.params w)) 196 1 2) (envOf (Str.ofString "_law_table") (scopeOf (hd.heap_39 (World.params w)) 196) L1 196 (.ref 195))) (EndA h₀ L1 wr own J s) E s := by
  intro w mean mg mb dp un gd cn cs a ccd cl outer A₀ base h₀ L m s Q E L1 P G R Lst Rw va vo k z i tkk ti tz vals lst nL nR news own wr J B F X N T hdp hun hL hR hi hv hll hvl hend
  revert X
  k_fill
  intro X
  conv in (innerBody _ _ _ _) => whnf
  repeat (conv in (scopeOf _ _) => whnf)
  have F9 := F
  unfold mB at F9
  have N1 : News h₀ L1 s.heap ((Rw, W.listOf (vals.map Value.bool).toArray nR) :: (Lst, W.listOf (lst.map Value.bool).toArray nL) :: news) := fun p hp => by
    rcases List.mem_cons.mp hp with rfl | hp
    · exact N _ hR
    · rcases List.mem_cons.mp hp with rfl | hp
      · exact N _ hL
      · exact N _ hp
  k_steps
  · rename ((k : Int) = 1) => hk1
    have hk1 : k = 1 := by omega
    show wpAny _ _ _ _ _ _
    refine item_list (s := ⟨_, _, _, _, _⟩) ⟨_, (N _ hR).1, rfl, _, rfl⟩ (by omega) (by omega) (bits_at hv) ?_
    generalize hb : vals.getD i false = b1
    cases b1
    · k_steps
      show wpAny _ _ _ _ _ _
      refine item_list (s := ⟨_, _, _, _, _⟩) ⟨_, (N _ hL).1, rfl, _, rfl⟩ (by omega) (by omega) (bits_at1 hi) ?_
      generalize hb2 : lst.getD (i + 1) false = b2
      k_steps
      have hnb : nextBit k z i vals lst = b2 := by unfold nextBit; rw [if_pos hk1, hb, hb2]; rfl
      show wpAny _ _ _ _ _ _
      refine append_led (s := ⟨_, _, _, _, _⟩) F N hR (by simp; omega) ?_
      intro h' n' F' N'
      rw [hnb] at hend
      k_steps
      refine hend h' _ n' (by rw [mB_up]; exact F') ?_
      unfold bitsOf
      rw [← bits_push]
      exact N'
    · k_steps
      have hnb : nextBit k z i vals lst = true := by unfold nextBit; rw [if_pos hk1, hb]; rfl
      show wpAny _ _ _ _ _ _
      refine append_led (s := ⟨_, _, _, _, _⟩) F N hR (by simp; omega) ?_
      intro h' n' F' N'
      rw [hnb] at hend
      k_steps
      refine hend h' _ n' (by rw [mB_up]; exact F') ?_
      unfold bitsOf
      rw [← bits_push]
      exact N'
  · rename ((k : Int) ≠ 1) => hk1
    have hk1 : k ≠ 1 := by omega
    show wpAny _ _ _ _ _ _
    refine item_list (s := ⟨_, _, _, _, _⟩) ⟨_, (N _ hL).1, rfl, _, rfl⟩ (by omega) (by omega) (bits_at (show i < lst.length by omega)) ?_
    generalize hb : lst.getD i false = b1
    cases b1
    · k_steps
      have hnb : nextBit k z i vals lst = false := by unfold nextBit; rw [if_neg hk1, hb]; rfl
      show wpAny _ _ _ _ _ _
      refine append_led (s := ⟨_, _, _, _, _⟩) F N hR (by simp; omega) ?_
      intro h' n' F' N'
      rw [hnb] at hend
      k_steps
      refine hend h' _ n' (by rw [mB_up]; exact F') ?_
      unfold bitsOf
      rw [← bits_push]
      exact N'
    · k_steps
      · rename ((k : Int) = 0) => hk0
        have hnb : nextBit k z i vals lst = ((k : Int) == 0) := by unfold nextBit; rw [if_neg hk1, hb, show k = 0 from (by omega)]; rfl
        show wpAny _ _ _ _ _ _
        refine append_led (s := ⟨_, _, _, _, _⟩) F N hR (by simp; omega) ?_
        intro h' n' F' N'
        rw [hnb] at hend
        k_steps
        refine hend h' _ n' (by rw [mB_up]; exact F') ?_
        unfold bitsOf
        rw [← bits_push]
        exact N'
      · have hnb : nextBit k z i vals lst = ((k : Int) == (z : Int)) := by unfold nextBit; rw [if_neg hk1, hb]; rw [show (k == 0) = false from beq_false_of_ne (by omega), Bool.true_and, Bool.false_or, Bool.eq_iff_iff]; simp only [beq_iff_eq]; omega
        show wpAny _ _ _ _ _ _
        refine append_led (s := ⟨_, _, _, _, _⟩) F N hR (by simp; omega) ?_
        intro h' n' F' N'
        rw [hnb] at hend
        k_steps
        refine hend h' _ n' (by rw [mB_up]; exact F') ?_
        unfold bitsOf
        rw [← bits_push]
        exact N'
end Mine
end
section
theorem Mine.off_Tb : True := by
  w_top off
  trivial
open PySem PySem.W PyProof.Rows
set_option Elab.async false
set_option linter.unusedVariables false
set_option linter.unusedSimpArgs false
set_option maxRecDepth 100000
namespace Mine

open PyProof.V PySem.Calls PySem.Spec
local macro_rules | `(tactic| k_all) => `(tactic| with_reducible assumption)
local macro_rules | `(tactic| k_mem) => `(tactic| assumption)
noncomputable def rowOf (p goal : List Nat) : List Bool := (List.range (goal.length + 1)).map (tab p goal)
theorem row_len {p goal : List Nat} : (rowOf p goal).length = goal.length + 1 := by simp [rowOf]
theorem row_getD {p goal : List Nat} {j : Nat} (h : j ≤ goal.length) : (rowOf p goal).getD j false = tab p goal j := by
  unfold rowOf
  rw [List.getD_eq_getElem?_getD, List.getElem?_map, List.getElem?_range (by omega)]
  rfl
theorem row_get? {p goal : List Nat} {j : Nat} (h : j ≤ goal.length) : (rowOf p goal)[j]? = some (tab p goal j) := by
  unfold rowOf
  rw [List.getElem?_map, List.getElem?_range (by omega)]
  rfl
theorem row_zero {goal : List Nat} : rowOf [] goal = true :: List.replicate goal.length false := by
  unfold rowOf
  apply List.ext_getElem?
  intro j
  rw [List.getElem?_map]
  rcases Nat.lt_or_ge j (goal.length + 1) with h | h
  · rw [List.getElem?_range h]
    show some (tab [] goal j) = _
    rw [tab_nil (by omega)]
    cases j with
    | zero => rfl
    | succ j => rw [List.getElem?_cons_succ, List.getElem?_replicate, if_pos (by omega)]; rfl
  · rw [List.getElem?_eq_none (by simpa using h), List.getElem?_eq_none (by simp; omega)]
    rfl
theorem row_first {p goal : List Nat} {k : Nat} : (rowOf (p ++ [k]) goal).take 1 = [if k = 1 then (rowOf p goal).getD 0 false else false] := by
  have h : (rowOf (p ++ [k]) goal).take 1 = [tab (p ++ [k]) goal 0] := by
    unfold rowOf
    rw [List.range_succ_eq_map]
    rfl
  rw [h, row_getD (Nat.zero_le _)]
  split
  · next e => subst e; rw [tab_run0]
  · next e => rw [tab_one0 e]
theorem row_next {p goal : List Nat} {k j z : Nat} (hj : goal[j]? = some z) : (rowOf (p ++ [k]) goal).take (j + 2) = (rowOf (p ++ [k]) goal).take (j + 1) ++ [nextBit k z j ((rowOf (p ++ [k]) goal).take (j + 1)) (rowOf p goal)] := by
  have hl : j < goal.length := (List.getElem?_eq_some_iff.mp hj).1
  rw [take_snoc (i := j + 1) (row_get? (by omega))]
  congr 2
  have hz : goal[j] = z := (List.getElem?_eq_some_iff.mp hj).2
  unfold nextBit
  have ht : ((rowOf (p ++ [k]) goal).take (j + 1)).getD j false = tab (p ++ [k]) goal j := by
    rw [List.getD_eq_getElem?_getD, List.getElem?_take, if_pos (by omega), ← List.getD_eq_getElem?_getD, row_getD (by omega)]
  rw [ht, row_getD (by omega), row_getD (by omega)]
  split
  · next e => subst e; rw [tab_run hl]
  · next e => rw [tab_one e hl, hz]
theorem item_lastS {prog : Program} {w : World} {A : Around} {E : Value → Shared → Prop} {s : Shared} {value slice : PySem.Expr} {l : Addr} {items : Array Value} {u : Tok} {x : Value} {Q : Value → Shared → Prop} (hl : s.heap.IsList l items)
    (h1 : 0 < items.size) (hx : items[items.size - 1]? = some x) (h : Q x s)
    (hs : subscripted slice false (.ref l) (.int (-1) u) = operate [.ref l, .int (-1) u] (getItem (.ref l) (.int (-1) u)) := by with_unfolding_all rfl) (hg : ∀ r, letTemporaryGo value (.ref l) r = pure () := by intro _; with_unfolding_all rfl) :
    wpAny (model prog w) A (subscriptTail value slice (.ref l) (.int (-1) u)) Q E s :=
  subscriptTail_builtin hl.typeIs slot_list_getitem.lookup (wpAny_getItem_list_neg hl (by decide) (by omega) (by decide) (by rw [show ((-1 : Int) + (items.size : Int)).toNat = items.size - 1 by omega]; exact hx) h) hs hg
def TableJ (P G R : Addr) (ps goal : List Nat) (news : List (Addr × Obj)) (i : Nat) (m : Str → Option Value) (news' : List (Addr × Obj)) : Prop :=
  ∃ (vp vl vr va vo : Option Value) (rs : List Addr) (nR : Nat), m = mB P G R vp vl vr va vo ∧ rs.length = i + 1 ∧ (R, W.listOf (rs.map Value.ref).toArray nR) ∈ news' ∧ (∀ (j : Nat) (r : Addr), rs[j]? = some r → r ≠ R ∧ ∃ n, (r, bitsOf (rowOf (ps.take j) goal) n) ∈ news') ∧ ∀ q ∈ news, q ∈ news'
def InJ (P G R Lst Rw : Addr) (k : Nat) (tkk : Tok) (p goal : List Nat) (W0 : List (Addr × Obj)) (j : Nat) (m : Str → Option Value) (news' : List (Addr × Obj)) : Prop :=
  ∃ (va vo : Option Value) (n' : Nat), m = mB P G R (some (.int (k : Int) tkk)) (some (.ref Lst)) (some (.ref Rw)) va vo ∧ (Rw, bitsOf ((rowOf (p ++ [k]) goal).take (j + 1)) n') ∈ news' ∧ ∀ q ∈ W0, q.1 ≠ Rw → q ∈ news'
theorem mB_row {P G R : Addr} {vp vl vr va vo : Option Value} {k l r : Value} : mB P G R (some k) (some l) (some r) va vo =
    (fun y => if y = Str.ofString "row" then some r else if y = Str.ofString "last" then some l else if y = Str.ofString "part" then some k else mB P G R vp vl vr va vo y) := by
  funext y
  unfold mB
  by_cases h1 : y = Str.ofString "row"
  · subst h1; rfl
  · by_cases h2 : y = Str.ofString "last"
    · subst h2; rfl
    · by_cases h3 : y = Str.ofString "part"
      · subst h3; rfl
      · simp only [h1, h2, h3, if_false]
theorem intsAtNat {gs : List Value} {goal : List Nat} (h : IntsAre gs (goal.map fun (k : Nat) => (k : Int))) {j : Nat} {v : Value} (hv : gs[j]? = some v) : ∃ (t : Tok) (z : Nat), v = .int (z : Int) t ∧ goal[j]? = some z := by
  obtain ⟨t, z, rfl, hz⟩ := intsAt h j v hv
  rw [List.getElem?_map] at hz
  obtain ⟨z', hz1, hz2⟩ := Option.map_eq_some_iff.mp hz
  exact ⟨t, z', by rw [← hz2], hz1⟩

local macro_rules | `(tactic| walk_at "subscriptTail Name UnaryOp ref int") => `(tactic| (k_here; refine stop_on ?_))
local macro_rules | `(tactic| walk_at "subscriptTail Name Constant ref int") => `(tactic| (k_here; refine stop_on ?_))
local macro_rules | `(tactic| walk_at "call builtin:list.append") => `(tactic| (k_here; refine stop_on ?_))
set_option maxHeartbeats 2000000 in
theorem table_tail : ∀ {w : World} {mean : ExcName → Option Value} {mg mb : Str → Option Value}
  (dp un : Nat) (gd : Option (List Code)) (cn : Str) (cs : Scope) (a : Addr) (ccd : Value) (cl : List (Str × Addr)) (outer : List Env) (A₀ : Around) (base h₀ : Heap) (L : Addr) (m : Str → Option Value) (s : Shared) (Q E : Value → Shared → Prop)
  (L1 : Addr) (P G R : Addr) (i k : Nat) (tkk : Tok) (vp vl vr va vo : Option Value) (ps goal : List Nat) (gs : List Value) (nG nR : Nat) (rs : List Addr) (news news₁ own : List (Addr × Obj)) (wr : List Addr) (Lst Rw : Addr) (nL nW : Nat) (h1 : Heap) (tk1 : Nat) (W0 : List (Addr × Obj))
  (B : Below (ktrTop dp un gd cn cs L a ccd cl outer) base (envX cn cs L a ccd cl :: outer) h₀) (F : Fr h₀ L1 h1 (mB P G R (some (.int (k : Int) tkk)) (some (.ref Lst)) (some (.ref Rw)) va vo)) (X : (hd.heap_39 (World.params w)).In h₀) (N : News h₀ L1 h1 W0) (T : Top hd.view_39 (looseW hd.view_39 [Str.ofString "SINGLE_WILDCARD", Str.ofString "MULTI_WILDCARD", Str.ofString "DEFAULT_FIRST_ELEMENT", Str.ofString "_path_to_elements", Str.ofString "_WILDCARD_RE"]) mean mg mb h₀)
  (hdp : dp + 60 < recursionLimit) (hun : un + 400 < cLine) (hG : (G, W.listOf gs.toArray nG) ∈ news) (hgs : IntsAre gs (goal.map fun (k : Nat) => (k : Int))) (hgl : goal.length ≤ 5) (hpl : ps.length ≤ 5) (hk : ps[i]? = some k)
  (hRn : ∀ q ∈ news, q.1 ≠ R) (hrl : rs.length = i + 1) (hR : (R, W.listOf (rs.map Value.ref).toArray nR) ∈ news₁) (hrs : ∀ (j : Nat) (r : Addr), rs[j]? = some r → r ≠ R ∧ ∃ n, (r, bitsOf (rowOf (ps.take j) goal) n) ∈ news₁) (hsub : ∀ q ∈ news, q ∈ news₁) (hnw : ∀ p ∈ news₁, p.1 ∉ wr) (hfr : FreeOf wr own loopCl) (hown : ∀ p ∈ own, p.1 ∈ wr ∨ p.1 = P) (hPn : ∃ o, (P, o) ∈ news) (hLst : rs[i]? = some Lst) (hLR : Lst ≠ R) (hL : (Lst, bitsOf (rowOf (ps.take i) goal) nL) ∈ W0) (hW : (Rw, bitsOf ((rowOf (ps.take i ++ [k]) goal).take 1) nW) ∈ W0) (hW0 : ∀ p ∈ news₁ ++ own, p ∈ W0) (hWf : ∀ p ∈ news₁ ++ own, p.1 ≠ Rw)
  (hE : PassesOwn (model (RowW.prog (OpenRow.toRowW (OpenLaw.row PySem.Challenge.rw_fu0002_01))) w) ((ktrTop dp un gd cn cs L a ccd cl outer).deeper (envOf (Str.ofString "_law_table") (scopeOf (hd.heap_39 (World.params w)) 196) L1 196 (.ref 195))) (envOf (Str.ofString "_law_table") (scopeOf (hd.heap_39 (World.params w)) 196) L1 196 (.ref 195)) E),
  wpAny (model (RowW.prog (OpenRow.toRowW (OpenLaw.row PySem.Challenge.rw_fu0002_01))) w) ((ktrTop dp un gd cn cs L a ccd cl outer).deeper (envOf (Str.ofString "_law_table") (scopeOf (hd.heap_39 (World.params w)) 196) L1 196 (.ref 195))) (execs ((forBody (hd.heap_39 (World.params w)) 196 1).drop 2) (envOf (Str.ofString "_law_table") (scopeOf (hd.heap_39 (World.params w)) 196) L1 196 (.ref 195))) (EndA h₀ L1 wr own (TableJ P G R ps goal news (i + 1)) s) E { s with heap := h1, toks := tk1 } := by
  intro w mean mg mb dp un gd cn cs a ccd cl outer A₀ base h₀ L m s Q E L1 P G R i k tkk vp vl vr va vo ps goal gs nG nR rs news news₁ own wr Lst Rw nL nW h1 tk1 W0 B F X N T hdp hun hG hgs hgl hpl hk hRn hrl hR hrs hsub hnw hfr hown hPn hLst hLR hL hW hW0 hWf hE
  revert X
  k_fill
  intro X
  conv in (List.drop _ _) => whnf
  repeat (conv in (scopeOf _ _) => whnf)
  have F9 := F
  unfold mB at F9
  refine execs_stop ?_
  refine wpAny_For ?_
  k_steps
  have hGW := hW0 _ (List.mem_append_left _ (hsub _ hG))
  have hLne : Lst ≠ Rw := hWf (Lst, _) (List.mem_append_left _ (hrs i Lst hLst).2.choose_spec)
  have hGne : G ≠ Rw := hWf (G, _) (List.mem_append_left _ (hsub _ hG))
  have hRne : R ≠ Rw := hWf (R, _) (List.mem_append_left _ hR)
  refine enum_loop (s := ⟨_, _, _, _, _⟩) (h₀ := h₀) rfl F N hGW (by rfl) (by rfl) (by rfl) (InJ P G R Lst Rw k tkk (ps.take i) goal W0) ⟨va, vo, nW, rfl, hW, fun q hq _ => hq⟩ ?_ ?_
  · intro j t x m₂ news₂ h₂ tk₂ own₂ wr₂ hx hJ hnw₂ hfr₂ hown₂ F₂ N₂
    obtain ⟨va', vo', n', rfl, hW', hk'⟩ := hJ
    obtain ⟨tz, z, rfl, hz⟩ := intsAtNat hgs (by simpa using hx)
    have hjl : j < goal.length := (List.getElem?_eq_some_iff.mp hz).1
    have hRw₂ : Rw ∉ wr₂ := hnw₂ _ hW'
    refine table_turn _ _ _ _ _ _ _ _ _ A₀ _ _ L m _ Q _ L1 P G R Lst Rw va' vo' k z j tkk t tz ((rowOf (ps.take i ++ [k]) goal).take (j + 1)) (rowOf (ps.take i) goal) nL n' _ own₂ wr₂ _ B F₂ X N₂ T (by omega) (by omega)
      (List.mem_append_left _ (hk' _ hL hLne)) (List.mem_append_left _ hW') (by rw [row_len]; omega) (by rw [List.length_take, row_len]; omega) (by rw [row_len]; omega) (by rw [List.length_take, row_len]; omega) ?_
    intro h' tk' n'' F' N'
    refine ⟨rfl, h', tk', _, _, rfl, F', N', fun p hp => .tail _ (mem_offL (List.mem_append_right _ hp) ?_), _, _, n'', rfl, ?_, fun q hq hne => ?_⟩
    · rcases hown₂ p hp with e | e
      · exact fun q => hRw₂ (q ▸ e)
      · rw [e]; exact hGne
    · rw [show j + 1 + 1 = j + 2 from rfl, row_next hz]
      exact mem_free (.head _) hRw₂
    · exact mem_free (.tail _ (mem_offL (List.mem_append_left _ (hk' q hq hne)) hne)) (hnw₂ _ (hk' q hq hne))
  · intro h₂ tk₂ m₂ news₂ F₂ N₂ hJ
    obtain ⟨va', vo', n', rfl, hW', hk'⟩ := hJ
    have hgl' : gs.toArray.size = goal.length := by
      have := PyProof.Rows.IntsAre.length hgs
      simpa using this
    rw [hgl', List.take_of_length_le (by rw [row_len]; exact Nat.le_refl _)] at hW'
    have F₉ := F₂
    unfold mB at F₉
    have hRm₂ := hk' _ (hW0 _ (List.mem_append_left _ hR)) hRne
    have N₉ : News h₀ L1 h₂ ((R, W.listOf (rs.map Value.ref).toArray nR) :: news₂) := fun p hp => by
      rcases List.mem_cons.mp hp with rfl | hp
      · exact N₂ _ hRm₂
      · exact N₂ _ hp
    dsimp only
    unfold Stop
    refine execs_stop ?_
    k_steps
    show wpAny _ _ _ _ _ _
    refine append_led (s := ⟨_, _, _, _, _⟩) F₂ N₂ hRm₂ (by simp only [List.size_toArray, List.length_map]; have := (List.getElem?_eq_some_iff.mp hk).1; omega) ?_
    intro h₃ n₃ F₃ N₃
    have F₈ := F₃
    unfold mB at F₈
    k_steps
    unfold Stop
    k_steps
    have hps : ps.take (i + 1) = ps.take i ++ [k] := take_snoc hk
    have hRwr : R ∉ wr := hnw _ hR
    have keep : ∀ q ∈ news₁ ++ own, q.1 ≠ R → q ∈ (R, W.listOf (((rs.map Value.ref).toArray).push (.ref Rw)) n₃) :: news₂.filter fun p => decide (p.1 ≠ R) := fun q hq hne =>
      .tail _ (mem_offL (hk' q (hW0 q hq) (hWf q hq)) hne)
    have hRwm : (Rw, bitsOf (rowOf (ps.take i ++ [k]) goal) n') ∈ (R, W.listOf (((rs.map Value.ref).toArray).push (.ref Rw)) n₃) :: news₂.filter fun p => decide (p.1 ≠ R) := .tail _ (mem_offL hW' (Ne.symm hRne))
    have hPR : P ≠ R := hRn (P, hPn.choose) hPn.choose_spec
    have ho : ∀ p ∈ own, p ∈ (R, W.listOf (((rs.map Value.ref).toArray).push (.ref Rw)) n₃) :: news₂.filter fun p => decide (p.1 ≠ R) := fun p hp => keep p (List.mem_append_right _ hp) (by
      rcases hown p hp with e | e
      · exact fun q => hRwr (q ▸ e)
      · rw [e]; exact hPR)
    have hRwf : Rw ∉ wr := hfr.not N₃ ho hRwm (p := (Rw, _)) (by show Value.type "list" ∉ loopCl; simp [loopCl])
    refine ⟨rfl, h₃, _, _, _, rfl, F₃, N₃, ho, _, _, _, _, _, rs ++ [Rw], n₃, rfl, by simp [hrl], ?_, ?_, fun q hq => mem_free (keep q (List.mem_append_left _ (hsub q hq)) (hRn q hq)) (hnw _ (hsub q hq))⟩
    · refine mem_free ?_ hRwr
      rw [show ((rs ++ [Rw]).map Value.ref).toArray = ((rs.map Value.ref).toArray).push (.ref Rw) by simp]
      exact .head _
    · intro j r hr
      rcases Nat.lt_or_ge j (i + 1) with hj | hj
      · rw [List.getElem?_append_left (by omega)] at hr
        obtain ⟨a1, n1, a2⟩ := hrs j r hr
        exact ⟨a1, n1, mem_free (keep _ (List.mem_append_left _ a2) a1) (hnw _ a2)⟩
      · rw [List.getElem?_append_right (by omega)] at hr
        have hj2 : j - rs.length = 0 := by
          have := (List.getElem?_eq_some_iff.mp hr).1
          simp at this; omega
        rw [hj2] at hr
        have hr : Rw = r := by simpa using hr
        subst hr
        refine ⟨Ne.symm hRne, n', ?_⟩
        rw [show j = i + 1 by omega, hps]
        exact mem_free hRwm hRwf

set_option maxHeartbeats 2000000 in
theorem table_step : ∀ {w : World} {mean : ExcName → Option Value} {mg mb : Str → Option Value}
  (dp un : Nat) (gd : Option (List Code)) (cn : Str) (cs : Scope) (a : Addr) (ccd : Value) (cl : List (Str × Addr)) (outer : List Env) (A₀ : Around) (base h₀ : Heap) (L : Addr) (m : Str → Option Value) (s : Shared) (Q E : Value → Shared → Prop)
  (L1 : Addr) (P G R : Addr) (i k : Nat) (tkk : Tok) (vp vl vr va vo : Option Value) (ps goal : List Nat) (gs : List Value) (nG nR : Nat) (rs : List Addr) (news news₁ own : List (Addr × Obj)) (wr : List Addr)
  (B : Below (ktrTop dp un gd cn cs L a ccd cl outer) base (envX cn cs L a ccd cl :: outer) h₀) (F : Fr h₀ L1 s.heap (fun y => if y = Str.ofString "part" then some (.int (k : Int) tkk) else mB P G R vp vl vr va vo y)) (X : (hd.heap_39 (World.params w)).In h₀) (N : News h₀ L1 s.heap (news₁ ++ own)) (T : Top hd.view_39 (looseW hd.view_39 [Str.ofString "SINGLE_WILDCARD", Str.ofString "MULTI_WILDCARD", Str.ofString "DEFAULT_FIRST_ELEMENT", Str.ofString "_path_to_elements", Str.ofString "_WILDCARD_RE"]) mean mg mb h₀)
  (hdp : dp + 60 < recursionLimit) (hun : un + 400 < cLine) (hG : (G, W.listOf gs.toArray nG) ∈ news) (hgs : IntsAre gs (goal.map fun (k : Nat) => (k : Int))) (hgl : goal.length ≤ 5) (hpl : ps.length ≤ 5) (hk : ps[i]? = some k)
  (hRn : ∀ q ∈ news, q.1 ≠ R) (hrl : rs.length = i + 1) (hR : (R, W.listOf (rs.map Value.ref).toArray nR) ∈ news₁) (hrs : ∀ (j : Nat) (r : Addr), rs[j]? = some r → r ≠ R ∧ ∃ n, (r, bitsOf (rowOf (ps.take j) goal) n) ∈ news₁) (hsub : ∀ q ∈ news, q ∈ news₁) (hnw : ∀ p ∈ news₁, p.1 ∉ wr) (hfr : FreeOf wr own loopCl) (hown : ∀ p ∈ own, p.1 ∈ wr ∨ p.1 = P) (hPn : ∃ o, (P, o) ∈ news)
  (hE : PassesOwn (model (RowW.prog (OpenRow.toRowW (OpenLaw.row PySem.Challenge.rw_fu0002_01))) w) ((ktrTop dp un gd cn cs L a ccd cl outer).deeper (envOf (Str.ofString "_law_table") (scopeOf (hd.heap_39 (World.params w)) 196) L1 196 (.ref 195))) (envOf (Str.ofString "_law_table") (scopeOf (hd.heap_39 (World.params w)) 196) L1 196 (.ref 195)) E),
  wpAny (model (RowW.prog (OpenRow.toRowW (OpenLaw.row PySem.Challenge.rw_fu0002_01))) w) ((ktrTop dp un gd cn cs L a ccd cl outer).deeper (envOf (Str.ofString "_law_table") (scopeOf (hd.heap_39 (World.params w)) 196) L1 196 (.ref 195))) (execs (forBody (hd.heap_39 (World.params w)) 196 1) (envOf (Str.ofString "_law_table") (scopeOf (hd.heap_39 (World.params w)) 196) L1 196 (.ref 195))) (EndA h₀ L1 wr own (TableJ P G R ps goal news (i + 1)) s) E s := by
  intro w mean mg mb dp un gd cn cs a ccd cl outer A₀ base h₀ L m s Q E L1 P G R i k tkk vp vl vr va vo ps goal gs nG nR rs news news₁ own wr B F X N T hdp hun hG hgs hgl hpl hk hRn hrl hR hrs hsub hnw hfr hown hPn hE
  revert X
  k_fill
  intro X
  conv in (forBody _ _ _) => whnf
  repeat (conv in (scopeOf _ _) => whnf)
  have F9 := F
  unfold mB at F9
  refine execs_stop ?_
  k_steps
  obtain ⟨Lst, hLst⟩ : ∃ r, rs[i]? = some r := ⟨_, List.getElem?_eq_getElem (by omega)⟩
  obtain ⟨hLR, nL, hL⟩ := hrs i Lst hLst
  show wpAny _ _ _ _ _ _
  refine item_lastS (s := ⟨_, _, _, _, _⟩) ⟨_, (N _ (List.mem_append_left _ hR)).1, rfl, _, rfl⟩ (by simp only [List.size_toArray, List.length_map]; omega) (x := .ref Lst) (by rw [show ((rs.map Value.ref).toArray).size - 1 = i by simp [hrl]]; simp [hLst]) ?_
  k_steps
  unfold Stop
  refine execs_stop ?_
  k_steps
  · rename ((k : Int) = 1) => hk1
    have hk1 : k = 1 := by omega
    rename News _ _ _ _ => N7
    show wpAny _ _ _ _ _ _
    refine item_list (s := ⟨_, _, _, _, _⟩) ⟨_, (N7 _ (List.mem_append_left _ hL)).1, rfl, _, rfl⟩ (by omega) (by omega) (bits_at (i := 0) (by rw [row_len]; omega)) ?_
    generalize hb : (rowOf (ps.take i) goal).getD 0 false = b1
    k_steps
    rename (∀ p ∈ news₁ ++ own, p.1 < _) => l8
    unfold Stop
    rename Fr _ _ _ _ => F8
    rename News _ _ _ _ => N8
    refine table_tail _ _ _ _ _ _ _ _ _ A₀ _ _ L m _ Q _ L1 P G R i k tkk vp vl vr va vo ps goal gs nG nR rs news news₁ own wr Lst _ nL 0 _ _ _ B (by rw [mB_row (vp := vp) (vl := vl) (vr := vr)]; exact F8) X N8 T hdp hun hG hgs hgl hpl hk hRn hrl hR hrs hsub hnw hfr hown hPn hLst hLR (.tail _ (List.mem_append_left _ hL)) ?_ (fun p hp => .tail _ hp) (fun p hp => Nat.ne_of_lt (l8 p hp)) hE
    rw [row_first]
    rw [if_pos hk1, hb]
    exact .head _
  · rename ((k : Int) ≠ 1) => hk1
    have hk1 : k ≠ 1 := by omega
    rename (∀ p ∈ news₁ ++ own, p.1 < _) => l8
    unfold Stop
    rename Fr _ _ _ _ => F8
    rename News _ _ _ _ => N8
    refine table_tail _ _ _ _ _ _ _ _ _ A₀ _ _ L m _ Q _ L1 P G R i k tkk vp vl vr va vo ps goal gs nG nR rs news news₁ own wr Lst _ nL 0 _ _ _ B (by rw [mB_row (vp := vp) (vl := vl) (vr := vr)]; exact F8) X N8 T hdp hun hG hgs hgl hpl hk hRn hrl hR hrs hsub hnw hfr hown hPn hLst hLR (.tail _ (List.mem_append_left _ hL)) ?_ (fun p hp => .tail _ hp) (fun p hp => Nat.ne_of_lt (l8 p hp)) hE
    rw [row_first]
    rw [if_neg hk1]
    skip
    rw [← show ((k : Int) == 1) = false from beq_false_of_ne (by omega)]
    exact .head _
end Mine
end
section
theorem Mine.off_Tc : True := by
  w_top off
  trivial
open PySem PySem.W PyProof.Rows
set_option Elab.async false
set_option linter.unusedVariables false
set_option linter.unusedSimpArgs false
set_option maxRecDepth 100000
namespace Mine

open PyProof.V PySem.Calls PySem.Spec
local macro_rules | `(tactic| k_all) => `(tactic| with_reducible assumption)
local macro_rules | `(tactic| k_mem) => `(tactic| assumption)
theorem mB_zero {P G R : Addr} : mB P G R none none none none none = fun y => if y = Str.ofString "rows" then some (.ref R) else [(Str.ofString "parts", Value.ref P), (Str.ofString "goal", Value.ref G)].reverse.lookup y := by
  funext y
  unfold mB
  by_cases h1 : y = Str.ofString "one"
  · subst h1; rfl
  by_cases h2 : y = Str.ofString "at"
  · subst h2; rfl
  by_cases h3 : y = Str.ofString "row"
  · subst h3; rfl
  by_cases h4 : y = Str.ofString "last"
  · subst h4; rfl
  by_cases h5 : y = Str.ofString "part"
  · subst h5; rfl
  simp only [h1, h2, h3, h4, h5, if_false]
theorem rep_flat {α β : Type} {f : α → β} {x : α} : ∀ (n : Nat), (List.replicate n [f x]).flatten = (List.replicate n x).map f
  | 0 => rfl
  | n + 1 => by rw [List.replicate_succ, List.flatten_cons, rep_flat n, List.replicate_succ]; rfl

set_option maxHeartbeats 2000000 in
theorem table_ok : ∀ {w : World} {mean : ExcName → Option Value} {mg mb : Str → Option Value}
  (dp un : Nat) (gd : Option (List Code)) (cn : Str) (cs : Scope) (a : Addr) (ccd : Value) (cl : List (Str × Addr)) (outer : List Env) (A₀ : Around) (base h₀ : Heap) (L : Addr) (m : Str → Option Value) (s : Shared) (Q E : Value → Shared → Prop)
  (P G : Addr) (pvs gs : List Value) (ps goal : List Nat) (nP nG : Nat) (news : List (Addr × Obj))
  (B : Below A₀ base outer h₀) (F : Fr h₀ L s.heap m) (X : (hd.heap_39 (World.params w)).In h₀) (N : News h₀ L s.heap news) (T : Top hd.view_39 (looseW hd.view_39 [Str.ofString "SINGLE_WILDCARD", Str.ofString "MULTI_WILDCARD", Str.ofString "DEFAULT_FIRST_ELEMENT", Str.ofString "_path_to_elements", Str.ofString "_WILDCARD_RE"]) mean mg mb h₀) (hk : cs.kind = .function)
  (hdp : dp + 80 < recursionLimit) (hun : un + 500 < cLine)
  (hP : (P, W.listOf pvs.toArray nP) ∈ news) (hG : (G, W.listOf gs.toArray nG) ∈ news) (hps : IntsAre pvs (ps.map fun (k : Nat) => (k : Int))) (hgs : IntsAre gs (goal.map fun (k : Nat) => (k : Int))) (hpl : ps.length ≤ 5) (hgl : goal.length ≤ 5)
  (hret : ∀ h' tk' (R : Addr) (rs : List Addr) (nR : Nat) news₂, Fr h₀ L h' m → News h₀ L h' news₂ → (∀ p ∈ news, p ∈ news₂) → (R, W.listOf (rs.map Value.ref).toArray nR) ∈ news₂ → rs.length = ps.length + 1 →
    (∀ (j : Nat) (r : Addr), rs[j]? = some r → ∃ n, (r, bitsOf (rowOf (ps.take j) goal) n) ∈ news₂) → Q (.ref R) { s with heap := h', toks := tk' }),
  wpAny (model (RowW.prog (OpenRow.toRowW (OpenLaw.row PySem.Challenge.rw_fu0002_01))) w) (ktrTop dp un gd cn cs L a ccd cl outer) (call (.ref 196) [.ref P, .ref G]) Q E s := by
  intro w mean mg mb dp un gd cn cs a ccd cl outer A₀ base h₀ L m s Q E P G pvs gs ps goal nP nG news B F X N T hk hdp hun hP hG hps hgs hpl hgl hret
  revert X
  k_fill
  intro X
  refine wpAny_call ?_
  k_dflt (refine' defA ?k1 ?k2 ?k3 ?k4 ?k5 ?kA ?kF ?kK ?k6 ?k7 ?k8 ?k9 ?kB ?_ ?c2 ?c3 ?c4 ?c5; (case kA => exact rfl); (case kF => exact rfl); (case kK => assumption); (case k1 => k_asm); (case k2 => k_asm); (case k3 => k_asm); (case k4 => exact N); (case k5 => k_asm); (case k6 => k_is); (case k7 => k_is); (case k8 => ktr_room); (case k9 => first | exact BindsTo.of_eq rfl | exact binds_K (by k_in) rfl (by k_is) rfl rfl rfl); (case c5 => decide); (case kB => exact locs rfl); (case c2 => exact rfl); (case c3 => exact rfl); (case c4 => exact rfl); k_whole; intro g' L' h' F' N' B' X' T'; (try dsimp only); (try k_fold))
  clear B F X T
  have N8 : News g' L' h' ((G, W.listOf gs.toArray nG) :: news) := fun p hp => by
    rcases List.mem_cons.mp hp with rfl | hp
    · exact N' _ hG
    · exact N' _ hp
  refine execs_stop ?_
  k_steps
  rename Fr _ _ _ _ => F7
  rename News _ _ _ _ => N7
  refine KMa.mul (vs := [.bool false]) (ws := (List.replicate goal.length false).map Value.bool) F7 N7 ⟨_, (N7 _ (.head _)).1, rfl, _, rfl⟩ (by simp only [List.length_map]; omega) (by simp only [List.length_map]; omega) (by simp only [List.length_map, List.length_cons, List.length_nil]; omega) (by simp only [List.length_map]; exact rep_flat (f := Value.bool) (x := false) _) ?_
  intro D9 h9 F9 N9 l9
  k_steps
  rename (_ ∧ _ ∧ _ ∧ _ ∧ _ ∧ AllLt _ news) => l8
  rename Fr _ _ _ _ => F8
  rename News _ _ _ ((_, W.listOf #[Value.ref _] 0) :: _) => N8
  unfold Stop
  refine execs_stop ?_
  have hrow : (((rowOf (ps.take 0) goal).map Value.bool).toArray) = ([Value.bool true] ++ ((List.replicate goal.length false).map Value.bool)).toArray := by rw [List.take_zero, row_zero]; rfl
  refine wpAny_For ?_
  refine wpAny_Name (wpAny_loadName_local rfl rfl F8.ns rfl ?_) rfl
  refine list_loop (s := ⟨_, _, _, _, _⟩) (h₀ := g') rfl F8 N8 (l := P) (.tail _ (.tail _ (.tail _ (.tail _ (.tail _ (.tail _ hP)))))) (by rfl) (by rfl) (TableJ P G _ ps goal news) ⟨none, none, none, none, none, [_], 0, mB_zero.symm, rfl, .head _, fun j r hr => ?_, fun q hq => .tail _ (.tail _ (.tail _ (.tail _ (.tail _ (.tail _ hq)))))⟩ ?_ ?_
  · cases j with
    | zero =>
      simp only [List.getElem?_cons_zero, Option.some.injEq] at hr
      subst hr
      refine ⟨Nat.ne_of_lt l8.1, 0, ?_⟩
      unfold bitsOf
      rw [hrow]
      exact .tail _ (.head _)
    | succ j => simp at hr
  · intro i v m₁ news₁ h₁ tk₁ own wr hv hJ hnw hfr hown F₁ N₁
    obtain ⟨vp, vl, vr, va, vo, rs, nR, rfl, hrl, hR, hrs, hsub⟩ := hJ
    obtain ⟨tz, z, rfl, hz⟩ := intsAtNat hps (by simpa using hv)
    exact table_step _ _ _ _ _ _ _ _ _ A₀ _ _ L m _ Q _ L' P G _ i z tz vp vl vr va vo ps goal gs nG nR rs news news₁ own wr B' F₁ X' N₁ T' (by omega) (by omega) hG hgs hgl hpl hz (allLt_ne l8.2.2.2.2.2) hrl hR hrs hsub hnw hfr hown ⟨_, hP⟩ (by passes_own)
  · intro h₂ tk₂ m₂ news₂ F₂ N₂ hJ
    obtain ⟨vp, vl, vr, va, vo, rs, nR, rfl, hrl, hR, hrs, hsub⟩ := hJ
    have F₉ := F₂
    unfold mB at F₉
    dsimp only
    unfold Stop
    k_steps
    refine leaveK_ F₂ N₂ fun F5 N5 => ?_
    have hpl' : pvs.toArray.size = ps.length := by
      have := PyProof.Rows.IntsAre.length hps
      simpa using this
    exact hret _ _ _ rs nR news₂ F5 N5 hsub hR (by rw [hrl, hpl']) (fun j r hr => (hrs j r hr).2)
end Mine
end
section
theorem Mine.off_La : True := by
  w_top off
  trivial
open PySem PySem.W PyProof.Rows
set_option Elab.async false
set_option linter.unusedVariables false
set_option linter.unusedSimpArgs false
set_option maxRecDepth 100000
namespace Mine

open PyProof.V
theorem news_head {g h : Heap} {L : Addr} {p : Addr × Obj} {r : List (Addr × Obj)} (N : News g L h (p :: r)) : News g L h [p] := fun q hq => N q (by rw [List.mem_singleton.mp hq]; exact .head _)
theorem usual_ok : ∀ (ns : List Int), let zs := (ns.take 30).map (fun k' => Int.fmod k' 70) ++ ([3, 2, 1, 2, 0, 5, 6, 2, 8, 3, 4, 0, 2, 3, 0, 0, 2, 4, 1, 3, 1, 0, 3, 2, 0, 1, 1, 0, 4, 3] : List Int).drop ((((ns.take 30).map (fun k' => Int.fmod k' 70)).length : Int)).toNat
    zs.length = 30 ∧ ∀ z ∈ zs, 0 ≤ z ∧ z < 70 := by
  intro ns zs
  have hl : ((ns.take 30).map (fun k' => Int.fmod k' 70)).length ≤ 30 := by rw [List.length_map, List.length_take]; omega
  refine ⟨?_, fun z hz => ?_⟩
  · show List.length (α := Int) (_ ++ _) = 30
    rw [List.length_append, List.length_drop, Int.toNat_natCast]
    simp only [List.length_cons, List.length_nil]
    omega
  · rcases List.mem_append.mp hz with h | h
    · obtain ⟨k, _, rfl⟩ := List.mem_map.mp h
      exact ⟨Int.fmod_nonneg_of_pos _ (by decide), Int.fmod_lt_of_pos _ (by decide)⟩
    · have h := List.mem_of_mem_drop h
      simp only [List.mem_cons, List.not_mem_nil, or_false] at h
      omega
local macro_rules | `(tactic| kmk_nums) => `(tactic| first
  | ((with_reducible refine' kmk_from ?gi ?gx); (case gi => l_ints); (case gx => kmk_sign))
  | ((with_reducible refine' kmk_upto ?gi ?gx); (case gi => l_ints); (case gx => kmk_sign))
  | ((with_reducible refine' kmk_run ?gi ?gx ?gy); (case gi => l_ints); (case gx => kmk_sign); (case gy => kmk_sign)))
set_option maxHeartbeats 4000000 in
theorem law1 : ∀ {w : World} {mean : ExcName → Option Value} {mg mb : Str → Option Value} (base h₀ : Heap) (L S : Addr) (s : Shared) (vs : List Value) (ns : List Int) (rest : List Stmt) (Q : Flow → Shared → Prop) (E : Value → Shared → Prop)
  (B : Below callerA base [] h₀) (F : Fr h₀ L s.heap (fun y => [(Str.ofString "script", Value.ref S)].reverse.lookup y)) (X : (hd.heap_39 (World.params w)).In h₀) (N : News h₀ L s.heap []) (T : Top hd.view_39 (looseW hd.view_39 [Str.ofString "SINGLE_WILDCARD", Str.ofString "MULTI_WILDCARD", Str.ofString "DEFAULT_FIRST_ELEMENT", Str.ofString "_path_to_elements", Str.ofString "_WILDCARD_RE"]) mean mg mb h₀)
  (hs : h₀.IsList S vs.toArray) (hi : IntsAre vs ns) (hl : ns.length ≤ 63)
  (hcont : ∀ h' tk' (D : Addr) (ds : List Value) (zs : List Int), Fr h₀ L h' (fun y => if y = Str.ofString "drawn" then some (Value.ref D) else [(Str.ofString "script", Value.ref S)].reverse.lookup y) → News h₀ L h' [(D, W.listOf ds.toArray 0)] → IntsAre ds zs → zs.length = 30 → (∀ z ∈ zs, 0 ≤ z ∧ z < 70) →
    wpAny (model (RowW.prog (OpenRow.toRowW (OpenLaw.row PySem.Challenge.rw_fu0002_01))) w) (callerA.deeper (envOf (Str.ofString "law") (scopeOf (hd.heap_39 (World.params w)) 201) L 201 (.ref 200))) (execs rest (envOf (Str.ofString "law") (scopeOf (hd.heap_39 (World.params w)) 201) L 201 (.ref 200))) Q E { s with heap := h', toks := tk' }),
  wpAny (model (RowW.prog (OpenRow.toRowW (OpenLaw.row PySem.Challenge.rw_fu0002_01))) w) (callerA.deeper (envOf (Str.ofString "law") (scopeOf (hd.heap_39 (World.params w)) 201) L 201 (.ref 200))) (execs ((fnBody (hd.heap_39 (World.params w)) 201).take 2 ++ rest) (envOf (Str.ofString "law") (scopeOf (hd.heap_39 (World.params w)) 201) L 201 (.ref 200))) Q E s := by
  intro w mean mg mb base h₀ L S s vs ns rest Q E B F X N T hs hi hl hcont
  revert X
  k_fill
  intro X
  conv in (_ ++ rest) => whnf
  repeat (conv in (scopeOf _ _) => whnf)
  k_steps
  rename Fr _ _ _ _ => F9
  rename News _ _ _ _ => N9
  have hu := usual_ok ns
  rename (IntsAre _ (_ ++ _)) => hI
  refine hcont _ _ _ _ _ ?_ (news_head N9) hI hu.1 hu.2
  refine fr_eq F9 (fun y => ?_)
  by_cases h : y = Str.ofString "drawn"
  · simp only [h, if_true]
  · simp only [h, if_false]
end Mine
end
section
theorem Mine.off_Lq : True := by
  w_top off
  trivial
open PySem PySem.W PyProof.Rows PySem.Calls
open PySem (Expr)
set_option Elab.async false
set_option linter.unusedVariables false
set_option maxRecDepth 100000
namespace Mine
section
variable {prog : Program} {w : World} {A A₀ : Around} {s : Shared} {env : Env} {h₀ base : Heap} {outer : List Env} {E : Value → Shared → Prop} {fp wr : List Addr} {n : Nat} {St : Nat → Heap → Prop} {I : Addr}
theorem letGo_other {elts : List PySem.Expr} {k : Nat} {pos : Pos} {I T : Addr} {o : Obj} {c : String} {Q : Unit → Shared → Prop} (ho : s.heap.get? I = some o) (hc : o.cls = .type c) (hn : c = "tuple_iterator" ∨ c = "list_iterator") (hq : Q () s) :
    wpAny (model prog w) A (letOwnedTupleGo (.Tuple elts k pos) (.ref I) (.ref T)) Q E s := by
  unfold letOwnedTupleGo
  refine wpAny_bind (wpAny_load ho ?_)
  rw [hc]
  cases hd : o.data with
  | fields vs =>
    have hcon : (["enumerate", "zip", "dict_itemiterator", "dict_reverseitemiterator", "odict_iterator", "itertools.zip_longest", "itertools.pairwise"].contains c) = false := by
      rcases hn with rfl | rfl <;> decide
    simp only [hcon, Bool.false_and, Bool.false_eq_true, if_false]
    exact wpAny_pure hq
  | _ => exact wpAny_pure hq
/-- the items are tuples of two -/
theorem TurnOf.items {P : Nat → Value → Prop} {xi xc : Str} {pk pv pt : Pos} {x1 : Nat} {ts : List Addr} {prs : List (Value × Value)} {c : String} (hh : A.handled = none) (W : Walks prog w A I fp wr n P St)
    (hP : ∀ i v, i < n → P i v → ∃ T p, ts[i]? = some T ∧ prs[i]? = some p ∧ v = .ref T) (hIw : I ∈ fp) (hI : ∀ i h, St i h → ∃ o, h.get? I = some o ∧ o.cls = .type c) (hc : c = "tuple_iterator" ∨ c = "list_iterator")
    (hts : ∀ T ∈ ts, T ∉ wr)
    (hxi : env.kindOf xi = some .local) (hxc : env.kindOf xc = some .local)
    (hp : (env.scope.kind == .class || (env.scope.kind == .module && env.locals != env.globals)) = false) :
    TurnOf prog w A env (.Tuple [.Name xi pk, .Name xc pv] x1 pt) I (fp ++ ts) wr n (fun i up => ∃ v0 v1, prs[i]? = some (v0, v1) ∧ up = fun m y => if y = xc then some v1 else if y = xi then some v0 else m y)
      (fun i h => St i h ∧ ∀ (j : Nat) (T : Addr) (p : Value × Value), ts[j]? = some T → prs[j]? = some p → h.IsTuple T #[p.1, p.2]) where
  sub := fun b hb => List.mem_append_left _ (W.sub b hb)
  frame := fun i h h' hst hk => ⟨W.frame i h h' hst.1 fun b hb o e => hk b (List.mem_append_left _ hb) o e, fun j T p h1 h2 => (hst.2 j T p h1 h2).at fun o e => hk T (List.mem_append_right _ (List.mem_of_getElem? h1)) o e⟩
  item := fun i s m Q E hi hst hns hL hQ => by
    have hL' : env.locals ∉ fp := fun h => hL (List.mem_append_left _ h)
    have hLw : env.locals ∉ wr := fun h => hL' (W.sub _ h)
    refine W.item i _ _ _ hi hst.1 fun v h₁ tk₁ hPv hst₁ hk₁ => ?_
    obtain ⟨T, ⟨v0, v1⟩, hT, hpr, rfl⟩ := hP i v hi hPv
    obtain ⟨o, ho, hoc⟩ := hI _ _ hst₁
    refine letGo_other ho hoc hc ?_
    have ht : h₁.IsTuple T #[v0, v1] := (hst.2 i T _ hT hpr).at fun o e => hk₁ T o (hts T (List.mem_of_getElem? hT)) e
    refine assign_names2 hh ht (hns.at' fun o e => hk₁ _ o hLw e) hxi hxc hp fun h₃ tk₃ hn₃ hk₃ => ?_
    refine hQ _ h₃ _ ⟨v0, v1, hpr, rfl⟩ ⟨W.frame _ _ _ hst₁ fun b hb o e => hk₃ b o (fun q => hL' (q ▸ hb)) e, fun j T' p h1 h2 => (hst.2 j T' p h1 h2).at fun o e => ?_⟩ hn₃ fun b o h1 h2 e => hk₃ b o h2 (hk₁ b o h1 e)
    have hm := List.mem_of_getElem? h1
    exact hk₃ T' o (fun q => hL (q ▸ List.mem_append_right _ hm)) (hk₁ T' o (hts T' hm) e)
  done := fun s Q E hst hQ => W.done s Q E hst.1 hQ
/-- a loop over a written tuple of pairs -/
theorem tuple_loop {Q : Flow → Shared → Prop} {xi xc : Str} {pk pv pt : Pos} {x1 : Nat} {body : List Stmt} {l : Addr} {ts : List Addr} {prs : List (Value × Value)} {m : Str → Option Value} {news : List (Addr × Obj)} (hh : A.handled = none)
    (F : Fr h₀ env.locals s.heap m) (N : News h₀ env.locals s.heap news) (h1 : (l, tupObj (ts.map Value.ref).toArray) ∈ news) (ht : ∀ (j : Nat) (T : Addr) (p : Value × Value), ts[j]? = some T → prs[j]? = some p → (T, tupObj #[p.1, p.2]) ∈ news) (hlen : ts.length = prs.length)
    (hxi : env.kindOf xi = some .local) (hxc : env.kindOf xc = some .local)
    (hp : (env.scope.kind == .class || (env.scope.kind == .module && env.locals != env.globals)) = false)
    (J : Nat → (Str → Option Value) → List (Addr × Obj) → Prop) (h0 : J 0 m news)
    (step : ∀ i v0 v1 m₁ news₁ h₁ tk₁ own wr, prs[i]? = some (v0, v1) → J i m₁ news₁ → (∀ p ∈ news₁, p.1 ∉ wr) → FreeOf wr own [.type "tuple_iterator"] → (∀ p ∈ own, p.1 ∈ wr ∨ p.1 = l ∨ p.1 ∈ ts) →
      Fr h₀ env.locals h₁ (fun q => if q = xc then some v1 else if q = xi then some v0 else m₁ q) → News h₀ env.locals h₁ (news₁ ++ own) →
      wpAny (model prog w) A (execs body env) (EndA h₀ env.locals wr own (J (i + 1)) { s with heap := h₁, toks := tk₁ }) E { s with heap := h₁, toks := tk₁ })
    (hQ : ∀ h' tk m' news', Fr h₀ env.locals h' m' → News h₀ env.locals h' news' → J prs.length m' news' → Q .next { s with heap := h', toks := tk })
    (hE : PassesOwn (model prog w) A env E := by passes_own) :
    wpAny (model prog w) A (pyIter (.ref l)) (fun it s₂ => codeAny (model prog w) A (.forLoop (.Tuple [.Name xi pk, .Name xc pv] x1 pt) it body [] env) (ForR prog w A env Q E) s₂) E s := by
  have hl1 : s.heap.IsTuple l (ts.map Value.ref).toArray := ⟨_, (N _ h1).1, rfl, _, rfl⟩
  have a1 : l < s.heap.objs.size := Heap.lt_size (N _ h1).1
  have hLs : env.locals < s.heap.objs.size := F.ns.lt
  have hk : ∀ b o, s.heap.get? b = some o → (s.heap.push { cls := .type "tuple_iterator", data := .fields #[.ref l, .int 0 0] }).get? b = some o := fun b o e => Heap.get?_push_of_some _ e
  have htm : ∀ T ∈ ts, ∃ p, (T, tupObj #[(p : Value × Value).1, p.2]) ∈ news := fun T hT => by
    obtain ⟨j, hj, e⟩ := List.getElem_of_mem hT
    exact ⟨prs[j]'(hlen ▸ hj), ht j T _ (e ▸ List.getElem?_eq_getElem hj) (List.getElem?_eq_getElem (hlen ▸ hj))⟩
  refine wpAny_pyIter_tuple hl1 ?_
  have hsz : (ts.map Value.ref).toArray.size = prs.length := by simp [hlen]
  refine codeA_forLoop (s := { s with heap := _ }) (cl := [.type "tuple_iterator"]) (TurnOf.items (c := "tuple_iterator") (ts := ts) (prs := prs) hh (Walks.tuple hh s.heap.objs.size l (Nat.ne_of_lt a1) (ts.map Value.ref).toArray) (fun i v hi hv => ?_) (.head _) (fun i h hst => ?_) (.inl rfl) (fun T hT hm => ?_) hxi hxc hp) ?_ ?_ ?_ ?_
    ⟨⟨⟨_, Heap.get?_push_size _ rfl, rfl, rfl⟩, hl1.at fun o e => hk l o e⟩, fun j T p h1 h2 => ⟨_, hk _ _ (N _ (ht j T p h1 h2)).1, rfl, _, rfl⟩⟩
    (F.push _) (fun p hp => ⟨hk _ _ (N p hp).1, (N p hp).2⟩) J h0 ?_ ?_
  · obtain ⟨T, hT, rfl⟩ : ∃ T, ts[i]? = some T ∧ .ref T = v := by simpa using hv
    have hi' : i < prs.length := hsz ▸ hi
    exact ⟨T, prs[i], hT, List.getElem?_eq_getElem hi', rfl⟩
  · obtain ⟨⟨o, q4, q4', _⟩, _⟩ := hst
    exact ⟨o, q4, q4'⟩
  · obtain ⟨p, hp⟩ := htm T hT
    exact Nat.ne_of_lt (Heap.lt_size (N _ hp).1) (List.mem_singleton.mp hm)
  · rintro i h ⟨⟨⟨_, q4, q4', _⟩, _⟩, _⟩ b hb
    rw [List.mem_singleton.mp hb]
    exact ⟨_, q4, by rw [q4']; exact .head _⟩
  · intro hm
    rcases List.mem_append.mp hm with hm | hm
    · simp only [List.mem_cons, List.not_mem_nil, or_false] at hm
      rcases hm with e | e
      · exact Nat.ne_of_lt hLs e
      · exact (N _ h1).2.1 e.symm
    · obtain ⟨p, hp⟩ := htm _ hm
      exact (N _ hp).2.1 rfl
  · intro b hb
    rw [List.mem_singleton.mp hb]
    exact Heap.get?_none_of_le (Nat.le_trans F.above (Nat.le_of_lt hLs))
  · intro p hp hm
    exact Nat.ne_of_lt (Heap.lt_size (N p hp).1) (List.mem_singleton.mp hm)
  · rintro i _ m₁ news₁ h₁ tk₁ own hi ⟨v0, v1, hpr, rfl⟩ hJ hnw hfp hfr F₁ N₁
    refine wpAny_passesOwn hE (step i v0 v1 m₁ news₁ h₁ tk₁ own _ hpr hJ hnw hfr (fun p hp => ?_) F₁ N₁)
    rcases List.mem_append.mp (hfp p hp) with e | e
    · simp only [List.mem_cons, List.not_mem_nil, or_false] at e ⊢
      rcases e with e | e
      · exact .inl e
      · exact .inr (.inl e)
    · exact .inr (.inr e)
  · intro h'' tk m' news' F' N' hJ
    exact hQ h'' tk m' news' F' N' (hsz ▸ hJ)
theorem range_loop {Q : Flow → Shared → Prop} {x : Str} {px : Pos} {body : List Stmt} {r : Addr} {a b : Int} {t u v : Tok} {n : Nat} {m : Str → Option Value} {news : List (Addr × Obj)} (hh : A.handled = none)
    (F : Fr h₀ env.locals s.heap m) (N : News h₀ env.locals s.heap news) (hr : IsRange s.heap r a b 1 t u v) (hsm : Builtin.Range.small a b 1 = true) (hn : Builtin.Range.rangeSize a b 1 = (n : Int)) (hx : env.kindOf x = some .local)
    (hp : (env.scope.kind == .class || (env.scope.kind == .module && env.locals != env.globals)) = false)
    (J : Nat → (Str → Option Value) → List (Addr × Obj) → Prop) (h0 : J 0 m news)
    (step : ∀ (i : Nat) (ti : Tok) m₁ news₁ h₁ tk₁ own wr, i < n → J i m₁ news₁ → (∀ p ∈ news₁, p.1 ∉ wr) → FreeOf wr own [.type "range_iterator"] → (∀ p ∈ own, p.1 ∈ wr) →
      Fr h₀ env.locals h₁ (fun q => if q = x then some (.int (a + (i : Int)) ti) else m₁ q) → News h₀ env.locals h₁ (news₁ ++ own) →
      wpAny (model prog w) A (execs body env) (EndA h₀ env.locals wr own (J (i + 1)) { s with heap := h₁, toks := tk₁ }) E { s with heap := h₁, toks := tk₁ })
    (hQ : ∀ h' tk m' news', Fr h₀ env.locals h' m' → News h₀ env.locals h' news' → J n m' news' → Q .next { s with heap := h', toks := tk })
    (hE : PassesOwn (model prog w) A env E := by passes_own) :
    wpAny (model prog w) A (pyIter (.ref r)) (fun it s₂ => codeAny (model prog w) A (.forLoop (.Name x px) it body [] env) (ForR prog w A env Q E) s₂) E s := by
  have hLs : env.locals < s.heap.objs.size := F.ns.lt
  refine wpAny_pyIter_range hr hsm ?_
  rw [hn]
  have hk : ∀ b o, s.heap.get? b = some o → (s.heap.push { cls := .type "range_iterator", data := .fields #[rawInt a, rawInt (n : Int), rawInt 1] }).get? b = some o := fun b o e => Heap.get?_push_of_some _ e
  refine codeA_forLoop (s := { s with heap := _ }) (cl := [.type "range_iterator"]) (TurnOf.name (LCg.range_walks (I := s.heap.objs.size) hh a n) hx hp) ?_ ?_ ?_ ?_ ?_
    (F.push _) (fun p hp => ⟨hk _ _ (N p hp).1, (N p hp).2⟩) J h0 ?_ ?_
  · rintro i h hst b hb
    rw [List.mem_singleton.mp hb]
    exact ⟨_, hst, .head _⟩
  · intro hm
    exact Nat.ne_of_lt hLs (List.mem_singleton.mp hm)
  · intro b hb
    rw [List.mem_singleton.mp hb]
    exact Heap.get?_none_of_le (Nat.le_trans F.above (Nat.le_of_lt hLs))
  · intro p hp hm
    exact Nat.ne_of_lt (Heap.lt_size (N p hp).1) (List.mem_singleton.mp hm)
  · have z : IsRangeIter (s.heap.push { cls := .type "range_iterator", data := .fields #[rawInt a, rawInt (n : Int), rawInt 1] }) s.heap.objs.size a n 1 := Heap.get?_push_size _ rfl
    simpa using z
  · rintro i _ m₁ news₁ h₁ tk₁ own hi ⟨_, ⟨ti, rfl⟩, rfl⟩ hJ hnw hfp hfr F₁ N₁
    exact wpAny_passesOwn hE (step i ti m₁ news₁ h₁ tk₁ own _ hi hJ hnw hfr hfp F₁ N₁)
  · intro h'' tk m' news' F' N' hJ
    exact hQ h'' tk m' news' F' N' hJ
theorem For_stop {target iter : PySem.Expr} {body orelse : List Stmt} {pos : Pos} {Q : Flow → Shared → Prop}
    (h : wpAny (model prog w) A (eval iter env) (fun x s₁ => Stop (wpAny (model prog w) A (pyIter x) (fun it s₂ => codeAny (model prog w) A (.forLoop target it body orelse env) (ForR prog w A env Q E) s₂) E s₁)) E s)
    (hs : ∀ x, foldedSetIterable iter env x = pure x := by intro _; rfl) : wpAny (model prog w) A (exec (.For target iter body orelse pos) env) Q E s := wpAny_For h hs
end
end Mine
end
section
theorem Mine.off_Lc : True := by
  w_top off
  trivial
open PySem PySem.W PyProof.Rows
set_option Elab.async false
set_option linter.unusedVariables false
set_option linter.unusedSimpArgs false
set_option maxRecDepth 100000
namespace Mine

open PyProof.V
local macro_rules | `(tactic| k_all) => `(tactic| with_reducible assumption)
local macro_rules | `(tactic| k_mem) => `(tactic| assumption)

local macro_rules | `(tactic| walk_at "eval ListComp") => `(tactic| (k_here; (with_reducible show wpAny _ _ (eval (PySem.Expr.ListComp (PySem.Expr.Compare _ _ _ _) _ _ _) _) _ _ _); (rename Fr _ _ _ _ => lF'); (with_unfolding_all refine' lcB lF' ?k1 ?k2 ?k3 ?k4 ?k5 ?k6 ?k7 ?k8 ?k9 ?_; (case k1 => decide); (case k2 => rfl); (case k3 => decide); (case k4 => decide); (case k5 => rfl); (case k6 => decide); (case k7 => rfl); (case k8 => decide); (case k9 => intro _; rfl); k_whole)))
local macro_rules | `(tactic| walk_at "eval ListComp") => `(tactic| (k_here; (with_reducible show wpAny _ _ (eval (PySem.Expr.ListComp (PySem.Expr.BinOp _ Operator.Mod _ _) _ _ _) _) _ _ _); (rename Fr _ _ _ _ => lF'); (with_unfolding_all refine' lcI lF' ?k1 ?k2 ?k3 ?k4 ?k5 ?k6 ?k7 ?k8 ?k9 ?_; (case k1 => decide); (case k2 => rfl); (case k3 => decide); (case k4 => decide); (case k5 => rfl); (case k6 => decide); (case k7 => rfl); (case k8 => decide); (case k9 => intro _; rfl); k_whole)))
local macro_rules | `(tactic| walk_at "eval ListComp") => `(tactic| (k_here; (with_reducible show wpAny _ _ (eval (PySem.Expr.ListComp (PySem.Expr.BinOp _ Operator.Add _ _) _ _ _) _) _ _ _); (rename Fr _ _ _ _ => lF'); (with_unfolding_all refine' lcJ lF' ?k1 ?k2 ?k3 ?k4 ?k5 ?k6 ?k7 ?k8 ?k9 ?_; (case k1 => decide); (case k2 => rfl); (case k3 => decide); (case k4 => decide); (case k5 => rfl); (case k6 => decide); (case k7 => rfl); (case k8 => decide); (case k9 => intro _; rfl); k_whole)))
local macro_rules | `(tactic| walk_at "LcSrc") => `(tactic| ((rename Fr _ _ _ _ => lF'); (rename News _ _ _ _ => lN'); (refine' LcSrc.intro lF' lN' ?k1 ?k2 ?k3 ?k4 ?_; (case k1 => (repeat (first | exact List.Mem.head _ | refine List.Mem.tail _ ?_ | refine List.mem_append_right _ ?_))); (case k2 => assumption); (case k3 => (intro lz lh; (repeat (first | replace lh := List.mem_of_mem_take lh | replace lh := List.mem_of_mem_drop lh)); (rename (∀ z ∈ _, 0 ≤ z ∧ z < 70) => lZ); have lb := lZ _ lh; omega)); (case k4 => ((try simp only [List.length_take, List.length_drop]); omega)); intro _ _ _ _ _ _ _ lg o1'; (try simp only [LCg.Off1, and_true] at o1'); (try dsimp only at lg))))

def PatAt (news : List (Addr × Obj)) (T : Addr) (ks : List Int) (bs : List Bool) : Prop :=
  ∃ (A B : Addr) (vs : List Value) (nA nB : Nat), (T, tupObj #[.ref A, .ref B]) ∈ news ∧ (A, W.listOf vs.toArray nA) ∈ news ∧ IntsAre vs ks ∧ (B, W.listOf (bs.map Value.bool).toArray nB) ∈ news
theorem PatAt.intro {news : List (Addr × Obj)} {T A B : Addr} {ks : List Int} {bs : List Bool} {vs ys : List Value} {nA nB : Nat} (h1 : (T, tupObj #[.ref A, .ref B]) ∈ news) (h2 : (A, W.listOf vs.toArray nA) ∈ news) (h3 : IntsAre vs ks) (hb : ys = bs.map Value.bool) (h4 : (B, W.listOf ys.toArray nB) ∈ news) : PatAt news T ks bs := ⟨A, B, vs, nA, nB, h1, h2, h3, hb ▸ h4⟩
theorem refs_push {ts : List Addr} {T : Addr} : ((ts ++ [T]).map Value.ref).toArray = ((ts.map Value.ref).toArray).push (.ref T) := by simp
def mP (PL D S : Addr) (vr vs : Option Value) : Str → Option Value := fun y =>
  if y = Str.ofString "row" then vr else if y = Str.ofString "size" then vs else if y = Str.ofString "patterns" then some (.ref PL) else if y = Str.ofString "drawn" then some (Value.ref D) else [(Str.ofString "script", Value.ref S)].reverse.lookup y
theorem mP_up {PL D S : Addr} {vr vs : Option Value} {r z : Value} : mP PL D S (some r) (some z) = (fun y => if y = Str.ofString "row" then some r else if y = Str.ofString "size" then some z else mP PL D S vr vs y) := by
  funext y
  unfold mP
  split
  · rfl
  · split
    · rfl
    · rfl
local macro_rules | `(tactic| kmk_nums) => `(tactic| first
  | ((with_reducible refine' kmk_from ?gi ?gx); (case gi => l_ints); (case gx => kmk_sign))
  | ((with_reducible refine' kmk_upto ?gi ?gx); (case gi => l_ints); (case gx => kmk_sign))
  | ((with_reducible refine' kmk_run ?gi ?gx ?gy); (case gi => l_ints); (case gx => kmk_sign); (case gy => kmk_sign)))
set_option maxHeartbeats 4000000 in
theorem pat_turn : ∀ {w : World} {mean : ExcName → Option Value} {mg mb : Str → Option Value} (base h₀ : Heap) (L S D PL Row : Addr) (s : Shared) (vr vs' : Option Value) (rvs : List Value) (rzs : List Int) (sz : Int) (tsz : Tok) (ts : List Addr) (nP nR : Nat) (news own : List (Addr × Obj)) (wr : List Addr) (J : (Str → Option Value) → List (Addr × Obj) → Prop) (E : Value → Shared → Prop)
  (B : Below callerA base [] h₀) (F : Fr h₀ L s.heap (fun y => if y = Str.ofString "row" then some (.ref Row) else if y = Str.ofString "size" then some (.int sz tsz) else mP PL D S vr vs' y)) (X : (hd.heap_39 (World.params w)).In h₀) (N : News h₀ L s.heap news) (T : Top hd.view_39 (looseW hd.view_39 [Str.ofString "SINGLE_WILDCARD", Str.ofString "MULTI_WILDCARD", Str.ofString "DEFAULT_FIRST_ELEMENT", Str.ofString "_path_to_elements", Str.ofString "_WILDCARD_RE"]) mean mg mb h₀)
  (hP : (PL, W.listOf (ts.map Value.ref).toArray nP) ∈ news) (hR : (Row, W.listOf rvs.toArray nR) ∈ news) (hi : IntsAre rvs rzs) (hz : ∀ z ∈ rzs, 0 ≤ z ∧ z < 70) (hrl : rzs.length ≤ 5) (hs0 : 0 ≤ sz) (hs6 : sz < 6) (htl : ts.length ≤ 5)
  (hend : ∀ h' tk' T n' news₂, Fr h₀ L h' (mP PL D S (some (.ref Row)) (some (.int sz tsz))) → News h₀ L h' news₂ → (∀ q ∈ news, q.1 ≠ PL → q ∈ news₂) → (PL, W.listOf ((ts ++ [T]).map Value.ref).toArray n') ∈ news₂ → PatAt (news₂.filter fun p => decide (p.1 ≠ PL)) T ((rzs.take sz.toNat).map (fun z => z.fmod 7)) ((rzs.take sz.toNat).map (bitOf 7)) → EndA h₀ L wr own J s .next { s with heap := h', toks := tk' }),
  wpAny (model (RowW.prog (OpenRow.toRowW (OpenLaw.row PySem.Challenge.rw_fu0002_01))) w) (callerA.deeper (envOf (Str.ofString "law") (scopeOf (hd.heap_39 (World.params w)) 201) L 201 (.ref 200))) (execs (forBody (hd.heap_39 (World.params w)) 201 3) (envOf (Str.ofString "law") (scopeOf (hd.heap_39 (World.params w)) 201) L 201 (.ref 200))) (EndA h₀ L wr own J s) E s := by
  intro w mean mg mb base h₀ L S D PL Row s vr vs' rvs rzs sz tsz ts nP nR news own wr J E B F X N T hP hR hi hz hrl hs0 hs6 htl hend
  revert X
  k_fill
  intro X
  conv in (forBody _ _ _) => whnf
  repeat (conv in (scopeOf _ _) => whnf)
  have F9 := F
  unfold mP at F9
  have N9 : News h₀ L s.heap ((PL, W.listOf (ts.map Value.ref).toArray nP) :: (Row, W.listOf rvs.toArray nR) :: news) := fun p hp => by
    rcases List.mem_cons.mp hp with rfl | hp
    · exact N _ hP
    · rcases List.mem_cons.mp hp with rfl | hp
      · exact N _ hR
      · exact N _ hp
  k_steps
  rename Fr _ _ _ _ => F8
  rename News _ _ _ _ => N8
  rename (_ = List.map (fun z => Value.bool _) _) => hb
  rename (IntsAre _ (List.map (fun z => Int.fmod z 7) _)) => ha
  rename (_ ∧ PL ≠ _ ∧ Row ≠ _ ∧ LCg.Off1 _ news) => oA
  rename (_ ∧ _ ∧ _ ∧ PL ≠ _ ∧ Row ≠ _ ∧ LCg.Off1 _ news) => oB
  rename (_ ∧ _ ∧ _ ∧ _ ∧ PL < _ ∧ Row < _ ∧ AllLt _ news) => l8
  refine append_led (s := ⟨_, _, _, _, _⟩) F8 N8 (.tail _ (.tail _ (.tail _ (.tail _ (.tail _ (.head _)))))) (by simp only [List.size_toArray, List.length_map]; omega) ?_
  intro h5 n5 F5 N5
  k_steps
  refine hend h5 _ _ n5 _ (by rw [mP_up (vr := vr) (vs := vs')]; exact F5) N5 (fun q hq hne => .tail _ (mem_offL (.tail _ (.tail _ (.tail _ (.tail _ (.tail _ (.tail _ (.tail _ hq))))))) hne)) ?_ (PatAt.intro (mem_offL (.tail _ (mem_offL (.head _) (Ne.symm (Nat.ne_of_lt l8.2.2.2.2.1)))) (Ne.symm (Nat.ne_of_lt l8.2.2.2.2.1))) (mem_offL (.tail _ (mem_offL (.tail _ (.tail _ (.tail _ (.head _)))) (Ne.symm oA.2.1))) (Ne.symm oA.2.1)) ha (hb.trans (by rw [List.map_map]; rfl)) (mem_offL (.tail _ (mem_offL (.tail _ (.head _)) (Ne.symm oB.2.2.2.1))) (Ne.symm oB.2.2.2.1)))
  rw [refs_push]
  exact .head _
end Mine
end
section
theorem Mine.off_Ld : True := by
  w_top off
  trivial
open PySem PySem.W PyProof.Rows
set_option Elab.async false
set_option linter.unusedVariables false
set_option linter.unusedSimpArgs false
set_option maxRecDepth 100000
namespace Mine

open PyProof.V
local macro_rules | `(tactic| k_all) => `(tactic| with_reducible assumption)
local macro_rules | `(tactic| k_mem) => `(tactic| assumption)

local macro_rules | `(tactic| walk_at "eval ListComp") => `(tactic| (k_here; (with_reducible show wpAny _ _ (eval (PySem.Expr.ListComp (PySem.Expr.Compare _ _ _ _) _ _ _) _) _ _ _); (rename Fr _ _ _ _ => lF'); (with_unfolding_all refine' lcB lF' ?k1 ?k2 ?k3 ?k4 ?k5 ?k6 ?k7 ?k8 ?k9 ?_; (case k1 => decide); (case k2 => rfl); (case k3 => decide); (case k4 => decide); (case k5 => rfl); (case k6 => decide); (case k7 => rfl); (case k8 => decide); (case k9 => intro _; rfl); k_whole)))
local macro_rules | `(tactic| walk_at "eval ListComp") => `(tactic| (k_here; (with_reducible show wpAny _ _ (eval (PySem.Expr.ListComp (PySem.Expr.BinOp _ Operator.Mod _ _) _ _ _) _) _ _ _); (rename Fr _ _ _ _ => lF'); (with_unfolding_all refine' lcI lF' ?k1 ?k2 ?k3 ?k4 ?k5 ?k6 ?k7 ?k8 ?k9 ?_; (case k1 => decide); (case k2 => rfl); (case k3 => decide); (case k4 => decide); (case k5 => rfl); (case k6 => decide); (case k7 => rfl); (case k8 => decide); (case k9 => intro _; rfl); k_whole)))
local macro_rules | `(tactic| walk_at "eval ListComp") => `(tactic| (k_here; (with_reducible show wpAny _ _ (eval (PySem.Expr.ListComp (PySem.Expr.BinOp _ Operator.Add _ _) _ _ _) _) _ _ _); (rename Fr _ _ _ _ => lF'); (with_unfolding_all refine' lcJ lF' ?k1 ?k2 ?k3 ?k4 ?k5 ?k6 ?k7 ?k8 ?k9 ?_; (case k1 => decide); (case k2 => rfl); (case k3 => decide); (case k4 => decide); (case k5 => rfl); (case k6 => decide); (case k7 => rfl); (case k8 => decide); (case k9 => intro _; rfl); k_whole)))
local macro_rules | `(tactic| walk_at "LcSrc") => `(tactic| ((rename Fr _ _ _ _ => lF'); (rename News _ _ _ _ => lN'); (refine' LcSrc.intro lF' lN' ?k1 ?k2 ?k3 ?k4 ?_; (case k1 => (repeat (first | exact List.Mem.head _ | refine List.Mem.tail _ ?_ | refine List.mem_append_right _ ?_))); (case k2 => assumption); (case k3 => (intro lz lh; (repeat (first | replace lh := List.mem_of_mem_take lh | replace lh := List.mem_of_mem_drop lh)); (rename (∀ z ∈ _, 0 ≤ z ∧ z < 70) => lZ); have lb := lZ _ lh; omega)); (case k4 => ((try simp only [List.length_take, List.length_drop]); omega)); intro _ _ _ _ _ _ _ lg o1'; (try simp only [LCg.Off1, and_true] at o1'); (try dsimp only at lg))))

def mG (GL PL D S : Addr) (vr ve vq vs : Option Value) : Str → Option Value := fun y =>
  if y = Str.ofString "row" then vr else if y = Str.ofString "each" then ve else if y = Str.ofString "goals" then some (.ref GL) else mP PL D S vq vs y
theorem map_bits {f : Int → Bool} {l : List Int} : (l.map fun z => Value.bool (f z)) = (l.map f).map Value.bool := by rw [List.map_map]; rfl
theorem mG_up {GL PL D S : Addr} {vr ve vq vs : Option Value} {r z : Value} : mG GL PL D S (some r) (some z) vq vs = (fun y => if y = Str.ofString "row" then some r else if y = Str.ofString "each" then some z else mG GL PL D S vr ve vq vs y) := by
  funext y
  unfold mG
  split
  · rfl
  · split
    · rfl
    · rfl
local macro_rules | `(tactic| kmk_nums) => `(tactic| first
  | ((with_reducible refine' kmk_from ?gi ?gx); (case gi => l_ints); (case gx => kmk_sign))
  | ((with_reducible refine' kmk_upto ?gi ?gx); (case gi => l_ints); (case gx => kmk_sign))
  | ((with_reducible refine' kmk_run ?gi ?gx ?gy); (case gi => l_ints); (case gx => kmk_sign); (case gy => kmk_sign)))
set_option maxHeartbeats 4000000 in
theorem goal_turn : ∀ {w : World} {mean : ExcName → Option Value} {mg mb : Str → Option Value} (base h₀ : Heap) (L S D PL GL : Addr) (s : Shared) (vr ve vq vs : Option Value) (ds : List Value) (zs : List Int) (e : Nat) (te : Tok) (ts : List Addr) (nP nR : Nat) (news own : List (Addr × Obj)) (wr : List Addr) (J : (Str → Option Value) → List (Addr × Obj) → Prop) (E : Value → Shared → Prop)
  (B : Below callerA base [] h₀) (F : Fr h₀ L s.heap (fun y => if y = Str.ofString "each" then some (.int (e : Int) te) else mG GL PL D S vr ve vq vs y)) (X : (hd.heap_39 (World.params w)).In h₀) (N : News h₀ L s.heap news) (T : Top hd.view_39 (looseW hd.view_39 [Str.ofString "SINGLE_WILDCARD", Str.ofString "MULTI_WILDCARD", Str.ofString "DEFAULT_FIRST_ELEMENT", Str.ofString "_path_to_elements", Str.ofString "_WILDCARD_RE"]) mean mg mb h₀)
  (hP : (GL, W.listOf (ts.map Value.ref).toArray nP) ∈ news) (hR : (D, W.listOf ds.toArray nR) ∈ news) (hi : IntsAre ds zs) (hz : ∀ z ∈ zs, 0 ≤ z ∧ z < 70) (hrl : zs.length = 30) (he : e < 3) (htl : ts.length ≤ 5)
  (hend : ∀ h' tk' vr' T n' news₂ ks bs, Fr h₀ L h' (mG GL PL D S vr' (some (.int (e : Int) te)) vq vs) → News h₀ L h' news₂ → (∀ q ∈ news, q.1 ≠ GL → q ∈ news₂) → (GL, W.listOf ((ts ++ [T]).map Value.ref).toArray n') ∈ news₂ → PatAt (news₂.filter fun p => decide (p.1 ≠ GL)) T ks bs → ks.length ≤ 5 → ks.length ≤ bs.length → (∀ k ∈ ks, 2 ≤ k ∧ k < 7) → EndA h₀ L wr own J s .next { s with heap := h', toks := tk' }),
  wpAny (model (RowW.prog (OpenRow.toRowW (OpenLaw.row PySem.Challenge.rw_fu0002_01))) w) (callerA.deeper (envOf (Str.ofString "law") (scopeOf (hd.heap_39 (World.params w)) 201) L 201 (.ref 200))) (execs (forBody (hd.heap_39 (World.params w)) 201 5) (envOf (Str.ofString "law") (scopeOf (hd.heap_39 (World.params w)) 201) L 201 (.ref 200))) (EndA h₀ L wr own J s) E s := by
  intro w mean mg mb base h₀ L S D PL GL s vr ve vq vs ds zs e te ts nP nR news own wr J E B F X N T hP hR hi hz hrl he htl hend
  revert X
  k_fill
  intro X
  conv in (forBody _ _ _) => whnf
  repeat (conv in (scopeOf _ _) => whnf)
  have F9 := F
  unfold mG mP at F9
  have N9 : News h₀ L s.heap ((GL, W.listOf (ts.map Value.ref).toArray nP) :: (D, W.listOf ds.toArray nR) :: news) := fun p hp => by
    rcases List.mem_cons.mp hp with rfl | hp
    · exact N _ hP
    · rcases List.mem_cons.mp hp with rfl | hp
      · exact N _ hR
      · exact N _ hp
  k_steps
  rename Fr _ _ _ _ => F8
  rename News _ _ _ _ => N8
  rename (_ = List.map (fun z => Value.bool _) _) => hb
  rename (IntsAre _ (List.map (fun z => Int.fmod z 5 + 2) _)) => ha
  rename (_ ∧ _ ∧ GL ≠ _ ∧ D ≠ _ ∧ LCg.Off1 _ news) => oA
  rename (_ ∧ _ ∧ _ ∧ GL ≠ _ ∧ D ≠ _ ∧ LCg.Off1 _ news) => oB
  rename (_ ∧ _ ∧ _ ∧ _ ∧ GL < _ ∧ D < _ ∧ AllLt _ news) => l8
  refine append_led (s := ⟨_, _, _, _, _⟩) F8 N8 (.tail _ (.tail _ (.tail _ (.tail _ (.tail _ (.head _)))))) (by simp only [List.size_toArray, List.length_map]; omega) ?_
  intro h5 n5 F5 N5
  k_steps
  refine hend h5 _ _ _ n5 _ _ _ (by rw [mG_up (vr := vr) (ve := ve)]; exact F5) N5 (fun q hq hne => .tail _ (mem_offL (.tail _ (.tail _ (.tail _ (.tail _ (.tail _ (.tail _ (.tail _ hq))))))) hne)) ?_ (PatAt.intro (mem_offL (.tail _ (mem_offL (.head _) (Ne.symm (Nat.ne_of_lt l8.2.2.2.2.1)))) (Ne.symm (Nat.ne_of_lt l8.2.2.2.2.1))) (mem_offL (.tail _ (mem_offL (.tail _ (.tail _ (.head _))) (Ne.symm oA.2.2.1))) (Ne.symm oA.2.2.1)) ha (hb.trans (map_bits (f := bitOf 5))) (mem_offL (.tail _ (mem_offL (.tail _ (.head _)) (Ne.symm oB.2.2.2.1))) (Ne.symm oB.2.2.2.1))) ?_ ?_ ?_
  · rw [refs_push]
    exact .head _
  · simp only [List.length_map, List.length_take, List.length_drop]
    omega
  · simp only [List.length_map]
    exact List.length_take_le' _ _
  · intro k hk
    obtain ⟨z, _, rfl⟩ := List.mem_map.mp hk
    have h1 := Int.fmod_nonneg_of_pos z (show (0 : Int) < 5 by decide)
    have h2 := Int.fmod_lt_of_pos z (show (0 : Int) < 5 by decide)
    omega
end Mine
end
section
theorem Mine.off_Lf : True := by
  w_top off
  trivial
open PySem PySem.W PyProof.Rows
set_option Elab.async false
set_option linter.unusedVariables false
set_option linter.unusedSimpArgs false
set_option maxRecDepth 100000
namespace Mine

open PyProof.V
local macro_rules | `(tactic| k_all) => `(tactic| with_reducible assumption)
local macro_rules | `(tactic| k_mem) => `(tactic| assumption)
abbrev offL (PL : Addr) (news : List (Addr × Obj)) : List (Addr × Obj) := news.filter fun p => decide (p.1 ≠ PL)
def PatOk (p : List Int × List Bool) : Prop := p.1.length ≤ 5 ∧ p.1.length ≤ p.2.length ∧ ∀ k ∈ p.1, 0 ≤ k ∧ k < 7
theorem PatAt.sub {n n' : List (Addr × Obj)} {T : Addr} {ks : List Int} {bs : List Bool} (h : PatAt n T ks bs) (hs : ∀ p ∈ n, p ∈ n') : PatAt n' T ks bs := by
  obtain ⟨A, B, vs, nA, nB, h1, h2, h3, h4⟩ := h
  exact ⟨A, B, vs, nA, nB, hs _ h1, hs _ h2, h3, hs _ h4⟩
def PatJ (PL D S : Addr) (bs : List (Addr × Obj)) (i : Nat) (m : Str → Option Value) (news' : List (Addr × Obj)) : Prop :=
  ∃ (vr vs : Option Value) (ts : List Addr) (nP : Nat) (pats : List (List Int × List Bool)), m = mP PL D S vr vs ∧ ts.length = i ∧ pats.length = i ∧ (PL, W.listOf (ts.map Value.ref).toArray nP) ∈ news' ∧
    (∀ (j : Nat) T p, ts[j]? = some T → pats[j]? = some p → PatAt (offL PL news') T p.1 p.2) ∧ (∀ p ∈ pats, PatOk p) ∧ ∀ q ∈ bs, q ∈ news'
theorem mP_zero {PL D S : Addr} : mP PL D S none none = fun y => if y = Str.ofString "patterns" then some (.ref PL) else if y = Str.ofString "drawn" then some (Value.ref D) else [(Str.ofString "script", Value.ref S)].reverse.lookup y := by
  funext y
  unfold mP
  by_cases h1 : y = Str.ofString "row"
  · subst h1; rfl
  by_cases h2 : y = Str.ofString "size"
  · subst h2; rfl
  simp only [h1, h2, if_false]
/-- an item of the ledger that a turn leaves, seen through its two filters -/
theorem off_free {PL : Addr} {wr : List Addr} {n : List (Addr × Obj)} {T : Addr} {ks : List Int} {bs : List Bool} {own : List (Addr × Obj)} {g h : Heap} {L : Addr} {c : String} (hfr : FreeOf wr own [.type c]) (hc1 : c ≠ "tuple") (hc2 : c ≠ "list") (N : News g L h n) (ho : ∀ p ∈ own, p ∈ n) (h : PatAt (offL PL n) T ks bs) : PatAt (offL PL (n.filter fun p => decide (p.1 ∉ wr))) T ks bs := by
  obtain ⟨A, B, vs, nA, nB, h1, h2, h3, h4⟩ := h
  have key : ∀ p, p ∈ offL PL n → p.2.cls = .type "tuple" ∨ p.2.cls = .type "list" → p ∈ offL PL (n.filter fun p => decide (p.1 ∉ wr)) := fun p hp hcl => by
    obtain ⟨hp1, hp2⟩ := List.mem_filter.mp hp
    refine List.mem_filter.mpr ⟨hfr.mem N ho hp1 ?_, hp2⟩
    intro q
    have q := List.mem_singleton.mp q
    rcases hcl with e | e
    · rw [e] at q; injection q with q; exact hc1 q.symm
    · rw [e] at q; injection q with q; exact hc2 q.symm
  exact ⟨A, B, vs, nA, nB, key _ h1 (.inl rfl), key _ h2 (.inr rfl), h3, key _ h4 (.inr rfl)⟩
set_option maxHeartbeats 2000000 in
theorem pat_loop : ∀ {w : World} {mean : ExcName → Option Value} {mg mb : Str → Option Value} (base h₀ : Heap) (L S D PL T0 T1 T2 R1 R2 : Addr) (s : Shared) (ds rv1 rv2 : List Value) (zs rz1 rz2 : List Int) (s1 s2 : Int) (t1 t2 : Tok) (pk pv pt : Pos) (x1 n1 n2 nd : Nat) (news : List (Addr × Obj)) (Q : Flow → Shared → Prop) (E : Value → Shared → Prop)
  (B : Below callerA base [] h₀) (F : Fr h₀ L s.heap (mP PL D S none none)) (X : (hd.heap_39 (World.params w)).In h₀) (N : News h₀ L s.heap news) (T : Top hd.view_39 (looseW hd.view_39 [Str.ofString "SINGLE_WILDCARD", Str.ofString "MULTI_WILDCARD", Str.ofString "DEFAULT_FIRST_ELEMENT", Str.ofString "_path_to_elements", Str.ofString "_WILDCARD_RE"]) mean mg mb h₀)
  (m0 : (T0, tupObj #[.ref T1, .ref T2]) ∈ news) (m1 : (T1, tupObj #[.int s1 t1, .ref R1]) ∈ news) (m2 : (T2, tupObj #[.int s2 t2, .ref R2]) ∈ news) (mr1 : (R1, W.listOf rv1.toArray n1) ∈ news) (mr2 : (R2, W.listOf rv2.toArray n2) ∈ news) (mp : (PL, W.listOf #[] 0) ∈ news) (md : (D, W.listOf ds.toArray nd) ∈ news)
  (hR1 : R1 ≠ PL) (hR2 : R2 ≠ PL) (hD : D ≠ PL) (hi1 : IntsAre rv1 rz1) (hi2 : IntsAre rv2 rz2) (hz1 : ∀ z ∈ rz1, 0 ≤ z ∧ z < 70) (hz2 : ∀ z ∈ rz2, 0 ≤ z ∧ z < 70) (hl1 : rz1.length ≤ 5) (hl2 : rz2.length ≤ 5) (hs1 : 0 ≤ s1 ∧ s1 < 6) (hs2 : 0 ≤ s2 ∧ s2 < 6) (hE : PassesOwn (model (RowW.prog (OpenRow.toRowW (OpenLaw.row PySem.Challenge.rw_fu0002_01))) w) (callerA.deeper (envOf (Str.ofString "law") (scopeOf (hd.heap_39 (World.params w)) 201) L 201 (.ref 200))) (envOf (Str.ofString "law") (scopeOf (hd.heap_39 (World.params w)) 201) L 201 (.ref 200)) E)
  (hQ : ∀ h' tk m' news', Fr h₀ L h' m' → News h₀ L h' news' → PatJ PL D S [(D, W.listOf ds.toArray nd)] 2 m' news' → Q .next { s with heap := h', toks := tk }),
  wpAny (model (RowW.prog (OpenRow.toRowW (OpenLaw.row PySem.Challenge.rw_fu0002_01))) w) (callerA.deeper (envOf (Str.ofString "law") (scopeOf (hd.heap_39 (World.params w)) 201) L 201 (.ref 200))) (pyIter (.ref T0)) (fun it s₂ => codeAny (model (RowW.prog (OpenRow.toRowW (OpenLaw.row PySem.Challenge.rw_fu0002_01))) w) (callerA.deeper (envOf (Str.ofString "law") (scopeOf (hd.heap_39 (World.params w)) 201) L 201 (.ref 200))) (.forLoop (.Tuple [.Name (Str.ofString "size") pk, .Name (Str.ofString "row") pv] x1 pt) it (forBody (hd.heap_39 (World.params w)) 201 3) [] (envOf (Str.ofString "law") (scopeOf (hd.heap_39 (World.params w)) 201) L 201 (.ref 200))) (ForR (RowW.prog (OpenRow.toRowW (OpenLaw.row PySem.Challenge.rw_fu0002_01))) w (callerA.deeper (envOf (Str.ofString "law") (scopeOf (hd.heap_39 (World.params w)) 201) L 201 (.ref 200))) (envOf (Str.ofString "law") (scopeOf (hd.heap_39 (World.params w)) 201) L 201 (.ref 200)) Q E) s₂) E s := by
  intro w mean mg mb base h₀ L S D PL T0 T1 T2 R1 R2 s ds rv1 rv2 zs rz1 rz2 s1 s2 t1 t2 pk pv pt x1 n1 n2 nd news Q E B F X N T m0 m1 m2 mr1 mr2 mp md hR1 hR2 hD hi1 hi2 hz1 hz2 hl1 hl2 hs1 hs2 hE hQ
  have ne : ∀ (Ta : Addr) (xs : Array Value), (Ta, tupObj xs) ∈ news → Ta ≠ PL := fun Ta xs h => news_ne N h mp (by show Value.type "tuple" ≠ Value.type "list"; intro q; injection q with q; exact absurd q (by decide))
  refine tuple_loop (h₀ := h₀) (ts := [T1, T2]) (prs := [(.int s1 t1, .ref R1), (.int s2 t2, .ref R2)]) rfl F N m0 (fun j T' p h1 h2 => ?_) rfl (by rfl) (by rfl) (by rfl) (PatJ PL D S [(D, W.listOf ds.toArray nd), (R1, W.listOf rv1.toArray n1), (R2, W.listOf rv2.toArray n2)]) ⟨none, none, [], 0, [], rfl, rfl, rfl, mp, fun j T' p h1 _ => (by simp at h1), fun p hp => (nomatch hp), fun q hq => ?_⟩ ?_ ?_ hE
  · match j, h1, h2 with
    | 0, h1, h2 => simp only [List.getElem?_cons_zero, Option.some.injEq] at h1 h2; subst h1 h2; exact m1
    | 1, h1, h2 => simp only [List.getElem?_cons_succ, List.getElem?_cons_zero, Option.some.injEq] at h1 h2; subst h1 h2; exact m2
    | j + 2, h1, h2 => simp at h1
  · simp only [List.mem_cons, List.not_mem_nil, or_false] at hq
    rcases hq with rfl | rfl | rfl <;> assumption
  · intro i v0 v1 m₁ news₁ h₁ tk₁ own wr hpr hJ hnw hfr hown F₁ N₁
    obtain ⟨vr, vs, ts, nP, pats, rfl, htl, hpl, hP, hat, hok, hb⟩ := hJ
    obtain ⟨sz, tsz, Row, rv, rz, nR, rfl, rfl, hRow, hri, hrz, hrl, hsz, hi2'⟩ : ∃ (sz : Int) (tsz : Tok) (Row : Addr) (rv : List Value) (rz : List Int) (nR : Nat), v0 = .int sz tsz ∧ v1 = .ref Row ∧ (Row, W.listOf rv.toArray nR) ∈ news₁ ∧ IntsAre rv rz ∧ (∀ z ∈ rz, 0 ≤ z ∧ z < 70) ∧ rz.length ≤ 5 ∧ (0 ≤ sz ∧ sz < 6) ∧ i < 2 := by
      match i, hpr with
      | 0, h => simp only [List.getElem?_cons_zero, Option.some.injEq, Prod.mk.injEq] at h; exact ⟨s1, t1, R1, rv1, rz1, n1, h.1.symm, h.2.symm, hb _ (.tail _ (.head _)), hi1, hz1, hl1, hs1, by omega⟩
      | 1, h => simp only [List.getElem?_cons_succ, List.getElem?_cons_zero, Option.some.injEq, Prod.mk.injEq] at h; exact ⟨s2, t2, R2, rv2, rz2, n2, h.1.symm, h.2.symm, hb _ (.tail _ (.tail _ (.head _))), hi2, hz2, hl2, hs2, by omega⟩
      | i + 2, h => simp at h
    refine pat_turn base h₀ L S D PL Row _ vr vs rv rz sz tsz ts nP nR _ own wr _ E B F₁ X N₁ T (List.mem_append_left _ hP) (List.mem_append_left _ hRow) hri hrz hrl hsz.1 hsz.2 (by omega) ?_
    intro h' tk' T' n' news₂ F' N' keep hP' hat'
    have hPw : PL ∉ wr := hnw _ hP
    have ho : ∀ p ∈ own, p ∈ news₂ := fun p hp => keep p (List.mem_append_right _ hp) (by
      rcases hown p hp with e | e | e
      · exact fun q => hPw (q ▸ e)
      · rw [e]; exact ne _ _ m0
      · simp only [List.mem_cons, List.not_mem_nil, or_false] at e
        rcases e with e | e
        · rw [e]; exact ne _ _ m1
        · rw [e]; exact ne _ _ m2)
    have hc1 : "tuple_iterator" ≠ "tuple" := by decide
    have hc2 : "tuple_iterator" ≠ "list" := by decide
    refine ⟨rfl, h', tk', _, news₂, rfl, F', N', ho, _, _, ts ++ [T'], n', pats ++ [((rz.take sz.toNat).map (fun z => z.fmod 7), (rz.take sz.toNat).map (bitOf 7))], rfl, by simp [htl], by simp [hpl], mem_free hP' hPw, ?_, ?_, ?_⟩
    · intro j Tj p h1 h2
      refine off_free hfr hc1 hc2 N' ho ?_
      rcases Nat.lt_or_ge j i with hj | hj
      · rw [List.getElem?_append_left (by omega)] at h1 h2
        refine (hat j Tj p h1 h2).sub fun q hq => ?_
        obtain ⟨q1, q2⟩ := List.mem_filter.mp hq
        exact List.mem_filter.mpr ⟨keep q (List.mem_append_left _ q1) (by simpa using q2), q2⟩
      · rw [List.getElem?_append_right (by omega)] at h1 h2
        have e1 : j - ts.length = 0 := by
          have := (List.getElem?_eq_some_iff.mp h1).1
          simp at this; omega
        have e2 : j - pats.length = 0 := by omega
        rw [e1] at h1
        rw [e2] at h2
        simp only [List.getElem?_cons_zero, Option.some.injEq] at h1 h2
        subst h1 h2
        exact hat'
    · intro p hp
      rcases List.mem_append.mp hp with hp | hp
      · exact hok p hp
      · rw [List.mem_singleton.mp hp]
        refine ⟨?_, ?_, fun k hk => ?_⟩
        · simp only [List.length_map, List.length_take]; omega
        · simp only [List.length_map]; exact Nat.le_refl _
        · obtain ⟨z, _, rfl⟩ := List.mem_map.mp hk
          exact ⟨Int.fmod_nonneg_of_pos _ (by decide), Int.fmod_lt_of_pos _ (by decide)⟩
    · intro q hq
      have hq1 := hb q hq
      refine mem_free (keep q (List.mem_append_left _ hq1) ?_) (hnw q hq1)
      simp only [List.mem_cons, List.not_mem_nil, or_false] at hq
      rcases hq with rfl | rfl | rfl <;> assumption
  · intro h' tk m' news' F' N' hJ
    obtain ⟨vr, vs, ts, nP, pats, a1, a2, a3, a4, a5, a6, a7⟩ := hJ
    exact hQ h' tk m' news' F' N' ⟨vr, vs, ts, nP, pats, a1, a2, a3, a4, a5, a6, fun q hq => a7 q (by rw [List.mem_singleton.mp hq]; exact .head _)⟩
set_option maxHeartbeats 4000000 in
theorem law2 : ∀ {w : World} {mean : ExcName → Option Value} {mg mb : Str → Option Value} (base h₀ : Heap) (L S D : Addr) (s : Shared) (ds : List Value) (zs : List Int) (rest : List Stmt) (Q : Flow → Shared → Prop) (E : Value → Shared → Prop)
  (B : Below callerA base [] h₀) (F : Fr h₀ L s.heap (fun y => if y = Str.ofString "drawn" then some (Value.ref D) else [(Str.ofString "script", Value.ref S)].reverse.lookup y)) (X : (hd.heap_39 (World.params w)).In h₀) (N : News h₀ L s.heap [(D, W.listOf ds.toArray 0)]) (T : Top hd.view_39 (looseW hd.view_39 [Str.ofString "SINGLE_WILDCARD", Str.ofString "MULTI_WILDCARD", Str.ofString "DEFAULT_FIRST_ELEMENT", Str.ofString "_path_to_elements", Str.ofString "_WILDCARD_RE"]) mean mg mb h₀)
  (hi : IntsAre ds zs) (hl : zs.length = 30) (hz : ∀ z ∈ zs, 0 ≤ z ∧ z < 70) (hE : PassesOwn (model (RowW.prog (OpenRow.toRowW (OpenLaw.row PySem.Challenge.rw_fu0002_01))) w) (callerA.deeper (envOf (Str.ofString "law") (scopeOf (hd.heap_39 (World.params w)) 201) L 201 (.ref 200))) (envOf (Str.ofString "law") (scopeOf (hd.heap_39 (World.params w)) 201) L 201 (.ref 200)) E)
  (hcont : ∀ h' tk' (PL : Addr) vr vs (ts : List Addr) (nP : Nat) (pats : List (List Int × List Bool)) news₂, Fr h₀ L h' (mP PL D S vr vs) → News h₀ L h' news₂ → (D, W.listOf ds.toArray 0) ∈ news₂ → ts.length = 2 → pats.length = 2 → (PL, W.listOf (ts.map Value.ref).toArray nP) ∈ news₂ →
    (∀ (j : Nat) T p, ts[j]? = some T → pats[j]? = some p → PatAt news₂ T p.1 p.2) → (∀ p ∈ pats, PatOk p) → wpAny (model (RowW.prog (OpenRow.toRowW (OpenLaw.row PySem.Challenge.rw_fu0002_01))) w) (callerA.deeper (envOf (Str.ofString "law") (scopeOf (hd.heap_39 (World.params w)) 201) L 201 (.ref 200))) (execs rest (envOf (Str.ofString "law") (scopeOf (hd.heap_39 (World.params w)) 201) L 201 (.ref 200))) Q E { s with heap := h', toks := tk' }),
  wpAny (model (RowW.prog (OpenRow.toRowW (OpenLaw.row PySem.Challenge.rw_fu0002_01))) w) (callerA.deeper (envOf (Str.ofString "law") (scopeOf (hd.heap_39 (World.params w)) 201) L 201 (.ref 200))) (execs (((fnBody (hd.heap_39 (World.params w)) 201).drop 2).take 2 ++ rest) (envOf (Str.ofString "law") (scopeOf (hd.heap_39 (World.params w)) 201) L 201 (.ref 200))) Q E s := by
  intro w mean mg mb base h₀ L S D s ds zs rest Q E B F X N T hi hl hz hE hcont
  revert X
  k_fill
  intro X
  conv in (_ ++ rest) => whnf
  repeat (conv in (scopeOf _ _) => whnf)
  refine execs_stop ?_
  k_steps
  unfold Stop
  refine execs_stop ?_
  refine For_stop ?_
  k_steps
  unfold Stop
  rename Fr _ _ _ _ => F8
  rename News _ _ _ _ => N8
  rename (IntsAre _ (List.take (min 7 _ - 2) _)) => hI1
  rename (IntsAre _ (List.take (min 12 _ - 7) _)) => hI2
  rename (D < _) => lD
  rename (_ < _ ∧ D < _) => lR1
  rename (_ < _ ∧ _ < _ ∧ _ < _ ∧ D < _) => lR2
  have bnd : ∀ (a b : Nat), ∀ z ∈ List.take a (List.drop b zs), 0 ≤ z ∧ z < 70 := fun a b z h => hz z (List.mem_of_mem_drop (List.mem_of_mem_take h))
  refine pat_loop base h₀ L S D _ _ _ _ _ _ _ ds _ _ zs _ _ _ _ _ _ _ _ _ _ 0 0 0 _ _ _ B (by rw [mP_zero]; exact F8) X N8 T (.head _) (.tail _ (.tail _ (.tail _ (.head _)))) (.tail _ (.head _)) (.tail _ (.tail _ (.tail _ (.tail _ (.head _))))) (.tail _ (.tail _ (.head _))) (.tail _ (.tail _ (.tail _ (.tail _ (.tail _ (.head _)))))) (.tail _ (.tail _ (.tail _ (.tail _ (.tail _ (.tail _ (.head _)))))))
    (Ne.symm (Nat.ne_of_lt lR1.1)) (Ne.symm (Nat.ne_of_lt lR2.2.2.1)) (Nat.ne_of_lt lD) hI1 hI2 (bnd _ _) (bnd _ _) (by rw [List.length_take]; omega) (by rw [List.length_take]; omega) ⟨Int.fmod_nonneg_of_pos _ (by decide), Int.fmod_lt_of_pos _ (by decide)⟩ ⟨Int.fmod_nonneg_of_pos _ (by decide), Int.fmod_lt_of_pos _ (by decide)⟩ hE ?_
  intro h' tk m' news' F' N' hJ
  obtain ⟨vr, vs, ts, nP, pats, rfl, a2, a3, a4, a5, a6, a7⟩ := hJ
  exact hcont h' tk _ vr vs ts nP pats news' F' N' (a7 _ (.head _)) a2 a3 a4 (fun j T' p h1 h2 => (a5 j T' p h1 h2).sub fun q hq => (List.mem_filter.mp hq).1) a6
end Mine
end
section
theorem Mine.off_Lg : True := by
  w_top off
  trivial
open PySem PySem.W PyProof.Rows
set_option Elab.async false
set_option linter.unusedVariables false
set_option linter.unusedSimpArgs false
set_option maxRecDepth 100000
namespace Mine

open PyProof.V
local macro_rules | `(tactic| k_all) => `(tactic| with_reducible assumption)
local macro_rules | `(tactic| k_mem) => `(tactic| assumption)
def GoalOk (p : List Int × List Bool) : Prop := p.1.length ≤ 5 ∧ p.1.length ≤ p.2.length ∧ ∀ k ∈ p.1, 2 ≤ k ∧ k < 7
def GoalJ (GL PL D S : Addr) (vq vs : Option Value) (bs : List (Addr × Obj)) (i : Nat) (m : Str → Option Value) (news' : List (Addr × Obj)) : Prop :=
  ∃ (vr ve : Option Value) (ts : List Addr) (nP : Nat) (gls : List (List Int × List Bool)), m = mG GL PL D S vr ve vq vs ∧ ts.length = i ∧ gls.length = i ∧ (GL, W.listOf (ts.map Value.ref).toArray nP) ∈ news' ∧
    (∀ (j : Nat) T p, ts[j]? = some T → gls[j]? = some p → PatAt (offL GL news') T p.1 p.2) ∧ (∀ p ∈ gls, GoalOk p) ∧ ∀ q ∈ bs, q ∈ news'
theorem mG_zero {GL PL D S : Addr} {vq vs : Option Value} : mG GL PL D S vq none vq vs = fun y => if y = Str.ofString "goals" then some (.ref GL) else mP PL D S vq vs y := by
  funext y
  unfold mG
  by_cases h1 : y = Str.ofString "row"
  · subst h1; rfl
  by_cases h2 : y = Str.ofString "each"
  · subst h2; rfl
  simp only [h1, h2, if_false]
set_option maxHeartbeats 4000000 in
theorem law3 : ∀ {w : World} {mean : ExcName → Option Value} {mg mb : Str → Option Value} (base h₀ : Heap) (L S D PL : Addr) (s : Shared) (vq vs : Option Value) (ds : List Value) (zs : List Int) (news : List (Addr × Obj)) (rest : List Stmt) (Q : Flow → Shared → Prop) (E : Value → Shared → Prop)
  (B : Below callerA base [] h₀) (F : Fr h₀ L s.heap (mP PL D S vq vs)) (X : (hd.heap_39 (World.params w)).In h₀) (N : News h₀ L s.heap news) (T : Top hd.view_39 (looseW hd.view_39 [Str.ofString "SINGLE_WILDCARD", Str.ofString "MULTI_WILDCARD", Str.ofString "DEFAULT_FIRST_ELEMENT", Str.ofString "_path_to_elements", Str.ofString "_WILDCARD_RE"]) mean mg mb h₀) (md : (D, W.listOf ds.toArray 0) ∈ news)
  (hi : IntsAre ds zs) (hl : zs.length = 30) (hz : ∀ z ∈ zs, 0 ≤ z ∧ z < 70) (hE : PassesOwn (model (RowW.prog (OpenRow.toRowW (OpenLaw.row PySem.Challenge.rw_fu0002_01))) w) (callerA.deeper (envOf (Str.ofString "law") (scopeOf (hd.heap_39 (World.params w)) 201) L 201 (.ref 200))) (envOf (Str.ofString "law") (scopeOf (hd.heap_39 (World.params w)) 201) L 201 (.ref 200)) E)
  (hcont : ∀ h' tk' (GL : Addr) vr ve (ts : List Addr) (nP : Nat) (gls : List (List Int × List Bool)) news₂, Fr h₀ L h' (mG GL PL D S vr ve vq vs) → News h₀ L h' news₂ → (∀ q ∈ news, q ∈ news₂) → ts.length = 3 → gls.length = 3 → (GL, W.listOf (ts.map Value.ref).toArray nP) ∈ news₂ →
    (∀ (j : Nat) T p, ts[j]? = some T → gls[j]? = some p → PatAt news₂ T p.1 p.2) → (∀ p ∈ gls, GoalOk p) → wpAny (model (RowW.prog (OpenRow.toRowW (OpenLaw.row PySem.Challenge.rw_fu0002_01))) w) (callerA.deeper (envOf (Str.ofString "law") (scopeOf (hd.heap_39 (World.params w)) 201) L 201 (.ref 200))) (execs rest (envOf (Str.ofString "law") (scopeOf (hd.heap_39 (World.params w)) 201) L 201 (.ref 200))) Q E { s with heap := h', toks := tk' }),
  wpAny (model (RowW.prog (OpenRow.toRowW (OpenLaw.row PySem.Challenge.rw_fu0002_01))) w) (callerA.deeper (envOf (Str.ofString "law") (scopeOf (hd.heap_39 (World.params w)) 201) L 201 (.ref 200))) (execs (((fnBody (hd.heap_39 (World.params w)) 201).drop 4).take 2 ++ rest) (envOf (Str.ofString "law") (scopeOf (hd.heap_39 (World.params w)) 201) L 201 (.ref 200))) Q E s := by
  intro w mean mg mb base h₀ L S D PL s vq vs ds zs news rest Q E B F X N T md hi hl hz hE hcont
  revert X
  k_fill
  intro X
  conv in (_ ++ rest) => whnf
  repeat (conv in (scopeOf _ _) => whnf)
  refine execs_stop ?_
  k_steps
  unfold Stop
  refine execs_stop ?_
  refine For_stop ?_
  k_steps
  unfold Stop
  rename Fr _ _ _ _ => F8
  rename News _ _ _ ((_, W.listOf #[] 0) :: _) => N8
  rename IsRange _ _ _ _ _ _ _ _ => hR
  rename (∀ p ∈ news, p.1 < _) => l8
  refine range_loop (h₀ := h₀) (n := 3) rfl F8 N8 hR (by decide) (by rw [Builtin.Range.rangeSize]; decide) (by rfl) (by rfl) (GoalJ _ PL D S vq vs news) ⟨vq, none, [], 0, [], mG_zero.symm, rfl, rfl, .head _, fun j T' p h1 _ => (by simp at h1), fun p hp => (nomatch hp), fun q hq => .tail _ hq⟩ ?_ ?_ hE
  · intro i ti m₁ news₁ h₁ tk₁ own wr hi3 hJ hnw hfr hown F₁ N₁
    obtain ⟨vr, ve, ts, nP, gls, rfl, htl, hpl, hP, hat, hok, hb⟩ := hJ
    rw [Int.zero_add] at F₁
    refine goal_turn base h₀ L S D PL _ _ vr ve vq vs ds zs i ti ts nP 0 _ own wr _ E B F₁ X N₁ T (List.mem_append_left _ hP) (List.mem_append_left _ (hb _ md)) hi hz hl hi3 (by omega) ?_
    intro h' tk' vr' T' n' news₂ ks bs F' N' keep hP' hat' hk1 hk2 hk3
    have hPw := hnw _ hP
    have ho : ∀ p ∈ own, p ∈ news₂ := fun p hp => keep p (List.mem_append_right _ hp) (fun q => hPw (q ▸ hown p hp))
    have hc1 : "range_iterator" ≠ "tuple" := by decide
    have hc2 : "range_iterator" ≠ "list" := by decide
    refine ⟨rfl, h', tk', _, news₂, rfl, F', N', ho, _, _, ts ++ [T'], n', gls ++ [(ks, bs)], rfl, by simp [htl], by simp [hpl], mem_free hP' hPw, ?_, ?_, ?_⟩
    · intro j Tj p h1 h2
      refine off_free hfr hc1 hc2 N' ho ?_
      rcases Nat.lt_or_ge j i with hj | hj
      · rw [List.getElem?_append_left (by omega)] at h1 h2
        refine (hat j Tj p h1 h2).sub fun q hq => ?_
        obtain ⟨q1, q2⟩ := List.mem_filter.mp hq
        exact List.mem_filter.mpr ⟨keep q (List.mem_append_left _ q1) (by simpa using q2), q2⟩
      · rw [List.getElem?_append_right (by omega)] at h1 h2
        have e1 : j - ts.length = 0 := by
          have := (List.getElem?_eq_some_iff.mp h1).1
          simp at this; omega
        have e2 : j - gls.length = 0 := by omega
        rw [e1] at h1
        rw [e2] at h2
        simp only [List.getElem?_cons_zero, Option.some.injEq] at h1 h2
        subst h1 h2
        exact hat'
    · intro p hp
      rcases List.mem_append.mp hp with hp | hp
      · exact hok p hp
      · rw [List.mem_singleton.mp hp]
        exact ⟨hk1, hk2, hk3⟩
    · intro q hq
      exact mem_free (keep q (List.mem_append_left _ (hb q hq)) (Nat.ne_of_lt (l8 q hq))) (hnw q (hb q hq))
  · intro h' tk m' news' F' N' hJ
    obtain ⟨vr, ve, ts, nP, gls, rfl, a2, a3, a4, a5, a6, a7⟩ := hJ
    exact hcont h' tk _ vr ve ts nP gls news' F' N' a7 a2 a3 a4 (fun j T' p h1 h2 => (a5 j T' p h1 h2).sub fun q hq => (List.mem_filter.mp hq).1) a6
end Mine
end
section
theorem Mine.off_Lh : True := by
  w_top off
  trivial
open PySem PySem.W PyProof.Rows PySem.Calls
open PySem (Expr)
set_option Elab.async false
set_option linter.unusedVariables false
set_option maxRecDepth 100000
namespace Mine
section
variable {prog : Program} {w : World} {A A₀ : Around} {E : Value → Shared → Prop} {R : Result → Shared → Prop} {s : Shared} {env : Env} {h₀ base : Heap} {outer : List Env} {L : Addr}
theorem compLoopA {elt target iter : PySem.Expr} {scope : Scope} {pos : Pos} {it acc : Value} {env : Env} (I : Nat → Shared → Prop)
    (turn : ∀ n s, I n s → wpAny (model prog w) A (pyNext it) (fun r s₁ => match r with
      | none => R (.ok .next) s₁
      | some v => wpAny (model prog w) A (letOwnedTupleGo target it v) (fun _ s₁' => wpAny (model prog w) A (assign target env v) (fun _ s₂ => wpAny (model prog w) A (eval elt env) (fun x s₃ =>
          wpAny (model prog w) A (call (.builtin "list.append") [acc, x]) (fun _ s₄ => ∃ m, m < n ∧ I m s₄) (notedBy (model prog w) A env fun e s' => R (.error e) s') s₃)
          (notedBy (model prog w) A env fun e s' => R (.error e) s') s₂) (notedBy (model prog w) A env fun e s' => R (.error e) s') s₁') (notedBy (model prog w) A env fun e s' => R (.error e) s') s₁) (notedBy (model prog w) A env fun e s' => R (.error e) s') s)
    (n : Nat) (h : I n s) :
    codeAny (model prog w) A (.compLoop (.ListComp elt [⟨target, iter, [], 0⟩] scope pos) 0 it acc env) R s := by
  refine codeAny_loop rfl I (fun n s hI => ?_) n h
  show wpAny _ _ ((compTurn (.ListComp elt [⟨target, iter, [], 0⟩] scope pos) 0 it acc env).onRaise (fun x => do noteFrame x env; theTreesLotGoes x)) _ _ s
  refine wpAny_noted ?_
  rw [compTurn_list1]
  refine wpAny_bind (wpAny_standAt (wpAny_bind (wpAny_mono (turn n s hI) (fun r s₁ h₁ => ?_) fun _ _ h' => h')))
  cases r with
  | none => exact wpAny_pure h₁
  | some v =>
    refine wpAny_bind (wpAny_mono h₁ (fun _ s₁' h₁' => ?_) fun _ _ h' => h')
    exact wpAny_bind (wpAny_mono h₁' (fun _ s₂ h₂ => wpAny_bind (wpAny_bind (wpAny_mono h₂ (fun x s₃ h₃ => wpAny_bind (wpAny_mono h₃
      (fun _ s₄ h₄ => wpAny_pure (wpAny_pure ⟨rfl, h₄⟩)) fun _ _ h' => h')) fun _ _ h' => h'))) fun _ _ h' => h')
/-- what a comprehension over a list asks: its ledger grows -/
def GrowAt (prog : Program) (w : World) (A : Around) (h₀ : Heap) (L : Addr) (m : Str → Option Value) (env : Env) (scope : Scope) (elt target : PySem.Expr) (n : Nat) (P : Nat → Up → Prop) (G : Nat → Value → Prop) (news : List (Addr × Obj)) (xv : Value) (s₁ : Shared) : Prop :=
  ∃ (ax : Addr) (items : Array Value) (nn : Nat) (fp : Addr → List Addr) (St : Addr → Nat → Heap → Prop), xv = .ref ax ∧ (ax, W.listOf items nn) ∈ news ∧ n ≤ 1000 ∧ Fr h₀ L s₁.heap m ∧ News h₀ L s₁.heap news ∧
    (∀ I C, (∀ p ∈ news, p.1 ≠ I) → TurnOf prog w A (compEnv scope C env) target I (fp I) [I] n P (St I)) ∧ (∀ I h, h.IsListIter I ax 0 → (∀ p ∈ news, h.get? p.1 = some p.2) → St I 0 h) ∧ (∀ I b, b ∈ fp I → b = I ∨ ∃ o, (b, o) ∈ news) ∧ (∀ I i h, St I i h → ∃ o, h.get? I = some o) ∧
    (∀ i up C mC h₁ tk₁ news₁, i < n → P i up → h₁.Ns C (up mC) → (∀ p ∈ news, p ∈ news₁) → Fr h₀ L h₁ m → News h₀ L h₁ news₁ →
      wpAny (model prog w) A (eval elt (compEnv scope C env)) (fun y s₂ => G i y ∧ ∃ h₂ tk₂ news₂, s₂ = { s₁ with heap := h₂, toks := tk₂ } ∧ Fr h₀ L h₂ m ∧ News h₀ L h₂ news₂ ∧ ∀ p ∈ news₁, p ∈ news₂) (fun _ _ => False) { s₁ with heap := h₁, toks := tk₁ })
/-- the end of a comprehension's loop -/
def GrowFin (h₀ : Heap) (L : Addr) (m : Str → Option Value) (scope : Scope) (env : Env) (n : Nat) (G : Nat → Value → Prop) (news : List (Addr × Obj)) (s₁ : Shared) (R : Value → Env → Result → Shared → Prop) : Prop :=
  ∀ (ys : List Value) D C nD h' tk' mC news', ys.length = n → (∀ (i : Nat) (y : Value), ys[i]? = some y → G i y) → Fr h₀ L h' m → News h₀ L h' ((D, W.listOf ys.toArray nD) :: news') → (∀ p ∈ news, p ∈ news') → (∀ p ∈ news, p.1 ≠ D) → h'.Ns C mC → (∀ p ∈ news', p.1 ≠ C) → D ≠ C → L ≠ C → h₀.get? C = none →
    R (.ref D) (compEnv scope C env) (.ok .next) { s₁ with heap := h', toks := tk' }
set_option maxHeartbeats 1000000 in
theorem grow_block {elt target iter : PySem.Expr} {scope : Scope} {pos : Pos} {n : Nat} {P : Nat → Up → Prop} {m : Str → Option Value} (G : Nat → Value → Prop) {news : List (Addr × Obj)} {xv : Value} {s₁ : Shared} {R : Value → Env → Result → Shared → Prop}
    (hfree : ∀ y ∈ scope.names, y.2 ≠ .free) (hcell : ∀ y ∈ scope.names, y.2 ≠ .cell) (hkind : scope.kind = .function)
    (h : GrowAt prog w A h₀ L m env scope elt target n P G news xv s₁) (hQ : GrowFin h₀ L m scope env n G news s₁ R) :
    wpAny (model prog w) A (pyIter xv) (fun it s₂ => wpAny (model prog w) A (newList []) (fun acc s₃ =>
      wpAny (model prog w) A (newFunctionEnv scope env.globals [] [] env.qual none .none (some env)) (fun cenv s₄ =>
        codeAny (model prog w) A (.compStart (.ListComp elt [⟨target, iter, [], 0⟩] scope pos) 0 it acc { cenv with scope := scope }) (R acc { cenv with scope := scope }) s₄) E s₃) E s₂) E s₁ := by
  obtain ⟨ax, items, nn, fp, St, rfl, hax, hsz, F, N, hW, hst0, hfp, hI0, helt⟩ := h
  have hl : s₁.heap.IsList ax items := ⟨_, (N _ hax).1, rfl, _, rfl⟩
  refine wpAny_pyIter_list hl (wpAny_newObj_type (hd := by size_fits) (wpAny_newFunctionEnv hcell (by intro y hy; simp at hy) (fun h₁ hns₁ hsb₁ => ?_) hkind))
  dsimp only at hns₁ hsb₁ ⊢
  generalize hH1 : s₁.heap.push { cls := .type "list_iterator", data := .fields #[.ref ax, .int 0 0] } = H1 at hns₁ hsb₁ ⊢
  have hD : H1.objs.size = s₁.heap.objs.size + 1 := by rw [← hH1, Heap.size_push]
  generalize hH2 : H1.push { cls := .type "list", dict := none, data := .seq ([] : List Value).toArray } = H2 at hns₁ hsb₁ ⊢
  have hC : H2.objs.size = s₁.heap.objs.size + 2 := by rw [← hH2, Heap.size_push, hD]
  have hDI : H1.objs.size ≠ s₁.heap.objs.size := by rw [hD]; exact Nat.succ_ne_self _
  have hDC : H1.objs.size ≠ H2.objs.size := by rw [hD, hC]; exact Nat.ne_of_lt (Nat.lt_succ_self _)
  have hIC : s₁.heap.objs.size ≠ H2.objs.size := by rw [hC]; exact Nat.ne_of_lt (Nat.lt_succ_of_lt (Nat.lt_succ_self _))
  have fresh : ∀ a, s₁.heap.objs.size ≤ a → s₁.heap.get? a = none := fun a ha => by
    cases e : s₁.heap.get? a with
    | none => rfl
    | some o' => exact absurd (Heap.lt_size e) (Nat.not_lt.mpr ha)
  have fI := fresh s₁.heap.objs.size (Nat.le_refl _)
  have fD := fresh H1.objs.size (by rw [hD]; exact Nat.le_succ _)
  have fC := fresh H2.objs.size (by rw [hC]; exact Nat.le_add_right _ _)
  have ne_of : ∀ {a b : Addr} {o : Obj}, s₁.heap.get? a = some o → s₁.heap.get? b = none → a ≠ b := fun e n q => by rw [q, n] at e; cases e
  have old : ∀ b o, s₁.heap.get? b = some o → h₁.get? b = some o := fun b o e =>
    hsb₁.extBut b o (ne_of e fC) (Heap.get?_push_of_some _ (hH2 ▸ Heap.get?_push_of_some _ (hH1 ▸ Heap.get?_push_of_some _ e)))
  have hit : h₁.IsListIter s₁.heap.objs.size ax 0 :=
    ⟨_, hsb₁.extBut _ _ hIC (Heap.get?_push_of_some _ (hH2 ▸ Heap.get?_push_of_some _ (hH1 ▸ Heap.get?_push_size _ rfl))), rfl, rfl⟩
  have hacc : h₁.PlainList H1.objs.size #[] := ⟨_, hsb₁.extBut _ _ hDC (Heap.get?_push_of_some _ (hH2 ▸ Heap.get?_push_size _ rfl))⟩
  generalize hIe : s₁.heap.objs.size = I at *
  generalize hDe : H1.objs.size = D at *
  generalize hCe : H2.objs.size = C at *
  obtain ⟨oL, esL, epL, hL, _⟩ := F.ns
  have LI : L ≠ I := ne_of hL fI
  have LD : L ≠ D := ne_of hL fD
  have LC : L ≠ C := ne_of hL fC
  have gI : h₀.get? I = none := kts_none F.keep fI
  have gD : h₀.get? D = none := kts_none F.keep fD
  have gC : h₀.get? C = none := kts_none F.keep fC
  have hnI : ∀ p ∈ news, p.1 ≠ I ∧ p.1 ≠ D ∧ p.1 ≠ C := fun p hp => ⟨ne_of (N p hp).1 fI, ne_of (N p hp).1 fD, ne_of (N p hp).1 fC⟩
  have Wt := hW I C fun p hp => (hnI p hp).1
  have hCfp : C ∉ fp I := fun hm => by
    rcases hfp I C hm with e | ⟨o, ho⟩
    · exact hIC e.symm
    · exact (hnI _ ho).2.2 rfl
  have hDfp : D ∉ fp I := fun hm => by
    rcases hfp I D hm with e | ⟨o, ho⟩
    · exact hDI e
    · exact (hnI _ ho).2.1 rfl
  have loop : ∀ s₂ : Shared, s₂ = { s₁ with heap := h₁, toks := s₁.toks + ([] : List (Str × Value)).length } →
      codeAny (model prog w) A (.compLoop (.ListComp elt [⟨target, iter, [], 0⟩] scope pos) 0 (.ref I) (.ref D) (compEnv scope C env))
        (R (.ref D) (compEnv scope C env)) s₂ := by
    rintro s₂ rfl
    refine compLoopA (fun k s' => ∃ (h' : Heap) (tk : Nat) (i : Nat) (ys : List Value) (mC : Str → Option Value) (news' : List (Addr × Obj)), s' = { s₁ with heap := h', toks := tk } ∧ Fr h₀ L h' m ∧ News h₀ L h' news' ∧ (∀ p ∈ news', p.1 ≠ I ∧ p.1 ≠ D ∧ p.1 ≠ C) ∧ (∀ p ∈ news, p ∈ news') ∧
      St I i h' ∧ h'.PlainList D ys.toArray ∧ h'.Ns C mC ∧ (∀ (i : Nat) (y : Value), ys[i]? = some y → G i y) ∧ i ≤ n ∧ ys.length = i ∧ k = n + 1 - i) ?_ (n + 1)
      ⟨h₁, _, 0, [], _, news, rfl, F.keeps old, fun p hp => ⟨old _ _ (N p hp).1, (N p hp).2⟩, hnI, fun p hp => hp, hst0 I h₁ hit fun p hp => old _ _ (N p hp).1, hacc, hns₁, fun i y h => by simp at h, Nat.zero_le _, rfl, rfl⟩
    rintro k s' ⟨h', tk, i, ys, mC, news', rfl, F', N', hne, hsub, hst, hacc', hn', hG, hi, hy, rfl⟩
    have ne_g : ∀ {a b : Addr} {o : Obj}, h₀.get? a = some o → h₀.get? b = none → a ≠ b := fun e n q => by rw [q, n] at e; cases e
    have keepF : ∀ h₂ : Heap, (∀ b o, b ≠ I → b ≠ D → b ≠ C → h'.get? b = some o → h₂.get? b = some o) → Fr h₀ L h₂ m := fun h₂ kk =>
      ⟨F'.ns.at' fun o e => kk _ o LI LD LC e, fun b o e => kk b o (ne_g e gI) (ne_g e gD) (ne_g e gC) (F'.keep b o e), F'.above⟩
    have keepN : ∀ h₂ : Heap, (∀ b o, b ≠ I → b ≠ D → b ≠ C → h'.get? b = some o → h₂.get? b = some o) → News h₀ L h₂ news' := fun h₂ kk p hp =>
      ⟨kk _ _ (hne p hp).1 (hne p hp).2.1 (hne p hp).2.2 (N' p hp).1, (N' p hp).2⟩
    by_cases hlt : i < n
    · refine wpAny_mono (Wt.item i _ mC (fun s₃ => ?_) (fun _ _ => False) hlt hst hn' hCfp fun up h₃ tk₃ hP hst₃ hn₃ hk₃ => ?_) (fun r s₂ h₂ => ?_) (fun _ _ (q : False) => q.elim)
      · exact wpAny (model prog w) A (eval elt (compEnv scope C env)) (fun x s₃ =>
          wpAny (model prog w) A (call (.builtin "list.append") [.ref D, x]) (fun _ s₄ => ∃ m_1, m_1 < n + 1 - i ∧ ∃ (h' : Heap) (tk : Nat) (i : Nat) (ys : List Value) (mC : Str → Option Value) (news' : List (Addr × Obj)), s₄ = { s₁ with heap := h', toks := tk } ∧ Fr h₀ L h' m ∧ News h₀ L h' news' ∧ (∀ p ∈ news', p.1 ≠ I ∧ p.1 ≠ D ∧ p.1 ≠ C) ∧ (∀ p ∈ news, p ∈ news') ∧
      St I i h' ∧ h'.PlainList D ys.toArray ∧ h'.Ns C mC ∧ (∀ (i : Nat) (y : Value), ys[i]? = some y → G i y) ∧ i ≤ n ∧ ys.length = i ∧ m_1 = n + 1 - i) (fun _ _ => False) s₃) (fun _ _ => False) s₃
      · have kk : ∀ b o, b ≠ I → b ≠ D → b ≠ C → h'.get? b = some o → h₃.get? b = some o := fun b o bI _ bC e => hk₃ b o (by simpa using bI) bC e
        obtain ⟨nD, hDl⟩ := hacc'
        have hD3 : h₃.get? D = some (W.listOf ys.toArray nD) := hk₃ _ _ (by simpa using hDI) hDC hDl
        obtain ⟨oI, hI3⟩ := hI0 _ _ _ hst₃
        obtain ⟨oC, esC, epC, hC3, hCd, _⟩ := id hn₃
        refine wpAny_mono (helt i up C mC h₃ _ (news' ++ [(I, oI), (D, W.listOf ys.toArray nD), (C, oC)]) hlt hP hn₃ (fun p hp => List.mem_append_left _ (hsub p hp)) (keepF h₃ kk) (fun p hp => ?_)) (fun y s₂ hy2 => ?_) (fun _ _ (q : False) => q.elim)
        · rcases List.mem_append.mp hp with hp | hp
          · exact keepN h₃ kk p hp
          · simp only [List.mem_cons, List.not_mem_nil, or_false] at hp
            rcases hp with rfl | rfl | rfl
            · exact ⟨hI3, Ne.symm LI, gI⟩
            · exact ⟨hD3, Ne.symm LD, gD⟩
            · exact ⟨hC3, Ne.symm LC, gC⟩
        · obtain ⟨hGy, h₄, tk₄, news₂, rfl, F₂, N₂, hs₂⟩ := hy2
          have mI := hs₂ (I, oI) (List.mem_append_right _ (.head _))
          have mD := hs₂ (D, W.listOf ys.toArray nD) (List.mem_append_right _ (.tail _ (.head _)))
          have mC' := hs₂ (C, oC) (List.mem_append_right _ (.tail _ (.tail _ (.head _))))
          have hD4 : h₄.PlainList D ys.toArray := ⟨nD, (N₂ _ mD).1⟩
          refine wpAny_list_append_plain (hsz := by rw [List.size_toArray, hy, sizeLine_eq]; omega) hD4 fun h₅ hl₅ hs₅ => ?_
          have fd : ∀ b o, b ≠ D → h₄.get? b = some o → h₅.get? b = some o := fun b o bD e => hs₅.extBut b o bD e
          refine ⟨n + 1 - (i + 1), by omega, h₅, _, i + 1, ys ++ [y], _, news₂.filter (Off I D C), rfl,
            ⟨F₂.ns.at' fun o e => fd _ o LD e, fun b o e => fd b o (ne_g e gD) (F₂.keep b o e), F₂.above⟩,
            fun p hp => ?_, fun p hp => off_iff.mp (List.mem_filter.mp hp).2, fun p hp => List.mem_filter.mpr ⟨hs₂ p (List.mem_append_left _ (hsub p hp)), off_iff.mpr (hnI p hp)⟩, Wt.frame _ _ _ hst₃ fun b hb o e => ?_, by simpa using hl₅, hn₃.at' (fun o e => ?_), ?_, hlt, by simp [hy], rfl⟩
          · obtain ⟨h1, h2⟩ := List.mem_filter.mp hp
            exact ⟨fd _ _ (off_iff.mp h2).2.1 (N₂ p h1).1, (N₂ p h1).2⟩
          · refine fd b o (fun q => hDfp (q ▸ hb)) ?_
            rcases hfp I b hb with rfl | ⟨ob, hob⟩
            · rw [hI3] at e
              cases e
              exact (N₂ _ mI).1
            · have z := (keepN h₃ kk _ (hsub _ hob)).1
              rw [z] at e
              cases e
              exact (N₂ _ (hs₂ _ (List.mem_append_left _ (hsub _ hob)))).1
          · have e' : o = oC := Option.some.inj (e.symm.trans hC3)
            subst e'
            exact fd _ _ (Ne.symm hDC) (N₂ _ mC').1
          · intro j y' hj
            rcases Nat.lt_or_ge j ys.length with hlj | hlj
            · rw [List.getElem?_append_left hlj] at hj
              exact hG j y' hj
            · rw [List.getElem?_append_right hlj] at hj
              have e1 : j - ys.length = 0 := by
                have := (List.getElem?_eq_some_iff.mp hj).1
                simp at this; omega
              rw [e1] at hj
              simp only [List.getElem?_cons_zero, Option.some.injEq] at hj
              subst hj
              rw [show j = i by omega]
              exact hGy
      · cases r with
        | none => exact h₂.elim
        | some v => exact wpAny_mono h₂ (fun _ s₂' h₂' => wpAny_mono h₂' (fun _ s₃ h₃ => wpAny_mono h₃ (fun x s₄ h₄ => wpAny_mono h₄ (fun _ _ q => q) fun _ _ (q : False) => q.elim) fun _ _ (q : False) => q.elim) fun _ _ (q : False) => q.elim) fun _ _ (q : False) => q.elim
    · have hin : i = n := by omega
      subst hin
      refine Wt.done _ _ _ hst fun h₂ tk₂ hk₂ => ?_
      have kk : ∀ b o, b ≠ I → b ≠ D → b ≠ C → h'.get? b = some o → h₂.get? b = some o := fun b o bI bD bC e => hk₂ b o (by simpa using bI) e
      obtain ⟨nD, hDl⟩ := hacc'
      have hD3 : h₂.get? D = some (W.listOf ys.toArray nD) := hk₂ _ _ (by simpa using hDI) hDl
      refine hQ ys D C nD h₂ _ mC news' hy hG (keepF h₂ kk) (fun p hp => ?_) hsub (fun p hp => (hnI p hp).2.1) (hn'.at' fun o e => hk₂ _ o (by simpa using Ne.symm hIC) e) (fun p hp => (hne p hp).2.2) hDC LC gC
      rcases List.mem_cons.mp hp with rfl | hp
      · exact ⟨hD3, Ne.symm LD, gD⟩
      · exact keepN h₂ kk p hp
  exact codeAny_compStart_list (loop _ rfl) (wpAny_pyIter_listiter hit (loop _ rfl))
theorem comp_grow {elt target iter : PySem.Expr} {scope : Scope} {pos : Pos} {Q : Value → Shared → Prop} {n : Nat} {P : Nat → Up → Prop} {m : Str → Option Value} (G : Nat → Value → Prop)
    (hfree : ∀ y ∈ scope.names, y.2 ≠ .free) (hcell : ∀ y ∈ scope.names, y.2 ≠ .cell) (hkind : scope.kind = .function)
    (hnames : ∀ y ∈ scope.names, y.2 = .local → scope.names.lookup y.1 = some .local)
    (h : wpAny (model prog w) A (eval iter env) (fun xv s₁ => ∃ news, GrowAt prog w A h₀ L m env scope elt target n P G news xv s₁ ∧
      ∀ (ys : List Value) D nD h' tk' news', ys.length = n → (∀ (i : Nat) (y : Value), ys[i]? = some y → G i y) → Fr h₀ L h' m → News h₀ L h' ((D, W.listOf ys.toArray nD) :: news') → (∀ p ∈ news, p ∈ news') → (∀ p ∈ news, p.1 ≠ D) → Q (.ref D) { s₁ with heap := h', toks := tk' }) E s)
    (hs : ∀ x, foldedSetIterable iter env x = pure x := by intro _; rfl) :
    wpAny (model prog w) A (eval (.ListComp elt [⟨target, iter, [], 0⟩] scope pos) env) Q E s := by
  refine wpAny_ListComp hfree hkind hnames (wpAny_mono h (fun xv s₁ h₁ => ?_) fun _ _ e => e) hs
  obtain ⟨news, h₁, hQ⟩ := h₁
  refine grow_block (R := fun acc cenv r s' => ∃ m, s'.heap.Ns cenv.locals m ∧ ∀ h', Heap.SameBut cenv.locals s'.heap h' →
            match r with | .ok _ => Q acc { s' with heap := h' } | .error x => wpAny (model prog w) A (passOn "comprehension.variables-let-go" x cenv) Q E { s' with heap := h' }) G hfree hcell hkind h₁ ?_
  intro ys D C nD h' tk' mC news' hy hG F N hsub hD hC hCn hDC hLC hC0
  refine ⟨mC, hC, fun h₃ hs₃ => hQ ys D nD h₃ tk' news' hy hG (F.change hs₃ (Ne.symm hLC) hC0) (fun p hp => ?_) hsub hD⟩
  refine ⟨hs₃.extBut _ _ ?_ (N p hp).1, (N p hp).2⟩
  rcases List.mem_cons.mp hp with rfl | hp
  · exact hDC
  · exact hCn p hp
theorem comp_grow_use {elt target iter : PySem.Expr} {scope : Scope} {pos spos py : Pos} {x : Str} {Q : Flow → Shared → Prop} {n : Nat} {P : Nat → Up → Prop} {m : Str → Option Value} (G : Nat → Value → Prop)
    (hsw : swapsWith (.ListComp elt [⟨target, iter, [], 0⟩] scope pos) (some (.Name x py)) spos.line env = pure true)
    (hfree : ∀ y ∈ scope.names, y.2 ≠ .free) (hcell : ∀ y ∈ scope.names, y.2 ≠ .cell) (hkind : scope.kind = .function)
    (hnames : ∀ y ∈ scope.names, y.2 = .local → scope.names.lookup y.1 = some .local) (hL : env.locals = L) (hx : env.kindOf x = some .local) (hp : (env.scope.kind == .class || (env.scope.kind == .module && env.locals != env.globals)) = false)
    (h : wpAny (model prog w) A (eval iter env) (fun xv s₁ => ∃ news, GrowAt prog w A h₀ L m env scope elt target n P G news xv s₁ ∧
      ∀ (ys : List Value) D nD h' tk' news', ys.length = n → (∀ (i : Nat) (y : Value), ys[i]? = some y → G i y) → Fr h₀ L h' (fun y => if y = x then some (.ref D) else m y) → News h₀ L h' ((D, W.listOf ys.toArray nD) :: news') → (∀ p ∈ news, p ∈ news') → (∀ p ∈ news, p.1 ≠ D) → Q .next { s₁ with heap := h', toks := tk' }) E s)
    (hs : ∀ x, foldedSetIterable iter env x = pure x := by intro _; rfl) :
    wpAny (model prog w) A (exec (.Assign [.Name x py] (.ListComp elt [⟨target, iter, [], 0⟩] scope pos) spos) env) Q E s := by
  subst hL
  rw [exec_Assign_Name_used _ _ _ _ hsw]
  refine wpAny_bind (wpAny_standAt (wpAny_bind ?_))
  show wpAny _ A (do let _ ← comprehension (.ListComp elt [⟨target, iter, [], 0⟩] scope pos) scope env _ (newList []) false (eval iter env) (some (assign (.Name x py) env))) _ _ s
  refine wpAny_bind (wpAny_mono (wpAny_comprehension_use (Q := fun _ s' => Q .next s') rfl hs hfree hkind hnames (wpAny_mono h (fun xv s₁ h₁ => ?_) fun _ _ e => e))
    (fun _ s' hq => wpAny_pure (wpAny_pure hq)) fun _ _ e => e)
  obtain ⟨news, h₁, hQ⟩ := h₁
  refine grow_block (R := fun acc cenv r s' => match r with
          | .ok _ => wpAny (model prog w) A (assign (.Name x py) env acc) (fun _ s'' => ∃ m, s''.heap.Ns cenv.locals m ∧ ∀ h', Heap.SameBut cenv.locals s''.heap h' → Q .next { s'' with heap := h' }) E s'
          | .error x => ∃ m, s'.heap.Ns cenv.locals m ∧ ∀ h', Heap.SameBut cenv.locals s'.heap h' → wpAny (model prog w) A (passOn "comprehension.variables-let-go" x cenv) (fun _ s' => Q .next s') E { s' with heap := h' }) G hfree hcell hkind h₁ ?_
  intro ys D C nD h' tk' mC news' hy hG F N hsub hD hC hCn hDC hLC hC0
  refine wpAny_assign_Name (wpAny_storeName_local hx F.ns (fun h₃ hn₃ hs₃ => ?_) hp)
  replace hs₃ : Heap.SameBut env.locals h' h₃ := hs₃
  have F₃ := F.set hn₃ hs₃
  have N₃ := N.set hs₃
  refine ⟨mC, hC.extBut hs₃.extBut (Ne.symm hLC), fun h₄ hs₄ => hQ ys D nD h₄ _ news' hy hG (F₃.change hs₄ (Ne.symm hLC) hC0) (fun p hp => ?_) hsub hD⟩
  refine ⟨hs₄.extBut _ _ ?_ (N₃ p hp).1, (N₃ p hp).2⟩
  rcases List.mem_cons.mp hp with rfl | hp
  · exact hDC
  · exact hCn p hp
end
end Mine
end
section
theorem Mine.off_Lj : True := by
  w_top off
  trivial
open PySem PySem.W PyProof.Rows PySem.Calls
open PySem (Expr)
set_option Elab.async false
set_option linter.unusedVariables false
set_option maxRecDepth 100000
namespace Mine
section
variable {prog : Program} {w : World} {A A₀ : Around} {E : Value → Shared → Prop} {s : Shared} {env : Env} {h₀ base : Heap} {outer : List Env} {L : Addr}
theorem growPairs {elt : PySem.Expr} {xi xc : Str} {pk pv pt : Pos} {x1 : Nat} {scope : Scope} {n : Nat} {m : Str → Option Value} {G : Nat → Value → Prop} {news : List (Addr × Obj)} {ax : Addr} {ts : List Addr} {prs : List (Value × Value)} {nn : Nat} (hh : A.handled = none)
    (hax : (ax, W.listOf (ts.map Value.ref).toArray nn) ∈ news) (ht : ∀ (j : Nat) (T : Addr) (p : Value × Value), ts[j]? = some T → prs[j]? = some p → (T, tupObj #[p.1, p.2]) ∈ news) (hl1 : ts.length = n) (hl2 : prs.length = n) (hn : n ≤ 1000)
    (F : Fr h₀ L s.heap m) (N : News h₀ L s.heap news) (hkind : scope.kind = .function) (hxi : scope.names.lookup xi = some .local) (hxc : scope.names.lookup xc = some .local) (hne : xi ≠ xc)
    (helt : ∀ i v0 v1 C mC h₁ tk₁ news₁, prs[i]? = some (v0, v1) → h₁.Ns C mC → mC xi = some v0 → mC xc = some v1 → (∀ p ∈ news, p ∈ news₁) → Fr h₀ L h₁ m → News h₀ L h₁ news₁ →
      wpAny (model prog w) A (eval elt (compEnv scope C env)) (fun y s₂ => G i y ∧ ∃ h₂ tk₂ news₂, s₂ = { s with heap := h₂, toks := tk₂ } ∧ Fr h₀ L h₂ m ∧ News h₀ L h₂ news₂ ∧ ∀ p ∈ news₁, p ∈ news₂) (fun _ _ => False) { s with heap := h₁, toks := tk₁ }) :
    GrowAt prog w A h₀ L m env scope elt (.Tuple [.Name xi pk, .Name xc pv] x1 pt) n (fun i up => ∃ v0 v1, prs[i]? = some (v0, v1) ∧ up = fun m y => if y = xc then some v1 else if y = xi then some v0 else m y) G news (.ref ax) s := by
  have htm : ∀ T ∈ ts, ∃ o, (T, o) ∈ news := fun T hT => by
    obtain ⟨j, hj, e⟩ := List.getElem_of_mem hT
    exact ⟨_, ht j T _ (e ▸ List.getElem?_eq_getElem hj) (List.getElem?_eq_getElem (hl2.trans hl1.symm ▸ hj))⟩
  refine ⟨ax, (ts.map Value.ref).toArray, nn, fun I => [I, ax] ++ ts, fun I i h => (h.IsListIter I ax i ∧ h.IsList ax (ts.map Value.ref).toArray) ∧ ∀ (j : Nat) (T : Addr) (p : Value × Value), ts[j]? = some T → prs[j]? = some p → h.IsTuple T #[p.1, p.2], rfl, hax, hn, F, N, fun I C hI => ?_, fun I h hit hk => ?_, fun I b hb => ?_, fun I i h hst => ?_, fun i up C mC h₁ tk₁ news₁ hi hP hns hsub F₁ N₁ => ?_⟩
  · have hsz : (ts.map Value.ref).toArray.size = n := by simp [hl1]
    have W0 := Walks.list (prog := prog) (w := w) hh I ax (hI _ hax) (ts.map Value.ref).toArray
    rw [hsz] at W0
    refine TurnOf.items (c := "list_iterator") hh W0 (fun i v hi hv => ?_) (.head _) (fun i h hst => ?_) (.inr rfl) (fun T hT hm => ?_) hxi hxc (by simp [compEnv, hkind])
    · obtain ⟨T, hT, rfl⟩ : ∃ T, ts[i]? = some T ∧ .ref T = v := by simpa using hv
      exact ⟨T, prs[i]'(by omega), hT, List.getElem?_eq_getElem (by omega), rfl⟩
    · obtain ⟨⟨o, q4, q4', _⟩, _⟩ := hst
      exact ⟨o, q4, q4'⟩
    · obtain ⟨o, ho⟩ := htm T hT
      exact hI _ ho (List.mem_singleton.mp hm)
  · exact ⟨⟨hit, ⟨_, hk _ hax, rfl, _, rfl⟩⟩, fun j T p h1 h2 => ⟨_, hk _ (ht j T p h1 h2), rfl, _, rfl⟩⟩
  · rcases List.mem_append.mp hb with hb | hb
    · simp only [List.mem_cons, List.not_mem_nil, or_false] at hb
      rcases hb with rfl | rfl
      · exact .inl rfl
      · exact .inr ⟨_, hax⟩
    · exact .inr (htm _ hb)
  · obtain ⟨⟨⟨o, q4, _⟩, _⟩, _⟩ := hst
    exact ⟨o, q4⟩
  · obtain ⟨v0, v1, hpr, rfl⟩ := hP
    exact helt i v0 v1 C _ h₁ tk₁ news₁ hpr hns (by simp [hne]) (by simp) hsub F₁ N₁
theorem growList {elt : PySem.Expr} {x : Str} {px : Pos} {scope : Scope} {n : Nat} {m : Str → Option Value} {G : Nat → Value → Prop} {news : List (Addr × Obj)} {ax : Addr} {items : Array Value} {nn : Nat} (hh : A.handled = none)
    (hax : (ax, W.listOf items nn) ∈ news) (hl1 : items.size = n) (hn : n ≤ 1000)
    (F : Fr h₀ L s.heap m) (N : News h₀ L s.heap news) (hkind : scope.kind = .function) (hx : scope.names.lookup x = some .local)
    (helt : ∀ i v C mC h₁ tk₁ news₁, items[i]? = some v → h₁.Ns C mC → mC x = some v → (∀ p ∈ news, p ∈ news₁) → Fr h₀ L h₁ m → News h₀ L h₁ news₁ →
      wpAny (model prog w) A (eval elt (compEnv scope C env)) (fun y s₂ => G i y ∧ ∃ h₂ tk₂ news₂, s₂ = { s with heap := h₂, toks := tk₂ } ∧ Fr h₀ L h₂ m ∧ News h₀ L h₂ news₂ ∧ ∀ p ∈ news₁, p ∈ news₂) (fun _ _ => False) { s with heap := h₁, toks := tk₁ }) :
    GrowAt prog w A h₀ L m env scope elt (.Name x px) n (fun i up => ∃ v, items[i]? = some v ∧ up = fun m y => if y = x then some v else m y) G news (.ref ax) s := by
  refine ⟨ax, items, nn, fun I => [I, ax], fun I i h => h.IsListIter I ax i ∧ h.IsList ax items, rfl, hax, hn, F, N, fun I C hI => ?_, fun I h hit hk => ⟨hit, ⟨_, hk _ hax, rfl, _, rfl⟩⟩, fun I b hb => ?_, fun I i h hst => ?_, fun i up C mC h₁ tk₁ news₁ hi hP hns hsub F₁ N₁ => ?_⟩
  · have W0 := Walks.list (prog := prog) (w := w) hh I ax (hI _ hax) items
    rw [hl1] at W0
    exact TurnOf.name W0 hx (by simp [compEnv, hkind])
  · simp only [List.mem_cons, List.not_mem_nil, or_false] at hb
    rcases hb with rfl | rfl
    · exact .inl rfl
    · exact .inr ⟨_, hax⟩
  · obtain ⟨⟨o, q4, _⟩, _⟩ := hst
    exact ⟨o, q4⟩
  · obtain ⟨v, hv, rfl⟩ := hP
    exact helt i v C _ h₁ tk₁ news₁ hv hns (by simp) hsub F₁ N₁
end
end Mine
end
section
theorem Mine.off_Li : True := by
  w_top off
  trivial
open PySem PySem.W PyProof.Rows
set_option Elab.async false
set_option linter.unusedVariables false
set_option linter.unusedSimpArgs false
set_option maxRecDepth 100000
namespace Mine

open PyProof.V
local macro_rules | `(tactic| k_all) => `(tactic| with_reducible assumption)
local macro_rules | `(tactic| k_mem) => `(tactic| assumption)
def mX (TL GL PL D S : Addr) (vr ve vq vs : Option Value) : Str → Option Value := fun y => if y = Str.ofString "texts" then some (.ref TL) else mG GL PL D S vr ve vq vs y
def TextOf (y : Value) (ks : List Int) (bs : List Bool) : Prop := ∃ u t, y = .str u t ∧ u.cps.toList = [114, 111, 111, 116] ++ roadCs (roadOf ks bs)
set_option maxHeartbeats 4000000 in
theorem law4 : ∀ {w : World} {mean : ExcName → Option Value} {mg mb : Str → Option Value} (base h₀ : Heap) (L S D GL : Addr) (PL T1 T2 A1 B1 A2 B2 : Addr) (v1 v2 : List Value) (k1 k2 : List Int) (b1 b2 : List Bool) (n1 n2 q1 q2 nP : Nat) (s : Shared) (vr ve vq vs : Option Value) (news : List (Addr × Obj)) (rest : List Stmt) (Q : Flow → Shared → Prop) (E : Value → Shared → Prop)
  (B : Below callerA base [] h₀) (F : Fr h₀ L s.heap (mG GL PL D S vr ve vq vs)) (X : (hd.heap_39 (World.params w)).In h₀) (N : News h₀ L s.heap news) (T : Top hd.view_39 (looseW hd.view_39 [Str.ofString "SINGLE_WILDCARD", Str.ofString "MULTI_WILDCARD", Str.ofString "DEFAULT_FIRST_ELEMENT", Str.ofString "_path_to_elements", Str.ofString "_WILDCARD_RE"]) mean mg mb h₀)
  (hPL : (PL, W.listOf #[.ref T1, .ref T2] nP) ∈ news) (hT1 : (T1, tupObj #[.ref A1, .ref B1]) ∈ news) (hA1 : (A1, W.listOf v1.toArray n1) ∈ news) (hi1 : IntsAre v1 k1) (hB1 : (B1, W.listOf (b1.map Value.bool).toArray q1) ∈ news) (ok1 : PatOk (k1, b1)) (hT2 : (T2, tupObj #[.ref A2, .ref B2]) ∈ news) (hA2 : (A2, W.listOf v2.toArray n2) ∈ news) (hi2 : IntsAre v2 k2) (hB2 : (B2, W.listOf (b2.map Value.bool).toArray q2) ∈ news) (ok2 : PatOk (k2, b2)) (hE : PassesOwn (model (RowW.prog (OpenRow.toRowW (OpenLaw.row PySem.Challenge.rw_fu0002_01))) w) (callerA.deeper (envOf (Str.ofString "law") (scopeOf (hd.heap_39 (World.params w)) 201) L 201 (.ref 200))) (envOf (Str.ofString "law") (scopeOf (hd.heap_39 (World.params w)) 201) L 201 (.ref 200)) E)
  (hcont : ∀ h' tk' (TL : Addr) (y1 y2 : Value) (nT : Nat) news₂, Fr h₀ L h' (mX TL GL PL D S vr ve vq vs) → News h₀ L h' news₂ → (∀ q ∈ news, q ∈ news₂) → (TL, W.listOf #[y1, y2] nT) ∈ news₂ → TextOf y1 k1 b1 → TextOf y2 k2 b2 → wpAny (model (RowW.prog (OpenRow.toRowW (OpenLaw.row PySem.Challenge.rw_fu0002_01))) w) (callerA.deeper (envOf (Str.ofString "law") (scopeOf (hd.heap_39 (World.params w)) 201) L 201 (.ref 200))) (execs rest (envOf (Str.ofString "law") (scopeOf (hd.heap_39 (World.params w)) 201) L 201 (.ref 200))) Q E { s with heap := h', toks := tk' }),
  wpAny (model (RowW.prog (OpenRow.toRowW (OpenLaw.row PySem.Challenge.rw_fu0002_01))) w) (callerA.deeper (envOf (Str.ofString "law") (scopeOf (hd.heap_39 (World.params w)) 201) L 201 (.ref 200))) (execs (((fnBody (hd.heap_39 (World.params w)) 201).drop 6).take 1 ++ rest) (envOf (Str.ofString "law") (scopeOf (hd.heap_39 (World.params w)) 201) L 201 (.ref 200))) Q E s := by
  intro w mean mg mb base h₀ L S D GL PL T1 T2 A1 B1 A2 B2 v1 v2 k1 k2 b1 b2 n1 n2 q1 q2 nP s vr ve vq vs news rest Q E B F X N T hPL hT1 hA1 hi1 hB1 ok1 hT2 hA2 hi2 hB2 ok2 hE hcont
  revert X
  k_fill
  intro X
  conv in (_ ++ rest) => whnf
  repeat (conv in (scopeOf _ _) => whnf)
  refine execs_stop ?_
  refine comp_grow_use (h₀ := h₀) (n := 2) (m := mG GL PL D S vr ve vq vs) (P := fun i up => ∃ (v0 v1 : Value), ([(.ref A1, .ref B1), (.ref A2, .ref B2)] : List (Value × Value))[i]? = some (v0, v1) ∧ up = fun m y => if y = Str.ofString "dotted" then some v1 else if y = Str.ofString "parts" then some v0 else m y) (fun (i : Nat) y => ∃ ks bs, [(k1, b1), (k2, b2)][i]? = some (ks, bs) ∧ TextOf y ks bs) (by rfl) (by decide) (by decide) (by rfl) (by decide) rfl (by rfl) (by rfl) ?_
  refine wpAny_Name (wpAny_loadName_local rfl rfl F.ns rfl ?_) rfl
  refine ⟨news, growPairs (ts := [T1, T2]) (prs := [(.ref A1, .ref B1), (.ref A2, .ref B2)]) rfl hPL (fun j T' p h1 h2 => ?_) rfl rfl (by decide) F N (by rfl) (by rfl) (by rfl) (by decide) ?_, ?_⟩
  · match j, h1, h2 with
    | 0, h1, h2 => simp only [List.getElem?_cons_zero, Option.some.injEq] at h1 h2; subst h1 h2; exact hT1
    | 1, h1, h2 => simp only [List.getElem?_cons_succ, List.getElem?_cons_zero, Option.some.injEq] at h1 h2; subst h1 h2; exact hT2
    | j + 2, h1, h2 => simp at h1
  · intro i w0 w1 C mC h₁ tk₁ news₁ hpr hC hx0 hx1 hsub F₁ N₁
    obtain ⟨Aa, Ba, vv, kk, bb, na, qa, rfl, rfl, hA, hi, hB, ok, hkk⟩ : ∃ (Aa Ba : Addr) (vv : List Value) (kk : List Int) (bb : List Bool) (na qa : Nat), w0 = .ref Aa ∧ w1 = .ref Ba ∧ (Aa, W.listOf vv.toArray na) ∈ news ∧ IntsAre vv kk ∧ (Ba, W.listOf (bb.map Value.bool).toArray qa) ∈ news ∧ PatOk (kk, bb) ∧ [(k1, b1), (k2, b2)][i]? = some (kk, bb) := by
      match i, hpr with
      | 0, h => simp only [List.getElem?_cons_zero, Option.some.injEq, Prod.mk.injEq] at h; exact ⟨A1, B1, _, k1, b1, n1, q1, h.1.symm, h.2.symm, hA1, hi1, hB1, ok1, rfl⟩
      | 1, h => simp only [List.getElem?_cons_succ, List.getElem?_cons_zero, Option.some.injEq, Prod.mk.injEq] at h; exact ⟨A2, B2, _, k2, b2, n2, q2, h.1.symm, h.2.symm, hA2, hi2, hB2, ok2, rfl⟩
      | i + 2, h => simp at h
    have SB : True → Below callerA base [] h₀ := fun _ => B
    have SF : True → Fr h₀ L h₁ _ := fun _ => F₁
    have SN : True → News h₀ L h₁ _ := fun _ => N₁
    clear B
    k_steps
    refine text_ok 302 7 _ (Str.ofString "law") _ 201 (.ref 200) [] [] callerA base h₀ L _ _ _ _ Aa Ba vv kk bb na qa news₁ (SB trivial) (SF trivial) X (SN trivial) T rfl (by decide) (by decide) (hsub _ hA) (hsub _ hB) hi ok.2.2 ok.1 ?_
    intro h' tk' u tku news₂ F' N' hs' hu
    exact ⟨⟨kk, bb, hkk, u, tku, rfl, hu⟩, h', tk', news₂, rfl, F', N', hs'⟩
  · intro ys TL nT h' tk' news' hy hG F' N' hsub hTL
    match ys, hy with
    | [y1, y2], _ =>
      obtain ⟨ka, ba, e1, h1⟩ := hG 0 y1 rfl
      obtain ⟨kb, bb, e2, h2⟩ := hG 1 y2 rfl
      simp only [List.getElem?_cons_succ, List.getElem?_cons_zero, Option.some.injEq, Prod.mk.injEq] at e1 e2
      obtain ⟨rfl, rfl⟩ := e1
      obtain ⟨rfl, rfl⟩ := e2
      unfold Stop
      exact hcont h' tk' TL y1 y2 nT _ F' N' (fun q hq => .tail _ (hsub q hq)) (.head _) h1 h2
end Mine
end
section
theorem Mine.off_Zt : True := by
  w_top off
  trivial
open PySem PySem.W PyProof.Rows PySem.Calls
open PySem (Expr)
set_option Elab.async false
set_option linter.unusedVariables false
set_option maxRecDepth 100000
namespace Mine
abbrev IsTri (h : Heap) (T : Addr) (a b c : Value) : Prop := h.get? T = some { cls := .type "tuple", data := .seq #[a, b, c] }
theorem zt_typeCall (a b c : Value) : checkTypeCall "zip" ⟨[a, b, c], []⟩ = pure () := by kernel_rfl
theorem zt_newCall (a b c : Value) : checkBuiltinCall "zip.__new__" ⟨[.type "zip", a, b, c], []⟩ = pure () := by kernel_rfl
theorem zt_init (a b c d : Value) : argsOk "object.__init__" ⟨[a, b, c, d], []⟩ := by
  unfold argsOk; rw [signature?_of (id := "object.__init__") (n := ['_', '_', 't', 'i', 'n', 'i', '_', '_']) (o := ['t', 'c', 'e', 'j', 'b', 'o']) (by kernel_rfl) F.owner_object]; kernel_rfl
section
variable {prog : Program} {w : World} {A : Around} {E : Value → Shared → Prop} {s : Shared}
theorem zt_update {T : Addr} {a b c x : Value} {k : Nat} {Q : Unit → Shared → Prop} (hT : IsTri s.heap T a b c)
    (h : ∀ h', h'.get? T = some { cls := .type "tuple", data := .seq ((#[a, b, c] : Array Value).setIfInBounds k x) } → Heap.SameBut T s.heap h' → Q () { s with heap := h' }) :
    wpAny (model prog w) A (updateSeq T (·.setIfInBounds k x)) Q E s := by
  refine wpAny_updateSeq hT rfl (h _ ?_ (Heap.SameBut.update ..))
  rw [Heap.get?_update_self _ hT rfl]
  simp [Obj.mapSeq]
structure Apart3 (z TI TO i1 i2 i3 l1 l2 l3 : Addr) : Prop where
  nz : TI ≠ z ∧ TO ≠ z ∧ i1 ≠ z ∧ i2 ≠ z ∧ i3 ≠ z ∧ l1 ≠ z ∧ l2 ≠ z ∧ l3 ≠ z
  nTO : TI ≠ TO ∧ i1 ≠ TO ∧ i2 ≠ TO ∧ i3 ≠ TO ∧ l1 ≠ TO ∧ l2 ≠ TO ∧ l3 ≠ TO
  n1 : TI ≠ i1 ∧ i2 ≠ i1 ∧ i3 ≠ i1 ∧ l1 ≠ i1 ∧ l2 ≠ i1 ∧ l3 ≠ i1
  n2 : TI ≠ i2 ∧ i3 ≠ i2 ∧ l1 ≠ i2 ∧ l2 ≠ i2 ∧ l3 ≠ i2
  n3 : TI ≠ i3 ∧ l1 ≠ i3 ∧ l2 ≠ i3 ∧ l3 ≠ i3
theorem zt_next {z TI TO i1 i2 i3 l1 l2 l3 : Addr} {k : Nat} {xs ys zs : Array Value} {x y u a b c : Value} {Q : Value → Shared → Prop} (D : Apart3 z TI TO i1 i2 i3 l1 l2 l3)
    (hz : IsZip s.heap z TI TO .none) (hTI : IsTri s.heap TI (.ref i1) (.ref i2) (.ref i3)) (hTO : IsTri s.heap TO a b c)
    (h1 : s.heap.IsListIter i1 l1 k) (h2 : s.heap.IsListIter i2 l2 k) (h3 : s.heap.IsListIter i3 l3 k) (hl1 : s.heap.IsList l1 xs) (hl2 : s.heap.IsList l2 ys) (hl3 : s.heap.IsList l3 zs) (hx : xs[k]? = some x) (hy : ys[k]? = some y) (hu : zs[k]? = some u)
    (hQ : ∀ h', IsZip h' z TI TO (rawInt s.heap.objs.size) → IsTri h' TO x y u → h'.IsListIter i1 l1 (k + 1) → h'.IsListIter i2 l2 (k + 1) → h'.IsListIter i3 l3 (k + 1) → IsTri h' s.heap.objs.size x y u →
      (∀ c o, c ≠ z → c ≠ TO → c ≠ i1 → c ≠ i2 → c ≠ i3 → s.heap.get? c = some o → h'.get? c = some o) → Q (.ref s.heap.objs.size) { s with heap := h' }) :
    wpAny (model prog w) A (Builtin.«zip.__next__» ⟨[.ref z], []⟩) (fun fin s' => ∃ v, fin = .done (.ret v) ∧ Q v s') E s := by
  obtain ⟨nz, nTO, n1, n2, n3⟩ := D
  show wpAny _ _ (field (.ref z) 2 >>= _) _ _ _
  refine wpAny_bind (wpAny_field hz rfl (x := .bool false) rfl ?_)
  show wpAny _ _ (field (.ref z) 3 >>= _) _ _ _
  refine wpAny_bind (wpAny_field hz rfl (x := .ref TI) rfl ?_)
  refine wpAny_bind (wpAny_seqItems hTI rfl ?_)
  show wpAny _ _ (Builtin.SmallTypes.ownedTupleIsFree (.ref z) >>= _) _ _ _
  refine wpAny_bind ?_
  unfold Builtin.SmallTypes.ownedTupleIsFree
  refine wpAny_bind (wpAny_field hz rfl (x := .none) rfl (wpAny_pure ?_))
  simp only [if_true]
  refine wpAny_bind (wpAny_rule ?_)
  refine wpAny_bind (wpAny_field hz rfl (x := .ref TO) rfl ?_)
  refine wpAny_bind (wpAny_setField_rec hz (by simp) fun g1 hz₁ hs₁ => ?_)
  replace hz₁ : IsZip g1 z TI TO .ellipsis := hz₁
  refine wpAny_bind ?_
  simp only [List.zipIdx_cons, List.zipIdx_nil, List.forIn_cons, List.forIn_nil]
  refine wpAny_bind (wpAny_bind (wpAny_onRaise ?_))
  show wpAny _ _ (Builtin.SmallTypes.nextOf (.ref i1) >>= _) _ _ _
  refine wpAny_bind (wpAny_nextOf_list_item (h1.extBut hs₁.extBut nz.2.2.1) (hl1.extBut hs₁.extBut nz.2.2.2.2.2.1) hx fun g2 h1₂ hs₂ => wpAny_pure ?_)
  have hTO₂ : IsTri g2 TO a b c := hs₂.extBut _ _ (Ne.symm nTO.2.1) (hs₁.extBut _ _ nz.2.1 hTO)
  refine wpAny_bind (wpAny_seqItems hTO₂ rfl ?_)
  refine wpAny_bind (zt_update hTO₂ fun g3 hTO₃ hs₃ => ?_)
  replace hTO₃ : IsTri g3 TO x b c := hTO₃
  refine wpAny_bind (wpAny_letGo (wpAny_pure ?_))
  refine wpAny_bind (wpAny_bind (wpAny_onRaise ?_))
  show wpAny _ _ (Builtin.SmallTypes.nextOf (.ref i2) >>= _) _ _ _
  refine wpAny_bind (wpAny_nextOf_list_item (((h2.extBut hs₁.extBut nz.2.2.2.1).extBut hs₂.extBut n1.2.1).extBut hs₃.extBut nTO.2.2.1)
    (((hl2.extBut hs₁.extBut nz.2.2.2.2.2.2.1).extBut hs₂.extBut n1.2.2.2.2.1).extBut hs₃.extBut nTO.2.2.2.2.2.1) hy fun g4 h2₄ hs₄ => wpAny_pure ?_)
  have hTO₄ : IsTri g4 TO x b c := hs₄.extBut _ _ (Ne.symm nTO.2.2.1) hTO₃
  refine wpAny_bind (wpAny_seqItems hTO₄ rfl ?_)
  refine wpAny_bind (zt_update hTO₄ fun g5 hTO₅ hs₅ => ?_)
  replace hTO₅ : IsTri g5 TO x y c := hTO₅
  refine wpAny_bind (wpAny_letGo (wpAny_pure ?_))
  refine wpAny_bind (wpAny_bind (wpAny_onRaise ?_))
  show wpAny _ _ (Builtin.SmallTypes.nextOf (.ref i3) >>= _) _ _ _
  refine wpAny_bind (wpAny_nextOf_list_item (((((h3.extBut hs₁.extBut nz.2.2.2.2.1).extBut hs₂.extBut n1.2.2.1).extBut hs₃.extBut nTO.2.2.2.1).extBut hs₄.extBut n2.2.1).extBut hs₅.extBut nTO.2.2.2.1)
    (((((hl3.extBut hs₁.extBut nz.2.2.2.2.2.2.2).extBut hs₂.extBut n1.2.2.2.2.2).extBut hs₃.extBut nTO.2.2.2.2.2.2).extBut hs₄.extBut n2.2.2.2.2).extBut hs₅.extBut nTO.2.2.2.2.2.2) hu fun g6 h3₆ hs₆ => wpAny_pure ?_)
  have hTO₆ : IsTri g6 TO x y c := hs₆.extBut _ _ (Ne.symm nTO.2.2.2.1) hTO₅
  refine wpAny_bind (wpAny_seqItems hTO₆ rfl ?_)
  refine wpAny_bind (zt_update hTO₆ fun g7 hTO₇ hs₇ => ?_)
  replace hTO₇ : IsTri g7 TO x y u := hTO₇
  refine wpAny_bind (wpAny_letGo (wpAny_pure (wpAny_pure ?_)))
  refine wpAny_bind (wpAny_seqItems hTO₇ rfl ?_)
  refine wpAny_bind (wpAny_newTuple ?_)
  have hsz : g7.objs.size = s.heap.objs.size := by rw [hs₇.1, hs₆.1, hs₅.1, hs₄.1, hs₃.1, hs₂.1, hs₁.1]
  have hk₇ : ∀ c o, c ≠ TO → c ≠ i1 → c ≠ i2 → c ≠ i3 → g1.get? c = some o → g7.get? c = some o := fun c o c2 c3 c4 c5 e =>
    hs₇.extBut _ _ c2 (hs₆.extBut _ _ c5 (hs₅.extBut _ _ c2 (hs₄.extBut _ _ c4 (hs₃.extBut _ _ c2 (hs₂.extBut _ _ c3 e)))))
  have hz₇ : IsZip g7 z TI TO .ellipsis := hk₇ _ _ (Ne.symm nz.2.1) (Ne.symm nz.2.2.1) (Ne.symm nz.2.2.2.1) (Ne.symm nz.2.2.2.2.1) hz₁
  have h1₇ : g7.IsListIter i1 l1 (k + 1) := ((((h1₂.extBut hs₃.extBut nTO.2.1).extBut hs₄.extBut (Ne.symm n1.2.1)).extBut hs₅.extBut nTO.2.1).extBut hs₆.extBut (Ne.symm n1.2.2.1)).extBut hs₇.extBut nTO.2.1
  have h2₇ : g7.IsListIter i2 l2 (k + 1) := ((h2₄.extBut hs₅.extBut nTO.2.2.1).extBut hs₆.extBut (Ne.symm n2.2.1)).extBut hs₇.extBut nTO.2.2.1
  have h3₇ : g7.IsListIter i3 l3 (k + 1) := h3₆.extBut hs₇.extBut nTO.2.2.2.1
  have hzlt : z < g7.objs.size := Heap.lt_size hz₇
  show wpAny _ _ (Builtin.SmallTypes.ownedTupleHandOut (.ref z) (.ref g7.objs.size) >>= _) _ _ _
  refine wpAny_bind ?_
  unfold Builtin.SmallTypes.ownedTupleHandOut
  have hz₈ : IsZip (g7.push { cls := .type "tuple", data := .seq #[x, y, u] }) z TI TO .ellipsis := Heap.get?_push_of_some _ hz₇
  refine wpAny_bind (wpAny_setField_rec hz₈ (by simp) fun g9 hz₉ hs₉ => ?_)
  replace hz₉ : IsZip g9 z TI TO (rawInt g7.objs.size) := hz₉
  refine wpAny_setField_rec hz₉ (by simp) fun g10 hz10 hs10 => ?_
  replace hz10 : IsZip g10 z TI TO (rawInt g7.objs.size) := hz10
  have up : ∀ c o, c ≠ z → g7.get? c = some o → g10.get? c = some o := fun c o c1 e => hs10.extBut _ _ c1 (hs₉.extBut _ _ c1 (Heap.get?_push_of_some _ e))
  have hT10 : IsTri g10 g7.objs.size x y u := hs10.extBut _ _ (Nat.ne_of_gt hzlt) (hs₉.extBut _ _ (Nat.ne_of_gt hzlt) (Heap.get?_push_size _ rfl))
  rw [hsz] at hz10 hT10
  refine wpAny_pure ⟨_, rfl, ?_⟩
  show Q (.ref g7.objs.size) _
  rw [hsz]
  exact hQ g10 hz10 (up _ _ nz.2.1 hTO₇) (h1₇.at fun o e => up _ o nz.2.2.1 e) (h2₇.at fun o e => up _ o nz.2.2.2.1 e) (h3₇.at fun o e => up _ o nz.2.2.2.2.1 e) hT10 fun c o c1 c2 c3 c4 c5 e => up c o c1 (hk₇ c o c2 c3 c4 c5 (hs₁.extBut _ _ c1 e))
theorem zt_end {z TI TO i1 i2 i3 l1 l2 l3 : Addr} {k : Nat} {xs : Array Value} {a b c : Value} {Q : PySem.Fin → Shared → Prop} (hh : A.handled = none) (D : Apart3 z TI TO i1 i2 i3 l1 l2 l3)
    (hz : IsZip s.heap z TI TO .none) (hTI : IsTri s.heap TI (.ref i1) (.ref i2) (.ref i3)) (hTO : IsTri s.heap TO a b c)
    (h1 : s.heap.IsListIter i1 l1 k) (hl1 : s.heap.IsList l1 xs) (hx : xs[k]? = none)
    (hE : ∀ h' e, (∀ c o, c ≠ z → c ≠ TO → c ≠ i1 → c ≠ i2 → c ≠ i3 → s.heap.get? c = some o → h'.get? c = some o) → (∃ o, h'.get? e = some o ∧ o.cls = .type "StopIteration") → E (.ref e) { s with heap := h' }) :
    wpAny (model prog w) A (Builtin.«zip.__next__» ⟨[.ref z], []⟩) Q E s := by
  obtain ⟨nz, nTO, n1, n2, n3⟩ := D
  show wpAny _ _ (field (.ref z) 2 >>= _) _ _ _
  refine wpAny_bind (wpAny_field hz rfl (x := .bool false) rfl ?_)
  show wpAny _ _ (field (.ref z) 3 >>= _) _ _ _
  refine wpAny_bind (wpAny_field hz rfl (x := .ref TI) rfl ?_)
  refine wpAny_bind (wpAny_seqItems hTI rfl ?_)
  show wpAny _ _ (Builtin.SmallTypes.ownedTupleIsFree (.ref z) >>= _) _ _ _
  refine wpAny_bind ?_
  unfold Builtin.SmallTypes.ownedTupleIsFree
  refine wpAny_bind (wpAny_field hz rfl (x := .none) rfl (wpAny_pure ?_))
  simp only [if_true]
  refine wpAny_bind (wpAny_rule ?_)
  refine wpAny_bind (wpAny_field hz rfl (x := .ref TO) rfl ?_)
  refine wpAny_bind (wpAny_setField_rec hz (by simp) fun g1 hz₁ hs₁ => ?_)
  replace hz₁ : IsZip g1 z TI TO .ellipsis := hz₁
  refine wpAny_bind ?_
  simp only [List.zipIdx_cons, List.zipIdx_nil, List.forIn_cons, List.forIn_nil]
  refine wpAny_bind (wpAny_bind (wpAny_onRaise ?_))
  show wpAny _ _ (Builtin.SmallTypes.nextOf (.ref i1) >>= _) _ _ _
  refine wpAny_bind (wpAny_nextOf_list_end hh (h1.extBut hs₁.extBut nz.2.2.1) (hl1.extBut hs₁.extBut nz.2.2.2.2.2.1) hx fun g2 e hs₂ he => ?_)
  obtain ⟨oe, hoe, hce⟩ := he
  have hz₂ : IsZip g2 z TI TO .ellipsis := hs₂ _ _ (Ne.symm nz.2.2.1) hz₁
  have hez : e ≠ z := fun x => by subst x; rw [hz₂] at hoe; cases hoe; simp at hce
  refine wpAny_setField_rec hz₂ (by simp) fun g3 _ hs₃ => hE g3 e (fun c o c1 _ c3 _ _ x => hs₃.extBut _ _ c1 (hs₂ _ _ c3 (hs₁.extBut _ _ c1 x))) ⟨oe, hs₃.extBut _ _ hez hoe, hce⟩
theorem zt_pyNext {z TI TO i1 i2 i3 l1 l2 l3 : Addr} {k : Nat} {xs ys zs : Array Value} {x y u a b c : Value} {Q : Option Value → Shared → Prop} (D : Apart3 z TI TO i1 i2 i3 l1 l2 l3)
    (hz : IsZip s.heap z TI TO .none) (hTI : IsTri s.heap TI (.ref i1) (.ref i2) (.ref i3)) (hTO : IsTri s.heap TO a b c)
    (h1 : s.heap.IsListIter i1 l1 k) (h2 : s.heap.IsListIter i2 l2 k) (h3 : s.heap.IsListIter i3 l3 k) (hl1 : s.heap.IsList l1 xs) (hl2 : s.heap.IsList l2 ys) (hl3 : s.heap.IsList l3 zs) (hx : xs[k]? = some x) (hy : ys[k]? = some y) (hu : zs[k]? = some u)
    (hQ : ∀ h', IsZip h' z TI TO (rawInt s.heap.objs.size) → IsTri h' TO x y u → h'.IsListIter i1 l1 (k + 1) → h'.IsListIter i2 l2 (k + 1) → h'.IsListIter i3 l3 (k + 1) → IsTri h' s.heap.objs.size x y u →
      (∀ c o, c ≠ z → c ≠ TO → c ≠ i1 → c ≠ i2 → c ≠ i3 → s.heap.get? c = some o → h'.get? c = some o) → Q (some (.ref s.heap.objs.size)) { s with heap := h' }) :
    wpAny (model prog w) A (pyNext (.ref z)) Q E s := by
  have hT : s.TypeIs (.ref z) "zip" := ⟨_, hz, rfl⟩
  unfold pyNext
  exact wpAny_bind (wpAny_attempt (wpAny_callSpecial?_slot (name := Str.ofString "__next__") hT F.slot_zip_next
    (wpAny_call_entry F.slot_zip_next hT F.entry_zip_next
      (zt_next D hz hTI hTO h1 h2 h3 hl1 hl2 hl3 hx hy hu fun h' a1 a2 a3 a4 a5 a6 a7 => wpAny_pure (hQ h' a1 a2 a3 a4 a5 a6 a7)) (F.args_zip_next_1 _))))
theorem zt_pyNext_end {z TI TO i1 i2 i3 l1 l2 l3 : Addr} {k : Nat} {xs : Array Value} {a b c : Value} {Q : Option Value → Shared → Prop} (hh : A.handled = none) (D : Apart3 z TI TO i1 i2 i3 l1 l2 l3)
    (hz : IsZip s.heap z TI TO .none) (hTI : IsTri s.heap TI (.ref i1) (.ref i2) (.ref i3)) (hTO : IsTri s.heap TO a b c)
    (h1 : s.heap.IsListIter i1 l1 k) (hl1 : s.heap.IsList l1 xs) (hx : xs[k]? = none)
    (hQ : ∀ h', (∀ c o, c ≠ z → c ≠ TO → c ≠ i1 → c ≠ i2 → c ≠ i3 → s.heap.get? c = some o → h'.get? c = some o) → Q none { s with heap := h' }) : wpAny (model prog w) A (pyNext (.ref z)) Q E s := by
  have hT : s.TypeIs (.ref z) "zip" := ⟨_, hz, rfl⟩
  unfold pyNext
  refine wpAny_bind (wpAny_attempt (wpAny_callSpecial?_slot (name := Str.ofString "__next__") hT F.slot_zip_next
    (wpAny_call_entry F.slot_zip_next hT F.entry_zip_next (zt_end hh D hz hTI hTO h1 hl1 hx fun h' e hk he => ?_) (F.args_zip_next_1 _))))
  obtain ⟨o, ho, hc⟩ := he
  refine wpAny_bind (wpAny_isInstance (T := "StopIteration") (b := true) ⟨o, ho, hc⟩ isSubtype_stop ?_)
  exact wpAny_pure (hQ _ hk)
abbrev zt1 (h : Heap) (l1 : Addr) : Heap := h.push { cls := .type "list_iterator", data := .fields #[.ref l1, .int 0 0] }
abbrev zt2 (h : Heap) (l1 l2 : Addr) : Heap := (zt1 h l1).push { cls := .type "list_iterator", data := .fields #[.ref l2, .int 0 0] }
abbrev zt3 (h : Heap) (l1 l2 l3 : Addr) : Heap := (zt2 h l1 l2).push { cls := .type "list_iterator", data := .fields #[.ref l3, .int 0 0] }
abbrev zt4 (h : Heap) (l1 l2 l3 : Addr) : Heap := (zt3 h l1 l2 l3).push { cls := .type "tuple", data := .seq #[.ref h.objs.size, .ref (zt1 h l1).objs.size, .ref (zt2 h l1 l2).objs.size] }
abbrev zt5 (h : Heap) (l1 l2 l3 : Addr) : Heap := (zt4 h l1 l2 l3).push { cls := .type "tuple", data := .seq #[.none, .none, .none] }
abbrev zt6 (h : Heap) (l1 l2 l3 : Addr) : Heap := (zt5 h l1 l2 l3).push { cls := .type "zip", data := .fields #[.none, .bool false, .bool false, .ref (zt3 h l1 l2 l3).objs.size, .ref (zt4 h l1 l2 l3).objs.size] }
set_option maxHeartbeats 4000000 in
theorem zt_new (l1 l2 l3 : Addr) (xs ys zs : Array Value) :
    Meets (Builtin.«zip.__new__» ⟨[.type "zip", .ref l1, .ref l2, .ref l3], []⟩) (fun _ R s => s.heap.IsList l1 xs ∧ s.heap.IsList l2 ys ∧ s.heap.IsList l3 zs ∧
      R (.ok (.ret (.ref (zt5 s.heap l1 l2 l3).objs.size))) { s with heap := zt6 s.heap l1 l2 l3 }) :=
  .of_wp fun prog w A R s h => by
    obtain ⟨hp, g, d, tk, os⟩ := s; obtain ⟨hl1, hl2, hl3, h⟩ := h
    have hsub := sub_zip
    have hL1 : Heap.IsList (Shared.heap ⟨hp, g, d, tk, os⟩) l1 xs := hl1
    have hL2 : Heap.IsList (Shared.heap ⟨hp.push { cls := .type "list_iterator", data := .fields #[.ref l1, .int 0 0] }, g, d, tk, os⟩) l2 ys := Heap.IsList.push hl2 _
    have hL3 : Heap.IsList (Shared.heap ⟨(hp.push { cls := .type "list_iterator", data := .fields #[.ref l1, .int 0 0] }).push { cls := .type "list_iterator", data := .fields #[.ref l2, .int 0 0] }, g, d, tk, os⟩) l3 zs := Heap.IsList.push (Heap.IsList.push hl3 _) _
    wp_walk using wpAny_pyIter_list hL1, wpAny_pyIter_list hL2, wpAny_pyIter_list hL3
    exact ⟨_, rfl, h⟩
theorem call_zip3 {l1 l2 l3 : Addr} {xs ys zs : Array Value} {Q : Value → Shared → Prop} (hl1 : s.heap.IsList l1 xs) (hl2 : s.heap.IsList l2 ys) (hl3 : s.heap.IsList l3 zs)
    (h : ∀ h', IsZip h' (s.heap.objs.size + 5) (s.heap.objs.size + 3) (s.heap.objs.size + 4) .none → IsTri h' (s.heap.objs.size + 3) (.ref s.heap.objs.size) (.ref (s.heap.objs.size + 1)) (.ref (s.heap.objs.size + 2)) →
      IsTri h' (s.heap.objs.size + 4) .none .none .none → h'.IsListIter s.heap.objs.size l1 0 → h'.IsListIter (s.heap.objs.size + 1) l2 0 → h'.IsListIter (s.heap.objs.size + 2) l3 0 →
      (∀ c o, s.heap.get? c = some o → h'.get? c = some o) → Q (.ref (s.heap.objs.size + 5)) { s with heap := h' }) :
    wpAny (model prog w) A (call (.type "zip") [.ref l1, .ref l2, .ref l3]) Q E s := by
  refine callType_new F.called_zip (by decide) (zt_typeCall _ _ _) (zt_newCall _ _ _) (fun obj => zt_init obj _ _ _) F.entry_zip_new
    (zt_new l1 l2 l3 xs ys zs) ⟨hl1, hl2, hl3, ?_⟩
  have z1 : (zt1 s.heap l1).objs.size = s.heap.objs.size + 1 := Heap.size_push ..
  have z2 : (zt2 s.heap l1 l2).objs.size = s.heap.objs.size + 2 := by rw [Heap.size_push, z1]
  have z3 : (zt3 s.heap l1 l2 l3).objs.size = s.heap.objs.size + 3 := by rw [Heap.size_push, z2]
  have z4 : (zt4 s.heap l1 l2 l3).objs.size = s.heap.objs.size + 4 := by rw [Heap.size_push, z3]
  have z5 : (zt5 s.heap l1 l2 l3).objs.size = s.heap.objs.size + 5 := by rw [Heap.size_push, z4]
  have g6 : (zt6 s.heap l1 l2 l3).get? (zt5 s.heap l1 l2 l3).objs.size = some _ := Heap.get?_push_size _ rfl
  have g5 : (zt6 s.heap l1 l2 l3).get? (zt4 s.heap l1 l2 l3).objs.size = some _ := Heap.get?_push_of_some _ (Heap.get?_push_size _ rfl)
  have g4 : (zt6 s.heap l1 l2 l3).get? (zt3 s.heap l1 l2 l3).objs.size = some _ := Heap.get?_push_of_some _ (Heap.get?_push_of_some _ (Heap.get?_push_size _ rfl))
  have g3 : (zt6 s.heap l1 l2 l3).get? (zt2 s.heap l1 l2).objs.size = some _ := Heap.get?_push_of_some _ (Heap.get?_push_of_some _ (Heap.get?_push_of_some _ (Heap.get?_push_size _ rfl)))
  have g2 : (zt6 s.heap l1 l2 l3).get? (zt1 s.heap l1).objs.size = some _ := Heap.get?_push_of_some _ (Heap.get?_push_of_some _ (Heap.get?_push_of_some _ (Heap.get?_push_of_some _ (Heap.get?_push_size _ rfl))))
  have g1 : (zt6 s.heap l1 l2 l3).get? s.heap.objs.size = some _ := Heap.get?_push_of_some _ (Heap.get?_push_of_some _ (Heap.get?_push_of_some _ (Heap.get?_push_of_some _ (Heap.get?_push_of_some _ (Heap.get?_push_size _ rfl)))))
  show _ ∧ _
  rw [z3, z4, z5] at g6
  rw [z4] at g5
  rw [z1, z2, z3] at g4
  rw [z2] at g3
  rw [z1] at g2
  rw [z5]
  exact ⟨⟨_, g6, rfl⟩, h _ g6 g4 g5 ⟨_, g1, rfl, rfl⟩ ⟨_, g2, rfl, rfl⟩ ⟨_, g3, rfl, rfl⟩ fun c o x =>
    Heap.get?_push_of_some _ (Heap.get?_push_of_some _ (Heap.get?_push_of_some _ (Heap.get?_push_of_some _ (Heap.get?_push_of_some _ (Heap.get?_push_of_some _ x)))))⟩
end
end Mine
end
section
theorem Mine.off_Ln : True := by
  w_top off
  trivial
open PySem PySem.W PyProof.Rows PySem.Calls
open PySem (Expr)
set_option Elab.async false
set_option linter.unusedVariables false
set_option maxRecDepth 100000
namespace Mine
theorem eqGives_bool (a b : Bool) : MeetsSeq.EqGives (.bool a) (.bool b) (a == b) := fun prog w A E s Q h => by
  unfold eqBool
  show wpAny _ _ (if (Value.bool a == Value.bool b) = true then _ else _) Q E s
  by_cases hab : (Value.bool a == Value.bool b) = true
  · rw [if_pos hab]
    have e : a = b := by have := eq_of_beq hab; injection this
    subst e
    exact wpAny_bind (wpAny_rule (wpAny_pure (by simpa using h)))
  · rw [if_neg hab]
    refine wpAny_bind ?_
    exact eq_bool (wpAny_truthy_bool h)
def isBool (b : Bool) : Value → Bool
  | .bool a => a == b
  | _ => false
section
variable {prog : Program} {w : World} {A A₀ : Around} {E : Value → Shared → Prop} {s : Shared} {env : Env} {h₀ base : Heap} {outer : List Env} {fp wr : List Addr} {n : Nat} {St : Nat → Heap → Prop} {I : Addr}
theorem in_bools {l : Addr} {bs : List Bool} {b : Bool} {Q : Value → Shared → Prop} (hl : s.heap.IsList l (bs.map Value.bool).toArray)
    (h : Q (.bool (bs.any (· == b))) s) : wpAny (model prog w) A (compareOp .In (.bool b) (.ref l)) Q E s := by
  refine SeqInW.in_listW (isBool b) (fun y hy => ?_) hl ?_
  · obtain ⟨a, _, rfl⟩ := List.mem_map.mp (by simpa using hy : y ∈ bs.map Value.bool)
    exact eqGives_bool a b
  · rw [← Array.any_toList]
    show Q (.bool ((bs.map Value.bool).any (isBool b))) s
    rw [List.any_map]
    exact h
theorem wpC_spliced_cons {x : Sem Value} {rest : List (Bool × Sem Value)} {Q : List Value → Shared → Prop}
    (h : wpC (model prog w) A x (fun v s₁ => wpAny (model prog w) A (spliced rest) (fun vs s₂ => Q (v :: vs) s₂) E s₁) E s) : wpC (model prog w) A (spliced ((false, x) :: rest)) Q E s := by
  show wpC _ A (x >>= fun v => (pure [v] >>= fun here => (holding here (spliced rest) >>= fun r => pure (here ++ r)))) Q E s
  refine wpC_bind (wpC_mono h (fun v s₁ h₁ => ?_) fun _ _ x => x)
  refine wpC_bind (wpC_pure ?_)
  refine wpC_bind (wpC_holding (wpC.of (wpAny_mono h₁ (fun vs s₂ h₂ => wpC_pure h₂) fun _ _ x => x)))
theorem wpC_evalArgs {f : Value} {x : Sem Value} {rest : List (Bool × Sem Value)} {Q : Args → Shared → Prop}
    (h : wpC (model prog w) A (spliced ((false, x) :: rest)) (fun vs s' => Q ⟨vs, []⟩ s') E s) : wpC (model prog w) A (evalArgs f true ((false, x) :: rest) []) Q E s := by
  unfold evalArgs
  show wpC _ A (spliced ((false, x) :: rest) >>= _) Q E s
  refine wpC_bind (wpC_mono h (fun vs s' h' => ?_) fun _ _ x => x)
  refine wpC_holding ?_
  exact wpC_bind (wpC_pure (wpC_bind (wpC_pure (wpC_pure h'))))
/-- a call whose first argument is not plain -/
theorem wpC_CallFirst {func e : PySem.Expr} {rest : List PySem.Expr} {pos : Pos} {Q : Value → Shared → Prop}
    (h : wpAny (model prog w) A (eval func env) (fun f s₁ => wpC (model prog w) A (eval e env) (fun v s₂ => wpAny (model prog w) A (spliced (backTo pos (starEach rest env))) (fun vs s₃ => wpC (model prog w) A (callRest pos f [] ((backTo pos (starEach (e :: rest) env)).length + 2 * 0) ((backTo pos (starEach (e :: rest) env)).any (·.1) || false) ⟨v :: vs, []⟩) Q E s₃) E s₂) E s₁) E s)
    (he : eval (.Call func (e :: rest) [] pos) env = (do callWith pos (← eval func env) [] (backTo pos (starEach (e :: rest) env)) (backToKw pos (keywordEach [] env))) := by rfl)
    (hs : backTo pos (starEach (e :: rest) env) = (false, eval e env) :: backTo pos (starEach rest env) := by rfl) :
    wpC (model prog w) A (eval (.Call func (e :: rest) [] pos) env) Q E s := by
  rw [he]
  refine wpC_bindA (wpAny_mono h (fun f s₁ h₁ => ?_) fun _ _ x => x)
  rw [callWith_eq]
  refine wpC_bind (wpC_holding ?_)
  show wpC (model prog w) A (evalArgs f true (backTo pos (starEach (e :: rest) env)) []) _ _ _
  rw [hs] at h₁ ⊢
  exact wpC_evalArgs (wpC_spliced_cons h₁)
/-- the end of a turn, the frames below may have been looked at -/
def EndC (fs : List Addr) (A₀ : Around) (base : Heap) (outer : List Env) (g : Heap) (L : Addr) (wr : List Addr) (own : List (Addr × Obj)) (J : (Str → Option Value) → List (Addr × Obj) → Prop) (s₁ : Shared) (f : Flow) (s₂ : Shared) : Prop :=
  f = .next ∧ ∃ g₂ h₂ tk m₂ news₂, s₂ = { s₁ with heap := h₂, toks := tk } ∧ KtsTurn fs g g₂ ∧ Below A₀ base outer g₂ ∧ Fr g₂ L h₂ m₂ ∧ News g₂ L h₂ news₂ ∧ (∀ p ∈ own, p ∈ news₂) ∧ J m₂ (news₂.filter fun p => decide (p.1 ∉ wr))
/-- a loop whose turns may look down, in a ledger that may grow -/
theorem codeC_forLoop {R : Result → Shared → Prop} {target : PySem.Expr} {body : List Stmt} {P : Nat → Up → Prop} {m : Str → Option Value} {news : List (Addr × Obj)} {cl : List Value}
    (W : TurnOf prog w A env target I fp wr n P St) (B : Below A₀ base outer h₀) (hcl : ∀ i h, St i h → ∀ b ∈ wr, ∃ o, h.get? b = some o ∧ o.cls ∈ cl)
    (hLf : env.locals ∉ fp) (hfp : ∀ b ∈ fp, h₀.get? b = none) (hnw : ∀ p ∈ news, p.1 ∉ wr)
    (hst : St 0 s.heap) (F : Fr h₀ env.locals s.heap m) (N : News h₀ env.locals s.heap news)
    (J : Nat → (Str → Option Value) → List (Addr × Obj) → Prop) (h0 : J 0 m news)
    (step : ∀ i up m₁ news₁ g h₁ tk₁ own, i < n → P i up → J i m₁ news₁ → (∀ p ∈ news₁, p.1 ∉ wr) → (∀ p ∈ own, p.1 ∈ fp) → FreeOf wr own cl → KtsTurn (outer.filterMap (·.frame)) h₀ g → Below A₀ base outer g →
      Fr g env.locals h₁ (up m₁) → News g env.locals h₁ (news₁ ++ own) →
      wpC (model prog w) A (execs body env) (EndC (outer.filterMap (·.frame)) A₀ base outer g env.locals wr own (J (i + 1)) { s with heap := h₁, toks := tk₁ }) (notedBy (model prog w) A env fun e s' => R (.error e) s') { s with heap := h₁, toks := tk₁ })
    (hR : ∀ g h' tk m' news', KtsTurn (outer.filterMap (·.frame)) h₀ g → Below A₀ base outer g → Fr g env.locals h' m' → News g env.locals h' news' → J n m' news' → R (.ok .next) { s with heap := h', toks := tk }) :
    codeC (model prog w) A (.forLoop target (.ref I) body [] env) R s := by
  have hLw : env.locals ∉ wr := fun h => hLf (W.sub _ h)
  refine codeC_forLoop_any
    (fun k s' => ∃ g h' tk m' news' i, s' = { s with heap := h', toks := tk } ∧ KtsTurn (outer.filterMap (·.frame)) h₀ g ∧ Below A₀ base outer g ∧ St i h' ∧ Fr g env.locals h' m' ∧ News g env.locals h' news' ∧ (∀ p ∈ news', p.1 ∉ wr) ∧ J i m' news' ∧ i ≤ n ∧ k = n + 1 - i) ?_ (n + 1)
    ⟨h₀, s.heap, s.toks, m, news, 0, rfl, KtsTurn.refl, B, hst, F, N, hnw, h0, Nat.zero_le _, rfl⟩
  rintro k s' ⟨g, h', tk, m', news', i, rfl, KT, B', hst', F', N', hnw', hJ, hi, rfl⟩
  have hfpg : ∀ b ∈ fp, g.get? b = none := fun b hb => KT.none_ b (hfp b hb)
  have old : ∀ b o, g.get? b = some o → b ∉ wr := fun b o e hb => by rw [hfpg b (W.sub b hb)] at e; cases e
  by_cases hlt : i < n
  · refine wpAny_mono (W.item i _ m' (fun s₃ => ?_) (notedBy (model prog w) A env fun e s' => R (.error e) s') hlt hst' F'.ns hLf fun up h₂ tk₂ hP hst₂ hn₂ hk₂ => ?_) (fun r s₁ h₁ => ?_) fun _ _ e => e
    · exact wpC (model prog w) A (execs body env) (fun f s₃ => match f with
            | .next | .cont => ∃ m, m < n + 1 - i ∧ ∃ g h' tk m' news' i, s₃ = { s with heap := h', toks := tk } ∧ KtsTurn (outer.filterMap (·.frame)) h₀ g ∧ Below A₀ base outer g ∧ St i h' ∧ Fr g env.locals h' m' ∧ News g env.locals h' news' ∧ (∀ p ∈ news', p.1 ∉ wr) ∧ J i m' news' ∧ i ≤ n ∧ m = n + 1 - i
            | .brk => R (.ok .next) s₃
            | .ret v => R (.ok (.ret v)) s₃) (notedBy (model prog w) A env fun e s' => R (.error e) s') s₃
    · have F₂ : Fr g env.locals h₂ (up m') := ⟨hn₂, fun b o e => hk₂ b o (old b o e) (fun q => by
        have := F'.above
        rw [q] at e
        exact absurd (Heap.lt_size e) (Nat.not_lt.mpr this)) (F'.keep b o e), F'.above⟩
      have N₂ : News g env.locals h₂ news' := fun p hp => ⟨hk₂ _ _ (hnw' p hp) (N' p hp).2.1 (N' p hp).1, (N' p hp).2⟩
      have Nown : News g env.locals h₂ (ownOf g fp h₂) := news_ownOf hLf
      refine wpC_mono (step i up m' news' g h₂ tk₂ (ownOf g fp h₂) hlt hP hJ hnw' ownOf_sub (fun b hb => ?_) KT B' F₂ (N₂.append Nown)) (fun f s₃ h₃ => ?_) fun _ _ e => e
      · obtain ⟨o, ho, hc⟩ := hcl _ _ hst₂ b hb
        exact ⟨o, mem_ownOf (W.sub _ hb) (hfpg b (W.sub _ hb)) ho, hc⟩
      · obtain ⟨rfl, g₃, h₃', tk₃, m₂, news₂, rfl, KT₃, B₃, F₃, N₃, ho₃, hJ₃⟩ := h₃
        refine ⟨n + 1 - (i + 1), by omega, g₃, h₃', tk₃, m₂, _, i + 1, rfl, KT.trans KT₃, B₃, ?_, F₃, (fun p hp => N₃ p (List.mem_filter.mp hp).1), (fun p hp => by simpa using (List.mem_filter.mp hp).2), hJ₃, hlt, rfl⟩
        exact W.frame _ _ _ hst₂ fun b hb o e => (N₃ _ (ho₃ _ (mem_ownOf hb (hfpg b hb) e))).1
    · cases r with
      | none => exact h₁.elim
      | some v => exact h₁
  · have hin : i = n := by omega
    subst hin
    refine W.done _ _ _ hst' fun h₁ tk₁ hk₁ => wpAny_execs_nil ?_
    exact hR g h₁ tk₁ m' news' KT B' ⟨F'.ns.at' fun o e => hk₁ _ o hLw e, fun b o e => hk₁ b o (old b o e) (F'.keep b o e), F'.above⟩ (fun p hp => ⟨hk₁ _ _ (hnw' p hp) (N' p hp).1, (N' p hp).2⟩) hJ
end
end Mine
end
section
theorem Mine.off_Lo : True := by
  w_top off
  trivial
open PySem PySem.W PyProof.Rows PySem.Calls
open PySem (Expr)
set_option Elab.async false
set_option linter.unusedVariables false
set_option maxRecDepth 100000
namespace Mine
section
variable {prog : Program} {w : World} {A A₀ : Around} {E : Value → Shared → Prop} {s : Shared} {env : Env} {h₀ base : Heap} {outer : List Env}
/-- the end of a turn whose ledger only grows -/
def GrowC (fs : List Addr) (A₀ : Around) (base : Heap) (outer : List Env) (g : Heap) (L : Addr) (news₁ : List (Addr × Obj)) (J : (Str → Option Value) → Prop) (s₁ : Shared) (f : Flow) (s₂ : Shared) : Prop :=
  f = .next ∧ ∃ g₂ h₂ tk m₂ news₂, s₂ = { s₁ with heap := h₂, toks := tk } ∧ KtsTurn fs g g₂ ∧ Below A₀ base outer g₂ ∧ Fr g₂ L h₂ m₂ ∧ News g₂ L h₂ news₂ ∧ (∀ p ∈ news₁, p ∈ news₂) ∧ J m₂
theorem pairsC {Q : Flow → Shared → Prop} {xi xc : Str} {pk pv pt : Pos} {x1 : Nat} {body : List Stmt} {l : Addr} {ts : List Addr} {prs : List (Value × Value)} {nn : Nat} {m : Str → Option Value} {news : List (Addr × Obj)} (hh : A.handled = none) (B : Below A₀ base outer h₀)
    (F : Fr h₀ env.locals s.heap m) (N : News h₀ env.locals s.heap news) (h1 : (l, W.listOf (ts.map Value.ref).toArray nn) ∈ news) (ht : ∀ (j : Nat) (T : Addr) (p : Value × Value), ts[j]? = some T → prs[j]? = some p → (T, tupObj #[p.1, p.2]) ∈ news) (hlen : ts.length = prs.length)
    (hxi : env.kindOf xi = some .local) (hxc : env.kindOf xc = some .local)
    (hp : (env.scope.kind == .class || (env.scope.kind == .module && env.locals != env.globals)) = false)
    (J : Nat → (Str → Option Value) → Prop) (h0 : J 0 m)
    (step : ∀ i v0 v1 m₁ g h₁ tk₁ news₁, prs[i]? = some (v0, v1) → J i m₁ → (∀ p ∈ news, p ∈ news₁) → KtsTurn (outer.filterMap (·.frame)) h₀ g → Below A₀ base outer g →
      Fr g env.locals h₁ (fun q => if q = xc then some v1 else if q = xi then some v0 else m₁ q) → News g env.locals h₁ news₁ →
      wpC (model prog w) A (execs body env) (GrowC (outer.filterMap (·.frame)) A₀ base outer g env.locals news₁ (J (i + 1)) { s with heap := h₁, toks := tk₁ }) E { s with heap := h₁, toks := tk₁ })
    (hQ : ∀ g h' tk m' news', KtsTurn (outer.filterMap (·.frame)) h₀ g → Below A₀ base outer g → Fr g env.locals h' m' → News g env.locals h' news' → (∀ p ∈ news, p ∈ news') → J prs.length m' → Q .next { s with heap := h', toks := tk })
    (hE : PassesOwn (model prog w) A env E := by passes_own) :
    wpAny (model prog w) A (pyIter (.ref l)) (fun it s₂ => codeC (model prog w) A (.forLoop (.Tuple [.Name xi pk, .Name xc pv] x1 pt) it body [] env) (ForR prog w A env Q E) s₂) E s := by
  have hl1 : s.heap.IsList l (ts.map Value.ref).toArray := ⟨_, (N _ h1).1, rfl, _, rfl⟩
  have a1 : l < s.heap.objs.size := Heap.lt_size (N _ h1).1
  have hLs : env.locals < s.heap.objs.size := F.ns.lt
  have hk : ∀ b o, s.heap.get? b = some o → (s.heap.push { cls := .type "list_iterator", data := .fields #[.ref l, .int 0 0] }).get? b = some o := fun b o e => Heap.get?_push_of_some _ e
  have htm : ∀ T ∈ ts, ∃ p, (T, tupObj #[(p : Value × Value).1, p.2]) ∈ news := fun T hT => by
    obtain ⟨j, hj, e⟩ := List.getElem_of_mem hT
    exact ⟨prs[j]'(hlen ▸ hj), ht j T _ (e ▸ List.getElem?_eq_getElem hj) (List.getElem?_eq_getElem (hlen ▸ hj))⟩
  refine wpAny_pyIter_list hl1 ?_
  have hsz : (ts.map Value.ref).toArray.size = prs.length := by simp [hlen]
  have hin : ∀ p ∈ news, p.1 ≠ s.heap.objs.size := fun p hp => Nat.ne_of_lt (Heap.lt_size (N p hp).1)
  refine codeC_forLoop (s := { s with heap := _ }) (cl := [.type "list_iterator"]) (TurnOf.items (c := "list_iterator") (ts := ts) (prs := prs) hh (Walks.list hh s.heap.objs.size l (Nat.ne_of_lt a1) (ts.map Value.ref).toArray) (fun i v hi hv => ?_) (.head _) (fun i h hst => ?_) (.inr rfl) (fun T hT hm => ?_) hxi hxc hp) B ?_ ?_ ?_ ?_
    ⟨⟨⟨_, Heap.get?_push_size _ rfl, rfl, rfl⟩, hl1.at fun o e => hk l o e⟩, fun j T p h1 h2 => ⟨_, hk _ _ (N _ (ht j T p h1 h2)).1, rfl, _, rfl⟩⟩
    (F.push _) (fun p hp => ⟨hk _ _ (N p hp).1, (N p hp).2⟩) (fun i m' news' => J i m' ∧ ∀ p ∈ news, p ∈ news') ⟨h0, fun p hp => hp⟩ ?_ ?_
  · obtain ⟨T, hT, rfl⟩ : ∃ T, ts[i]? = some T ∧ .ref T = v := by simpa using hv
    have hi' : i < prs.length := hsz ▸ hi
    exact ⟨T, prs[i], hT, List.getElem?_eq_getElem hi', rfl⟩
  · obtain ⟨⟨o, q4, q4', _⟩, _⟩ := hst
    exact ⟨o, q4, q4'⟩
  · obtain ⟨p, hp⟩ := htm T hT
    exact hin _ hp (List.mem_singleton.mp hm)
  · rintro i h ⟨⟨⟨_, q4, q4', _⟩, _⟩, _⟩ b hb
    rw [List.mem_singleton.mp hb]
    exact ⟨_, q4, by rw [q4']; exact .head _⟩
  · intro hm
    rcases List.mem_append.mp hm with hm | hm
    · simp only [List.mem_cons, List.not_mem_nil, or_false] at hm
      rcases hm with e | e
      · exact Nat.ne_of_lt hLs e
      · exact (N _ h1).2.1 e.symm
    · obtain ⟨p, hp⟩ := htm _ hm
      exact (N _ hp).2.1 rfl
  · intro b hb
    rcases List.mem_append.mp hb with hb | hb
    · simp only [List.mem_cons, List.not_mem_nil, or_false] at hb
      rcases hb with rfl | rfl
      · exact Heap.get?_none_of_le (Nat.le_trans F.above (Nat.le_of_lt hLs))
      · exact (N _ h1).2.2
    · obtain ⟨p, hp⟩ := htm _ hb
      exact (N _ hp).2.2
  · intro p hp hm
    exact hin p hp (List.mem_singleton.mp hm)
  · rintro i _ m₁ news₁ g h₁ tk₁ own hi ⟨v0, v1, hpr, rfl⟩ ⟨hJ, hsub⟩ hnw hfp hfr KT B' F₁ N₁
    refine wpC_passesOwn hE (wpC_mono (step i v0 v1 m₁ g h₁ tk₁ _ hpr hJ (fun p hp => List.mem_append_left _ (hsub p hp)) KT B' F₁ N₁) (fun f s₃ h₃ => ?_) fun _ _ e => e)
    obtain ⟨rfl, g₂, h₂, tk, m₂, news₂, rfl, KT₂, B₂, F₂, N₂, hs₂, hJ₂⟩ := h₃
    exact ⟨rfl, g₂, h₂, tk, m₂, news₂, rfl, KT₂, B₂, F₂, N₂, fun p hp => hs₂ p (List.mem_append_right _ hp), hJ₂, fun p hp => mem_free (hs₂ p (List.mem_append_left _ (hsub p hp))) (hnw p (hsub p hp))⟩
  · intro g h'' tk m' news' KT B' F' N' hJ
    exact hQ g h'' tk m' news' KT B' F' N' hJ.2 (hsz ▸ hJ.1)
theorem apart3_new {n l1 l2 l3 : Addr} (a1 : l1 < n) (a2 : l2 < n) (a3 : l3 < n) : Apart3 (n + 5) (n + 3) (n + 4) n (n + 1) (n + 2) l1 l2 l3 := by
  have a1 : @LT.lt Nat _ l1 n := a1
  have a2 : @LT.lt Nat _ l2 n := a2
  have a3 : @LT.lt Nat _ l3 n := a3
  have ne : ∀ (a b : Nat), a ≠ b → @Ne Addr a b := fun _ _ h => h
  refine ⟨⟨?_, ?_, ?_, ?_, ?_, ?_, ?_, ?_⟩, ⟨?_, ?_, ?_, ?_, ?_, ?_, ?_⟩, ⟨?_, ?_, ?_, ?_, ?_, ?_⟩, ⟨?_, ?_, ?_, ?_, ?_⟩, ⟨?_, ?_, ?_, ?_⟩⟩ <;> (refine ne _ _ ?_; omega)
theorem TurnOf.zip3 {z TI TO i1 i2 i3 l1 l2 l3 : Addr} {xs ys zs : Array Value} {xi xc xd : Str} {pk pv pw pt : Pos} {x1 n : Nat} (hh : A.handled = none) (D : Apart3 z TI TO i1 i2 i3 l1 l2 l3) (hx : xs.size = n) (hy : ys.size = n) (hu : zs.size = n)
    (hxi : env.kindOf xi = some .local) (hxc : env.kindOf xc = some .local) (hxd : env.kindOf xd = some .local)
    (hp : (env.scope.kind == .class || (env.scope.kind == .module && env.locals != env.globals)) = false) :
    TurnOf prog w A env (.Tuple [.Name xi pk, .Name xc pv, .Name xd pw] x1 pt) z [z, TI, TO, i1, i2, i3, l1, l2, l3] [z, TO, i1, i2, i3] n
      (fun i up => ∃ v0 v1 v2, xs[i]? = some v0 ∧ ys[i]? = some v1 ∧ zs[i]? = some v2 ∧ up = fun m y => if y = xd then some v2 else if y = xc then some v1 else if y = xi then some v0 else m y)
      (fun i h => IsZip h z TI TO .none ∧ IsTri h TI (.ref i1) (.ref i2) (.ref i3) ∧ (∃ a b c, IsTri h TO a b c) ∧ h.IsListIter i1 l1 i ∧ h.IsListIter i2 l2 i ∧ h.IsListIter i3 l3 i ∧ h.IsList l1 xs ∧ h.IsList l2 ys ∧ h.IsList l3 zs) where
  sub := fun c hc => by simp at hc ⊢; rcases hc with rfl | rfl | rfl | rfl | rfl <;> simp
  frame := fun i h h' hst hk => by
    obtain ⟨hz, hTI, ⟨a, b, c, hTO⟩, h1, h2, h3, hl1, hl2, hl3⟩ := hst
    exact ⟨hk z (by simp) _ hz, hk TI (by simp) _ hTI, ⟨a, b, c, hk TO (by simp) _ hTO⟩, h1.at fun o e => hk i1 (by simp) o e, h2.at fun o e => hk i2 (by simp) o e, h3.at fun o e => hk i3 (by simp) o e,
      hl1.at fun o e => hk l1 (by simp) o e, hl2.at fun o e => hk l2 (by simp) o e, hl3.at fun o e => hk l3 (by simp) o e⟩
  item := fun i s m Q E hi hst hns hL hQ => by
    obtain ⟨hz, hTI, ⟨a, b, c, hTO⟩, h1, h2, h3, hl1, hl2, hl3⟩ := hst
    have e1 : xs[i]? = some (xs[i]'(by omega)) := Array.getElem?_eq_getElem _
    have e2 : ys[i]? = some (ys[i]'(by omega)) := Array.getElem?_eq_getElem _
    have e3 : zs[i]? = some (zs[i]'(by omega)) := Array.getElem?_eq_getElem _
    have lt : ∀ {c o}, s.heap.get? c = some o → s.heap.objs.size ≠ c := fun e => Nat.ne_of_gt (Heap.lt_size e)
    have nL : ∀ c, c ∈ [z, TI, TO, i1, i2, i3, l1, l2, l3] → env.locals ≠ c := fun c hc q => hL (q ▸ hc)
    refine zt_pyNext D hz hTI hTO h1 h2 h3 hl1 hl2 hl3 e1 e2 e3 fun h' b1 b2 b3 b4 b5 b6 hk => ?_
    have up : ∀ c o, c ∉ [z, TO, i1, i2, i3] → s.heap.get? c = some o → h'.get? c = some o := fun c o hc e => hk c o (fun x => hc (by simp [x])) (fun x => hc (by simp [x])) (fun x => hc (by simp [x])) (fun x => hc (by simp [x])) (fun x => hc (by simp [x])) e
    obtain ⟨nz, nTO, n1, n2, n3⟩ := D
    have hLw : env.locals ∉ [z, TO, i1, i2, i3] := fun hm => by
      simp only [List.mem_cons, List.not_mem_nil, or_false] at hm
      rcases hm with e | e | e | e | e <;> exact nL _ (by simp) e
    have kTI : h'.get? TI = some _ := hk TI _ nz.1 nTO.1 n1.1 n2.1 n3.1 hTI
    have kl1 : h'.IsList l1 xs := hl1.at fun o e => hk _ o nz.2.2.2.2.2.1 nTO.2.2.2.2.1 n1.2.2.2.1 n2.2.2.1 n3.2.1 e
    have kl2 : h'.IsList l2 ys := hl2.at fun o e => hk _ o nz.2.2.2.2.2.2.1 nTO.2.2.2.2.2.1 n1.2.2.2.2.1 n2.2.2.2.1 n3.2.2.1 e
    have kl3 : h'.IsList l3 zs := hl3.at fun o e => hk _ o nz.2.2.2.2.2.2.2 nTO.2.2.2.2.2.2 n1.2.2.2.2.2 n2.2.2.2.2 n3.2.2.2 e
    have tz := lt hz
    refine wpAny_letOwnedTupleGo_zip (s := { s with heap := h' }) b1 fun h₂ hz₂ hs₂ => ?_
    refine assign_names3 (s := { s with heap := h₂ }) hh (T := s.heap.objs.size) ⟨_, hs₂.extBut _ _ tz b6, rfl, _, rfl⟩ (hns.at' fun o e => hs₂.extBut _ o (nL z (by simp)) (up _ o hLw e)) hxi hxc hxd hp fun h₃ tk₃ hn₃ hk₃ => ?_
    refine hQ _ h₃ _ ⟨_, _, _, e1, e2, e3, rfl⟩ ?_ hn₃ fun c o hc hcL e => hk₃ c o hcL (hs₂.extBut c o (fun x => hc (by simp [x])) (up c o hc e))
    have k3 : ∀ c ∈ [z, TI, TO, i1, i2, i3, l1, l2, l3], ∀ o, h₂.get? c = some o → h₃.get? c = some o := fun c hc o e => hk₃ c o (Ne.symm (nL c hc)) e
    exact ⟨k3 z (by simp) _ hz₂, k3 TI (by simp) _ (hs₂.extBut _ _ nz.1 kTI), ⟨_, _, _, k3 TO (by simp) _ (hs₂.extBut _ _ nz.2.1 b2)⟩, (b3.extBut hs₂.extBut nz.2.2.1).at fun o e => k3 i1 (by simp) o e, (b4.extBut hs₂.extBut nz.2.2.2.1).at fun o e => k3 i2 (by simp) o e, (b5.extBut hs₂.extBut nz.2.2.2.2.1).at fun o e => k3 i3 (by simp) o e,
      (kl1.extBut hs₂.extBut nz.2.2.2.2.2.1).at fun o e => k3 l1 (by simp) o e, (kl2.extBut hs₂.extBut nz.2.2.2.2.2.2.1).at fun o e => k3 l2 (by simp) o e, (kl3.extBut hs₂.extBut nz.2.2.2.2.2.2.2).at fun o e => k3 l3 (by simp) o e⟩
  done := fun s Q E hst hQ => by
    obtain ⟨hz, hTI, ⟨a, b, c, hTO⟩, h1, h2, h3, hl1, hl2, hl3⟩ := hst
    exact zt_pyNext_end hh D hz hTI hTO h1 hl1 (by simp [hx]) fun h' hk => hQ h' s.toks fun c o hc e =>
      hk c o (fun x => hc (by simp [x])) (fun x => hc (by simp [x])) (fun x => hc (by simp [x])) (fun x => hc (by simp [x])) (fun x => hc (by simp [x])) e
theorem zip3C {Q : Flow → Shared → Prop} {xi xc xd : Str} {pk pv pw pt : Pos} {x1 n n1 n2 n3 : Nat} {body : List Stmt} {l1 l2 l3 : Addr} {xs ys zs : Array Value} {m : Str → Option Value} {news : List (Addr × Obj)} (hh : A.handled = none) (B : Below A₀ base outer h₀)
    (F : Fr h₀ env.locals s.heap m) (N : News h₀ env.locals s.heap news) (h1 : (l1, W.listOf xs n1) ∈ news) (h2 : (l2, W.listOf ys n2) ∈ news) (h3 : (l3, W.listOf zs n3) ∈ news) (hx : xs.size = n) (hy : ys.size = n) (hu : zs.size = n)
    (hxi : env.kindOf xi = some .local) (hxc : env.kindOf xc = some .local) (hxd : env.kindOf xd = some .local)
    (hp : (env.scope.kind == .class || (env.scope.kind == .module && env.locals != env.globals)) = false)
    (J : Nat → (Str → Option Value) → Prop) (h0 : J 0 m)
    (step : ∀ i v0 v1 v2 m₁ g h₁ tk₁ news₁, xs[i]? = some v0 → ys[i]? = some v1 → zs[i]? = some v2 → J i m₁ → (∀ p ∈ news, p ∈ news₁) → KtsTurn (outer.filterMap (·.frame)) h₀ g → Below A₀ base outer g →
      Fr g env.locals h₁ (fun q => if q = xd then some v2 else if q = xc then some v1 else if q = xi then some v0 else m₁ q) → News g env.locals h₁ news₁ →
      wpC (model prog w) A (execs body env) (GrowC (outer.filterMap (·.frame)) A₀ base outer g env.locals news₁ (J (i + 1)) { s with heap := h₁, toks := tk₁ }) E { s with heap := h₁, toks := tk₁ })
    (hQ : ∀ g h' tk m' news', KtsTurn (outer.filterMap (·.frame)) h₀ g → Below A₀ base outer g → Fr g env.locals h' m' → News g env.locals h' news' → (∀ p ∈ news, p ∈ news') → J n m' → Q .next { s with heap := h', toks := tk })
    (hE : PassesOwn (model prog w) A env E := by passes_own) :
    wpAny (model prog w) A (call (.type "zip") [.ref l1, .ref l2, .ref l3]) (fun xv s₁ => wpAny (model prog w) A (pyIter xv) (fun it s₂ => codeC (model prog w) A (.forLoop (.Tuple [.Name xi pk, .Name xc pv, .Name xd pw] x1 pt) it body [] env) (ForR prog w A env Q E) s₂) E s₁) E s := by
  have hl1 : s.heap.IsList l1 xs := ⟨_, (N _ h1).1, rfl, _, rfl⟩
  have hl2 : s.heap.IsList l2 ys := ⟨_, (N _ h2).1, rfl, _, rfl⟩
  have hl3 : s.heap.IsList l3 zs := ⟨_, (N _ h3).1, rfl, _, rfl⟩
  have a1 : l1 < s.heap.objs.size := Heap.lt_size (N _ h1).1
  have a2 : l2 < s.heap.objs.size := Heap.lt_size (N _ h2).1
  have a3 : l3 < s.heap.objs.size := Heap.lt_size (N _ h3).1
  have hLs : env.locals < s.heap.objs.size := F.ns.lt
  refine call_zip3 hl1 hl2 hl3 fun h' hz hTI hTO hit1 hit2 hit3 hk => ?_
  refine wpAny_pyIter_zip hz ?_
  have nw : ∀ k, h₀.get? (s.heap.objs.size + k) = none := fun k => Heap.get?_none_of_le (Nat.le_trans F.above (Nat.le_trans (Nat.le_of_lt hLs) (Nat.le_add_right _ k)))
  have up : ∀ a, a < s.heap.objs.size → ∀ k, a ≠ s.heap.objs.size + k := fun a h k e => Nat.ne_of_lt (Nat.lt_of_lt_of_le h (Nat.le_add_right _ k)) e
  refine codeC_forLoop (s := { s with heap := h' }) (cl := [.type "zip", .type "tuple", .type "list_iterator"]) (TurnOf.zip3 (n := n) hh (apart3_new a1 a2 a3) hx hy hu hxi hxc hxd hp) B ?_ ?_ ?_ ?_ ⟨hz, hTI, ⟨_, _, _, hTO⟩, hit1, hit2, hit3, hl1.at fun o e => hk l1 o e, hl2.at fun o e => hk l2 o e, hl3.at fun o e => hk l3 o e⟩
    ⟨F.ns.keeps hk, fun b o e => hk b o (F.keep b o e), F.above⟩ (fun p hp => ⟨hk _ _ (N p hp).1, (N p hp).2⟩) (fun i m' news' => J i m' ∧ ∀ p ∈ news, p ∈ news') ⟨h0, fun p hp => hp⟩ ?_ ?_
  · rintro i h ⟨q1, q2, ⟨_, _, _, q3⟩, ⟨_, q4, q4', _⟩, ⟨_, q5, q5', _⟩, ⟨_, q6, q6', _⟩, _⟩ b hb
    simp only [List.mem_cons, List.not_mem_nil, or_false] at hb
    rcases hb with rfl | rfl | rfl | rfl | rfl
    · exact ⟨_, q1, .head _⟩
    · exact ⟨_, q3, .tail _ (.head _)⟩
    · exact ⟨_, q4, by rw [q4']; exact .tail _ (.tail _ (.head _))⟩
    · exact ⟨_, q5, by rw [q5']; exact .tail _ (.tail _ (.head _))⟩
    · exact ⟨_, q6, by rw [q6']; exact .tail _ (.tail _ (.head _))⟩
  · intro hm
    simp only [List.mem_cons, List.not_mem_nil, or_false] at hm
    rcases hm with e | e | e | e | e | e | e | e | e
    · exact up _ hLs 5 e
    · exact up _ hLs 3 e
    · exact up _ hLs 4 e
    · exact up _ hLs 0 e
    · exact up _ hLs 1 e
    · exact up _ hLs 2 e
    · exact (N _ h1).2.1 e.symm
    · exact (N _ h2).2.1 e.symm
    · exact (N _ h3).2.1 e.symm
  · intro b hb
    simp only [List.mem_cons, List.not_mem_nil, or_false] at hb
    rcases hb with rfl | rfl | rfl | rfl | rfl | rfl | rfl | rfl | rfl
    · exact nw 5
    · exact nw 3
    · exact nw 4
    · exact nw 0
    · exact nw 1
    · exact nw 2
    · exact (N _ h1).2.2
    · exact (N _ h2).2.2
    · exact (N _ h3).2.2
  · intro p hp hm
    have hq := Heap.lt_size (N p hp).1
    simp only [List.mem_cons, List.not_mem_nil, or_false] at hm
    rcases hm with e | e | e | e | e
    · exact up _ hq 5 e
    · exact up _ hq 4 e
    · exact up _ hq 0 e
    · exact up _ hq 1 e
    · exact up _ hq 2 e
  · rintro i _ m₁ news₁ g h₁ tk₁ own hi ⟨v0, v1, v2, e1, e2, e3, rfl⟩ ⟨hJ, hsub⟩ hnw hfp hfr KT B' F₁ N₁
    refine wpC_passesOwn hE (wpC_mono (step i v0 v1 v2 m₁ g h₁ tk₁ _ e1 e2 e3 hJ (fun p hp => List.mem_append_left _ (hsub p hp)) KT B' F₁ N₁) (fun f s₃ h₃ => ?_) fun _ _ e => e)
    obtain ⟨rfl, g₂, h₂, tk, m₂, news₂, rfl, KT₂, B₂, F₂, N₂, hs₂, hJ₂⟩ := h₃
    exact ⟨rfl, g₂, h₂, tk, m₂, news₂, rfl, KT₂, B₂, F₂, N₂, fun p hp => hs₂ p (List.mem_append_right _ hp), hJ₂, fun p hp => mem_free (hs₂ p (List.mem_append_left _ (hsub p hp))) (hnw p (hsub p hp))⟩
  · intro g h'' tk m' news' KT B' F' N' hJ
    exact hQ g h'' tk m' news' KT B' F' N' hJ.2 hJ.1
/-- a method's call: the object and the arguments in the plain logic -/
theorem wpC_MethodCall {o e : PySem.Expr} {name : Str} {apos pos : Pos} {rest : List PySem.Expr} {pl : Sem Bool} {Q : Value → Shared → Prop}
    (h : wpAny (model prog w) A (eval o env) (fun ov s₁ => wpAny (model prog w) A (getMethod ov name pl) (fun fx s₂ => wpAny (model prog w) A (spliced (backTo pos (starEach (e :: rest) env))) (fun vs s₃ =>
      wpC (model prog w) A (callRest pos fx.1 fx.2 ((backTo pos (starEach (e :: rest) env)).length + 2 * 0) ((backTo pos (starEach (e :: rest) env)).any (·.1) || false) ⟨vs, []⟩) Q E s₃) E s₂) E s₁) E s)
    (he : eval (.Call (.Attribute o name apos) (e :: rest) [] pos) env = (do
      let ov ← eval o env
      standAt apos.atName
      let (f, first) ← holding [ov] (getMethod ov name pl)
      callWith pos f first (backTo pos (starEach (e :: rest) env)) []) := by rfl)
    (hs : backTo pos (starEach (e :: rest) env) = (false, eval e env) :: backTo pos (starEach rest env) := by rfl) :
    wpC (model prog w) A (eval (.Call (.Attribute o name apos) (e :: rest) [] pos) env) Q E s := by
  rw [he]
  refine wpC_bindA (wpAny_mono h (fun ov s₁ h₁ => wpC_bind (wpC_standAt (wpC_bindA (wpAny_holding (wpAny_mono h₁ (fun fx s₂ h₂ => ?_) fun _ _ x => x))))) fun _ _ x => x)
  obtain ⟨f, first⟩ := fx
  show wpC (model prog w) A (callWith pos f first (backTo pos (starEach (e :: rest) env)) []) Q E s₂
  rw [callWith_eq]
  refine wpC_bindA (wpAny_holding ?_)
  rw [hs] at h₂ ⊢
  exact evalArgs_plain h₂
end
end Mine
end
section
theorem Mine.off_Lk : True := by
  w_top off
  trivial
open PySem PySem.W PyProof.Rows
set_option Elab.async false
set_option maxRecDepth 100000
namespace Mine
theorem slice4 (u : Str) (h : 4 ≤ u.cps.size) : (Txt.slice u (some 4) none).cps.toList = u.cps.toList.drop 4 := by
  have h' : 4 ≤ u.length := h
  have e : PySem.Builtin.Str.strSliceIndices (some (4 : Int)) none 1 u.length = PySem.Builtin.Str.strSliceIndices (some ((4 : Nat) : Int)) (some (u.length : Int)) 1 u.length := by
    unfold PySem.Builtin.Str.strSliceIndices
    have h2 : ¬ ((u.length : Int) < 0) := by omega
    have e2 : max (0 : Int) (min (u.length : Int) (u.length : Int)) = u.length := by omega
    simp only [h2, if_false, e2, show ((1 : Int) > 0) = True from by simp, if_true]
    rfl
  unfold Txt.slice
  rw [e]
  have hl : ((PySem.Builtin.Str.strSliceIndices (some ((4 : Nat) : Int)) (some (u.length : Int)) 1 u.length)).length = u.length - 4 := by
    rw [StrLaws.strSliceIndices_plain h' (Nat.le_refl _)]; simp
  rw [if_neg (by rw [hl]; simp; omega), StrLaws.sliced_plain u h' (Nat.le_refl _)]
  show List.take (u.length - 4) (List.drop 4 u.cps.toList) = _
  exact List.take_of_length_le (by rw [List.length_drop, Array.length_toList]; exact Nat.le_refl _)
theorem road_kinds {ks : List Nat} {bs : List Bool} (h : ks.length ≤ bs.length) : (roadOf (ks.map fun (k : Nat) => (k : Int)) bs).map (·.1) = ks := by
  unfold roadOf
  rw [List.map_map, show (Int.toNat ∘ fun (k : Nat) => (k : Int)) = id from rfl, List.map_id]
  exact List.map_fst_zip h
theorem road_scan {u : Str} {ks : List Nat} {bs : List Bool} (hu : u.cps.toList = [114, 111, 111, 116] ++ roadCs (roadOf (ks.map fun (k : Nat) => (k : Int)) bs)) (hk : ∀ k ∈ ks, k < 7) (hl : ks.length ≤ 5) (hb : ks.length ≤ bs.length) :
    ∃ stF, Runs ⟨[], Str.ofString "", 0, false, none⟩ (Txt.slice u (some 4) none).cps.toList stF ∧ Fin stF ks := by
  have hr : ∀ p ∈ roadOf (ks.map fun (k : Nat) => (k : Int)) bs, p.1 < 7 := fun p hp => by
    refine hk _ ?_
    rw [← road_kinds hb]
    exact List.mem_map_of_mem hp
  have hrl : (roadOf (ks.map fun (k : Nat) => (k : Int)) bs).length ≤ 20 := by
    have := congrArg List.length (road_kinds hb)
    rw [List.length_map] at this
    omega
  obtain ⟨stF, h1, h2⟩ := scan _ hr hrl
  rw [road_kinds hb] at h2
  refine ⟨stF, ?_, h2⟩
  have hsz : 4 ≤ u.cps.size := by
    rw [← Array.length_toList, hu]; simp
  rw [slice4 u hsz, hu]
  exact h1
theorem road_short {u : Str} {ks : List Nat} {bs : List Bool} (hu : u.cps.toList = [114, 111, 111, 116] ++ roadCs (roadOf (ks.map fun (k : Nat) => (k : Int)) bs)) (hk : ∀ k ∈ ks, k < 7) (hl : ks.length ≤ 5) (hb : ks.length ≤ bs.length) : u.length ≤ 200 := by
  have hr : ∀ p ∈ roadOf (ks.map fun (k : Nat) => (k : Int)) bs, p.1 < 7 := fun p hp => by
    refine hk _ ?_
    rw [← road_kinds hb]
    exact List.mem_map_of_mem hp
  have h1 := road_len _ hr
  have h2 := congrArg List.length (road_kinds hb)
  rw [List.length_map] at h2
  have h3 : u.cps.toList.length = u.length := rfl
  rw [hu] at h3
  simp only [List.length_append, List.length_cons, List.length_nil] at h3
  omega
theorem text_pat {y : Value} {ks : List Nat} {bs : List Bool} {u : Str} {t : Tok} (hy : y = .str u t) (hu : u.cps.toList = [114, 111, 111, 116] ++ roadCs (roadOf (ks.map fun (k : Nat) => (k : Int)) bs)) (hk : ∀ k ∈ ks, k < 7) (hl : ks.length ≤ 5) (hb : ks.length ≤ bs.length) : Pat y ks := by
  obtain ⟨stF, h1, h2⟩ := road_scan hu hk hl hb
  exact ⟨u, t, stF, hy, hk, hl, by have := road_short hu hk hl hb; rw [sizeLine_eq]; omega, h1, h2⟩
/-- the last row's last: the pattern fits the path -/
theorem law_match (ps ks : List Nat) : tab ps ks ks.length = msl false ps ks := tab_match
theorem law_desc (ps ks : List Nat) : (rowOf ps ks).any (· == true) = msl true ps ks := by
  rw [Bool.eq_iff_iff, ← tab_desc, List.any_eq_true]
  unfold rowOf
  constructor
  · rintro ⟨b, hb, e⟩
    obtain ⟨j, hj, rfl⟩ := List.mem_map.mp hb
    exact ⟨j, by have := List.mem_range.mp hj; omega, beq_iff_eq.mp e⟩
  · rintro ⟨j, hj, e⟩
    exact ⟨_, List.mem_map.mpr ⟨j, List.mem_range.mpr (by omega), rfl⟩, by rw [e]; rfl⟩
theorem law_anc (ps ks : List Nat) : (((List.range (ps.length + 1)).map fun i => tab (ps.take i) ks ks.length).any (· == true)) = (msl false ps ks || cdl ps ks) := by
  rw [Bool.eq_iff_iff, ← tab_anc, List.any_eq_true]
  constructor
  · rintro ⟨b, hb, e⟩
    obtain ⟨j, hj, rfl⟩ := List.mem_map.mp hb
    exact ⟨j, by have := List.mem_range.mp hj; omega, beq_iff_eq.mp e⟩
  · rintro ⟨j, hj, e⟩
    exact ⟨_, List.mem_map.mpr ⟨j, List.mem_range.mpr (by omega), rfl⟩, by rw [e]; rfl⟩
end Mine
end
section
theorem Mine.off_Lr : True := by
  w_top off
  trivial
open PySem PySem.W PyProof.Rows
set_option Elab.async false
set_option linter.unusedVariables false
set_option linter.unusedSimpArgs false
set_option maxRecDepth 100000
namespace Mine

open PyProof.V
local macro_rules | `(tactic| k_all) => `(tactic| with_reducible assumption)
local macro_rules | `(tactic| k_mem) => `(tactic| assumption)
def mZ (b0 : Str → Option Value) (g mt tx pa go dt ro rw : Option Value) : Str → Option Value := fun y =>
  if y = Str.ofString "rows" then rw else if y = Str.ofString "road" then ro else if y = Str.ofString "dotted" then dt else if y = Str.ofString "goal" then go else if y = Str.ofString "parts" then pa else if y = Str.ofString "text" then tx else if y = Str.ofString "matcher" then mt else if y = Str.ofString "good" then g else b0 y
local macro_rules | `(tactic| walk_at "subscriptTail Name UnaryOp ref int") => `(tactic| (k_here; refine stop_on ?_))
set_option maxHeartbeats 4000000 in
theorem main_turn : ∀ {w : World} {mean : ExcName → Option Value} {mg mb : Str → Option Value} (base h₀ : Heap) (L : Addr) (s : Shared) (b0 : Str → Option Value) (mv : Value) (tx go dt ro rw : Option Value) (Pa Go Do : Addr) (pv gv : List Value) (ps ks : List Nat) (bs : List Bool) (np ng nd : Nat) (news : List (Addr × Obj)) (J : (Str → Option Value) → Prop) (E : Value → Shared → Prop)
  (B : Below callerA base [] h₀) (F : Fr h₀ L s.heap (fun y => if y = Str.ofString "dotted" then some (.ref Do) else if y = Str.ofString "goal" then some (.ref Go) else mZ b0 (some (.bool true)) (some mv) tx (some (.ref Pa)) go dt ro rw y)) (X : (hd.heap_39 (World.params w)).In h₀) (N : News h₀ L s.heap news) (T : Top hd.view_39 (looseW hd.view_39 [Str.ofString "SINGLE_WILDCARD", Str.ofString "MULTI_WILDCARD", Str.ofString "DEFAULT_FIRST_ELEMENT", Str.ofString "_path_to_elements", Str.ofString "_WILDCARD_RE"]) mean mg mb h₀) (XB : (hd.heap_39 (World.params w)).In base) (TB : Top hd.view_39 (looseW hd.view_39 [Str.ofString "SINGLE_WILDCARD", Str.ofString "MULTI_WILDCARD", Str.ofString "DEFAULT_FIRST_ELEMENT", Str.ofString "_path_to_elements", Str.ofString "_WILDCARD_RE"]) mean mg mb base)
  (hM : Mat w news mv ps) (hps : ∀ k ∈ ps, k < 7) (hpl : ps.length ≤ 5) (hPa : (Pa, W.listOf pv.toArray np) ∈ news) (hip : IntsAre pv (ps.map fun (k : Nat) => (k : Int))) (hGo : (Go, W.listOf gv.toArray ng) ∈ news) (hig : IntsAre gv (ks.map fun (k : Nat) => (k : Int))) (hDo : (Do, W.listOf (bs.map Value.bool).toArray nd) ∈ news)
  (hks : ∀ k ∈ ks, 2 ≤ k ∧ k < 7) (hkl : ks.length ≤ 5) (hkb : ks.length ≤ bs.length) (hE : PassesOwn (model (RowW.prog (OpenRow.toRowW (OpenLaw.row PySem.Challenge.rw_fu0002_01))) w) (callerA.deeper (envOf (Str.ofString "law") (scopeOf (hd.heap_39 (World.params w)) 201) L 201 (.ref 200))) (envOf (Str.ofString "law") (scopeOf (hd.heap_39 (World.params w)) 201) L 201 (.ref 200)) E)
  (hJ : ∀ ro rw, J (mZ b0 (some (.bool true)) (some mv) tx (some (.ref Pa)) (some (.ref Go)) (some (.ref Do)) ro rw)),
  wpC (model (RowW.prog (OpenRow.toRowW (OpenLaw.row PySem.Challenge.rw_fu0002_01))) w) (callerA.deeper (envOf (Str.ofString "law") (scopeOf (hd.heap_39 (World.params w)) 201) L 201 (.ref 200))) (execs (innerBody (hd.heap_39 (World.params w)) 201 8 1) (envOf (Str.ofString "law") (scopeOf (hd.heap_39 (World.params w)) 201) L 201 (.ref 200))) (GrowC (([] : List Env).filterMap (·.frame)) callerA base [] h₀ L news J s) E s := by
  intro w mean mg mb base h₀ L s b0 mv tx go dt ro rw Pa Go Do pv gv ps ks bs np ng nd news J E B F X N T XB TB hM hps hpl hPa hip hGo hig hDo hks hkl hkb hE hJ
  revert X
  k_fill
  intro X
  conv in (innerBody _ _ _ _) => whnf
  repeat (conv in (scopeOf _ _) => whnf)
  have F0 := F
  unfold mZ at F0
  have SB : True → Below callerA base [] h₀ := fun _ => B
  clear B
  refine wpC_execs_plain ?_
  k_steps
  refine text_ok 302 7 _ (Str.ofString "law") _ 201 (.ref 200) [] [] callerA base h₀ L _ _ _ _ Go Do gv (ks.map fun (k : Nat) => (k : Int)) bs ng nd news (SB trivial) F0 X N T rfl (by decide) (by decide) hGo hDo hig (fun z hz => ?bnd) (by rw [List.length_map]; exact hkl) ?_
  case bnd =>
    obtain ⟨k, hk, rfl⟩ := List.mem_map.mp hz
    have := hks k hk
    omega
  intro h1 tk1 u tku news1 F1 N1 hs1 hu1
  k_steps
  refine wpC_execs_plain ?_
  k_steps
  rename Fr _ _ _ _ => F2
  rename News _ _ _ _ => N2
  refine table_ok 302 7 _ (Str.ofString "law") _ 201 (.ref 200) [] [] callerA base h₀ L _ _ _ _ Pa Go pv gv ps ks np ng news1 (SB trivial) F2 X N2 T rfl (by decide) (by decide) (hs1 _ hPa) (hs1 _ hGo) hip hig hpl hkl ?_
  intro h3 tk3 R rs nR news3 F3 N3 hs3 hR hrl hrs
  k_steps
  rename Fr _ _ _ _ => F4
  rename News _ _ _ _ => N4
  have hnd : ∀ (g : Heap), KtsDicts (([] : List Env).filterMap (·.frame)) g := fun g b hb => by cases hb
  have hul : u.length ≤ sizeLine := by have := road_short hu1 (fun k hk => (hks k hk).2) hkl hkb; rw [sizeLine_eq]; omega
  obtain ⟨stF, hr1, hr2⟩ := road_scan hu1 (fun k hk => (hks k hk).2) hkl hkb
  obtain ⟨mm, dd, PT, t1, t2, tk0, um, prs, rfl, m1, m2, m3, mE⟩ := (hM.sub fun p hp => hs3 p (hs1 p hp)).ex
  obtain ⟨rl, hrl'⟩ : ∃ r, rs[ps.length]? = some r := ⟨_, List.getElem?_eq_getElem (by omega)⟩
  obtain ⟨nl, hl⟩ := hrs _ _ hrl'
  rw [List.take_length] at hl
  refine wpC_execs_cons (wpC_Assign_Name (wpC_BoolOp_and2 ?_))
  k_steps
  refine wpC_Compare1 ?_
  refine wpC_MethodCall ?_
  k_steps
  refine' rest_def ?zho5 ?zhd5 ?_
  case zho5 => exact (Frag.In.keeps X (Fr.keep F4)) _ _ (by k_is)
  case zhd5 => rfl
  dsimp only [List.nil_append]
  refine match_ok 302 7 _ (Str.ofString "law") _ 201 (.ref 200) [] [] callerA base h₀ L _ _ _ _ mm dd PT t1 t2 tku (.str um tk0) ps ks prs news3 u stF (SB trivial) F4 X N4 T (hnd _) XB TB rfl (by decide) (by decide) m1 m2 m3 mE hps hks hpl hkl hul hr1 hr2 ?_
  intro g5 h5 tk5 news5 KT5 F5 B5 N5 hs5
  have X5 := XB.keeps B5.stays
  have T5 := TB.keeps B5.stays
  have SB5 : True → Below callerA base [] g5 := fun _ => B5
  clear B5
  k_steps
  unfold Stop
  refine item_lastS (s := ⟨_, _, _, _, _⟩) ⟨_, (N5 _ (hs5 _ hR)).1, rfl, _, rfl⟩ (by simp only [List.size_toArray, List.length_map]; omega) (x := .ref rl) (by rw [show ((rs.map Value.ref).toArray).size - 1 = ps.length by simp [hrl]]; simp [hrl']) ?_
  k_steps
  unfold Stop
  refine item_lastS (s := ⟨_, _, _, _, _⟩) ⟨_, (N5 _ (hs5 _ hl)).1, rfl, _, rfl⟩ (by simp [row_len]) (x := .bool (tab ps ks ks.length)) (by rw [show (((rowOf ps ks).map Value.bool).toArray).size - 1 = ks.length by simp [row_len]]; simp [row_get?]) ?_
  k_steps
  rename Fr _ _ _ _ => F6
  rename News _ _ _ _ => N6
  rw [show (msl false ps ks == tab ps ks ks.length) = true by rw [law_match]; simp] at F6
  refine wpC_execs_cons (wpC_Assign_Name (wpC_BoolOp_and2 ?_))
  k_steps
  refine wpC_Compare1 ?_
  refine wpC_MethodCall ?_
  k_steps
  refine' rest_def ?zho7 ?zhd7 ?_
  case zho7 => exact (Frag.In.keeps X5 (Fr.keep F6)) _ _ (by k_is)
  case zhd7 => rfl
  dsimp only [List.nil_append]
  refine desc_ok 302 7 _ (Str.ofString "law") _ 201 (.ref 200) [] [] callerA base g5 L _ _ _ _ mm dd PT t1 t2 tku (.str um tk0) ps ks prs news5 u stF (SB5 trivial) F6 X5 N6 T5 (hnd _) XB TB rfl (by decide) (by decide) (hs5 _ m1) (hs5 _ m2) (hs5 _ m3) (mE.sub fun p hp _ => hs5 p hp) hps hks hpl hkl hul hr1 hr2 ?_
  intro g7 h7 tk7 news7 KT7 F7 B7 N7 hs7
  have X7 := XB.keeps B7.stays
  have T7 := TB.keeps B7.stays
  have SB7 : True → Below callerA base [] g7 := fun _ => B7
  clear B7
  k_steps
  unfold Stop
  refine item_lastS (s := ⟨_, _, _, _, _⟩) ⟨_, (N7 _ (hs7 _ (hs5 _ hR))).1, rfl, _, rfl⟩ (by simp only [List.size_toArray, List.length_map]; omega) (x := .ref rl) (by rw [show ((rs.map Value.ref).toArray).size - 1 = ps.length by simp [hrl]]; simp [hrl']) ?_
  k_steps
  refine in_bools (s := ⟨_, _, _, _, _⟩) (bs := rowOf ps ks) ⟨_, (N7 _ (hs7 _ (hs5 _ hl))).1, rfl, _, rfl⟩ ?_
  rw [law_desc]
  k_steps
  rename Fr _ _ _ _ => F8
  rename News _ _ _ _ => N8
  rw [show (msl true ps ks == msl true ps ks) = true by simp] at F8
  refine wpC_execs_cons (wpC_Assign_Name (wpC_BoolOp_and2 ?_))
  k_steps
  refine wpC_Compare1 ?_
  refine wpC_MethodCall ?_
  k_steps
  refine' rest_def ?zho9 ?zhd9 ?_
  case zho9 => exact (Frag.In.keeps X7 (Fr.keep F8)) _ _ (by k_is)
  case zhd9 => rfl
  dsimp only [List.nil_append]
  refine anc_ok 302 7 _ (Str.ofString "law") _ 201 (.ref 200) [] [] callerA base g7 L _ _ _ _ mm dd PT t1 t2 tku (.str um tk0) ps ks prs news7 u stF (SB7 trivial) F8 X7 N8 T7 (hnd _) XB TB rfl (by decide) (by decide) (hs7 _ (hs5 _ m1)) (hs7 _ (hs5 _ m2)) (hs7 _ (hs5 _ m3)) (mE.sub fun p hp _ => hs7 p (hs5 p hp)) hps hks hpl hkl hul hr1 hr2 ?_
  intro g9 h9 tk9 news9 KT9 F9 B9 N9 hs9
  have X9 := XB.keeps B9.stays
  have T9 := TB.keeps B9.stays
  have SB9 : True → Below callerA base [] g9 := fun _ => B9
  clear B9
  refine wpAny_Compare1 ?_
  refine wpAny_Constant_bool ?_
  have FZ : Fr g9 L h9 (mZ b0 (some (.bool true)) (some (.ref mm)) tx (some (.ref Pa)) (some (.ref Go)) (some (.ref Do)) (some (.str u tku)) (some (.ref R))) := fr_eq F9 fun y => by
    unfold mZ
    by_cases h1 : y = Str.ofString "good"
    · subst h1; rfl
    by_cases h2 : y = Str.ofString "rows"
    · subst h2; rfl
    by_cases h3 : y = Str.ofString "road"
    · subst h3; rfl
    by_cases h4 : y = Str.ofString "dotted"
    · subst h4; rfl
    by_cases h5 : y = Str.ofString "goal"
    · subst h5; rfl
    simp only [h1, h2, h3, h4, h5, if_false]
  clear F9
  have hsub9 : ∀ p ∈ news3, p ∈ news9 := fun p hp => hs9 p (hs7 p (hs5 p hp))
  refine comp_grow (h₀ := g9) (L := L) (n := ps.length + 1) (m := mZ b0 (some (.bool true)) (some (.ref mm)) tx (some (.ref Pa)) (some (.ref Go)) (some (.ref Do)) (some (.str u tku)) (some (.ref R))) (P := fun i up => ∃ v, ((rs.map Value.ref).toArray)[i]? = some v ∧ up = fun m y => if y = Str.ofString "row" then some v else m y) (fun (i : Nat) y => y = .bool (tab (ps.take i) ks ks.length)) (by decide) (by decide) (by rfl) (by decide) ?_
  refine wpAny_Name (wpAny_loadName_local rfl rfl FZ.ns rfl ?_) rfl
  refine ⟨news9, growList (items := (rs.map Value.ref).toArray) rfl (hsub9 _ hR) (by simp [hrl]) (by omega) FZ N9 (by rfl) (by rfl) ?_, ?_⟩
  · intro i v C mC h₁ tk₁ news₁ hv hC hx hsub F₁ N₁
    obtain ⟨r, hr, rfl⟩ : ∃ r, rs[i]? = some r ∧ .ref r = v := by simpa using hv
    obtain ⟨n, hn⟩ := hrs i r hr
    have SF : True → Fr g9 L h₁ _ := fun _ => F₁
    have SN : True → News g9 L h₁ _ := fun _ => N₁
    k_steps
    unfold Stop
    refine item_lastS (s := ⟨_, _, _, _, _⟩) ⟨_, (SN trivial _ (hsub _ (hsub9 _ hn))).1, rfl, _, rfl⟩ (by simp [row_len]) (x := .bool (tab (ps.take i) ks ks.length)) (by rw [show (((rowOf (ps.take i) ks).map Value.bool).toArray).size - 1 = ks.length by simp [row_len]]; simp [row_get?]) ?_
    exact ⟨rfl, h₁, _, news₁, rfl, SF trivial, SN trivial, fun p hp => hp⟩
  · intro ys D nD h' tk' news' hy hG F' N' hsub hD
    have hys : ys = ((List.range (ps.length + 1)).map fun i => tab (ps.take i) ks ks.length).map Value.bool := by
      apply List.ext_getElem?
      intro j
      rcases Nat.lt_or_ge j (ps.length + 1) with hj | hj
      · obtain ⟨y, hy'⟩ : ∃ y, ys[j]? = some y := ⟨_, List.getElem?_eq_getElem (by omega)⟩
        rw [hy', hG j y hy', List.getElem?_map, List.getElem?_map, List.getElem?_range hj]
        rfl
      · rw [List.getElem?_eq_none (by omega), List.getElem?_eq_none (by simp; omega)]
    rw [hys] at N'
    refine in_bools (s := ⟨_, _, _, _, _⟩) ⟨_, (N' _ (.head _)).1, rfl, _, rfl⟩ ?_
    rw [law_anc]
    k_steps
    rename Fr _ _ _ _ => Fe
    rename News _ _ _ _ => Ne
    rw [show ((msl false ps ks || cdl ps ks) == (msl false ps ks || cdl ps ks)) = true by simp] at Fe
    refine wpC_execs_nil ?_
    refine ⟨rfl, g9, _, _, mZ b0 (some (.bool true)) (some (.ref mm)) tx (some (.ref Pa)) (some (.ref Go)) (some (.ref Do)) (some (.str u tku)) (some (.ref R)), _, rfl, (KT5.trans KT7).trans KT9, SB9 trivial, fr_eq Fe fun y => ?_, Ne, fun p hp => .tail _ (hsub p (hsub9 p (hs3 p (hs1 p hp)))), hJ _ _⟩
    by_cases h1 : y = Str.ofString "good"
    · subst h1; rfl
    · simp only [h1, if_false]
end Mine
end
section
theorem Mine.off_Ls : True := by
  w_top off
  trivial
open PySem PySem.W PyProof.Rows
set_option Elab.async false
set_option linter.unusedVariables false
set_option linter.unusedSimpArgs false
set_option maxRecDepth 100000
namespace Mine

open PyProof.V
local macro_rules | `(tactic| k_all) => `(tactic| with_reducible assumption)
local macro_rules | `(tactic| k_mem) => `(tactic| assumption)
theorem wild_kinds {ks : List Nat} {bs : List Bool} (h : ks.length ≤ bs.length) : ((roadOf (ks.map fun (k : Nat) => (k : Int)) bs).any fun p => p.1 == 0 || p.1 == 1) = ((ks.map fun (k : Nat) => (k : Int)).any (· == 0) || (ks.map fun (k : Nat) => (k : Int)).any (· == 1)) := by
  have h1 := road_kinds h
  have h2 : ((roadOf (ks.map fun (k : Nat) => (k : Int)) bs).any fun p => p.1 == 0 || p.1 == 1) = ks.any fun k => k == 0 || k == 1 := by
    conv => rhs; rw [← h1]
    rw [List.any_map]
    rfl
  rw [h2, List.any_map, List.any_map, Bool.eq_iff_iff]
  simp only [List.any_eq_true, Bool.or_eq_true, beq_iff_eq, Function.comp]
  constructor
  · rintro ⟨k, hk, rfl | rfl⟩
    · exact .inl ⟨0, hk, rfl⟩
    · exact .inr ⟨1, hk, rfl⟩
  · rintro (⟨k, hk, e⟩ | ⟨k, hk, e⟩)
    · exact ⟨k, hk, .inl (by omega)⟩
    · exact ⟨k, hk, .inr (by omega)⟩
def GoalAt (news : List (Addr × Obj)) (v0 v1 : Value) : Prop := ∃ (Go Do : Addr) (gv : List Value) (ks : List Nat) (bs : List Bool) (ng nd : Nat), v0 = .ref Go ∧ v1 = .ref Do ∧ (Go, W.listOf gv.toArray ng) ∈ news ∧ IntsAre gv (ks.map fun (k : Nat) => (k : Int)) ∧ (Do, W.listOf (bs.map Value.bool).toArray nd) ∈ news ∧ (∀ k ∈ ks, 2 ≤ k ∧ k < 7) ∧ ks.length ≤ 5 ∧ ks.length ≤ bs.length
theorem mZ_up {b0 : Str → Option Value} {g mt tx pa go dt ro rw : Option Value} {a b : Value} : mZ b0 g mt tx pa (some a) (some b) ro rw = mZ b0 g mt tx pa (some a) (some b) ro rw := rfl
def ZJ (b0 : Str → Option Value) (m : Str → Option Value) : Prop := ∃ mt tx pa go dt ro rw, m = mZ b0 (some (.bool true)) mt tx pa go dt ro rw
set_option maxHeartbeats 4000000 in
theorem outer_turn : ∀ {w : World} {mean : ExcName → Option Value} {mg mb : Str → Option Value} (base h₀ : Heap) (L : Addr) (s : Shared) (b0 : Str → Option Value) (mv : Value) (u : Str) (tu : Tok) (mt tx pa go dt ro rw : Option Value) (Pa GL : Addr) (pv : List Value) (ps : List Nat) (pb : List Bool) (np nG : Nat) (gts : List Addr) (prs : List (Value × Value)) (news : List (Addr × Obj)) (E : Value → Shared → Prop)
  (B : Below callerA base [] h₀) (F : Fr h₀ L s.heap (fun y => if y = Str.ofString "parts" then some (.ref Pa) else if y = Str.ofString "text" then some (.str u tu) else if y = Str.ofString "matcher" then some mv else mZ b0 (some (.bool true)) mt tx pa go dt ro rw y)) (X : (hd.heap_39 (World.params w)).In h₀) (N : News h₀ L s.heap news) (T : Top hd.view_39 (looseW hd.view_39 [Str.ofString "SINGLE_WILDCARD", Str.ofString "MULTI_WILDCARD", Str.ofString "DEFAULT_FIRST_ELEMENT", Str.ofString "_path_to_elements", Str.ofString "_WILDCARD_RE"]) mean mg mb h₀) (XB : (hd.heap_39 (World.params w)).In base) (TB : Top hd.view_39 (looseW hd.view_39 [Str.ofString "SINGLE_WILDCARD", Str.ofString "MULTI_WILDCARD", Str.ofString "DEFAULT_FIRST_ELEMENT", Str.ofString "_path_to_elements", Str.ofString "_WILDCARD_RE"]) mean mg mb base)
  (hM : Mat w news mv ps) (hps : ∀ k ∈ ps, k < 7) (hpl : ps.length ≤ 5) (hpb : ps.length ≤ pb.length) (hPa : (Pa, W.listOf pv.toArray np) ∈ news) (hip : IntsAre pv (ps.map fun (k : Nat) => (k : Int))) (hu : u.cps.toList = [114, 111, 111, 116] ++ roadCs (roadOf (ps.map fun (k : Nat) => (k : Int)) pb))
  (hb0 : b0 (Str.ofString "goals") = some (.ref GL)) (hGL : (GL, W.listOf (gts.map Value.ref).toArray nG) ∈ news) (hgt : ∀ (j : Nat) T p, gts[j]? = some T → prs[j]? = some p → (T, tupObj #[p.1, p.2]) ∈ news) (hgl : gts.length = prs.length) (hg : ∀ p ∈ prs, GoalAt news p.1 p.2) (hE : PassesOwn (model (RowW.prog (OpenRow.toRowW (OpenLaw.row PySem.Challenge.rw_fu0002_01))) w) (callerA.deeper (envOf (Str.ofString "law") (scopeOf (hd.heap_39 (World.params w)) 201) L 201 (.ref 200))) (envOf (Str.ofString "law") (scopeOf (hd.heap_39 (World.params w)) 201) L 201 (.ref 200)) E),
  wpC (model (RowW.prog (OpenRow.toRowW (OpenLaw.row PySem.Challenge.rw_fu0002_01))) w) (callerA.deeper (envOf (Str.ofString "law") (scopeOf (hd.heap_39 (World.params w)) 201) L 201 (.ref 200))) (execs (forBody (hd.heap_39 (World.params w)) 201 8) (envOf (Str.ofString "law") (scopeOf (hd.heap_39 (World.params w)) 201) L 201 (.ref 200))) (GrowC (([] : List Env).filterMap (·.frame)) callerA base [] h₀ L news (ZJ b0) s) E s := by
  intro w mean mg mb base h₀ L s b0 mv u tu mt tx pa go dt ro rw Pa GL pv ps pb np nG gts prs news E B F X N T XB TB hM hps hpl hpb hPa hip hu hb0 hGL hgt hgl hg hE
  revert X
  k_fill
  intro X
  conv in (forBody _ _ _) => whnf
  repeat (conv in (scopeOf _ _) => whnf)
  have F0 := F
  unfold mZ at F0
  have SB : True → Below callerA base [] h₀ := fun _ => B
  clear B
  refine wpC_execs_plain ?_
  k_steps
  have hr : ∀ p ∈ roadOf (ps.map fun (k : Nat) => (k : Int)) pb, p.1 < 7 := fun p hp => by
    refine hps _ ?_
    rw [← road_kinds hpb]
    exact List.mem_map_of_mem hp
  have hrl : (roadOf (ps.map fun (k : Nat) => (k : Int)) pb).length ≤ 5 := by
    have := congrArg List.length (road_kinds hpb)
    rw [List.length_map] at this
    omega
  refine wild_ok 302 7 _ (Str.ofString "law") _ 201 (.ref 200) [] [] callerA base h₀ L _ _ _ _ tu u (roadOf (ps.map fun (k : Nat) => (k : Int)) pb) news (SB trivial) F0 X N T rfl (by decide) (by decide) hu hr hrl ?_
  intro h1 tk1 news1 F1 N1 hs1
  rw [wild_kinds hpb]
  refine wpAny_mono (Q := fun b s₂ => b = .bool ((ps.map fun (k : Nat) => (k : Int)).any (· == 0) || (ps.map fun (k : Nat) => (k : Int)).any (· == 1)) ∧ ∃ tk, s₂ = { s with heap := h1, toks := tk }) ?_ (fun b s₂ hb => ?_) (fun _ _ e => e)
  · k_steps
    refine in_list_ints (s := ⟨_, _, _, _, _⟩) ⟨_, (N1 _ (hs1 _ hPa)).1, rfl, _, rfl⟩ hip ?_
    generalize hA : (ps.map fun (k : Nat) => (k : Int)).any (· == 0) = a0
    cases a0
    · k_steps
      refine in_list_ints (s := ⟨_, _, _, _, _⟩) ⟨_, (N1 _ (hs1 _ hPa)).1, rfl, _, rfl⟩ hip ?_
      exact ⟨rfl, _, rfl⟩
    · k_steps
      try exact ⟨rfl, _, rfl⟩
  obtain ⟨rfl, tk2, rfl⟩ := hb
  k_steps
  rename Fr _ _ _ _ => F2
  rename News _ _ _ _ => N2
  rw [beq_self_eq_true] at F2
  refine wpC_execs_cons (wpC_For (wpC.of ?_))
  have FZ : Fr h₀ L _ (mZ b0 (some (.bool true)) (some mv) (some (.str u tu)) (some (.ref Pa)) go dt ro rw) := fr_eq F2 fun y => by
    unfold mZ
    by_cases h1 : y = Str.ofString "good"
    · subst h1; rfl
    by_cases h2 : y = Str.ofString "parts"
    · subst h2; rfl
    by_cases h3 : y = Str.ofString "text"
    · subst h3; rfl
    by_cases h4 : y = Str.ofString "matcher"
    · subst h4; rfl
    simp only [h1, h2, h3, h4, if_false]
  refine wpAny_Name (wpAny_loadName_local rfl rfl FZ.ns (show b0 (Str.ofString "goals") = some (.ref GL) from hb0) ?_) rfl
  refine pairsC (A₀ := callerA) (base := base) (outer := []) (h₀ := h₀) rfl (SB trivial) FZ N2 (hs1 _ hGL) (fun j T' p a b => hs1 _ (hgt j T' p a b)) hgl (by rfl) (by rfl) (by rfl) (fun i m => ∃ go dt ro rw, m = mZ b0 (some (.bool true)) (some mv) (some (.str u tu)) (some (.ref Pa)) go dt ro rw) ⟨go, dt, ro, rw, rfl⟩ ?_ ?_ hE
  · intro i v0 v1 m₁ g h₁ tk₁ news₁ hpr hJ hsub KT B₁ F₁ N₁
    obtain ⟨go', dt', ro', rw', rfl⟩ := hJ
    obtain ⟨Go, Do, gv, ks, bs, ng, nd, rfl, rfl, q1, q2, q3, q4, q5, q6⟩ := hg _ (List.mem_of_getElem? hpr)
    exact main_turn base g L _ b0 mv _ go' dt' ro' rw' Pa Go Do pv gv ps ks bs np ng nd news₁ _ E B₁ F₁ (XB.keeps B₁.stays) N₁ (TB.keeps B₁.stays) XB TB (hM.sub fun p hp => hsub p (hs1 p hp)) hps hpl (hsub _ (hs1 _ hPa)) hip (hsub _ (hs1 _ q1)) q2 (hsub _ (hs1 _ q3)) q4 q5 q6 hE (fun ro rw => ⟨_, _, ro, rw, rfl⟩)
  · intro g h' tk m' news' KT B' F' N' hsub hJ
    obtain ⟨go', dt', ro', rw', rfl⟩ := hJ
    dsimp only
    exact wpC_execs_nil ⟨rfl, g, h', tk, _, news', rfl, KT, B', F', N', fun p hp => hsub p (hs1 p hp), _, _, _, go', dt', ro', rw', rfl⟩
end Mine
end
section
theorem Mine.off_Lu : True := by
  w_top off
  trivial
open PySem PySem.W PyProof.Rows
set_option Elab.async false
set_option linter.unusedVariables false
set_option linter.unusedSimpArgs false
set_option maxRecDepth 100000
namespace Mine

open PyProof.V
local macro_rules | `(tactic| k_all) => `(tactic| with_reducible assumption)
local macro_rules | `(tactic| k_mem) => `(tactic| assumption)
theorem nat_of : ∀ {l : List Int}, (∀ k ∈ l, 0 ≤ k) → l = (l.map Int.toNat).map (fun (k : Nat) => (k : Int))
  | [], _ => rfl
  | k :: l, h => by
    have h1 := h k List.mem_cons_self
    rw [List.map_cons, List.map_cons, ← nat_of fun k hk => h k (List.mem_cons_of_mem _ hk), Int.toNat_of_nonneg h1]
theorem GoalAt.sub {n n' : List (Addr × Obj)} {v0 v1 : Value} (h : GoalAt n v0 v1) (hs : ∀ p ∈ n, p ∈ n') : GoalAt n' v0 v1 := by
  obtain ⟨Go, Do, gv, ks, bs, ng, nd, a1, a2, a3, a4, a5, a6⟩ := h
  exact ⟨Go, Do, gv, ks, bs, ng, nd, a1, a2, hs _ a3, a4, hs _ a5, a6⟩
theorem goals_list {news : List (Addr × Obj)} : ∀ (gts : List Addr) (gls : List (List Int × List Bool)), gts.length = gls.length → (∀ (j : Nat) T p, gts[j]? = some T → gls[j]? = some p → PatAt news T p.1 p.2) → (∀ p ∈ gls, GoalOk p) →
    ∃ prs : List (Value × Value), gts.length = prs.length ∧ (∀ (j : Nat) T p, gts[j]? = some T → prs[j]? = some p → (T, tupObj #[p.1, p.2]) ∈ news) ∧ ∀ p ∈ prs, GoalAt news p.1 p.2
  | [], _, _, _, _ => ⟨[], rfl, fun j T p h _ => by simp at h, fun p hp => nomatch hp⟩
  | T :: gts, [], h, _, _ => by simp at h
  | T :: gts, p :: gls, h, hat, hok => by
    obtain ⟨prs, e1, e2, e3⟩ := goals_list gts gls (by simpa using h) (fun j T' p' h1 h2 => hat (j + 1) T' p' (by simpa using h1) (by simpa using h2)) (fun p hp => hok p (List.mem_cons_of_mem _ hp))
    obtain ⟨A, B, vs, nA, nB, a1, a2, a3, a4⟩ := hat 0 T p rfl rfl
    obtain ⟨o1, o2, o3⟩ := hok p List.mem_cons_self
    have hn : p.1 = (p.1.map Int.toNat).map (fun (k : Nat) => (k : Int)) := nat_of fun k hk => by have := o3 k hk; omega
    refine ⟨(.ref A, .ref B) :: prs, by simp [e1], fun j T' p' h1 h2 => ?_, fun q hq => ?_⟩
    · cases j with
      | zero =>
        simp only [List.getElem?_cons_zero, Option.some.injEq] at h1 h2
        subst h1 h2
        exact a1
      | succ j => exact e2 j T' p' (by simpa using h1) (by simpa using h2)
    · rcases List.mem_cons.mp hq with rfl | hq
      · refine ⟨A, B, vs, p.1.map Int.toNat, p.2, nA, nB, rfl, rfl, a2, hn ▸ a3, a4, fun k hk => ?_, by rw [List.length_map]; exact o1, by rw [List.length_map]; exact o2⟩
        obtain ⟨z, hz, rfl⟩ := List.mem_map.mp hk
        have := o3 z hz
        omega
      · exact e3 q hq
theorem mZ_start {b0 : Str → Option Value} : (fun y => if y = Str.ofString "good" then some (Value.bool true) else b0 y) = mZ b0 (some (.bool true)) (b0 (Str.ofString "matcher")) (b0 (Str.ofString "text")) (b0 (Str.ofString "parts")) (b0 (Str.ofString "goal")) (b0 (Str.ofString "dotted")) (b0 (Str.ofString "road")) (b0 (Str.ofString "rows")) := by
  funext y
  unfold mZ
  by_cases h1 : y = Str.ofString "good"
  · subst h1; rfl
  by_cases h2 : y = Str.ofString "rows"
  · subst h2; rfl
  by_cases h3 : y = Str.ofString "road"
  · subst h3; rfl
  by_cases h4 : y = Str.ofString "dotted"
  · subst h4; rfl
  by_cases h5 : y = Str.ofString "goal"
  · subst h5; rfl
  by_cases h6 : y = Str.ofString "parts"
  · subst h6; rfl
  by_cases h7 : y = Str.ofString "text"
  · subst h7; rfl
  by_cases h8 : y = Str.ofString "matcher"
  · subst h8; rfl
  simp only [h1, h2, h3, h4, h5, h6, h7, h8, if_false]
set_option maxHeartbeats 4000000 in
theorem law5 : ∀ {w : World} {mean : ExcName → Option Value} {mg mb : Str → Option Value} (base h₀ : Heap) (L S D GL TL : Addr) (PL T1 T2 A1 B1 A2 B2 : Addr) (v1 v2 : List Value) (k1 k2 : List Int) (b1 b2 : List Bool) (n1 n2 q1 q2 nP : Nat) (s : Shared) (y1 y2 : Value) (nT nG : Nat) (gts : List Addr) (gls : List (List Int × List Bool)) (vr ve vq vs : Option Value) (news : List (Addr × Obj)) (Q : Flow → Shared → Prop) (E : Value → Shared → Prop)
  (B : Below callerA base [] h₀) (F : Fr h₀ L s.heap (mX TL GL PL D S vr ve vq vs)) (X : (hd.heap_39 (World.params w)).In h₀) (N : News h₀ L s.heap news) (T : Top hd.view_39 (looseW hd.view_39 [Str.ofString "SINGLE_WILDCARD", Str.ofString "MULTI_WILDCARD", Str.ofString "DEFAULT_FIRST_ELEMENT", Str.ofString "_path_to_elements", Str.ofString "_WILDCARD_RE"]) mean mg mb h₀) (XB : (hd.heap_39 (World.params w)).In base) (TB : Top hd.view_39 (looseW hd.view_39 [Str.ofString "SINGLE_WILDCARD", Str.ofString "MULTI_WILDCARD", Str.ofString "DEFAULT_FIRST_ELEMENT", Str.ofString "_path_to_elements", Str.ofString "_WILDCARD_RE"]) mean mg mb base)
  (hPL : (PL, W.listOf #[.ref T1, .ref T2] nP) ∈ news) (hT1 : (T1, tupObj #[.ref A1, .ref B1]) ∈ news) (hA1 : (A1, W.listOf v1.toArray n1) ∈ news) (hi1 : IntsAre v1 k1) (hB1 : (B1, W.listOf (b1.map Value.bool).toArray q1) ∈ news) (ok1 : PatOk (k1, b1)) (hT2 : (T2, tupObj #[.ref A2, .ref B2]) ∈ news) (hA2 : (A2, W.listOf v2.toArray n2) ∈ news) (hi2 : IntsAre v2 k2) (hB2 : (B2, W.listOf (b2.map Value.bool).toArray q2) ∈ news) (ok2 : PatOk (k2, b2)) (hTL : (TL, W.listOf #[y1, y2] nT) ∈ news) (hy1 : TextOf y1 k1 b1) (hy2 : TextOf y2 k2 b2)
  (hGL : (GL, W.listOf (gts.map Value.ref).toArray nG) ∈ news) (hgl : gts.length = gls.length) (hgat : ∀ (j : Nat) T p, gts[j]? = some T → gls[j]? = some p → PatAt news T p.1 p.2) (hgok : ∀ p ∈ gls, GoalOk p) (hE : PassesOwn (model (RowW.prog (OpenRow.toRowW (OpenLaw.row PySem.Challenge.rw_fu0002_01))) w) (callerA.deeper (envOf (Str.ofString "law") (scopeOf (hd.heap_39 (World.params w)) 201) L 201 (.ref 200))) (envOf (Str.ofString "law") (scopeOf (hd.heap_39 (World.params w)) 201) L 201 (.ref 200)) E)
  (hcont : ∀ g h' tk' m' news', KtsTurn (([] : List Env).filterMap (·.frame)) h₀ g → Below callerA base [] g → Fr g L h' m' → News g L h' news' → Q (.ret (.bool true)) { s with heap := h', toks := tk' }),
  wpC (model (RowW.prog (OpenRow.toRowW (OpenLaw.row PySem.Challenge.rw_fu0002_01))) w) (callerA.deeper (envOf (Str.ofString "law") (scopeOf (hd.heap_39 (World.params w)) 201) L 201 (.ref 200))) (execs ((fnBody (hd.heap_39 (World.params w)) 201).drop 7) (envOf (Str.ofString "law") (scopeOf (hd.heap_39 (World.params w)) 201) L 201 (.ref 200))) Q E s := by
  intro w mean mg mb base h₀ L S D GL TL PL T1 T2 A1 B1 A2 B2 v1 v2 k1 k2 b1 b2 n1 n2 q1 q2 nP s y1 y2 nT nG gts gls vr ve vq vs news Q E B F X N T XB TB hPL hT1 hA1 hi1 hB1 ok1 hT2 hA2 hi2 hB2 ok2 hTL hy1 hy2 hGL hgl hgat hgok hE hcont
  obtain ⟨prs, hgp, hgt, hg⟩ := goals_list gts gls hgl hgat hgok
  have e1 : k1 = (k1.map Int.toNat).map (fun (k : Nat) => (k : Int)) := nat_of fun k hk => (ok1.2.2 k hk).1
  have e2 : k2 = (k2.map Int.toNat).map (fun (k : Nat) => (k : Int)) := nat_of fun k hk => (ok2.2.2 k hk).1
  obtain ⟨l1a, l1b, l1c⟩ := ok1
  obtain ⟨l2a, l2b, l2c⟩ := ok2
  generalize hp1 : k1.map Int.toNat = p1 at e1
  generalize hp2 : k2.map Int.toNat = p2 at e2
  have q1' : ∀ k ∈ p1, k < 7 := fun k hk => by
    rw [← hp1] at hk
    obtain ⟨z, hz, rfl⟩ := List.mem_map.mp hk
    have := l1c z hz
    omega
  have q2' : ∀ k ∈ p2, k < 7 := fun k hk => by
    rw [← hp2] at hk
    obtain ⟨z, hz, rfl⟩ := List.mem_map.mp hk
    have := l2c z hz
    omega
  clear l1c l2c hp1 hp2
  subst e1 e2
  simp only [List.length_map] at l1a l1b l2a l2b
  obtain ⟨u1, t1, rfl, hu1⟩ := hy1
  obtain ⟨u2, t2, rfl, hu2⟩ := hy2
  have pt1 : Pat (.str u1 t1) p1 := text_pat rfl hu1 q1' l1a l1b
  have pt2 : Pat (.str u2 t2) p2 := text_pat rfl hu2 q2' l2a l2b
  revert X
  k_fill
  intro X
  conv in (List.drop _ _) => whnf
  repeat (conv in (scopeOf _ _) => whnf)
  have SB : True → Below callerA base [] h₀ := fun _ => B
  clear B
  refine wpC_execs_plain ?_
  k_steps
  rename Fr _ _ _ _ => F1
  rename News _ _ _ _ => N1
  refine wpC_execs_cons (wpC_For ?_)
  refine wpC_CallFirst ?_
  k_steps
  refine wpC_Call ?_
  k_steps
  refine' rest_def ?zho ?zhd ?_
  case zho => exact (Frag.In.keeps X (Fr.keep F1)) _ _ (by k_is)
  case zhd => rfl
  dsimp only [List.nil_append]
  have hnd : ∀ (g : Heap), KtsDicts (([] : List Env).filterMap (·.frame)) g := fun g b hb => by cases hb
  refine comp_ok 302 7 _ (Str.ofString "law") _ 201 (.ref 200) [] [] callerA base h₀ L _ _ _ _ TL nT (.str u1 t1) (.str u2 t2) p1 p2 news (SB trivial) F1 X N1 T (hnd _) XB TB rfl (by decide) (by decide) hTL pt1 pt2 ?_
  intro MD w1 w2 nM g2 h2 tk2 news2 KT2 F2 Bw2 N2 hs2 hMD hM1 hM2
  refine spliced_more ?_
  refine wpAny_Name (wpAny_loadName_local rfl rfl F2.ns rfl ?_) rfl
  refine spliced_more ?_
  refine comp_grow (h₀ := g2) (L := L) (n := 2) (m := fun y => if y = Str.ofString "good" then some (Value.bool true) else mX TL GL PL D S vr ve vq vs y) (P := fun i up => ∃ (v0 v1 : Value), ([(.ref A1, .ref B1), (.ref A2, .ref B2)] : List (Value × Value))[i]? = some (v0, v1) ∧ up = fun m y => if y = Str.ofString "dotted" then some v1 else if y = Str.ofString "parts" then some v0 else m y) (fun (i : Nat) y => ([.ref A1, .ref A2] : List Value)[i]? = some y) (by decide) (by decide) (by rfl) (by decide) ?_
  refine wpAny_Name (wpAny_loadName_local rfl rfl F2.ns rfl ?_) rfl
  refine ⟨news2, growPairs (ts := [T1, T2]) (prs := [(.ref A1, .ref B1), (.ref A2, .ref B2)]) rfl (hs2 _ hPL) (fun j T' p h1 h2 => ?_) rfl rfl (by decide) F2 N2 (by rfl) (by rfl) (by rfl) (by decide) ?_, ?_⟩
  · match j, h1, h2 with
    | 0, h1, h2 => simp only [List.getElem?_cons_zero, Option.some.injEq] at h1 h2; subst h1 h2; exact hs2 _ hT1
    | 1, h1, h2 => simp only [List.getElem?_cons_succ, List.getElem?_cons_zero, Option.some.injEq] at h1 h2; subst h1 h2; exact hs2 _ hT2
    | j + 2, h1, h2 => simp at h1
  · intro i v0 v1 C mC h₁ tk₁ news₁ hpr hC hx0 hx1 hsub F₁ N₁
    refine wpAny_Name (wpAny_loadName_local (m := mC) rfl rfl hC hx0 ?_) rfl
    refine ⟨?_, h₁, _, news₁, rfl, F₁, N₁, fun p hp => hp⟩
    match i, hpr with
    | 0, h => simp only [List.getElem?_cons_zero, Option.some.injEq, Prod.mk.injEq] at h; rw [← h.1]; rfl
    | 1, h => simp only [List.getElem?_cons_succ, List.getElem?_cons_zero, Option.some.injEq, Prod.mk.injEq] at h; rw [← h.1]; rfl
    | i + 2, h => simp at h
  · intro ys KD nK h3 tk3 news3 hy hG F3 N3 hs3 hKD
    have hys : ys = [.ref A1, .ref A2] := by
      match ys, hy with
      | [ya, yb], _ =>
        have h1 := hG 0 ya rfl
        have h2 := hG 1 yb rfl
        simp only [List.getElem?_cons_succ, List.getElem?_cons_zero, Option.some.injEq] at h1 h2
        rw [h1, h2]
    subst hys
    refine spliced_none ?_
    refine rest_type ?_
    refine wpC.of ?_
    dsimp only [List.nil_append]
    have FZ := F3
    rw [mZ_start] at FZ
    refine zip3C (A₀ := callerA) (base := base) (outer := []) (h₀ := g2) (n := 2) rfl Bw2 FZ N3 (.tail _ (hs3 _ hMD)) (.tail _ (hs3 _ (hs2 _ hTL))) (.head _) rfl rfl rfl (by rfl) (by rfl) (by rfl) (by rfl) (fun i m => ZJ (mX TL GL PL D S vr ve vq vs) m) ⟨_, _, _, _, _, _, _, rfl⟩ ?_ ?_ hE
    · intro i v0 v1' v2' m₁ g h₁ tk₁ news₁ e0 e1 e2 hJ hsub KT B₁ F₁ N₁
      obtain ⟨mt, tx, pa, go, dt, ro, rw, rfl⟩ := hJ
      have up2 : ∀ p ∈ news2, p ∈ news₁ := fun p hp => hsub p (.tail _ (hs3 p hp))
      have up : ∀ p ∈ news, p ∈ news₁ := fun p hp => up2 p (hs2 p hp)
      match i, e0, e1, e2 with
      | 0, e0, e1, e2 =>
        obtain rfl : w1 = v0 := by simpa using e0
        obtain rfl : Value.str u1 t1 = v1' := by simpa using e1
        obtain rfl : Value.ref A1 = v2' := by simpa using e2
        exact outer_turn base g L _ _ w1 u1 t1 mt tx pa go dt ro rw A1 GL v1 p1 b1 n1 nG gts prs news₁ E B₁ F₁ (XB.keeps B₁.stays) N₁ (TB.keeps B₁.stays) XB TB (hM1.sub up2) q1' l1a l1b (up _ hA1) hi1 hu1 rfl (up _ hGL) (fun j T' p a b => up _ (hgt j T' p a b)) hgp (fun p hp => (hg p hp).sub up) hE
      | 1, e0, e1, e2 =>
        obtain rfl : w2 = v0 := by simpa using e0
        obtain rfl : Value.str u2 t2 = v1' := by simpa using e1
        obtain rfl : Value.ref A2 = v2' := by simpa using e2
        exact outer_turn base g L _ _ w2 u2 t2 mt tx pa go dt ro rw A2 GL v2 p2 b2 n2 nG gts prs news₁ E B₁ F₁ (XB.keeps B₁.stays) N₁ (TB.keeps B₁.stays) XB TB (hM2.sub up2) q2' l2a l2b (up _ hA2) hi2 hu2 rfl (up _ hGL) (fun j T' p a b => up _ (hgt j T' p a b)) hgp (fun p hp => (hg p hp).sub up) hE
      | i + 2, e0, e1, e2 => simp at e0
    · intro g h' tk m' news' KT B' F' N' hsub hJ
      obtain ⟨mt, tx, pa, go, dt, ro, rw, rfl⟩ := hJ
      dsimp only
      have F9 := F'
      unfold mZ at F9
      refine wpC_execs_plain ?_
      k_steps
      exact hcont g h' _ _ news' (KT2.trans KT) B' F' N'
end Mine
end
section
theorem Mine.off_Lv : True := by
  w_top off
  trivial
open PySem PySem.W PyProof.Rows
set_option Elab.async false
set_option linter.unusedVariables false
set_option linter.unusedSimpArgs false
set_option maxRecDepth 100000
namespace Mine

theorem execs_append {env : Env} (rest : List Stmt) : ∀ l : List Stmt, execs (l ++ rest) env = (execs l env >>= fun f => match f with | .next => execs rest env | f => pure f)
  | [] => by
    show execs rest env = ((pure Flow.next : Sem Flow) >>= _)
    rw [pure_bind]
  | st :: l => by
    show execs (st :: (l ++ rest)) env = _
    rw [execs_cons, execs_cons, bind_assoc]
    congr 1
    funext f
    cases f with
    | next => exact execs_append rest l
    | _ => rw [pure_bind]
theorem wpC_append {M : Model} {A : Around} {env : Env} {s : Shared} {E : Value → Shared → Prop} {l rest : List Stmt} {Q : Flow → Shared → Prop}
    (h : wpAny M A (execs (l ++ []) env) (fun f s' => match f with | .next => wpC M A (execs rest env) Q E s' | f => Q f s') E s) : wpC M A (execs (l ++ rest) env) Q E s := by
  rw [List.append_nil] at h
  rw [execs_append]
  refine wpC_bindA (wpAny_mono h (fun f s' h' => ?_) fun _ _ e => e)
  cases f <;> first | exact h' | exact wpC_pure h'
theorem split_at {α : Type} (l : List α) (a b : Nat) : l.drop a = (l.drop a).take b ++ l.drop (a + b) := by
  rw [← List.drop_drop]; exact (List.take_append_drop b _).symm
set_option maxHeartbeats 4000000 in
theorem law_body : ∀ {w : World} {mean : ExcName → Option Value} {mg mb : Str → Option Value} (base h₀ : Heap) (L S : Addr) (s : Shared) (vs : List Value) (ns : List Int) (Q : Flow → Shared → Prop) (E : Value → Shared → Prop)
  (B : Below callerA base [] h₀) (F : Fr h₀ L s.heap (fun y => [(Str.ofString "script", Value.ref S)].reverse.lookup y)) (X : (hd.heap_39 (World.params w)).In h₀) (N : News h₀ L s.heap []) (T : Top hd.view_39 (looseW hd.view_39 [Str.ofString "SINGLE_WILDCARD", Str.ofString "MULTI_WILDCARD", Str.ofString "DEFAULT_FIRST_ELEMENT", Str.ofString "_path_to_elements", Str.ofString "_WILDCARD_RE"]) mean mg mb h₀) (XB : (hd.heap_39 (World.params w)).In base) (TB : Top hd.view_39 (looseW hd.view_39 [Str.ofString "SINGLE_WILDCARD", Str.ofString "MULTI_WILDCARD", Str.ofString "DEFAULT_FIRST_ELEMENT", Str.ofString "_path_to_elements", Str.ofString "_WILDCARD_RE"]) mean mg mb base)
  (hs : h₀.IsList S vs.toArray) (hi : IntsAre vs ns) (hl : ns.length ≤ 63) (hE : PassesOwn (model (RowW.prog (OpenRow.toRowW (OpenLaw.row PySem.Challenge.rw_fu0002_01))) w) (callerA.deeper (envOf (Str.ofString "law") (scopeOf (hd.heap_39 (World.params w)) 201) L 201 (.ref 200))) (envOf (Str.ofString "law") (scopeOf (hd.heap_39 (World.params w)) 201) L 201 (.ref 200)) E)
  (hcont : ∀ g h' tk' m' news', KtsTurn (([] : List Env).filterMap (·.frame)) h₀ g → Below callerA base [] g → Fr g L h' m' → News g L h' news' → Q (.ret (.bool true)) { s with heap := h', toks := tk' }),
  wpC (model (RowW.prog (OpenRow.toRowW (OpenLaw.row PySem.Challenge.rw_fu0002_01))) w) (callerA.deeper (envOf (Str.ofString "law") (scopeOf (hd.heap_39 (World.params w)) 201) L 201 (.ref 200))) (execs (fnBody (hd.heap_39 (World.params w)) 201) (envOf (Str.ofString "law") (scopeOf (hd.heap_39 (World.params w)) 201) L 201 (.ref 200))) Q E s := by
  intro w mean mg mb base h₀ L S s vs ns Q E B F X N T XB TB hs hi hl hE hcont
  rw [← List.take_append_drop 2 (fnBody (hd.heap_39 (World.params w)) 201)]
  refine wpC_append (law1 base h₀ L S s vs ns [] _ E B F X N T hs hi hl ?_)
  intro h1 tk1 D ds zs F1 N1 hi1 hl1 hz1
  refine wpAny_execs_nil ?_
  dsimp only
  rw [split_at (fnBody (hd.heap_39 (World.params w)) 201) 2 2]
  refine wpC_append (law2 base h₀ L S D _ ds zs [] _ E B F1 X N1 T hi1 hl1 hz1 hE ?_)
  intro h2 tk2 PL vq vs2 ts nP pats news2 F2 N2 md2 htl hpl mP hat hok
  refine wpAny_execs_nil ?_
  dsimp only
  rw [split_at (fnBody (hd.heap_39 (World.params w)) 201) 4 2]
  refine wpC_append (law3 base h₀ L S D PL _ vq vs2 ds zs news2 [] _ E B F2 X N2 T md2 hi1 hl1 hz1 hE ?_)
  intro h3 tk3 GL vr ve gts nG gls news3 F3 N3 hs3 hgl1 hgl2 mG3 hgat hgok
  refine wpAny_execs_nil ?_
  dsimp only
  rw [split_at (fnBody (hd.heap_39 (World.params w)) 201) 6 1]
  match ts, htl with
  | [T1, T2], _ =>
    match pats, hpl with
    | [p1, p2], _ =>
      obtain ⟨A1, B1, v1, n1, q1, a1, a2, a3, a4⟩ := (hat 0 T1 p1 rfl rfl).sub hs3
      obtain ⟨A2, B2, v2, n2, q2, c1, c2, c3, c4⟩ := (hat 1 T2 p2 rfl rfl).sub hs3
      have o1 := hok p1 (.head _)
      have o2 := hok p2 (.tail _ (.head _))
      refine wpC_append (law4 base h₀ L S D GL PL T1 T2 A1 B1 A2 B2 v1 v2 p1.1 p2.1 p1.2 p2.2 n1 n2 q1 q2 nP _ vr ve vq vs2 news3 [] _ E B F3 X N3 T (hs3 _ mP) a1 a2 a3 a4 o1 c1 c2 c3 c4 o2 hE ?_)
      intro h4 tk4 TL y1 y2 nT news4 F4 N4 hs4 mT ht1 ht2
      refine wpAny_execs_nil ?_
      dsimp only
      refine law5 base h₀ L S D GL TL PL T1 T2 A1 B1 A2 B2 v1 v2 p1.1 p2.1 p1.2 p2.2 n1 n2 q1 q2 nP _ y1 y2 nT nG gts gls vr ve vq vs2 news4 _ E B F4 X N4 T XB TB (hs4 _ (hs3 _ mP)) (hs4 _ a1) (hs4 _ a2) a3 (hs4 _ a4) o1 (hs4 _ c1) (hs4 _ c2) c3 (hs4 _ c4) o2 mT ht1 ht2 (hs4 _ mG3) (hgl1.trans hgl2.symm) (fun j T' p e1 e2 => (hgat j T' p e1 e2).sub hs4) hgok hE ?_
      intro g h' tk' m' news' KT B' F' N'
      exact hcont g h' tk' m' news' KT B' F' N'
end Mine
end
section
theorem Mine.off_Lx : True := by
  w_top off
  trivial
open PySem PySem.W PyProof.Rows PySem.Calls
set_option Elab.async false
set_option linter.unusedVariables false
set_option maxRecDepth 100000
namespace Mine
section
variable {prog : Program} {w : World} {A : Around} {s : Shared} {K : Frag} {R : Result → Shared → Prop} {name qual : Str} {params : Arguments} {body : List Stmt} {scope : Scope} {dV kV doc pm cdv ct oc : Value} {an od : Option Addr} {osl : Array (Option Value)} {f : Addr} {args : Args} {binds : List (Str × Value)}
/-- the first def of all is entered, the caller below -/
theorem rootC (X : K.In s.heap) (hlim : s.heap.NoLimit) (ho : K.lookup f = some ⟨oc, od, .func (fnOf name qual params body scope dV kV doc pm an cdv ct), osl⟩) (hcd : codeIn K cdv qual = true) (hroom : A.depth < recursionLimit)
    (hbind : BindsTo s (fnOf name qual params body scope dV kV doc pm an cdv ct) args binds) (hloc : ∀ y ∈ binds, scope.names.lookup y.1 = some .local)
    (h : ∀ h₁, Fr s.heap s.heap.objs.size h₁ (fun y => binds.reverse.lookup y) →
      wpC (model prog w) (A.deeper (envOf qual scope s.heap.objs.size f cdv)) (execs body (envOf qual scope s.heap.objs.size f cdv))
        (fun fl s' => R (.ok (.ret (match fl with | .ret v => v | _ => .none))) s')
        (fun e s' => wpAny (model prog w) (A.deeper (envOf qual scope s.heap.objs.size f cdv)) (leaving (envOf qual scope s.heap.objs.size f cdv) e) (fun _ s'' => R (.error e) s'') (fun e' s'' => R (.error e') s'') s')
        { s with heap := h₁, toks := s.toks + binds.length })
    (hco : scope.isCoroutine = false) (hgen : scope.isGenerator = false) (hk : scope.kind = .function)
    (hcell : ∀ x ∈ scope.names, x.2 ≠ .cell) : codeC (model prog w) A (.call (.ref f) args) R s := by
  refine codeC_call_function (fd := fnOf name qual params body scope dV kV doc pm an cdv ct) (body := body) hroom (X _ _ ho) rfl hco hgen rfl (codeRec_of X hcd) (hbind _ _ _ _ ?_)
  refine wpAny_newFunctionEnv hcell hloc (fun h₁ hns hsb => ?_) hk
  have hk₁ : ∀ b o, s.heap.get? b = some o → h₁.get? b = some o := fun b o e => hsb.extBut b o (Nat.ne_of_lt (Heap.lt_size e)) (Heap.get?_push_of_some _ e)
  refine ⟨hlim.fresh _ hsb, codeC_func ?_⟩
  exact h h₁ ⟨hns, hk₁, Nat.le_refl _⟩
end
set_option maxHeartbeats 8000000 in
theorem top : PySem.Challenge.rw_fu0002_01.Holds := by
  refine hd ?_
  k_fill
  intro w s₀ s₁ mg mb G Y fa o pm cd doc dV kV ho hd' hcd hD hmg hgens args vals as hpre hlay hrd hwl hlo
  have KX := kIn_of Y
  refine Ground.open G ?_
  intro T B D TE TW
  wrow_args hpre hlay hrd hwl hlo
  rename (Heap.IsList _ _ _) => hLs
  rename (IntsAre _ _) => hI
  rename (¬ ((63 : Nat) : Int) < _) => h63
  have hfa : mg (Str.ofString "law") = some (.ref 201) := mg_of KX T.g (by k_is)
  have hfa' : some (Value.ref fa) = some (.ref 201) := hmg.symm.trans hfa
  obtain rfl : fa = 201 := by injection hfa' with q; injection q
  clear ho hd' hcd hD hmg hfa hfa'
  refine' rootC (f := 201) KX T.nolimit ?k6 ?k7 ?k8 ?k9 ?kB ?_ ?c2 ?c3 ?c4 ?c5
  case k6 => k_is
  case k7 => k_is
  case k8 => decide
  case k9 => exact BindsTo.of_eq rfl
  case kB => exact locs rfl
  case c2 => exact rfl
  case c3 => exact rfl
  case c4 => exact rfl
  case c5 => decide
  intro h₁ F₁
  refine law_body s₁.heap s₁.heap s₁.heap.objs.size _ ⟨_, _, _, _, _⟩ _ _ _ _ (below_caller s₁.heap) F₁ KX (fun p hp => nomatch hp) T KX T hLs hI (by omega) (by passes_own) ?_
  intro g h' tk' m' news' KT B' F' N'
  dsimp only [Answer]
  refine GoodW.toG ?_
  refine goodW_bool (L := s₁.heap.objs.size) (m := m') ⟨F'.ns, fun b o e => F'.keep b o (B'.stays b o e), Nat.le_refl _⟩ hgens (raisesW_false ?_) ?_
  · wrow_none_raised
  · wrow_post
end Mine
end
theorem PySem.Challenge.cw_fu0002_01_holds : PySem.Challenge.rw_fu0002_01.Holds :=
  Mine.top
