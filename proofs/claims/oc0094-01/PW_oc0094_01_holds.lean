import PyProof.Rows.All
import Wide.All
import OpenK.AllK
import Wide.FinOn
import Lean
import PySem.Challenge.RW_oc0094_01
open PySem PySem.W PySem.Calls PyProof.Rows
set_option Elab.async false
set_option linter.unusedVariables false
set_option linter.unusedSimpArgs false
set_option compiler.extract_closed false
set_option maxRecDepth 100000
namespace Mine

/-! part: Clean -/

/-! Contexts whose stack holds no decoder that holds a buffer: there a bytearray may be resized. -/

def heldIds : List String := Builtin.Bytes.decodersThatHold ++ ["bytearray.__contains__", "bytearray.__mod__", "bytearray.__rmod__", "_struct.pack_into.held", "bytearray.find.held"]
def clean : Code → Bool
  | .builtin id _ => !heldIds.contains id
  | _ => true
def Cl (Γ : PySem.Ctx) : Prop := clean Γ.code = true ∧ ∀ q ∈ Γ.below, clean q.1 = true

theorem Cl.enter {Γ : PySem.Ctx} (h : Cl Γ) {c : Code} (hc : clean c = true) (hd : Option Value) (p : Pos) : Cl (Γ.enter c hd p) :=
  ⟨hc, fun q hq => by rcases List.mem_cons.mp hq with rfl | hq; exact h.1; exact h.2 q hq⟩
theorem Cl.goto {Γ : PySem.Ctx} (h : Cl Γ) {c : Code} (hc : clean c = true) : Cl (Γ.goto c) := ⟨hc, h.2⟩

def wpC {α : Type} (M : Model) (A : Around) (t : Sem α) (Q : α → Shared → Prop) (s : Shared) : Prop :=
  ∀ Γ p, Γ.In A → Cl Γ → Sem.wp M Γ t (fun a _ s' => Q a s') (fun _ _ _ => False) p s
def okR (R : Flow → Shared → Prop) : Result → Shared → Prop
  | .ok f, s' => R f s'
  | .error _, _ => False
def codeC (M : Model) (A : Around) (c : Code) (R : Flow → Shared → Prop) (s : Shared) : Prop :=
  ∀ Γ p, Γ.code = c → Γ.Below A → Cl Γ → wpCode M Γ (okR R) p s
abbrev wpN {α : Type} (M : Model) (A : Around) (t : Sem α) (Q : α → Shared → Prop) (s : Shared) : Prop := wpAny M A t Q (fun _ _ => False) s

section
variable {α β : Type} {M : Model} {A : Around} {s : Shared} {env : Env}

theorem wpC_of {t : Sem α} {Q : α → Shared → Prop} (h : wpN M A t Q s) : wpC M A t Q s := fun Γ p hΓ _ => h Γ p hΓ
theorem wpC_mono {t : Sem α} {Q Q' : α → Shared → Prop} (h : wpC M A t Q s) (hQ : ∀ a s, Q a s → Q' a s) : wpC M A t Q' s :=
  fun Γ p hΓ hc => Sem.wp_mono M Γ t (fun a _ s => hQ a s) (fun _ _ _ x => x) p s (h Γ p hΓ hc)
theorem wpC_bind {m : Sem α} {f : α → Sem β} {Q : β → Shared → Prop} (h : wpC M A m (fun a s' => wpC M A (f a) Q s') s) : wpC M A (m >>= f) Q s :=
  fun Γ p hΓ hc => by
    rw [Sem.wp_bind']
    exact Sem.wp_mono M Γ m (fun a p' s' h' => h' Γ p' hΓ hc) (fun _ _ _ x => x) p s (h Γ p hΓ hc)
theorem wpC_onRaise {m : Sem α} {k : Value → Sem Unit} {Q : α → Shared → Prop} (h : wpC M A m Q s) : wpC M A (m.onRaise k) Q s :=
  fun Γ p hΓ hc => by
    rw [Sem.wp_onRaise]
    exact Sem.wp_mono M Γ m (fun _ _ _ x => x) (fun _ _ _ x => x.elim) p s (h Γ p hΓ hc)
theorem wpC_attempt {m : Sem α} {Q : Except Value α → Shared → Prop} (h : wpC M A m (fun a => Q (.ok a)) s) : wpC M A m.attempt Q s :=
  fun Γ p hΓ hc => by
    rw [Sem.wp_attempt]
    exact Sem.wp_mono M Γ m (fun _ _ _ x => x) (fun _ _ _ x => x.elim) p s (h Γ p hΓ hc)
theorem wpC_holding {vs : List Value} {m : Sem α} {Q : α → Shared → Prop} (h : wpC M A m Q s) : wpC M A (holding vs m) Q s :=
  fun Γ p hΓ hc => by rw [Sem.wp_holding]; exact h Γ p hΓ hc
theorem wpC_keep {vs : List Value} {m : Sem α} {Q : α → Shared → Prop} (h : wpC M A m Q s) : wpC M A (m.keep vs) Q s :=
  fun Γ p hΓ hc => by rw [Sem.wp_keep]; exact h Γ p hΓ hc
theorem wpC_pure {a : α} {Q : α → Shared → Prop} (h : Q a s) : wpC M A (pure a) Q s := fun _ _ _ _ => h
theorem wpC_standAt {pos : Pos} {Q : Unit → Shared → Prop} (h : Q () s) : wpC M A (standAt pos) Q s := fun _ _ _ _ => h
theorem wpC_of_eq {m : Sem α} {a : α} {Q : α → Shared → Prop} (e : m = pure a) (h : Q a s) : wpC M A m Q s := by rw [e]; exact wpC_pure h
/-- a plain first part, then the rest -/
theorem wpC_then {m : Sem α} {f : α → Sem β} {Q : β → Shared → Prop} (h : wpN M A m (fun a s' => wpC M A (f a) Q s') s) : wpC M A (m >>= f) Q s := wpC_bind (wpC_of h)

theorem codeC_of {c : Code} {R : Flow → Shared → Prop} (h : codeAny M A c (okR R) s) : codeC M A c R s := fun Γ p hc hΓ _ => h Γ p hc hΓ
theorem codeC_mono {c : Code} {R R' : Flow → Shared → Prop} (h : codeC M A c R s) (hR : ∀ f s, R f s → R' f s) : codeC M A c R' s :=
  fun Γ p hc hΓ hl => wpCode_mono (fun r s x => by cases r with | ok f => exact hR f s x | error e => exact x) (h Γ p hc hΓ hl)

theorem mark_none (A : Around) : A.mark none = A := by cases A; rfl

theorem wpC_run {c : Code} {Q : Flow → Shared → Prop} (hc : codeC M A c Q s) (hcl : clean c = true := by rfl) : wpC M A (run c) Q s :=
  fun Γ p hΓ hl => by
    rw [Sem.wp_run]
    refine wpCode_mono (fun r s x => ?_) (hc _ p rfl (mark_none A ▸ hΓ.enter c none p (by intro x; cases x)) (hl.enter hcl none p))
    cases r with
    | ok f => exact x
    | error e => exact x
theorem wpC_runOwn {c : Code} {Q : Flow → Shared → Prop} (hc : codeC M A c Q s) (hcl : clean c = true := by rfl) : wpC M A (runOwn c env) Q s := by
  unfold runOwn
  exact wpC_onRaise (wpC_run hc hcl)
def retR (Q : Value → Shared → Prop) : Flow → Shared → Prop
  | .ret v, s' => Q v s'
  | _, _ => False
theorem wpC_runValue {c : Code} {Q : Value → Shared → Prop} (hc : codeC M A c (retR Q) s) (hcl : clean c = true := by rfl) : wpC M A (runValue c) Q s := by
  unfold runValue
  refine wpC_bind (wpC_mono (wpC_run hc hcl) fun f s' h => ?_)
  cases f with
  | ret v => exact wpC_pure h
  | _ => exact h.elim
theorem wpC_call {f : Value} {pos : List Value} {kw : List (Str × Value)} {Q : Value → Shared → Prop} (hc : codeC M A (.call f ⟨pos, kw⟩) (retR Q) s) : wpC M A (call f pos kw) Q s :=
  wpC_runValue hc

theorem codeC_of_tree {c : Code} {R : Flow → Shared → Prop}
    (h : wpC M (A.under c) (M.den c) (fun fin s' => match fin with | .done f => R f s' | .again c' => c'.quiet = true ∧ clean c' = true ∧ codeC M A c' R s') s) : codeC M A c R s := fun Γ p hc hΓ hl => by
  rw [wpCode_iff_wp, hc]
  refine Sem.wp_mono M Γ _ (fun fin p' s' h' => ?_) (fun _ _ _ h' => h'.elim) p s (h Γ p (hc ▸ hΓ.in) hl)
  cases fin with
  | done f => exact h'
  | again c' => exact ⟨h'.1, h'.2.2 (Γ.goto c') p' rfl (hΓ.goto c') (hl.goto h'.2.1)⟩

theorem codeC_loop {c : Code} {R : Flow → Shared → Prop} (hq : c.quiet = true) (hcl : clean c = true) (I : Nat → Shared → Prop)
    (turn : ∀ n s, I n s → wpC M (A.under c) (M.den c)
      (fun fin s' => match fin with | .done f => R f s' | .again c' => (c' = c ∧ ∃ m, m < n ∧ I m s') ∨ (c'.quiet = true ∧ clean c' = true ∧ codeC M A c' R s')) s)
    (n : Nat) (h : I n s) : codeC M A c R s := by
  induction n using Nat.strongRecOn generalizing s with
  | ind n ih =>
    refine codeC_of_tree (wpC_mono (turn n s h) fun fin s' hf => ?_)
    cases fin with
    | done f => exact hf
    | again c' =>
      rcases hf with ⟨rfl, m, hm, hI⟩ | hf
      · exact ⟨hq, hcl, ih m hm hI⟩
      · exact hf

/-! statements -/
theorem wpC_execs_cons {st rest} {Q : Flow → Shared → Prop}
    (h : wpC M A (exec st env) (fun f s' => match f with | .next => wpC M A (execs rest env) Q s' | f => Q f s') s) : wpC M A (execs (st :: rest) env) Q s := by
  rw [execs_cons]
  refine wpC_bind (wpC_mono h fun f s' h' => ?_)
  cases f <;> first | exact h' | exact wpC_pure h'
theorem wpC_Assign_Name {x pos' value pos} {Q : Flow → Shared → Prop}
    (h : wpC M A (eval value env) (fun v s₁ => wpN M A (storeName env x v) (fun _ => Q .next) s₁) s)
    (hs : swapsWith value (some (.Name x pos')) pos.line env = pure false := by rfl) : wpC M A (exec (.Assign [.Name x pos'] value pos) env) Q s := by
  rw [exec_Assign_Name env x pos' value pos hs]
  exact wpC_bind (wpC_standAt (wpC_bind (wpC_mono h fun v s₁ h₁ => wpC_bind (wpC_standAt (wpC_bind (wpC_of (wpAny_bindName (wpAny_mono h₁ (fun _ _ x => wpC_pure x) fun _ _ x => x))))))))
theorem wpC_Expr {e pos} {Q : Flow → Shared → Prop} (h : wpC M A (eval e env) (fun v s' => v = .none ∧ Q .next s') s)
    (hi : interactive env = false := by rfl) (hs : swapsWith e none pos.line env = pure false := by rfl) : wpC M A (exec (.Expr e pos) env) Q s := by
  rw [exec_Expr env e pos hi hs]
  refine wpC_bind (wpC_standAt (wpC_bind (wpC_mono h fun v s' h' => ?_)))
  obtain ⟨rfl, hq⟩ := h'
  rw [dropValue_plain (by intro a h; cases h)]
  exact wpC_pure hq
theorem wpC_If {test body orelse pos} {Q : Flow → Shared → Prop}
    (h : wpN M A (isTrue test env (eval test env)) (fun b s₂ => if b then wpC M A (execs body env) Q s₂ else wpC M A (execs orelse env) Q s₂) s) : wpC M A (exec (.If test body orelse pos) env) Q s := by
  rw [exec_If]
  refine wpC_bind (wpC_standAt (wpC_then (wpAny_mono h (fun b s₂ h₂ => ?_) fun _ _ x => x)))
  cases b <;> exact h₂
theorem wpC_While {test body orelse pos} {Q : Flow → Shared → Prop} (h : codeC M A (.whileLoop test body orelse env) Q s) : wpC M A (exec (.While test body orelse pos) env) Q s := by
  rw [exec_While]; exact wpC_bind (wpC_standAt (wpC_runOwn h))
theorem wpC_For {target iter body orelse pos} {Q : Flow → Shared → Prop}
    (h : wpC M A (eval iter env) (fun x s₁ => wpN M A (pyIter x) (fun it s₂ => codeC M A (.forLoop target it body orelse env) Q s₂) s₁) s)
    (hs : ∀ x, foldedSetIterable iter env x = pure x := by intro _; rfl) : wpC M A (exec (.For target iter body orelse pos) env) Q s := by
  rw [exec_For]
  exact wpC_bind (wpC_standAt (wpC_bind (wpC_mono h fun x s₁ h₁ => wpC_bind (wpC_of_eq (hs x) (wpC_bind (wpC_standAt (wpC_bind (wpC_holding (wpC_mono (wpC_of h₁) fun it s₂ h₂ => wpC_runOwn h₂)))))))))
end

section
variable {prog : Program} {w : World} {A : Around} {s : Shared} {env : Env} {R : Flow → Shared → Prop}

theorem codeC_whileLoop {test body orelse} (I : Nat → Shared → Prop)
    (turn : ∀ n s, I n s → wpN (model prog w) A (isTrue test env (eval test env)) (fun b s₂ =>
        if b then wpC (model prog w) A (execs body env) (fun f s₃ => match f with
            | .next | .cont => ∃ m, m < n ∧ I m s₃
            | .brk => R .next s₃
            | .ret v => R (.ret v) s₃) s₂
        else wpC (model prog w) A (execs orelse env) R s₂) s)
    (n : Nat) (h : I n s) : codeC (model prog w) A (.whileLoop test body orelse env) R s := by
  refine codeC_loop rfl rfl I (fun n s hI => ?_) n h
  show wpC _ A ((whileTurn test body orelse env).onRaise (fun x => do noteFrame x env; theTreesLotGoes x)) _ s
  refine wpC_onRaise ?_
  simp only [whileTurn]
  refine wpC_then (wpAny_mono (turn n s hI) (fun b s₂ h₂ => ?_) fun _ _ h' => h')
  cases b with
  | false =>
    simp only [Bool.false_eq_true, if_false] at h₂ ⊢
    exact wpC_bind (wpC_mono h₂ fun f s₃ h₃ => wpC_pure h₃)
  | true =>
    simp only [if_true] at h₂ ⊢
    refine wpC_bind (wpC_mono h₂ fun f s₃ h₃ => ?_)
    cases f with
    | next => exact wpC_pure (.inl ⟨rfl, h₃⟩)
    | cont => exact wpC_pure (.inl ⟨rfl, h₃⟩)
    | brk => exact wpC_pure h₃
    | ret v => exact wpC_pure h₃

theorem codeC_block {stmts : List Stmt} (h : wpC (model prog w) A (execs stmts env) R s) : codeC (model prog w) A (.block stmts env) R s := by
  refine codeC_of_tree ?_
  show wpC _ _ (do return Fin.done (← (execs stmts env).onRaise (fun x => do noteFrame x env; theTreesLotGoes x))) _ s
  exact wpC_bind (wpC_onRaise (wpC_mono h fun f s' h' => wpC_pure h'))

theorem codeC_forLoop {target it body orelse} (I : Nat → Shared → Prop)
    (turn : ∀ n s, I n s → wpN (model prog w) A (pyNext it) (fun r s₁ => match r with
      | none => wpC (model prog w) A (execs orelse env) R s₁
      | some v => wpN (model prog w) A (letOwnedTupleGo target it v) (fun _ s₁ => wpN (model prog w) A (assign target env v) (fun _ s₂ => wpC (model prog w) A (execs body env) (fun f s₃ => match f with
          | .next | .cont => ∃ m, m < n ∧ I m s₃
          | .brk => R .next s₃
          | .ret v => R (.ret v) s₃) s₂) s₁) s₁) s)
    (n : Nat) (h : I n s) : codeC (model prog w) A (.forLoop target it body orelse env) R s := by
  refine codeC_loop rfl rfl I (fun n s hI => ?_) n h
  show wpC _ _ ((forTurn target it body orelse env).onRaise (fun x => do noteFrame x env; theTreesLotGoes x)) _ s
  refine wpC_onRaise ?_
  simp only [forTurn]
  refine wpC_bind (wpC_standAt (wpC_bind (wpC_onRaise (wpC_of (wpAny_mono (turn n s hI) (fun r s₁ h₁ => ?_) fun _ _ h' => h')))))
  cases r with
  | none => exact wpC_pure (.inr ⟨rfl, rfl, codeC_block h₁⟩)
  | some v =>
    refine wpC_then (wpAny_mono h₁ (fun _ s₁ h₁ => ?_) fun _ _ h' => h')
    refine wpC_then (wpAny_mono h₁ (fun _ s₂ h₂ => wpC_bind (wpC_mono h₂ fun f s₃ h₃ => ?_)) fun _ _ h' => h')
    cases f with
    | next => exact wpC_pure (.inl ⟨rfl, h₃⟩)
    | cont => exact wpC_pure (.inl ⟨rfl, h₃⟩)
    | brk => exact wpC_pure h₃
    | ret v => exact wpC_pure h₃

theorem codeC_func {body} (h : wpC (model prog w) (A.deeper env) (execs body env) (fun f s' => R (.ret (match f with | .ret v => v | _ => .none)) s') s) : codeC (model prog w) A (.func body env) R s := by
  refine codeC_of_tree ?_
  show wpC _ (A.deeper env) (do point; match ← (execs body env).onRaise (leaving env) with | .ret v => ret v | _ => ret .none) _ s
  refine wpC_then (wpAny_point (wpC_bind (wpC_onRaise (wpC_mono h fun f s' h' => ?_))))
  cases f <;> exact wpC_pure h'

end


/-! part: BaF -/
section
open Builtin.Bytes

theorem any_clean {f : Code × Pos → Bool} (hf : ∀ c p, clean c = true → f (c, p) = false) : ∀ {l : List (Code × Pos)}, (∀ q ∈ l, clean q.1 = true) → l.any f = false
  | [], _ => rfl
  | (c, p) :: l, h => by
    rw [List.any_cons, hf c p (h _ (.head _)), any_clean hf fun q hq => h q (.tail _ hq)]; rfl

theorem wpC_exported {M : Model} {A : Around} {s : Shared} {self : Value} {Q : Bool → Shared → Prop} (h : Q false s) : wpC M A (exported self) Q s := fun Γ p hΓ hc => by
  unfold exported
  show Q (((Γ.code, p) :: Γ.below).any _) s
  rw [any_clean (fun c p hcl => ?_) (fun q hq => ?_)]
  · exact h
  · skip
    cases c with
    | builtin id args =>
      simp only [clean, Bool.not_eq_true'] at hcl
      have hdec : decodersThatHold.contains id = false := by
        unfold heldIds at hcl
        rw [List.contains_append, Bool.or_eq_false_iff] at hcl
        exact hcl.1
      split
      all_goals (rename_i e)
      all_goals first
        | (simp only [Prod.mk.injEq, Code.builtin.injEq] at e; obtain ⟨⟨rfl, _⟩, _⟩ := e; exact absurd hcl (by decide +kernel))
        | (simp only [Prod.mk.injEq, Code.builtin.injEq] at e; obtain ⟨⟨rfl, _⟩, _⟩ := e; rw [hdec, Bool.and_false])
        | rfl
    | _ => rfl
  · rcases List.mem_cons.mp hq with rfl | hq
    · exact hc.1
    · exact hc.2 q hq

abbrev baObj (b : Array UInt8) : Obj := { cls := .type "bytearray", data := .bytearray b }

namespace Ba
theorem mro : mroOf (.type "bytearray") = pure [.type "bytearray", .type "object"] := by rw [mroOf_type]; kernel_rfl
theorem lk_new : typeLookup (.type "bytearray") "__new__" = pure (some (.builtin "bytearray.__new__")) := by rw [typeLookup_type, builtinLookup_eq_fast]; kernel_rfl
theorem lk_release : typeLookup (.type "bytearray") "__release_buffer__" = pure (some (.builtin "bytearray.__release_buffer__")) := by rw [typeLookup_type, builtinLookup_eq_fast]; kernel_rfl
theorem lk_buffer : typeLookup (.type "bytearray") "__buffer__" = pure (some (.builtin "bytearray.__buffer__")) := by rw [typeLookup_type, builtinLookup_eq_fast]; kernel_rfl
theorem lk_bytes : typeLookup (.type "bytearray") "__bytes__" = pure none := by rw [typeLookup_type, builtinLookup_eq_fast]; kernel_rfl
theorem lk_index : typeLookup (.type "bytearray") "__index__" = pure none := by rw [typeLookup_type, builtinLookup_eq_fast]; kernel_rfl
theorem sub_self : isSubtype (.type "bytearray") (.type "bytearray") = pure true := by rw [isSubtype_type]; kernel_rfl
theorem slot_init : Slot "bytearray" "__init__" "bytearray.__init__" :=
  .of (owner := "bytearray") (n := "__init__") (by rw [typeLookup_type, builtinLookup_eq_fast]; kernel_rfl) (by decide +kernel) (by decide +kernel) (by decide +kernel)
    (by first | exact .inl (by decide +kernel) | exact .inr (by decide +kernel)) sub_self
theorem slot_append : Slot "bytearray" "append" "bytearray.append" :=
  .of (owner := "bytearray") (n := "append") (by rw [typeLookup_type, builtinLookup_eq_fast]; kernel_rfl) (by decide +kernel) (by decide +kernel) (by decide +kernel)
    (by first | exact .inl (by decide +kernel) | exact .inr (by decide +kernel)) sub_self
theorem slot_extend : Slot "bytearray" "extend" "bytearray.extend" :=
  .of (owner := "bytearray") (n := "extend") (by rw [typeLookup_type, builtinLookup_eq_fast]; kernel_rfl) (by decide +kernel) (by decide +kernel) (by decide +kernel)
    (by first | exact .inl (by decide +kernel) | exact .inr (by decide +kernel)) sub_self
theorem called : TypeCalled "bytearray" "bytearray.__new__" "bytearray.__init__" :=
  ⟨by decide +kernel, by decide +kernel, ⟨_, _, mro⟩, madeBy_type mro lk_new (by decide +kernel), by decide +kernel, sub_self, slot_init⟩
theorem typeCall : checkTypeCall "bytearray" ⟨[], []⟩ = pure () := by kernel_rfl
theorem newCall : checkBuiltinCall "bytearray.__new__" ⟨[.type "bytearray"], []⟩ = pure () := by kernel_rfl
theorem entry_new : entryFor table "bytearray.__new__" = some Builtin.«list.__new__» := entryFor_alias (id' := "list.__new__") (by kernel_rfl) rfl (by decide +kernel) (by kernel_rfl)
theorem entry_init : entryFor table "bytearray.__init__" = some Builtin.«bytearray.__init__» := by first | exact entryFor_of_fast (by kernel_rfl) | exact entryFor_of_tree (by kernel_rfl)
theorem entry_append : entryFor table "bytearray.append" = some Builtin.«bytearray.append» := by first | exact entryFor_of_fast (by kernel_rfl) | exact entryFor_of_tree (by kernel_rfl)
theorem entry_extend : entryFor table "bytearray.extend" = some Builtin.«bytearray.extend» := by first | exact entryFor_of_fast (by kernel_rfl) | exact entryFor_of_tree (by kernel_rfl)
theorem plain_new : plainId "bytearray.__new__" = true := by decide +kernel
theorem args_init (a : Value) : argsOk "bytearray.__init__" ⟨[a], []⟩ := by unfold argsOk; kernel_rfl
theorem args_append (a b : Value) : argsOk "bytearray.append" ⟨[a, b], []⟩ := by unfold argsOk; kernel_rfl
theorem args_extend (a b : Value) : argsOk "bytearray.extend" ⟨[a, b], []⟩ := by unfold argsOk; kernel_rfl
theorem bindInit : bindOptional "bytearray.__init__" "bytearray" ["source", "encoding", "errors"] [] [] = pure [none, none, none] := by kernel_rfl
set_option maxRecDepth 1000000 in
set_option maxHeartbeats 4000000 in
theorem owner_new : ("bytearray.__new__".splitOn ".__new__").headD "" = "bytearray" := by simp +decide [String.splitOn, String.splitOnAux]
end Ba

end


/-! part: Ba1 -/
section
open Builtin.Bytes

section
variable {prog : Program} {w : World} {A : Around} {s : Shared} {a : Addr} {b : Array UInt8}

theorem ba_typeIs (h : s.heap.get? a = some (baObj b)) : s.TypeIs (.ref a) "bytearray" := ⟨_, h, rfl⟩

theorem codeC_builtin {id : String} {args : Args} {bi : Builtin} {R : Flow → Shared → Prop} (hb : entryFor table id = some bi)
    (h : wpC (model prog w) (A.under (.builtin id args)) (bi args) (fun fin s' => match fin with | .done f => R f s' | .again c' => c'.quiet = true ∧ clean c' = true ∧ codeC (model prog w) A c' R s') s) :
    codeC (model prog w) A (.builtin id args) R s := by
  refine codeC_of_tree ?_
  show wpC _ _ (match entryFor table id with | some b => b args | none => unsupported ((withoutEnding? id "#data").getD id)) _ s
  rw [hb]; exact h

theorem wpC_call_entry {T : String} {name : Str} {id : String} {bi : Builtin} {self : Value} {rest : List Value} {Q : Value → Shared → Prop} (h : Slot T name id) (hT : s.TypeIs self T)
    (hb : entryFor table id = some bi) (hcl : clean (.builtin id {}) = true)
    (hc : wpC (model prog w) A.in1 (bi ⟨self :: rest, []⟩) (fun fin s' => ∃ v, fin = .done (.ret v) ∧ Q v s') s)
    (ha : argsOk id ⟨self :: rest, []⟩) : wpC (model prog w) A (call (.builtin id) (self :: rest)) Q s := by
  refine wpC_call (codeC_of_tree ?_)
  show wpC _ A.in1 (do checkBuiltinCall id ⟨self :: rest, []⟩; again (.builtin id ⟨self :: rest, []⟩)) _ s
  refine wpC_then (h.check _ _ _ _ _ _ _ _ hT ha (wpC_pure ⟨plainId_quiet h.plain _, hcl, codeC_builtin hb ?_⟩))
  rw [Around.under_plainId h.plain _]
  refine wpC_mono hc fun fin s' h' => ?_
  obtain ⟨v, rfl, hv⟩ := h'
  exact hv

theorem wpC_noExport {M : Model} {Q : Bool → Shared → Prop} (h : s.heap.get? a = some (baObj b)) (hq : Q false s) :
    wpC M A (exported (.ref a) <||> (do return (← exportsOf (.ref a)) > 0)) Q s := by
  unfold orM
  refine wpC_bind (wpC_exported ?_)
  show wpC M A ((exportsOf (.ref a)) >>= fun n => pure (decide (n > 0))) Q s
  refine wpC_of ?_
  show wpN M A ((load a >>= fun o => match o.data with | .bytearray _ n => pure n | _ => pure 0) >>= fun n => pure (decide (n > 0))) Q s
  refine wpAny_bind (wpAny_bind (wpAny_load h ?_))
  exact wpAny_pure (wpAny_pure hq)

theorem wpC_checkResize {M : Model} {Q : Unit → Shared → Prop} (h : s.heap.get? a = some (baObj b)) (hq : Q () s) : wpC M A (checkResize (.ref a)) Q s := by
  unfold checkResize
  refine wpC_bind (wpC_noExport h ?_)
  exact wpC_pure hq

/-- writing into a bytearray -/
theorem wpN_write {M : Model} {f : Array UInt8 → Array UInt8} {Q : Unit → Shared → Prop} (h : s.heap.get? a = some (baObj b)) (hz : (f b).size ≤ sizeLine)
    (hq : ∀ h', h'.get? a = some (baObj (f b)) → Heap.SameBut a s.heap h' → Q () { s with heap := h' }) : wpN M A (write (.ref a) f) Q s := by
  show wpN _ _ (updateBytearray a f) _ _
  unfold updateBytearray
  refine wpAny_bind (wpAny_load h ?_)
  show wpN _ _ (update a (Obj.mapBytearray f) >>= fun _ => lookBehind a) _ _
  refine wpAny_bind (wpAny_update h ?_)
  have h2 : (s.heap.update a (Obj.mapBytearray f)).get? a = some (baObj (f b)) := Heap.get?_update_self (Obj.mapBytearray f) h rfl
  refine wpAny_lookBehind h2 ?_ (hq _ h2 (Heap.SameBut.update ..))
  show (if (f b).size > sizeLine then some "bytearray:memory" else none) = none
  rw [if_neg (Nat.not_lt.mpr hz)]

theorem wpC_append {c : Int} {t : Tok} {Q : Value → Shared → Prop} (h : s.heap.get? a = some (baObj b)) (h0 : 0 ≤ c) (h1 : c < 256) (hz : b.size < sizeLine)
    (hq : ∀ h', h'.get? a = some (baObj (b.push c.toNat.toUInt8)) → Heap.SameBut a s.heap h' → Q .none { s with heap := h' }) :
    wpC (model prog w) A (call (.builtin "bytearray.append") [.ref a, .int c t]) Q s := by
  refine wpC_call_entry Ba.slot_append (ba_typeIs h) Ba.entry_append (by decide +kernel) ?_ (Ba.args_append _ _)
  show wpC _ A.in1 (do let c ← byteValue (.int c t); checkResize (.ref a); write (.ref a) (·.push c); ret .none) _ s
  refine wpC_then ?_
  unfold byteValue
  refine wpAny_bind (wpAny_of_eq (rfl : asIndex (.int c t) = pure c) ?_)
  refine bm_if_false (by simp only [Bool.or_eq_false_iff, decide_eq_false_iff_not]; omega) ?_
  refine wpAny_pure ?_
  refine wpC_bind (wpC_checkResize h (wpC_then (wpN_write h (by rw [Array.size_push]; exact hz) fun h' g1 g2 => wpC_pure ⟨_, rfl, hq h' g1 g2⟩)))

theorem wpC_extend {c : Array UInt8} {t : Tok} {Q : Value → Shared → Prop} (h : s.heap.get? a = some (baObj b)) (hz : b.size + c.size ≤ sizeLine)
    (hq : ∀ h', h'.get? a = some (baObj (b ++ c)) → Heap.SameBut a s.heap h' → Q .none { s with heap := h' }) :
    wpC (model prog w) A (call (.builtin "bytearray.extend") [.ref a, .bytes c t]) Q s := by
  refine wpC_call_entry Ba.slot_extend (ba_typeIs h) Ba.entry_extend (by decide +kernel) ?_ (Ba.args_extend _ _)
  unfold Builtin.«bytearray.extend»
  refine wpC_then (wpAny_of_eq (a := (Value.ref a, Value.bytes c t)) rfl ?_)
  dsimp only
  refine wpC_then (wpAny_of_eq (KBy.special_eq KBy.look_buffer) ?_)
  dsimp only [Option.isSome_some, if_true]
  refine wpC_then (wpAny_rule ?_)
  refine wpC_then ?_
  unfold payload payload?
  refine wpAny_bind (wpAny_bind (wpAny_load h (wpAny_pure (wpAny_pure ?_))))
  dsimp only
  have hb : takeBufferQuiet? "bytearray.extend" (.bytes c t) 0 = pure (some (c, none)) := by
    unfold takeBufferQuiet? takeBuffer?
    rw [KBy.special_eq KBy.look_buffer, KBy.own_buffer, show ((0 : Int) == fullReadOnly) = false from by decide +kernel, KBy.buffer_eq]
    kernel_rfl
  refine wpC_then (wpAny_of_eq hb ?_)
  dsimp only [Option.isNone_none, if_true]
  show wpC _ _ (if (!c.isEmpty) = true then checkResize (.ref a) >>= fun _ => write (.ref a) (· ++ c) >>= fun _ => ret .none else write (.ref a) (· ++ c) >>= fun _ => ret .none) _ s
  have fin : wpC (model prog w) A.in1 (write (.ref a) (· ++ c) >>= fun _ => ret .none) (fun fin s' => ∃ v, fin = PySem.Fin.done (Flow.ret v) ∧ Q v s') s :=
    wpC_then (wpN_write h (by rw [Array.size_append]; exact hz) fun h' g1 g2 => wpC_pure ⟨_, rfl, hq h' g1 g2⟩)
  by_cases hc : (!c.isEmpty) = true
  · rw [if_pos hc]; exact wpC_bind (wpC_checkResize h fin)
  · rw [if_neg hc]; exact fin

/-- a new, empty bytearray -/
theorem code_ba_new {E : Value → Shared → Prop} {Q₁ : Value → Shared → Prop}
    (h : Q₁ (.ref s.heap.objs.size) { s with heap := s.heap.push (baObj #[]) }) :
    codeAny (model prog w) A (.call (.builtin "bytearray.__new__") ⟨[.type "bytearray"], []⟩) (wants Q₁ E) s := by
  refine codeAny_of_tree ?_
  show wpAny _ A.in1 (do checkBuiltinCall "bytearray.__new__" ⟨[.type "bytearray"], []⟩; again (.builtin "bytearray.__new__" ⟨[.type "bytearray"], []⟩)) _ _ s
  refine wpAny_bind (wpAny_of_eq Ba.newCall (wpAny_pure ⟨plainId_quiet Ba.plain_new _, codeAny_builtin_stack Ba.entry_new rfl fun p st => ?_⟩))
  rw [Around.under_plainId Ba.plain_new _]
  have hsub := Ba.sub_self
  have hown := Ba.owner_new
  obtain ⟨hp, g, d, tk, os⟩ := s
  simp only [hown]
  wp_walk
  exact h

theorem wpC_init {Q : Value → Shared → Prop} (h : s.heap.get? a = some (baObj #[]))
    (hq : ∀ h', h'.get? a = some (baObj #[]) → Heap.SameBut a s.heap h' → Q .none { s with heap := h' }) :
    wpC (model prog w) A (call (.builtin "bytearray.__init__") [.ref a]) Q s := by
  refine wpC_call_entry Ba.slot_init (ba_typeIs h) Ba.entry_init (by decide +kernel) ?_ (Ba.args_init _)
  unfold Builtin.«bytearray.__init__»
  dsimp only
  refine wpC_then ?_
  have hr : ∀ {Q : Bool → Shared → Prop}, Q false s → wpN (model prog w) A.in1 (ownRelease (.ref a)) Q s := fun hq => by
    unfold ownRelease slotIsOwn
    refine wpAny_bind (wpAny_bind (wpAny_specialOf (ba_typeIs h) Ba.lk_release ?_))
    dsimp only
    rw [show ("bytearray.__release_buffer__".endsWith ("." ++ "__release_buffer__")) = true from by decide +kernel]
    simp only [Bool.not_true, Bool.false_eq_true, if_false]
    rw [show ("bytearray.__release_buffer__".dropRight ("__release_buffer__".length + 1)) = "bytearray" from by decide +kernel]
    exact wpAny_isInstance (ba_typeIs h) Ba.sub_self (wpAny_pure hq)
  refine hr ?_
  simp only [Bool.false_eq_true, if_false]
  refine wpC_then (wpAny_of_eq Ba.bindInit ?_)
  dsimp only
  refine wpC_then (wpAny_of_eq (a := ()) rfl ?_)
  refine wpC_then (wpAny_of_eq (a := ()) rfl ?_)
  refine wpC_bind (wpC_noExport h ?_)
  simp only [Bool.false_eq_true, if_false]
  refine wpC_then (wpN_write h (by decide) fun h' g1 g2 => ?_)
  exact wpC_then (wpAny_of_eq (a := ()) rfl (wpC_pure ⟨_, rfl, hq h' g1 g2⟩))

theorem wpC_bytearray {Q : Value → Shared → Prop}
    (hq : ∀ h', h'.get? s.heap.objs.size = some (baObj #[]) → s.heap.StaysIn h' → h'.objs.size = s.heap.objs.size + 1 → Q (.ref s.heap.objs.size) { s with heap := h' }) :
    wpC (model prog w) A (call (.type "bytearray") []) Q s := by
  refine wpC_call (codeC_of_tree ?_)
  show wpC _ _ (callAny (.type "bytearray") ⟨[], []⟩) _ s
  refine wpC_pure ⟨Code.quiet_builtin _ (by decide +kernel), by decide +kernel, codeC_builtin F.entry_type_call ?_⟩
  rw [Around.under_plain (weight_type_call_type "bytearray" [] []) rfl]
  unfold Builtin.«type.__call__»
  dsimp only
  rw [Ba.called.notType]
  simp only [Bool.false_eq_true, if_false]
  have h2 := Ba.called.canCreate
  rw [h2]
  simp only [Bool.false_eq_true, if_false]
  refine wpC_then (wpAny_of_eq Ba.typeCall ?_)
  refine wpC_then (wpAny_of_eq Ba.mro ?_)
  simp only [List.isEmpty_cons, Bool.false_eq_true, if_false]
  refine wpC_then (wpAny_of_eq Ba.called.made ?_)
  dsimp only
  refine wpC_then (wpAny_pure ?_)
  refine wpC_bind (wpC_holding (wpC_of (wpAny_call ?_)))
  refine codeAny_mono (code_ba_new (E := fun _ _ => False) (Q₁ := fun v s' => v = .ref s.heap.objs.size ∧ s' = { s with heap := s.heap.push (baObj #[]) }) ⟨rfl, rfl⟩) fun r s' hr => ?_
  cases r with
  | error e => exact hr
  | ok f =>
    cases f with
    | ret v =>
      obtain ⟨rfl, rfl⟩ := hr
      dsimp only
      have hg : (s.heap.push (baObj #[])).get? s.heap.objs.size = some (baObj #[]) := Heap.get?_push_size _ rfl
      refine wpC_then (wpAny_isInstance (ba_typeIs hg) Ba.sub_self ?_)
      simp only [Bool.not_true, Bool.false_eq_true, if_false]
      refine wpC_bind (wpC_holding ?_)
      unfold callSpecial?
      refine wpC_then (wpAny_specialOf (ba_typeIs hg) Ba.slot_init.lookup ?_)
      dsimp only
      rw [Ba.slot_init.bind]
      refine wpC_holding (wpC_then (wpAny_pure ?_))
      refine wpC_bind (wpC_init hg fun h' g1 g2 => ?_)
      refine wpC_pure ?_
      simp only [show (Value.none != Value.none) = false from by decide, Bool.false_eq_true, if_false]
      refine wpC_pure (hq h' g1 (fun b o e => g2.extBut b o (Nat.ne_of_lt (Heap.lt_size e)) (Heap.get?_push_of_some _ e)) (g2.1.trans (Heap.size_push _ _)))
    | _ => exact hr.elim
end
end


/-! part: Ba2 -/
section
open Builtin.Bytes

section
variable {prog : Program} {w : World} {A : Around} {E : Value → Shared → Prop} {s : Shared} {a : Addr} {b : Array UInt8}

theorem ba_own_buffer {M : Model} {Q : Bool → Shared → Prop} (h : s.heap.get? a = some (baObj b)) (hq : Q true s) : wpAny M A (slotIsOwn (.ref a) "__buffer__") Q E s := by
  unfold slotIsOwn
  refine wpAny_bind (wpAny_specialOf (ba_typeIs h) Ba.lk_buffer ?_)
  (try dsimp only)
  rw [show ("bytearray.__buffer__".endsWith ("." ++ "__buffer__")) = true from by decide +kernel]
  simp only [Bool.not_true, Bool.false_eq_true, if_false]
  rw [show ("bytearray.__buffer__".dropRight ("__buffer__".length + 1)) = "bytearray" from by decide +kernel]
  exact wpAny_isInstance (ba_typeIs h) Ba.sub_self hq
theorem ba_own_release {M : Model} {Q : Bool → Shared → Prop} (h : s.heap.get? a = some (baObj b)) (hq : Q false s) : wpAny M A (ownRelease (.ref a)) Q E s := by
  unfold ownRelease slotIsOwn
  refine wpAny_bind (wpAny_bind (wpAny_specialOf (ba_typeIs h) Ba.lk_release ?_))
  (try dsimp only)
  rw [show ("bytearray.__release_buffer__".endsWith ("." ++ "__release_buffer__")) = true from by decide +kernel]
  simp only [Bool.not_true, Bool.false_eq_true, if_false]
  rw [show ("bytearray.__release_buffer__".dropRight ("__release_buffer__".length + 1)) = "bytearray" from by decide +kernel]
  exact wpAny_isInstance (ba_typeIs h) Ba.sub_self (wpAny_pure hq)
theorem ba_buffer {M : Model} {id : String} {full : Bool} {Q : Option (Array UInt8) → Shared → Prop} (h : s.heap.get? a = some (baObj b)) (hq : Q (some b) s) : wpAny M A (buffer? id (.ref a) full) Q E s := by
  unfold buffer?
  refine wpAny_bind (wpAny_specialOf (ba_typeIs h) Ba.lk_buffer ?_)
  (try dsimp only)
  refine wpAny_bind (ba_own_buffer h ?_)
  simp only [Bool.not_true, Bool.false_eq_true, if_false]
  refine wpAny_bind (wpAny_specialOf (ba_typeIs h) Ba.lk_buffer ?_)
  (try dsimp only)
  refine wpAny_bind (ba_own_release h ?_)
  simp only [Bool.false_eq_true, if_false]
  unfold payload payload?
  exact wpAny_bind (wpAny_bind (wpAny_bind (wpAny_load h (wpAny_pure (wpAny_pure (wpAny_pure hq))))))

/-- bytes(a bytearray) -/
theorem call_bytes_ba {Q : Value → Shared → Prop} (h : s.heap.get? a = some (baObj b)) (hz : b.size ≤ sizeLine)
    (hQ : ∀ t k, Q (.bytes b t) { s with toks := k }) : wpAny (model prog w) A (call (.type "bytes") [.ref a]) Q E s := by
  refine callType_codes (Q₁ := fun obj s₁ => s₁.TypeIs obj "bytes" ∧ Q obj s₁) F.bm_called (F.bm_typeCall _) F.entry_object_init ?_ fun obj s₁ h₁ =>
    ⟨h₁.1, F.args_object_init_2 obj _, object_init_meets F.bm_called.init.lookup F.bm_called.made (by decide) prog w A.in1 _ s₁ ⟨h₁.1, rfl, h₁.2⟩⟩
  refine codeAny_of_tree ?_
  show wpAny _ A.in1.in1 (do checkBuiltinCall "bytes.__new__" ⟨[.type "bytes", .ref a], []⟩; again (.builtin "bytes.__new__" ⟨[.type "bytes", .ref a], []⟩)) _ _ s
  refine wpAny_bind (wpAny_of_eq (F.bm_newCall _) (wpAny_pure ⟨plainId_quiet F.bm_plain _, codeAny_builtin F.bm_entry ?_⟩))
  rw [Around.under_plainId F.bm_plain _]
  have hT := ba_typeIs h
  unfold Builtin.«bytes.__new__»
  refine wpAny_bind (wpAny_of_eq (a := true) rfl ?_)
  refine bm_if_false rfl ?_
  refine wpAny_bind (wpAny_of_eq F.bm_sub ?_)
  refine bm_if_false rfl ?_
  refine wpAny_bind (wpAny_of_eq (F.bm_bind _) ?_)
  refine wpAny_bind (wpAny_of_eq (a := ()) rfl ?_)
  refine wpAny_bind (wpAny_of_eq (a := ()) rfl ?_)
  refine bm_if_false rfl ?_
  refine wpAny_bind (wpAny_specialOf hT Ba.lk_bytes ?_)
  refine wpAny_bind (wpAny_bind ?_)
  show wpAny _ _ (load a >>= _) _ _ _
  refine wpAny_bind (wpAny_load h ?_)
  refine wpAny_pure (wpAny_pure ?_)
  refine bm_if_false rfl ?_
  refine wpAny_bind (wpAny_specialOf hT Ba.lk_index ?_)
  refine bm_if_true rfl ?_
  first
    | show wpAny _ _ (Builtin.Bytes.buffer? "bytes.__new__" (.ref a) true >>= _) _ _ _
    | (refine wpAny_bind ?_; show wpAny _ _ (Builtin.Bytes.buffer? "bytes.__new__" (.ref a) true >>= _) _ _ _)
  refine wpAny_bind (ba_buffer h ?_)
  refine wpAny_bind (wpAny_rule ?_)
  refine wpAny_bind (wpAny_mkBytes ?_ hz)
  show wpAny _ _ (if (Value.type "bytes" == Value.type "bytes") = true then _ else _) _ _ _
  refine bm_if_true (by decide) ?_
  exact wpAny_pure ⟨PySem.W.typeIs_bytes _ _ _, hQ _ _⟩
end
end


/-! part: Head -/

/-! The head, for a call that is shown in clean contexts alone: the caller's own context is clean. -/

theorem caller_clean : Cl ⟨.builtin "claim.caller" {}, none, none, [], none⟩ := ⟨by decide +kernel, fun _ hq => nomatch hq⟩

theorem thread_endsC {prog : Program} {w : World} {t : Sem Fin} {s : Shared} {R : Result → Shared → Prop} (hreg : s.asleep)
    (h : wpC (model prog w) callerA t (fun fin s' => ∃ f, fin = .done f ∧ (R (.ok f) s' ∧ leftWithCleanup s'.gens = false)) s) :
    ∃ n r s' s'', runN (denote table) prog w n s ⟨t, .builtin "claim.caller" {}, default, []⟩ = .halted (outcomeOf r) s' ∧
      schedN (denote table) prog w n (.single s ⟨t, .builtin "claim.caller" {}, default, []⟩) = .halted (outcomeOf r) s' ∧ s'.forget = s''.forget ∧ R r s'' := by
  have h0 := h ⟨.builtin "claim.caller" {}, none, none, [], none⟩ default caller_in caller_clean
  obtain ⟨n, r, s₁, s₂, hs, hn, hfo, hR⟩ := wp_halts_full (M := model prog w) (R := R) hreg
    (Sem.wp_mono _ _ t (post' := Sem.finPost (model prog w) ⟨.builtin "claim.caller" {}, none, none, [], none⟩ fun r s' => R r s' ∧ leftWithCleanup s'.gens = false)
      (exc' := fun e _ s' => R (.error e) s' ∧ leftWithCleanup s'.gens = false)
      (fun fin p' s' h' => by obtain ⟨f, rfl, hf⟩ := h'; exact hf) (fun _ _ _ x => x.elim) default s h0)
  exact ⟨n, r, s₂, s₁, hn, hs, hfo, hR⟩

theorem callFromC {c : ClaimW} {tree : List Value → Sem Fin} {w : World} {s : Shared} {free : Addr → Prop} {gens : Prop} {kept : Heap → Prop} (hz : s.asleep) (hgens : s.gens = #[])
    (hspec : ∀ args, c.pre args = true → WData.layableAll args = true → ∀ ord : List DictEntry → List DictEntry, (∀ l, (ord l).Perm l) →
      ∃ vs s₁, layAllW c.records (classAt s.heap) w.params ord args s = some (vs, s₁) ∧
        wpC (model c.prog w) callerA (tree vs) (fun fin s' => ∃ f, fin = .done f ∧ (c.Ends s args vs s₁ (.ok f) s' ∧ s'.os = s.os ∧ AllBare s'.gens ∧ kept s'.heap)) s₁) :
    c.CallFrom (fun vs => ⟨tree vs, .builtin "claim.caller" {}, default, []⟩) w free gens kept s := by
  intro args hpre hlay ord hord
  obtain ⟨vs, s₁, hlaid, hcode⟩ := hspec args hpre hlay ord hord
  have hal := layAllW_rest _ _ _ hlaid
  obtain ⟨k, r, s', s'', hrun, hsched, hfo, hcase, hos, hkp⟩ := thread_endsC (prog := c.prog) (w := w) (t := tree vs) (s := s₁)
    (R := fun r s' => c.Ends s args vs s₁ r s' ∧ s'.os = s.os ∧ kept s'.heap) (Shared.asleep_of_life hal.2.2.2 hz)
    (wpC_mono hcode fun fin s' ⟨f, e, h1, h2, h3, h4⟩ => ⟨f, e, ⟨h1, h2, h4⟩, leftWithCleanup_false_of_bare h3⟩)
  obtain ⟨eh, _, _, eo, _⟩ := Shared.forget_eq hfo
  replace hcase := hcase.congr eh
  replace hkp : kept s'.heap := by rw [eh]; exact hkp
  rw [← eo] at hos
  have hlife : s'.heap.life = s.heap.life := (runN_life _ _ _ hrun).trans hal.2.2.2
  refine ⟨vs, s₁, hlaid, k, _, s', hsched, ?_, (fun _ i x hx => by rw [hgens] at hx; simp at hx), hkp, by rw [hlife], Shared.rest_eq hos⟩
  rcases hcase with ⟨v, rfl, d1, d2, d3, d4, d5⟩ | ⟨e, ob, cls, rfl, d1, d2, d3, d4, d5⟩
  · exact .inl ⟨v, rfl, d1, d2, d3, fun b o y _ => d4 b o y, d5⟩
  · exact .inr ⟨e, ob, cls, rfl, d1, d2, d3, d4, fun b o y _ => d5 b o y⟩

/-- what is to be walked: the call, from the caller's clean context -/
abbrev WalkC (q : Program) (loose : List Str) (XP : (Str → Option Value) → Heap → Prop) (YP : World → Heap → Prop) (r : RowW) (d : DefRec) (kwd : List (Str × Expr)) : Prop :=
  ∀ (w : World) (s₀ s₁ : Shared) (mg mb : Str → Option Value), Ground q loose r.records XP w s₀ mg mb s₁.heap → YP w s₁.heap → ∀ (a : Addr) (o : Obj) (pm cd doc dV kV : Value), s₁.heap.get? a = some o →
    o.data = .func { docDef d.name d.params d.body d.scope pm cd doc with defaults := dV, kwdefaults := kV } → s₁.heap.CodeRec cd d.name → Dflts mg s₁.heap d.params kwd dV kV → mg d.name = some (.ref a) → s₁.gens = #[] →
    ∀ (args : List WData) (vals : List Value) (as : List Addr), r.claim.pre args = true → WData.layableAll args = true → ReadsAllW r.records (classAt s₀.heap) s₁.heap vals args as → WellAll w.params s₁.heap vals args → (∀ a ∈ as, (a == sysModules) = false) →
      wpC (model r.prog w) callerA (PySem.call (.ref a) vals) (fun v s' => GoodWG r.claim (classAt s₀.heap) (ExcName.means s₀.heap) args s₁ (.ok (.ret v)) s') s₁

theorem PySem.W.holds_open {r : OpenRow} {q : Program} {loose : List Str} {Xt : Shared → Bool} {XP : (Str → Option Value) → Heap → Prop} {α : Type} {Yf : Shared → α} {Ya : World → α} {YP : World → Heap → Prop} {d : DefRec} {kwd : List (Str × Expr)} {N : Nat}
    (left : LeftO r.prog q loose Xt Yf Ya N) (hY : ∀ w s, Yf s = Ya w → YP w s.heap) (hYk : ∀ w h h', YP w h → (∀ b o, h.get? b = some o → h'.get? b = some o) → YP w h')
    (hX : ∀ s, Xt s = true → XP (s.heap.nsMap mainGlobals) s.heap) (hXk : ∀ mg h h', XP mg h → (∀ b o, h.get? b = some o → h'.get? b = some o) → XP mg h')
    (hdef : defOf q r.name = some (d, kwd)) (hp : r.prog.theDef r.name = some (d.params, d.body, d.scope)) (hk : kwWritten? d.params.kwonlyargs d.params.kw_defaults = some kwd) (hRf : ∀ s, Xt s = true → RecFacts r.records s.heap) (hwr : (!r.writes || r.records.isEmpty) = true)
    (k1 : r.wellSaid = true) (ok : (chainsOk q && opensWell r.prog && (frees r.toRowW && r.within.isEmpty)) = true) (hb : r.prog.bare) (hw : r.toRowW.promised)
    (call : WalkC q loose XP YP r.toRowW d kwd) : r.Holds := by
  refine ⟨k1, hw, ?_⟩
  obtain ⟨ok, k5⟩ := Bool.and_eq_true_iff.mp ok
  obtain ⟨hch, o1⟩ := Bool.and_eq_true_iff.mp ok
  obtain ⟨k5, k6⟩ := Bool.and_eq_true_iff.mp k5
  obtain ⟨hsame, hu, ha, hap, hm⟩ := frees_parts k5
  refine ⟨⟨hb, o1, by show r.makers.map _ = []; rw [hm]; rfl⟩, hw.witness, fun w => ⟨(left.behind hX hch w).1, fun s' hs' => ?_⟩⟩
  obtain ⟨s₀, hf, hg0, s, hT, hz, hgens, hg, G00, y⟩ := (left.behind (XP := fun mg h => XP mg h ∧ RecFacts r.records h) (fun s hs => ⟨hX s hs, hRf s hs⟩) hch w).2 s' hs'
  have G0 : Ground q loose [] XP w s (s.heap.nsMap mainGlobals) (s.heap.nsMap builtinsNs) s.heap := ⟨G00.T, G00.B, G00.D, G00.TE, G00.TD, G00.W, G00.X.1, G00.cls, G00.has, G00.apart, G00.once, G00.K⟩
  have RF := G00.X.2
  have hT' := hT
  refine ⟨s₀, hf, hg0, s, hT, (fun n hn => ?_), RF.1, RF.2.1, ?_⟩
  · obtain rfl : n = r.name := by split at hn <;> simp_all
    exact pinned_of_view hg G0 hdef hp hk
  have hgens : s.gens = #[] := Array.eq_empty_of_size_eq_zero (beq_iff_eq.mp hgens)
  have G : Ground q loose r.records XP w s _ _ s.heap := RF.ground G0
  refine callFromC (c := r.claim) (tree := fun vs => do match ← nsGet mainNs r.name with
      | some f => do ret (← PySem.call f vs)
      | none => unsupported "claim.caller:no-such-global") hz hgens fun args hpre hlay ord hord => ?_
  obtain ⟨⟨vs, s₁⟩, hlaid⟩ := Option.isSome_iff_exists.mp (layAllW_isSome (P := w.params) (ord := ord) G.has args r.args s (pre_splitW hpre).1)
  have keeps := layAllW_keeps _ _ _ hlaid
  have hal := layAllW_rest _ _ _ hlaid
  obtain ⟨as, hrd, hin, hold⟩ := reads_layAllW hord _ _ _ hlaid hlay s₁.heap (fun _ _ e => e)
  have L : Laid r.records w s s₁ args vs as := ⟨⟨ord, hord, hlaid⟩, hrd, hin, hold, keeps, hal.1.trans hgens, hal.2.2.1⟩
  have G₁ := G.keeps hXk keeps
  obtain ⟨a, o, pm, cd, doc, dV, kV, h1, h2, h3, h4, h5⟩ := G₁.fn hdef
  have h := call w s s₁ _ _ G₁ (hYk _ _ _ (hY w s y) keeps) a o pm cd doc dV kV h2 h3 h4 h5 (defOf_name hdef ▸ h1) L.gens args vs as hpre hlay L.reads L.well (L.low G.low)
  have hi := ident_freeW hu ha hap
  have hwi : r.claim.within = [] := List.isEmpty_iff.mp k6
  refine ⟨vs, s₁, hlaid, wpC_then (wpAny_nsGet G₁.T.g ?_)⟩
  rw [h1]
  refine wpC_bind (wpC_mono h fun v s' g => wpC_pure ?_)
  have z := g.laid (c := r.claim) hsame hwi hi L
  exact ⟨_, rfl, z.1, z.2.1, z.2.2, fun q => ⟨namesKept_of hT' hg r.keeps keeps g.2.1.old, noTable hwr q⟩⟩

set_option maxRecDepth 100000 in
set_option maxHeartbeats 8000000 in
open_top hd for PySem.Challenge.rw_oc0094_01


/-! part: Base -/

noncomputable abbrev PR : Program := PySem.Challenge.rw_oc0094_01.row.prog
noncomputable abbrev LS : List Str := looseW hd.view_39 [Str.ofString "_deduplicate"]
abbrev At (d u : Nat) (outer : List Env) : Around := { handled := none, depth := d, frames := some outer, guards := some [], units := u }
abbrev Led := List (Addr × Obj)
abbrev Map := Str → Option Value

/-- what holds around a call: the frames below, the written part, the top's facts -/
structure Amb (w : World) (mean : ExcName → Option Value) (mg mb : Map) (d u : Nat) (outer : List Env) (base h : Heap) : Prop where
  below : Below (At d u outer) base outer h
  inK : (hd.heap_39 w.params).In h
  top : Top hd.view_39 LS mean mg mb h

theorem in_less {Γ : PySem.Ctx} {d u d' u' : Nat} {outer : List Env} (hd : d ≤ d') (hu : u ≤ u') (hΓ : Γ.In (At d u outer)) : Γ.In (At d' u' outer) :=
  ⟨hΓ.1, Nat.le_trans hΓ.2.1 hd, hΓ.2.2.1, hΓ.2.2.2.1, Nat.le_trans hΓ.2.2.2.2 hu⟩
theorem wpAny_less {α : Type} {M : Model} {d u d' u' : Nat} {outer : List Env} {t : Sem α} {Q : α → Shared → Prop} {E : Value → Shared → Prop} {s : Shared}
    (hd : d ≤ d') (hu : u ≤ u') (h : wpAny M (At d' u' outer) t Q E s) : wpAny M (At d u outer) t Q E s := fun Γ p hΓ => h Γ p (in_less hd hu hΓ)
theorem wpC_less {α : Type} {M : Model} {d u d' u' : Nat} {outer : List Env} {t : Sem α} {Q : α → Shared → Prop} {s : Shared}
    (hd : d ≤ d') (hu : u ≤ u') (h : wpC M (At d' u' outer) t Q s) : wpC M (At d u outer) t Q s := fun Γ p hΓ hc => h Γ p (in_less hd hu hΓ) hc

theorem Amb.lift {w : World} {mean mg mb} {d u d' u' : Nat} {outer : List Env} {base h : Heap} (a : Amb w mean mg mb d u outer base h) : Amb w mean mg mb d' u' outer base h :=
  ⟨⟨rfl, a.below.stays, a.below.frames⟩, a.inK, a.top⟩
theorem Amb.keeps {w : World} {mean mg mb} {d u : Nat} {outer : List Env} {base h h' : Heap} (a : Amb w mean mg mb d u outer base h) (k : h.StaysIn h') : Amb w mean mg mb d u outer base h' :=
  ⟨⟨rfl, fun b o e => k b o (a.below.stays b o e), a.below.frames.of_keeps fun b o e _ => ⟨o, k b o e, rfl⟩⟩, a.inK.keeps k, a.top.keeps k⟩

theorem fr_stays {h₀ h h' : Heap} {L : Addr} {m : Map} (F : Fr h₀ L h m) (k : h.StaysIn h') : Fr h₀ L h' m :=
  ⟨F.ns.at' fun o e => k _ o e, fun b o e => k b o (F.keep b o e), F.above⟩
theorem news_stays {h₀ h h' : Heap} {L : Addr} {news : Led} (N : News h₀ L h news) (k : h.StaysIn h') : News h₀ L h' news :=
  fun p hp => ⟨k _ _ (N p hp).1, (N p hp).2⟩

/-- an object of the ledger is changed -/
theorem upd_led {h₀ h h' : Heap} {L a : Addr} {m : Map} {o o' : Obj} {news : Led} (F : Fr h₀ L h m) (N : News h₀ L h ((a, o) :: news)) (g1 : h'.get? a = some o') (g2 : Heap.SameBut a h h') (hne : ∀ p ∈ news, p.1 ≠ a) :
    Fr h₀ L h' m ∧ News h₀ L h' ((a, o') :: news) := by
  have hm := N (a, o) (.head _)
  refine ⟨⟨F.ns.sameBut g2 (Ne.symm hm.2.1), fun b ob e => (g2.2 b (fun q => ?_)).trans (F.keep b ob e), F.above⟩, fun p hp => ?_⟩
  · rw [q] at e; rw [hm.2.2] at e; cases e
  · rcases List.mem_cons.mp hp with rfl | hp
    · exact ⟨g1, hm.2⟩
    · exact ⟨(g2.2 p.1 (hne p hp)).trans (N p (.tail _ hp)).1, (N p (.tail _ hp)).2⟩

/-- the facts around a call out of a frame -/
theorem amb_in {w : World} {mean mg mb} {A₀ : Around} {base h₀ h : Heap} {outer : List Env} {L : Addr} {m : Map} {env : Env} {d u : Nat}
    (B : Below A₀ base outer h₀) (F : Fr h₀ L h m) (X : (hd.heap_39 w.params).In h₀) (T : Top hd.view_39 LS mean mg mb h₀) (hf : env.frame = some L := by rfl) (hk : env.scope.kind = .function := by rfl) :
    Amb w mean mg mb d u (env :: outer) base h :=
  have P := pushX B F hf hk
  ⟨⟨rfl, P.stays, P.frames⟩, X.keeps F.keep, T.keeps F.keep⟩

/-- a contract's use, out of a frame -/
theorem use_amb {α : Type} {w : World} {mean mg mb} {A₀ : Around} {base h₀ : Heap} {outer : List Env} {L : Addr} {m : Map} {env : Env} {d u d' u' : Nat} {t : Sem α} {Q : α → Shared → Prop} {E : Value → Shared → Prop} {s : Shared}
    (B : Below A₀ base outer h₀) (F : Fr h₀ L s.heap m) (X : (hd.heap_39 w.params).In h₀) (T : Top hd.view_39 LS mean mg mb h₀) (hf : env.frame = some L) (hk : env.scope.kind = .function)
    (c : Amb w mean mg mb d' u' (env :: outer) base s.heap → wpAny (model PR w) (At d' u' (env :: outer)) t Q E s) (hd : d ≤ d') (hu : u ≤ u') : wpAny (model PR w) (At d u (env :: outer)) t Q E s :=
  wpAny_less hd hu (c (amb_in B F X T hf hk))
theorem use_ambC {α : Type} {w : World} {mean mg mb} {A₀ : Around} {base h₀ : Heap} {outer : List Env} {L : Addr} {m : Map} {env : Env} {d u d' u' : Nat} {t : Sem α} {Q : α → Shared → Prop} {s : Shared}
    (B : Below A₀ base outer h₀) (F : Fr h₀ L s.heap m) (X : (hd.heap_39 w.params).In h₀) (T : Top hd.view_39 LS mean mg mb h₀) (hf : env.frame = some L) (hk : env.scope.kind = .function)
    (c : Amb w mean mg mb d' u' (env :: outer) base s.heap → wpC (model PR w) (At d' u' (env :: outer)) t Q s) (hd : d ≤ d') (hu : u ≤ u') : wpC (model PR w) (At d u (env :: outer)) t Q s :=
  wpC_less hd hu (c (amb_in B F X T hf hk))

section
variable {w : World} {mean : ExcName → Option Value} {mg mb : Map} {d u : Nat} {outer : List Env} {base : Heap} {s : Shared}
  {name qual : Str} {params : Arguments} {body : List Stmt} {scope : Scope} {dV kV doc pm cdv ct oc : Value} {an od : Option Addr} {osl : Array (Option Value)} {f : Addr} {pos : List Value} {kw : List (Str × Value)} {binds : List (Str × Value)}
  {Q E : Value → Shared → Prop}

/-- a def is entered: all that stands is the frame's base; nothing is raised -/
theorem enter (a : Amb w mean mg mb d u outer base s.heap)
    (ho : (hd.heap_39 w.params).lookup f = some ⟨oc, od, .func (fnOf name qual params body scope dV kV doc pm an cdv ct), osl⟩) (hcd : codeIn (hd.heap_39 w.params) cdv qual = true) (hroom : d < recursionLimit)
    (hbind : BindsTo s (fnOf name qual params body scope dV kV doc pm an cdv ct) ⟨pos, kw⟩ binds) (hloc : ∀ y ∈ binds, scope.names.lookup y.1 = some .local)
    (h : ∀ L h₁ tk, Fr s.heap L h₁ (fun y => binds.reverse.lookup y) → News s.heap L h₁ [] →
      wpN (model PR w) ((At d u outer).deeper (envOf qual scope L f cdv)) (execs body (envOf qual scope L f cdv))
        (fun fl s' => Q (match fl with | .ret v => v | _ => .none) s') { s with heap := h₁, toks := tk })
    (hcell : ∀ x ∈ scope.names, x.2 ≠ .cell) (hco : scope.isCoroutine = false) (hgen : scope.isGenerator = false) (hk : scope.kind = .function) :
    wpAny (model PR w) (At d u outer) (call (.ref f) pos kw) Q E s := by
  refine wpAny_call ?_
  refine codeAny_call_def (fd := fnOf name qual params body scope dV kV doc pm an cdv ct) (body := body) (binds := binds) hroom (a.inK _ _ ho) rfl a.top.nolimit (codeRec_of a.inK hcd) rfl hbind hcell hloc (fun h₁ hns hk₁ => ?_) hco hgen hk
  exact wpAny_mono (h s.heap.objs.size h₁ _ ⟨hns, hk₁, Nat.le_refl _⟩ News.nil) (fun _ _ x => x) fun _ _ x => x.elim

theorem codeC_call_function {prog : Program} {A : Around} {a : Addr} {args : Args} {o : Obj} {fd : FuncData} {R : Flow → Shared → Prop} (hroom : A.depth < recursionLimit)
    (ho : s.heap.get? a = some o) (hd' : o.data = .func fd) (hco : fd.scope.isCoroutine = false) (hgen : fd.scope.isGenerator = false) (hbody : fd.body = .stmts body) (hcd : s.heap.CodeRec fd.code fd.qualname)
    (h : wpN (model prog w) A.in1 (bindArgs fd args) (fun binds s₁ =>
      wpN (model prog w) A.in1 (newFunctionEnv fd.scope fd.globals fd.closure binds (fd.qualname ++ ".<locals>.") (some a) fd.code none fd.builtins)
        (fun env s₂ => s₂.heap.NoLimit ∧ codeC (model prog w) A (.func body env) R s₂) s₁) s) :
    codeC (model prog w) A (.call (.ref a) args) R s := by
  refine codeC_of_tree ?_
  show wpC _ A.in1 (callAny (.ref a) args) _ s
  refine wpC_of ?_
  simp only [callAny]
  refine wpAny_bind (wpAny_load ho ?_)
  obtain ⟨c, oc, vs, tq, hc, hoc, hdc, hq⟩ := hcd
  simp only [hd', callFunction, hco, hgen, hbody, hc]
  rw [hc] at h
  refine wpAny_bind (m := field (.ref c) 1) (wpAny_field hoc hdc hq (wpAny_bind (wpAny_pure ?_)))
  exact wpAny_bind (wpAny_mono h (fun binds s₁ h₁ => wpAny_bind (wpAny_mono h₁ (fun env s₂ h₂ => wpAny_bind (wpAny_enterFrame h₂.1 hroom
    (wpAny_pure (And.intro rfl (And.intro rfl h₂.2))))) fun _ _ h' => h')) fun _ _ h' => h')

/-- a def is entered from a clean context -/
theorem enterC (a : Amb w mean mg mb d u outer base s.heap)
    (ho : (hd.heap_39 w.params).lookup f = some ⟨oc, od, .func (fnOf name qual params body scope dV kV doc pm an cdv ct), osl⟩) (hcd : codeIn (hd.heap_39 w.params) cdv qual = true) (hroom : d < recursionLimit)
    (hbind : BindsTo s (fnOf name qual params body scope dV kV doc pm an cdv ct) ⟨pos, kw⟩ binds) (hloc : ∀ y ∈ binds, scope.names.lookup y.1 = some .local)
    (h : ∀ L h₁ tk, Fr s.heap L h₁ (fun y => binds.reverse.lookup y) → News s.heap L h₁ [] →
      wpC (model PR w) ((At d u outer).deeper (envOf qual scope L f cdv)) (execs body (envOf qual scope L f cdv))
        (fun fl s' => Q (match fl with | .ret v => v | _ => .none) s') { s with heap := h₁, toks := tk })
    (hcell : ∀ x ∈ scope.names, x.2 ≠ .cell) (hco : scope.isCoroutine = false) (hgen : scope.isGenerator = false) (hk : scope.kind = .function) :
    wpC (model PR w) (At d u outer) (call (.ref f) pos kw) Q s := by
  refine wpC_call ?_
  refine codeC_call_function (body := body) (fd := fnOf name qual params body scope dV kV doc pm an cdv ct) hroom (a.inK _ _ ho) rfl hco hgen rfl (codeRec_of a.inK hcd) (hbind _ _ _ _ ?_)
  refine wpAny_newFunctionEnv hcell hloc (fun h₁ hns hsb => ⟨a.top.nolimit.fresh _ hsb, codeC_func (wpC_mono (h s.heap.objs.size h₁ _ ⟨hns, fun b o e => hsb.extBut b o (Nat.ne_of_lt (Heap.lt_size e)) (Heap.get?_push_of_some _ e), Nat.le_refl _⟩ News.nil) fun f s' x => ?_)⟩) hk
  cases f <;> exact x
end

/-! ends: the frame's base stands in the heap at the end -/
section
variable {h₀ h' : Heap} {L : Addr} {m : Map} {s : Shared} {Q : Value → Shared → Prop} {t : Tok} {tk' : Nat}
theorem ret_int {x y : Int} (hret : ∀ t h' tk', h₀.StaysIn h' → Q (.int x t) { s with heap := h', toks := tk' }) (F : Fr h₀ L h' m) (e : y = x) : Q (.int y t) { s with heap := h', toks := tk' } := by
  subst e; exact hret t h' tk' F.keep
theorem ret_str {x y : Str} (hret : ∀ t h' tk', h₀.StaysIn h' → Q (.str x t) { s with heap := h', toks := tk' }) (F : Fr h₀ L h' m) (e : y = x) : Q (.str y t) { s with heap := h', toks := tk' } := by
  subst e; exact hret t h' tk' F.keep
theorem ret_bytes {x y : Array UInt8} (hret : ∀ t h' tk', h₀.StaysIn h' → Q (.bytes x t) { s with heap := h', toks := tk' }) (F : Fr h₀ L h' m) (e : y = x) : Q (.bytes y t) { s with heap := h', toks := tk' } := by
  subst e; exact hret t h' tk' F.keep
theorem ret_bool {x y : Bool} (hret : ∀ h' tk', h₀.StaysIn h' → Q (.bool x) { s with heap := h', toks := tk' }) (F : Fr h₀ L h' m) (e : y = x) : Q (.bool y) { s with heap := h', toks := tk' } := by
  subst e; exact hret h' tk' F.keep
end


/-- the walk stops here -/
def Stop (P : Prop) : Prop := P
theorem Stop.go {P : Prop} (h : P) : Stop P := h
theorem Stop.out {P : Prop} (h : Stop P) : P := h
/-- a while that raises nothing -/
theorem wpN_While {prog : Program} {w : World} {A : Around} {s : Shared} {env : Env} {test : Expr} {body orelse : List Stmt} {pos : Pos} {Q : Flow → Shared → Prop} (I : Nat → Shared → Prop)
    (turn : ∀ n s, I n s → wpN (model prog w) A (isTrue test env (eval test env)) (fun b s₂ =>
        if b then Stop (wpN (model prog w) A (execs body env) (fun f s₃ => match f with
            | .next | .cont => Stop (∃ m, m < n ∧ I m s₃)
            | .brk => Q .next s₃
            | .ret v => Q (.ret v) s₃) s₂)
        else Stop (wpN (model prog w) A (execs orelse env) Q s₂)) s)
    (n : Nat) (h : I n s) : wpN (model prog w) A (exec (.While test body orelse pos) env) Q s := by
  refine wpAny_While (codeAny_whileLoop I (fun n s hI => wpAny_mono (turn n s hI) (fun b s₂ h₂ => ?_) fun _ _ x => x.elim) n h)
  cases b with
  | false => exact wpAny_mono (Stop.out h₂) (fun _ _ x => x) fun _ _ x => x.elim
  | true => exact wpAny_mono (Stop.out h₂) (fun f _ x => by cases f <;> exact x) fun _ _ x => x.elim

theorem wpN_cons {M : Model} {A : Around} {s : Shared} {env : Env} {st : Stmt} {rest : List Stmt} {Q : Flow → Shared → Prop}
    (h : wpN M A (exec st env) (fun f s' => match f with | .next => Stop (wpN M A (execs rest env) Q s') | f => Q f s') s) : wpN M A (execs (st :: rest) env) Q s :=
  wpAny_execs_cons (wpAny_mono h (fun f s' x => by cases f <;> exact x) fun _ _ x => x)
/-- a statement by what holds behind it -/
theorem wpN_cut {M : Model} {A : Around} {s : Shared} {env : Env} {st : Stmt} {rest : List Stmt} {Q : Flow → Shared → Prop} (P : Shared → Prop)
    (h : wpN M A (exec st env) (fun f s' => Stop (f = .next ∧ P s')) s) (h2 : ∀ s', P s' → wpN M A (execs rest env) Q s') : wpN M A (execs (st :: rest) env) Q s :=
  wpAny_execs_cons (wpAny_mono h (fun f s' x => by obtain ⟨rfl, hp⟩ := x; exact h2 s' hp) fun _ _ x => x)
theorem wpC_cut {M : Model} {A : Around} {s : Shared} {env : Env} {st : Stmt} {rest : List Stmt} {Q : Flow → Shared → Prop} (P : Shared → Prop)
    (h : wpC M A (exec st env) (fun f s' => Stop (f = .next ∧ P s')) s) (h2 : ∀ s', P s' → wpC M A (execs rest env) Q s') : wpC M A (execs (st :: rest) env) Q s :=
  wpC_execs_cons (wpC_mono h fun f s' x => by obtain ⟨rfl, hp⟩ := x; exact h2 s' hp)
/-- a state of a frame: its names, its ledger -/
def Sta (s₀ : Shared) (h₀ : Heap) (L : Addr) (P : (Str → Option Value) → Led → Prop) (s' : Shared) : Prop :=
  ∃ h tk m news, s' = ⟨h, s₀.gens, s₀.drawn, tk, s₀.os⟩ ∧ Fr h₀ L h m ∧ News h₀ L h news ∧ P m news
theorem stop_here {α : Type} {M : Model} {A : Around} {E : Value → Shared → Prop} {s : Shared} {t : Sem α} {Q : α → Shared → Prop} (h : Stop (wpAny M A t Q E s)) : wpAny M A t Q E s := h

/-- what is wanted behind, as a letter -/
theorem wpN_abs {α : Type} {M : Model} {A : Around} {s : Shared} {t : Sem α} {Q : α → Shared → Prop} (h : ∀ Q' : α → Shared → Prop, (∀ a s, Q a s → Q' a s) → wpN M A t Q' s) : wpN M A t Q s := h Q fun _ _ x => x
theorem wpC_abs {α : Type} {M : Model} {A : Around} {s : Shared} {t : Sem α} {Q : α → Shared → Prop} (h : ∀ Q' : α → Shared → Prop, (∀ a s, Q a s → Q' a s) → wpC M A t Q' s) : wpC M A t Q s := h Q fun _ _ x => x


/-! part: Ba3 -/

namespace Ba
theorem plainAttrs : PlainAttrs "bytearray" :=
  ⟨⟨"bytearray.__getattribute__", by rw [typeLookup_type, builtinLookup_eq_fast]; kernel_rfl, by decide +kernel⟩, by rw [typeLookup_type, builtinLookup_eq_fast]; kernel_rfl⟩
theorem ty_append : typeOf (.builtin "bytearray.append") = pure (.type "method_descriptor") := by show builtinType _ = _; rw [builtinType_eq_fast]; kernel_rfl
theorem ty_extend : typeOf (.builtin "bytearray.extend") = pure (.type "method_descriptor") := by show builtinType _ = _; rw [builtinType_eq_fast]; kernel_rfl
end Ba

section
variable {M : Model} {A : Around} {s : Shared} {env : Env} {Q : Value → Shared → Prop}

theorem gm_append {E : Value → Shared → Prop} {a : Addr} {b : Array UInt8} {pl : Sem Bool} {Q : Value × List Value → Shared → Prop} (h : s.heap.get? a = some (baObj b)) (hq : Q (.builtin "bytearray.append", [.ref a]) s) :
    wpAny M A (getMethod (.ref a) "append" pl) Q E s :=
  getMethod_builtin (ba_typeIs h) Ba.plainAttrs Ba.slot_append Ba.ty_append (fun a' e => by cases e; exact ⟨_, h, rfl⟩) hq
theorem gm_extend {E : Value → Shared → Prop} {a : Addr} {b : Array UInt8} {pl : Sem Bool} {Q : Value × List Value → Shared → Prop} (h : s.heap.get? a = some (baObj b)) (hq : Q (.builtin "bytearray.extend", [.ref a]) s) :
    wpAny M A (getMethod (.ref a) "extend" pl) Q E s :=
  getMethod_builtin (ba_typeIs h) Ba.plainAttrs Ba.slot_extend Ba.ty_extend (fun a' e => by cases e; exact ⟨_, h, rfl⟩) hq

/-- a call of a plain name -/
theorem wpC_Call_Name {x : Str} {p pos : Pos} {args : List Expr}
    (h : wpN M A (eval (.Name x p) env) (fun f s₁ => wpC M A (callWith pos f [] (backTo pos (starEach args env)) []) Q s₁) s) :
    wpC M A (eval (.Call (.Name x p) args [] pos) env) Q s := wpC_then h

theorem wpC_callWith_type0 {T : String} {pos : Pos} (h : wpC M A (call (.type T) []) Q s) : wpC M A (callWith pos (.type T) [] (backTo pos (starEach [] env)) []) Q s := by
  unfold callWith
  refine wpC_bind (wpC_holding (wpC_of (evalArgs_nil3 ?_)))
  refine wpC_bind (wpC_standAt ?_)
  refine wpC_then (wpAny_pure ?_)
  exact wpC_bind (wpC_mono h fun r s₂ hr => wpC_of (wpAny_bind (wpAny_holding (wpAny_point (wpAny_pure hr)))))

theorem wpC_callWith_builtin1 {id : String} {self : Value} {e : Expr} {pos : Pos} (h : wpN M A (eval e env) (fun v s₁ => wpC M A (call (.builtin id) [self, v]) Q s₁) s)
    (he : starEach [e] env = [(false, eval e env)] := by rfl) : wpC M A (callWith pos (.builtin id) [self] (backTo pos (starEach [e] env)) []) Q s := by
  rw [he]
  unfold callWith
  refine wpC_bind (wpC_holding (wpC_of (evalArgs_plain (spliced_cons (wpAny_mono h (fun v s₁ h₁ => spliced_nil ?_) fun _ _ x => x)))))
  refine wpC_bind (wpC_standAt ?_)
  refine wpC_then (wpAny_pure ?_)
  exact wpC_bind (wpC_mono h₁ fun r s₂ hr => wpC_of (wpAny_bind (wpAny_holding (wpAny_point (wpAny_pure hr)))))

/-- a call of a def of the written part -/
theorem wpC_callWith_K {K : Frag} {f : Value} {e : Expr} {rest : List Expr} {pos : Pos} (hk : keepIn K f = true)
    (h : wpN M A (spliced (backTo pos (starEach (e :: rest) env))) (fun vs s₁ => K.In s₁.heap ∧ wpC M A (call f vs) Q s₁) s)
    (he : starEach (e :: rest) env = (false, eval e env) :: starEach rest env := by rfl) (hplain : (backTo pos (starEach rest env)).any (·.1) = false := by rfl) :
    wpC M A (callWith pos f [] (backTo pos (starEach (e :: rest) env)) []) Q s := by
  rw [he] at h ⊢
  unfold callWith
  refine wpC_bind (wpC_holding (wpC_of (evalArgs_plain (wpAny_mono h (fun vs s₁ h₁ => ?_) fun _ _ x => x))))
  refine wpC_bind (wpC_standAt ?_)
  obtain ⟨k, hk', Lk⟩ := keeps_K (M := M) hk _ h₁.1
  have hp : (((false, eval e env) :: backTo pos (starEach rest env)).any (·.1) || ([] : List (Option Str × Sem Value)).any (·.1.isNone)) = false := by
    show ((false || (backTo pos (starEach rest env)).any (·.1)) || false) = false
    rw [hplain]; rfl
  have hp' : ((backTo pos ((false, eval e env) :: starEach rest env)).any (·.1) || ([] : List (Option Str × Sem Value)).any (·.1.isNone)) = false := hp
  simp only [hp']
  refine wpC_then (Lk.here ?_)
  have tail : ∀ {t : Sem Value}, wpC M A t Q s₁ → wpC M A (t >>= fun r => holding [r] point >>= fun _ => pure r) Q s₁ :=
    fun ht => wpC_bind (wpC_mono ht fun r s₂ hr => wpC_of (wpAny_bind (wpAny_holding (wpAny_point (wpAny_pure hr)))))
  have marked (mk : Value) : wpC M A (callMarked mk f ([] ++ vs) []) Q s₁ := by unfold callMarked; exact wpC_keep h₁.2
  rcases hk' with rfl | rfl | rfl <;> dsimp only <;> first | exact tail h₁.2 | (split <;> first | exact tail h₁.2 | exact tail (marked _))

/-- a method's call -/
theorem wpC_Method {o : Expr} {name : Str} {apos pos : Pos} {args : List Expr} {pl : Sem Bool}
    (h : wpN M A (eval o env) (fun ov s₁ => wpN M A (getMethod ov name pl) (fun fx s₂ => wpC M A (callWith pos fx.1 fx.2 (backTo pos (starEach args env)) []) Q s₂) s₁) s)
    (he : eval (.Call (.Attribute o name apos) args [] pos) env = (do
      let ov ← eval o env
      standAt apos.atName
      let (f, first) ← holding [ov] (getMethod ov name pl)
      callWith pos f first (backTo pos (starEach args env)) []) := by rfl) :
    wpC M A (eval (.Call (.Attribute o name apos) args [] pos) env) Q s := by
  rw [he]
  exact wpC_then (wpAny_mono h (fun ov s₁ h₁ => wpC_bind (wpC_standAt (wpC_bind (wpC_holding (wpC_of (wpAny_mono h₁ (fun fx s₂ h₂ => h₂) fun _ _ x => x)))))) fun _ _ x => x)
end

/-! the frame's names as a list -/
def mk (l : List (Str × Option Value)) : Map := fun y => (l.lookup y).getD none
theorem mk_set (x : Str) (v : Option Value) (l : List (Str × Option Value)) : (fun y => if y = x then v else mk l y) = mk ((x, v) :: l) := by
  funext y
  unfold mk
  by_cases h : y = x
  · subst h; simp
  · have : (y == x) = false := by simpa using h
    simp [List.lookup_cons, this, h]
theorem mk_lookup (l : List (Str × Value)) : (fun y => l.lookup y) = mk (l.map fun p => (p.1, some p.2)) := by
  funext y
  unfold mk
  induction l with
  | nil => rfl
  | cons p r ih =>
    obtain ⟨a, v⟩ := p
    simp only [List.map_cons, List.lookup_cons]
    cases h : y == a <;> simp_all
theorem mk_congr (names : List Str) {l l' : List (Str × Option Value)} (h1 : ∀ y ∈ names, mk l y = mk l' y) (h2 : (l.all fun p => names.contains p.1) = true) (h3 : (l'.all fun p => names.contains p.1) = true) : mk l = mk l' := by
  have no : ∀ (l : List (Str × Option Value)) (y : Str), (l.all fun p => names.contains p.1) = true → y ∉ names → mk l y = none := by
    intro l y
    induction l with
    | nil => intro _ _; rfl
    | cons p r ih =>
      intro hl hy
      obtain ⟨hp, hr⟩ := Bool.and_eq_true_iff.mp (by simpa only [List.all_cons] using hl)
      have : (y == p.1) = false := by
        cases e : y == p.1 with
        | false => rfl
        | true => exact absurd (by have := eq_of_beq e; subst this; exact List.contains_iff_mem.mp hp) hy
      have ih' := ih hr hy
      unfold mk at ih' ⊢
      rw [List.lookup_cons, this]
      exact ih'
  funext y
  by_cases hy : y ∈ names
  · exact h1 y hy
  · rw [no l y h2 hy, no l' y h3 hy]
theorem mk_names (names : List Str) {l : List (Str × Option Value)} (hl : (l.all fun p => names.contains p.1) = true) : mk l = mk (names.map fun x => (x, mk l x)) := by
  have look : ∀ (ns : List Str) (y : Str), mk (ns.map fun x => (x, mk l x)) y = if y ∈ ns then mk l y else none := by
    intro ns y
    induction ns with
    | nil => rfl
    | cons x r ih =>
      have e : mk ((x :: r).map fun x => (x, mk l x)) y = if y = x then mk l x else mk (r.map fun x => (x, mk l x)) y := by rw [List.map_cons, ← mk_set]
      rw [e, ih]
      by_cases h : y = x
      · subst h; simp
      · simp [h]
  refine mk_congr names (fun y hy => ?_) hl (by simp)
  rw [look, if_pos hy]
theorem fr_norm (names : List Str) {h₀ h : Heap} {L : Addr} {l : List (Str × Option Value)} (F : Fr h₀ L h (mk l)) (hl : (l.all fun p => names.contains p.1) = true) : Fr h₀ L h (mk (names.map fun x => (x, mk l x))) :=
  mk_names names hl ▸ F
theorem fr_mk {h₀ h : Heap} {L : Addr} {m m' : Map} (F : Fr h₀ L h m) (e : m = m') : Fr h₀ L h m' := e ▸ F

section
variable {M : Model} {A : Around} {E : Value → Shared → Prop} {hp : Heap} {g : Array GenState} {dr : Drawn} {tk₀ : Nat} {os : OsState} {name : Str} {scope : Scope} {L a : Addr} {cd : Value} {h₀ : Heap} {l : List (Str × Option Value)} {news : Led}
/-- a name is stored; what it holds keeps no token -/
theorem st_int {x : Str} {i : Int} {t : Tok} {Q : Unit → Shared → Prop} (F : Fr h₀ L hp (mk l)) (N : News h₀ L hp news)
    (h : ∀ h' tk t', Fr h₀ L h' (mk ((x, some (.int i t')) :: l)) → News h₀ L h' news → Q () ⟨h', g, dr, tk, os⟩)
    (hk : scope.kind = .function := by rfl) (hl : (envOf name scope L a cd).kindOf x = some .local := by rfl) :
    wpAny M A (storeName (envOf name scope L a cd) x (.int i t)) Q E ⟨hp, g, dr, tk₀, os⟩ :=
  stN (s := ⟨hp, g, dr, tk₀, os⟩) F N (fun h' F' N' => h h' _ t (by rw [← mk_set]; exact F') N') hk hl
theorem st_str {x : Str} {i : Str} {t : Tok} {Q : Unit → Shared → Prop} (F : Fr h₀ L hp (mk l)) (N : News h₀ L hp news)
    (h : ∀ h' tk t', Fr h₀ L h' (mk ((x, some (.str i t')) :: l)) → News h₀ L h' news → Q () ⟨h', g, dr, tk, os⟩)
    (hk : scope.kind = .function := by rfl) (hl : (envOf name scope L a cd).kindOf x = some .local := by rfl) :
    wpAny M A (storeName (envOf name scope L a cd) x (.str i t)) Q E ⟨hp, g, dr, tk₀, os⟩ :=
  stN (s := ⟨hp, g, dr, tk₀, os⟩) F N (fun h' F' N' => h h' _ t (by rw [← mk_set]; exact F') N') hk hl
theorem st_bytes {x : Str} {i : Array UInt8} {t : Tok} {Q : Unit → Shared → Prop} (F : Fr h₀ L hp (mk l)) (N : News h₀ L hp news)
    (h : ∀ h' tk t', Fr h₀ L h' (mk ((x, some (.bytes i t')) :: l)) → News h₀ L h' news → Q () ⟨h', g, dr, tk, os⟩)
    (hk : scope.kind = .function := by rfl) (hl : (envOf name scope L a cd).kindOf x = some .local := by rfl) :
    wpAny M A (storeName (envOf name scope L a cd) x (.bytes i t)) Q E ⟨hp, g, dr, tk₀, os⟩ :=
  stN (s := ⟨hp, g, dr, tk₀, os⟩) F N (fun h' F' N' => h h' _ t (by rw [← mk_set]; exact F') N') hk hl
theorem st_val {x : Str} {v : Value} {Q : Unit → Shared → Prop} (F : Fr h₀ L hp (mk l)) (N : News h₀ L hp news)
    (h : ∀ h' tk, Fr h₀ L h' (mk ((x, some v) :: l)) → News h₀ L h' news → Q () ⟨h', g, dr, tk, os⟩)
    (hk : scope.kind = .function := by rfl) (hl : (envOf name scope L a cd).kindOf x = some .local := by rfl) :
    wpAny M A (storeName (envOf name scope L a cd) x v) Q E ⟨hp, g, dr, tk₀, os⟩ :=
  stN (s := ⟨hp, g, dr, tk₀, os⟩) F N (fun h' F' N' => h h' _ (by rw [← mk_set]; exact F') N') hk hl
end

/-- for xi, xv in enumerate(a list of the base), in a clean context -/
theorem forEnumC {prog : Program} {w : World} {A : Around} {env : Env} {hp : Heap} {g : Array GenState} {dr : Drawn} {tk₀ : Nat} {os : OsState} {h₀ : Heap} {m : Map} {news : Led} {l e it : Addr} {items : Array Value}
    {xi xv : Str} {pi pv pt : Pos} {x1} {body : List Stmt} {Q : Flow → Shared → Prop} (J : Nat → Map → Led → Prop)
    (hh : A.handled = none) (hxi : env.kindOf xi = some .local) (hxv : env.kindOf xv = some .local) (hpk : (env.scope.kind == .class || (env.scope.kind == .module && env.locals != env.globals)) = false)
    (hl : h₀.IsList l items) (he : IsEnum hp e it 0 .none) (hit : hp.IsListIter it l 0) (hei : e ≠ it) (heL : e ≠ env.locals) (hiL : it ≠ env.locals) (he0 : h₀.get? e = none) (hi0 : h₀.get? it = none)
    (hen : ∀ p ∈ news, p.1 ≠ e) (hin : ∀ p ∈ news, p.1 ≠ it)
    (F : Fr h₀ env.locals hp m) (N : News h₀ env.locals hp news) (hJ : J 0 m news)
    (step : ∀ i v t m₁ news₁ h tk oe oi, items[i]? = some v → J i m₁ news₁ → (∀ p ∈ news₁, p.1 ≠ e ∧ p.1 ≠ it) → Fr h₀ env.locals h (fun y => if y = xv then some v else if y = xi then some (.int i t) else m₁ y) → News h₀ env.locals h (news₁ ++ [(e, oe), (it, oi)]) →
      wpC (model prog w) A (execs body env) (fun f s₂ => Stop (f = .next ∧ ∃ h' tk' m₂ news₂, s₂ = ⟨h', g, dr, tk', os⟩ ∧ Fr h₀ env.locals h' m₂ ∧ News h₀ env.locals h' (news₂ ++ [(e, oe), (it, oi)]) ∧ (∀ p ∈ news₂, p.1 ≠ e ∧ p.1 ≠ it) ∧ J (i + 1) m₂ news₂)) ⟨h, g, dr, tk, os⟩)
    (done : ∀ h tk m' news', Fr h₀ env.locals h m' → News h₀ env.locals h news' → J items.size m' news' → Q .next ⟨h, g, dr, tk, os⟩) :
    codeC (model prog w) A (.forLoop (.Tuple [.Name xi pi, .Name xv pv] x1 pt) (.ref e) body [] env) Q ⟨hp, g, dr, tk₀, os⟩ := by
  have hlt0 : l < h₀.objs.size := by obtain ⟨o, ho, _⟩ := id hl; exact Heap.lt_size ho
  have hle : l ≠ e := fun q => by obtain ⟨o, ho, _⟩ := id hl; rw [q, he0] at ho; cases ho
  have hli : l ≠ it := fun q => by obtain ⟨o, ho, _⟩ := id hl; rw [q, hi0] at ho; cases ho
  refine codeC_forLoop
    (fun k s' => ∃ h tk m' news' i old, s' = ⟨h, g, dr, tk, os⟩ ∧ IsEnum h e it ((i : Nat) : Int) old ∧ h.IsListIter it l i ∧ Fr h₀ env.locals h m' ∧ News h₀ env.locals h news' ∧ (∀ p ∈ news', p.1 ≠ e ∧ p.1 ≠ it) ∧ J i m' news' ∧ i ≤ items.size ∧ k = items.size + 1 - i)
    ?_ (items.size + 1) ⟨hp, tk₀, m, news, 0, .none, rfl, he, hit, F, N, fun p hq => ⟨hen p hq, hin p hq⟩, hJ, Nat.zero_le _, rfl⟩
  rintro k s' ⟨H, tk, m', news', i, old, rfl, he', hit', F', N', hne', hJ', hi, rfl⟩
  have hl' : H.IsList l items := hl.at fun o x => F'.keep l o x
  cases hv : items[i]? with
  | none =>
    have hsz : i = items.size := Nat.le_antisymm hi (by simpa using hv)
    refine wpAny_pyNext_enum_end hh he' hit' hl' hv fun h₁ he₁ => ?_
    refine wpC_of (wpAny_execs_nil ?_)
    have k₁ : ∀ b o, b ≠ it → H.get? b = some o → h₁.get? b = some o := fun b o hb x => he₁ b o hb x
    refine done h₁ tk m' news' ⟨F'.ns.at' fun o x => k₁ _ o (Ne.symm hiL) x, fun b o x => k₁ b o (fun q => by rw [q, hi0] at x; cases x) (F'.keep b o x), F'.above⟩ (fun p hq => ⟨k₁ _ _ (hne' p hq).2 (N' p hq).1, (N' p hq).2⟩) (hsz ▸ hJ')
  | some v =>
    have hlt : i < items.size := (Array.getElem?_eq_some_iff.mp hv).1
    have heH : e < H.objs.size := Heap.lt_size he'
    have hLH : env.locals < H.objs.size := F'.ns.lt
    obtain ⟨oi0, hoi0, _⟩ := id hit'
    have hiH : it < H.objs.size := Heap.lt_size hoi0
    refine wpAny_pyNext_enum_item he' hit' hl' hv hei fun h₁ heo hit₁ ht₁ hz₁ hk₁ => ?_
    refine wpAny_letOwnedTupleGo_enum heo fun h₂ he₂ hs₂ => ?_
    replace hs₂ : Heap.SameBut e h₁ h₂ := hs₂
    have ht₂ : h₂.IsTuple H.objs.size #[.int i tk, v] := ⟨_, (hs₂.2 _ (Nat.ne_of_gt heH)).trans ht₁, rfl, _, rfl⟩
    have hz₂ : h₂.objs.size = H.objs.size + 1 := hs₂.1.trans hz₁
    refine wpAny_assign_Tuple hh ht₂ rfl rfl fun h₃ hx₃ => ?_
    replace hx₃ : Heap.ExtBut h₂.objs.size h₂ h₃ := hx₃
    have k₂ : ∀ b o, b ≠ e → b ≠ it → H.get? b = some o → h₂.get? b = some o := fun b o h1 h2 x => hs₂.extBut b o h1 (hk₁ b o h1 h2 x)
    have k₃ : ∀ b o, b < H.objs.size → h₂.get? b = some o → h₃.get? b = some o := fun b o hb x => hx₃ b o (by rw [hz₂]; exact Nat.ne_of_lt (Nat.lt_succ_of_lt hb)) x
    have F₃ : Fr h₀ env.locals h₃ m' := ⟨F'.ns.at' fun o x => k₃ _ o hLH (k₂ _ o (Ne.symm heL) (Ne.symm hiL) x),
      fun b o x => k₃ b o (Heap.lt_size (F'.keep b o x)) (k₂ b o (fun q => by rw [q, he0] at x; cases x) (fun q => by rw [q, hi0] at x; cases x) (F'.keep b o x)), F'.above⟩
    obtain ⟨oi, hoi, hoi'⟩ := (hit₁.extBut hs₂.extBut (Ne.symm hei)).at fun o x => k₃ it o hiH x
    have he₃ : h₃.get? e = _ := k₃ e _ heH he₂
    have N₃ : News h₀ env.locals h₃ (news' ++ [(e, _), (it, oi)]) := fun p hq => by
      rcases List.mem_append.mp hq with hq | hq
      · exact ⟨k₃ _ _ (Heap.lt_size (N' p hq).1) (k₂ _ _ (hne' p hq).1 (hne' p hq).2 (N' p hq).1), (N' p hq).2⟩
      · rcases List.mem_cons.mp hq with rfl | hq
        · exact ⟨he₃, heL, he0⟩
        · rw [List.mem_singleton.mp hq]; exact ⟨hoi, hiL, hi0⟩
    show wpN _ A (do holding [v] (assign (.Name xi pi) env (.int i tk)); do holding [] (assign (.Name xv pv) env v); pure ()) _ _
    refine wpAny_bind (wpAny_holding (wpAny_assign_Name (wpAny_storeName_local hxi F₃.ns (fun h₄ hn₄ hs₄ => ?_) hpk)))
    have F₄ := F₃.set hn₄ hs₄
    refine wpAny_bind (wpAny_holding (wpAny_assign_Name (wpAny_storeName_local hxv F₄.ns (fun h₅ hn₅ hs₅ => wpAny_pure ?_) hpk)))
    refine wpC_mono (step i v tk m' news' h₅ _ _ oi hv hJ' hne' (F₄.set hn₅ hs₅) ((N₃.set hs₄).set hs₅)) fun f s₃ h₆ => ?_
    obtain ⟨rfl, h', tk', m₂, news₂, rfl, F₂, N₂, hne₂, hJ₂⟩ := h₆
    refine ⟨items.size + 1 - (i + 1), by omega, h', tk', m₂, news₂, i + 1, v, rfl, ?_, ?_, F₂, fun p hq => N₂ p (List.mem_append_left _ hq), hne₂, hJ₂, hlt, rfl⟩
    · have : ((i + 1 : Nat) : Int) = (i : Int) + 1 := by push_cast; rfl
      rw [this]; exact (N₂ _ (List.mem_append_right _ (.head _))).1
    · exact ⟨oi, (N₂ _ (List.mem_append_right _ (.tail _ (.head _)))).1, hoi'⟩


/-! part: Plain -/

def tF (j b : Int) : Int := if 36 * (j + 1) - b < 1 then 1 else if 36 * (j + 1) - b > 26 then 26 else 36 * (j + 1) - b
theorem tF_lo (j b : Int) : 1 ≤ tF j b := by unfold tF; split <;> (try split) <;> omega
theorem tF_hi (j b : Int) : tF j b ≤ 26 := by unfold tF; split <;> (try split) <;> omega

/-- the digits' signs, as numbers -/
def digitsL : List Nat := [97, 98, 99, 100, 101, 102, 103, 104, 105, 106, 107, 108, 109, 110, 111, 112, 113, 114, 115, 116, 117, 118, 119, 120, 121, 122, 48, 49, 50, 51, 52, 53, 54, 55, 56, 57]
def digitB (d : Int) : Nat := digitsL.getD d.toNat 0

def ggi : Nat → Int → Int → Int → List Nat
  | 0, _, _, _ => []
  | f + 1, n, b, j => if n < tF j b then [digitB n] else digitB (tF j b + Int.fmod (n - tF j b) (36 - tF j b)) :: ggi f (Int.fdiv (n - tF j b) (36 - tF j b)) b (j + 1)

theorem fdiv_step {n t : Int} (h1 : 1 ≤ t) (h2 : t ≤ 26) (h3 : t ≤ n) : 0 ≤ Int.fdiv (n - t) (36 - t) ∧ Int.fdiv (n - t) (36 - t) < n := by
  have e : Int.fdiv (n - t) (36 - t) = (n - t) / (36 - t) := Int.fdiv_eq_ediv_of_nonneg _ (by omega)
  rw [e]
  refine ⟨Int.ediv_nonneg (by omega) (by omega), ?_⟩
  refine Int.lt_of_le_of_lt (Int.ediv_le_self _ (by omega)) (by omega)
theorem fmod_step {n t : Int} (h2 : t ≤ 26) : 0 ≤ Int.fmod (n - t) (36 - t) ∧ Int.fmod (n - t) (36 - t) < 36 - t := by
  have e : Int.fmod (n - t) (36 - t) = (n - t) % (36 - t) := Int.fmod_eq_emod_of_nonneg _ (by omega)
  rw [e]
  exact ⟨Int.emod_nonneg _ (by omega), Int.emod_lt_of_pos _ (by omega)⟩

/-- more fuel changes nothing -/
theorem ggi_fuel : ∀ (f g : Nat) (n b j : Int), 0 ≤ n → n.toNat < f → n.toNat < g → ggi f n b j = ggi g n b j
  | 0, _, _, _, _, _, h, _ => absurd h (Nat.not_lt_zero _)
  | _ + 1, 0, _, _, _, _, _, h => absurd h (Nat.not_lt_zero _)
  | f + 1, g + 1, n, b, j, h0, hf, hg => by
    unfold ggi
    split
    · rfl
    · rename_i hlt
      have := fdiv_step (tF_lo j b) (tF_hi j b) (Int.not_lt.mp hlt)
      rw [ggi_fuel f g _ b (j + 1) this.1 (by omega) (by omega)]

def ggiF (n b : Int) : List Nat := ggi (n.toNat + 1) n b 0

def adLoop : Nat → Int → Int → Int
  | 0, d, v => v + Int.fdiv (36 * d) (d + 38)
  | f + 1, d, v => if d > 455 then adLoop f (Int.fdiv d 35) (v + 36) else v + Int.fdiv (36 * d) (d + 38)
theorem fdiv35 {d : Int} (h : d > 455) : 0 ≤ Int.fdiv d 35 ∧ Int.fdiv d 35 < d := by
  have e : Int.fdiv d 35 = d / 35 := Int.fdiv_eq_ediv_of_nonneg _ (by omega)
  rw [e]; omega
theorem adLoop_fuel : ∀ (f g : Nat) (d v : Int), d.toNat < f → d.toNat < g → adLoop f d v = adLoop g d v
  | 0, _, _, _, h, _ => absurd h (Nat.not_lt_zero _)
  | _ + 1, 0, _, _, _, h => absurd h (Nat.not_lt_zero _)
  | f + 1, g + 1, d, v, hf, hg => by
    unfold adLoop
    split
    · rename_i h
      have := fdiv35 h
      exact adLoop_fuel f g _ _ (by omega) (by omega)
    · rfl
def adaptD (d : Int) (first : Bool) (nc : Int) : Int :=
  (if first then Int.fdiv d 700 else Int.fdiv d 2) + Int.fdiv (if first then Int.fdiv d 700 else Int.fdiv d 2) nc
def adaptF (d : Int) (first : Bool) (nc : Int) : Int := adLoop ((adaptD d first nc).toNat + 1) (adaptD d first nc) 0
theorem fdiv_nn {d k : Int} (h : 0 ≤ d) (hk : 0 ≤ k) : 0 ≤ Int.fdiv d k := by
  rw [Int.fdiv_eq_ediv_of_nonneg _ hk]; exact Int.ediv_nonneg h hk
theorem fdiv_le {d k : Int} (h : 0 ≤ d) (hk : 0 ≤ k) : Int.fdiv d k ≤ d := by
  rw [Int.fdiv_eq_ediv_of_nonneg _ hk]; exact Int.ediv_le_self _ h
theorem adaptD_nn {d : Int} {first : Bool} {nc : Int} (h : 0 ≤ d) (hn : 0 ≤ nc) : 0 ≤ adaptD d first nc := by
  unfold adaptD
  cases first
  · have := fdiv_nn (k := 2) h (by decide); have := fdiv_nn this hn; simp; omega
  · have := fdiv_nn (k := 700) h (by decide); have := fdiv_nn this hn; simp; omega

theorem ggi_length : ∀ (f : Nat) (n b j : Int), (ggi f n b j).length ≤ f
  | 0, _, _, _ => Nat.le_refl _
  | f + 1, n, b, j => by
    unfold ggi
    split
    · simp
    · have := ggi_length f (Int.fdiv (n - tF j b) (36 - tF j b)) b (j + 1)
      simp only [List.length_cons]; omega
theorem ggiF_length {n b : Int} (h0 : 0 ≤ n) (h : n ≤ 100000) : (ggiF n b).length ≤ 100001 := by
  have := ggi_length (n.toNat + 1) n b 0
  unfold ggiF; omega

/-- what generate_integers writes of the counts, from the k-th on -/
def giF (bl : Int) : List Int → Nat → Int → List Nat
  | [], _, _ => []
  | d :: r, k, bias => ggiF d bias ++ giF bl r (k + 1) (adaptF d ((k : Int) == 0) (bl + k + 1))
def GI (bl : Int) (ds : List Int) : List Nat := giF bl ds 0 72


/-! part: Plain2 -/
/-! reading the digits again -/
def digV (c : Nat) : Option Int := if 65 ≤ c ∧ c ≤ 90 then some ((c : Int) - 65) else if 48 ≤ c ∧ c ≤ 57 then some ((c : Int) - 22) else none
def dgn : Nat → List Nat → Nat → Int → Int → Int → Int → Option (Nat × Int)
  | 0, _, _, _, _, _, _ => none
  | f + 1, ext, p, b, r, w, j => match ext[p]? with
    | none => none
    | some c => match digV c with
      | none => none
      | some d => if d < tF j b then some (p + 1, r + d * w) else dgn f ext (p + 1) b (r + d * w) (w * (36 - tF j b)) (j + 1)
theorem dgn_some {f : Nat} {ext : List Nat} {p : Nat} {b r w j : Int} {x : Nat × Int} (h : dgn (f + 1) ext p b r w j = some x) :
    ∃ c d, ext[p]? = some c ∧ digV c = some d ∧ ((d < tF j b ∧ x = (p + 1, r + d * w)) ∨ (¬ d < tF j b ∧ dgn f ext (p + 1) b (r + d * w) (w * (36 - tF j b)) (j + 1) = some x)) := by
  unfold dgn at h
  split at h
  · cases h
  · rename_i c hc
    split at h
    · cases h
    · rename_i d hd
      refine ⟨c, d, hc, hd, ?_⟩
      split at h
      · rename_i hlt; exact .inl ⟨hlt, (Option.some.inj h).symm⟩
      · rename_i hlt; exact .inr ⟨hlt, h⟩
theorem digV_bound {c : Nat} {d : Int} (h : digV c = some d) : 0 ≤ d ∧ d ≤ 35 ∧ c ≤ 90 := by
  unfold digV at h
  split at h
  · rename_i hc; cases h; omega
  · split at h
    · rename_i hc; cases h; omega
    · cases h

/-- insertion_sort, upon code points; none where it would raise -/
def isF : Nat → List Nat → List Nat → Int → Int → Int → Nat → Option (List Nat)
  | 0, _, _, _, _, _, _ => none
  | f + 1, base, ext, char, pos, bias, p =>
    if p < ext.length then
      match dgn 100 ext p bias 0 1 0 with
      | none => none
      | some (p', d) =>
        if 0 ≤ d ∧ 0 ≤ pos + (d + 1) ∧ 0 ≤ char + Int.fdiv (pos + (d + 1)) (base.length + 1) ∧ char + Int.fdiv (pos + (d + 1)) (base.length + 1) ≤ 1114111 ∧ base.length < 900 then
          isF f (base.take (Int.fmod (pos + (d + 1)) (base.length + 1)).toNat ++ [(char + Int.fdiv (pos + (d + 1)) (base.length + 1)).toNat] ++ base.drop (Int.fmod (pos + (d + 1)) (base.length + 1)).toNat) ext
            (char + Int.fdiv (pos + (d + 1)) (base.length + 1)) (Int.fmod (pos + (d + 1)) (base.length + 1)) (adaptF d ((p : Int) == 0) ((base.length : Int) + 1)) p'
        else none
    else some base

/-- where the last hyphen lies -/
def rfindH (l : List Nat) : Option Nat := (List.range l.length).reverse.find? fun i => l[i]? == some 45
def upB (c : Nat) : Nat := if 97 ≤ c ∧ c ≤ 122 then c - 32 else c
def decF (tx : List Nat) : Option (List Nat) :=
  match rfindH tx with
  | none => isF 100 [] (tx.map upB) 128 (-1) 72 0
  | some k => isF 100 (tx.take k) ((tx.drop (k + 1)).map upB) 128 (-1) 72 0


/-! part: Mac -/
local macro_rules | `(tactic| walk_at $s:str) => `(tactic| k_extra $s)
/-! lines of the walk -/

theorem words1_Mac : True := by
  k_with "my enter" => (k_dflt (refine' enter (by assumption) ?k6 ?k7 ?k8 ?k9 ?kB ?_ ?c5 ?c2 ?c3 ?c4; (case k6 => k_is); (case k7 => k_is); (case k8 => decide); (case k9 => exact BindsTo.of_eq rfl); (case c5 => decide); (case kB => exact locs rfl); (case c2 => exact rfl); (case c3 => exact rfl); (case c4 => exact rfl); k_whole))
  k_with "my enterC" => (k_dflt (refine' enterC (by assumption) ?k6 ?k7 ?k8 ?k9 ?kB ?_ ?c5 ?c2 ?c3 ?c4; (case k6 => k_is); (case k7 => k_is); (case k8 => decide); (case k9 => exact BindsTo.of_eq rfl); (case c5 => decide); (case kB => exact locs rfl); (case c2 => exact rfl); (case c3 => exact rfl); (case c4 => exact rfl); k_whole))
  k_with "my steps" => repeat' (first | (k_unfold; (try dsimp only)) | walk1 | (dsimp only; walk1))
  k_with "storeName" => (k_here; k_dflt (first
  | (refine' st_int (by k_asm) (by k_asm) ?_ rfl rfl; k_whole; intro _ _ _ _ _; (try k_sweep); (try dsimp only))
  | (refine' st_str (by k_asm) (by k_asm) ?_ rfl rfl; k_whole; intro _ _ _ _ _; (try k_sweep); (try dsimp only))
  | (refine' st_bytes (by k_asm) (by k_asm) ?_ rfl rfl; k_whole; intro _ _ _ _ _; (try k_sweep); (try dsimp only))
  | (refine' st_val (by k_asm) (by k_asm) ?_ rfl rfl; k_whole; intro _ _ _ _; (try k_sweep); (try dsimp only))))
  k_with "my use" => ((case hd => exact Nat.le_of_ble_eq_true rfl); (case hu => exact Nat.le_of_ble_eq_true rfl); (case B => k_asm); (case F => k_asm); (case X => k_asm); (case T => k_asm); (case hf => rfl); (case hk => rfl); k_whole)
  k_with "getMethod ref" => (k_here; k_dflt (first
  | (refine' gm_append (News.get (by k_asm) (by k_mem)) ?_; k_whole)
  | (refine' gm_extend (News.get (by k_asm) (by k_mem)) ?_; k_whole)))
  k_with "call type:enumerate" => (k_here; refine stop_here ?_)
  exact True.intro


/-! part: T -/


set_option maxRecDepth 100000 in
set_option maxHeartbeats 8000000 in
theorem con_T : ∀ {w : World} {mean : ExcName → Option Value} {mg mb : Str → Option Value} {outer : List Env} {base : Heap} {s : Shared} {Q E : Value → Shared → Prop} {j b : Int} {tj tb : Tok},
    Amb w mean mg mb 600 4000 outer base s.heap →
    (∀ t h' tk', s.heap.StaysIn h' → Q (.int (tF j b) t) { s with heap := h', toks := tk' }) →
    wpAny (model PR w) (At 600 4000 outer) (call (.ref 43) [.int j tj, .int b tb]) Q E s := by
  intro w mean mg mb outer base s Q E j b tj tb a hret
  have B := a.below
  have X := a.inK
  have T := a.top
  k_dflt (refine' enter a ?k6 ?k7 ?k8 ?k9 ?kB ?_ ?c5 ?c2 ?c3 ?c4; (case k6 => k_is); (case k7 => k_is); (case k8 => decide); (case k9 => exact BindsTo.of_eq rfl); (case c5 => decide); (case kB => exact locs rfl); (case c2 => exact rfl); (case c3 => exact rfl); (case c4 => exact rfl); k_whole; intro L h1 tk F N; (try dsimp only); (try k_fold))
  clear a
  k_steps
  all_goals (refine ret_int hret (by assumption) ?_; unfold tF; simp only [decide_eq_true_eq, decide_eq_false_iff_not] at *; (repeat' split) <;> omega)

theorem words1_T : True := by
  k_with "call ref" => (k_here; k_dflt (refine' use_amb (by k_asm) (by k_asm) (by k_asm) (by k_asm) rfl rfl (fun am => con_T am ?_) (Nat.le_of_ble_eq_true rfl) (Nat.le_of_ble_eq_true rfl); k_whole; intro _ _ _ hs'; clear am; (have := fr_stays (by k_asm) hs'); (have := news_stays (by k_asm) hs'); clear hs'; (try k_sweep); (try dsimp only)))
  exact True.intro


/-! part: ggi -/
def bArr (l : List Nat) : Array UInt8 := (l.map Nat.toUInt8).toArray
abbrev digitsA : Array UInt8 := #[97, 98, 99, 100, 101, 102, 103, 104, 105, 106, 107, 108, 109, 110, 111, 112, 113, 114, 115, 116, 117, 118, 119, 120, 121, 122, 48, 49, 50, 51, 52, 53, 54, 55, 56, 57]
theorem digits_int (i : Nat) : (digitsL.map Int.ofNat).getD i 0 = (digitsL.getD i 0 : Nat) := by
  rw [List.getD_eq_getElem?_getD, List.getD_eq_getElem?_getD, List.getElem?_map]
  cases digitsL[i]? <;> rfl
theorem digitB_lt (d : Int) : digitB d < 256 := by
  unfold digitB
  rw [List.getD_eq_getElem?_getD]
  cases h : digitsL[d.toNat]? with
  | none => decide
  | some x => exact (by decide : ∀ x ∈ digitsL, x < 256) x (List.mem_of_getElem? h)
theorem item_digits {prog : Program} {w : World} {A : Around} {E : Value → Shared → Prop} {s : Shared} {value slice : Expr} {i : Int} {t ui : Tok} {Q : Value → Shared → Prop} (h0 : 0 ≤ i) (h1 : i < 36)
    (h : ∀ t' k, Q (.int (digitB i) t') { s with toks := k })
    (hs : subscripted slice false (.bytes digitsA t) (.int i ui) = operate [.bytes digitsA t, .int i ui] (getItem (.bytes digitsA t) (.int i ui)))
    (ht : ∀ r, letTemporaryGo value (.bytes digitsA t) r = pure ()) : wpAny (model prog w) A (subscriptTail value slice (.bytes digitsA t) (.int i ui)) Q E s :=
  KBw.item_K (ks := digitsL.map Int.ofNat) rfl (by decide) h0 h1 (fun t' k _ _ => by
    rw [digits_int]; exact h t' k) hs ht
theorem words1_ggi : True := by
  k_with "subscriptTail" => (k_here; (with_reducible show wpAny _ _ (subscriptTail _ _ (Value.bytes _ _) (Value.int _ _)) _ _ _); k_dflt (refine' item_digits (by omega) (by omega) ?_ (by with_unfolding_all rfl) (by intro _; with_unfolding_all rfl); k_whole); intro _ _)
  exact True.intro
theorem bArr_push (l : List Nat) (d : Nat) : (bArr l).push (d : Int).toNat.toUInt8 = bArr (l ++ [d]) := by
  unfold bArr; simp
theorem words2_ggi : True := by
  k_with "call type:bytes" => (k_here; (with_reducible show wpAny _ _ (call (Value.type _) [Value.ref _]) _ _ _); k_dflt (refine' call_bytes_ba (News.get (by k_asm) (by k_mem)) (by first | assumption | omega) ?_; k_whole); intro _ _)
  exact True.intro

set_option maxHeartbeats 8000000 in
theorem con_ggi : ∀ {w : World} {mean : ExcName → Option Value} {mg mb : Map} {outer : List Env} {base : Heap} {s : Shared} {Q : Value → Shared → Prop} {n b : Int} {tn tb : Tok},
    Amb w mean mg mb 580 3900 outer base s.heap → 0 ≤ n → n ≤ 100000 →
    (∀ t h' tk', s.heap.StaysIn h' → Q (.bytes (bArr (ggiF n b)) t) { s with heap := h', toks := tk' }) →
    wpC (model PR w) (At 580 3900 outer) (call (.ref 50) [.int n tn, .int b tb]) Q s := by
  intro w mean mg mb outer base s Q n b tn tb a hn hn2 hret
  have B := a.below
  have X := a.inK
  have T := a.top
  walk_at "my enterC"
  intro L h1 tk F N
  replace F : Fr s.heap L h1 (mk [(Str.ofString "bias", some (.int b tb)), (Str.ofString "N", some (.int n tn))]) := by rw [mk_lookup] at F; exact F
  clear a
  -- result = bytearray()
  refine wpC_execs_cons (wpC_Assign_Name (wpC_Call_Name ?_))
  walk_at "my steps"
  rename Fr _ _ _ _ => F
  refine wpC_callWith_type0 (wpC_bytearray fun h2 g1 g2 g3 => ?_)
  have F2 := fr_stays F g2
  have hrL : h1.objs.size ≠ L := Nat.ne_of_gt F.ns.lt
  have N2 : News s.heap L h2 [(h1.objs.size, baObj #[])] := fun p hp => by
    rw [List.mem_singleton.mp hp]
    exact ⟨g1, hrL, next_is_new F⟩
  generalize h1.objs.size = r at g1 hrL N2 ⊢
  clear F N g1 g2 g3
  walk_at "my steps"
  -- j = 0
  refine wpC_execs_cons (wpC_of ?_)
  walk_at "my steps"
  rename Fr _ _ _ _ => F
  rename News _ _ _ _ => N
  refine wpC_execs_cons (wpC_While (codeC_whileLoop (fun k st => ∃ h tk N j acc ot tN tj, st = ⟨h, s.gens, s.drawn, tk, s.os⟩ ∧ 0 ≤ N ∧ N ≤ 100000 ∧ k = N.toNat ∧ 0 ≤ j ∧ acc.length + N.toNat ≤ 100000 ∧
      acc ++ ggi (N.toNat + 1) N b j = ggiF n b ∧
      Fr s.heap L h (mk [(Str.ofString "N", some (.int N tN)), (Str.ofString "bias", some (.int b tb)), (Str.ofString "result", some (.ref r)), (Str.ofString "j", some (.int j tj)), (Str.ofString "t", ot)]) ∧
      News s.heap L h [(r, baObj (bArr acc))]) ?turn n.toNat
    ⟨_, _, n, 0, [], none, _, _, rfl, hn, hn2, rfl, Int.le_refl _, by simp only [List.length_nil]; omega, rfl, fr_norm [Str.ofString "N", Str.ofString "bias", Str.ofString "result", Str.ofString "j", Str.ofString "t"] F rfl, N⟩))
  clear F N
  rintro k st ⟨h, tk, m, j, acc, ot, tN, tj, rfl, h0, h1, rfl, hj, hsz, hacc, F, N⟩
  have ht1 := tF_lo j b
  have ht2 := tF_hi j b
  have hbs : ∀ l : List Nat, l.length ≤ 100001 → (bArr l).size ≤ sizeLine := fun l hl => by rw [sizeLine_eq]; unfold bArr; simp; omega
  walk_at "my steps"
  -- t = T(j, bias)
  refine wpC_execs_cons (wpC_of ?_)
  walk_at "my steps"
  refine wpC_execs_cons (wpC_If ?_)
  walk_at "my steps"
  · rename m < tF j b => hlt
    -- the last digit
    refine wpC_execs_cons (wpC_Expr (wpC_Method ?_))
    walk_at "my steps"
    refine wpC_callWith_builtin1 ?_
    walk_at "my steps"
    rename Fr _ _ _ _ => F
    rename News _ _ _ _ => N
    refine wpC_append (N.get (.head _)) (Int.natCast_nonneg _) (Int.ofNat_lt.mpr (digitB_lt m)) (Nat.lt_of_lt_of_le (by simp [bArr]; omega) (Nat.le_of_eq sizeLine_eq.symm)) fun h' g1 g2 => ⟨rfl, ?_⟩
    rw [bArr_push] at g1
    obtain ⟨F', N'⟩ := upd_led F N g1 g2 (fun _ hp => nomatch hp)
    clear F N g1 g2
    have hfin : acc ++ [digitB m] = ggiF n b := by rw [← hacc]; unfold ggi; rw [if_pos hlt]
    have hz := hbs (acc ++ [digitB m]) (by simp; omega)
    refine wpC_execs_cons (wpC_of ?_)
    walk_at "my steps"
    rename Fr _ _ _ _ => F
    exact ret_bytes hret F (by rw [hfin])
  · rename ¬ (m < tF j b) => hlt
    have hm := fmod_step (n := m) ht2
    have hd := fdiv_step ht1 ht2 (Int.not_lt.mp hlt)
    refine wpC_of (wpAny_execs_nil ?_)
    refine wpC_execs_cons (wpC_Expr (wpC_Method ?_))
    walk_at "my steps"
    refine wpC_callWith_builtin1 ?_
    walk_at "my steps"
    rename Fr _ _ _ _ => F
    rename News _ _ _ _ => N
    refine wpC_append (N.get (.head _)) (Int.natCast_nonneg _) (Int.ofNat_lt.mpr (digitB_lt _)) (Nat.lt_of_lt_of_le (by simp [bArr]; omega) (Nat.le_of_eq sizeLine_eq.symm)) fun h' g1 g2 => ⟨rfl, ?_⟩
    rw [bArr_push] at g1
    obtain ⟨F', N'⟩ := upd_led F N g1 g2 (fun _ hp => nomatch hp)
    clear F N g1 g2
    refine wpC_execs_cons (wpC_of ?_)
    walk_at "my steps"
    refine wpC_execs_cons (wpC_of ?_)
    walk_at "my steps"
    rename Fr _ _ _ _ => F
    rename News _ _ _ _ => N
    refine wpC_of (wpAny_execs_nil ?_)
    refine ⟨_, ?_, _, _, _, _, acc ++ [digitB (tF j b + (m - tF j b).fmod (36 - tF j b))], some (.int (tF j b) _), _, _, rfl, hd.1, Int.le_trans (Int.le_of_lt hd.2) h1, rfl, ?_, ?_, ?_, fr_norm [Str.ofString "N", Str.ofString "bias", Str.ofString "result", Str.ofString "j", Str.ofString "t"] F rfl, N⟩
    · omega
    · omega
    · simp only [List.length_append, List.length_cons, List.length_nil]; omega
    · rw [← hacc, List.append_assoc]
      congr 1
      conv => rhs; unfold ggi
      rw [if_neg hlt, List.singleton_append]
      congr 1
      exact ggi_fuel _ _ _ _ _ hd.1 (Nat.lt_succ_self _) (by omega)


/-! part: adapt -/
set_option maxHeartbeats 8000000 in
theorem con_adapt {w : World} {mean : ExcName → Option Value} {mg mb : Map} {outer : List Env} {base : Heap} {s : Shared} {Q E : Value → Shared → Prop} {d n : Int} {fi : Bool} {td tn : Tok}
    (a : Amb w mean mg mb 600 4000 outer base s.heap) (hd0 : 0 ≤ d) (hn : 1 ≤ n) (hn2 : n ≤ 1000)
    (hret : ∀ t h' tk', s.heap.StaysIn h' → Q (.int (adaptF d fi n) t) { s with heap := h', toks := tk' }) :
    wpAny (model PR w) (At 600 4000 outer) (call (.ref 57) [.int d td, .bool fi, .int n tn]) Q E s := by
  have B := a.below
  have X := a.inK
  have T := a.top
  walk_at "my enter"
  intro L h1 tk F N
  replace F : Fr s.heap L h1 (mk [(Str.ofString "numchars", some (.int n tn)), (Str.ofString "first", some (.bool fi)), (Str.ofString "delta", some (.int d td))]) := by rw [mk_lookup] at F; exact F
  clear a
  refine wpN_cut (fun s' => ∃ h tk t, s' = ⟨h, s.gens, s.drawn, tk, s.os⟩ ∧ Fr s.heap L h (mk [(Str.ofString "numchars", some (.int n tn)), (Str.ofString "delta", some (.int (if fi then Int.fdiv d 700 else Int.fdiv d 2) t)), (Str.ofString "first", some (.bool fi))]) ∧ News s.heap L h []) ?_ ?_
  · walk_at "my steps"
    · rename fi = true => hf
      rename Fr _ _ _ _ => F
      exact ⟨rfl, _, _, _, rfl, by rw [if_pos hf]; exact fr_norm [Str.ofString "numchars", Str.ofString "delta", Str.ofString "first"] F rfl, by assumption⟩
    · rename fi = false => hf
      rename Fr _ _ _ _ => F
      exact ⟨rfl, _, _, _, rfl, by rw [if_neg (by rw [hf]; decide)]; exact fr_norm [Str.ofString "numchars", Str.ofString "delta", Str.ofString "first"] F rfl, by assumption⟩
  clear F N
  rintro _ ⟨h, tk, t, rfl, F, N⟩
  refine wpN_cons ?_
  walk_at "my steps"
  refine Stop.go (wpN_cons ?_)
  walk_at "my steps"
  rename Fr _ _ _ _ => F
  rename News _ _ _ _ => N
  have hD := adaptD_nn (first := fi) (nc := n) hd0 (by omega)
  refine Stop.go (wpN_cut (fun s' => ∃ h tk v d' t1 t2, s' = ⟨h, s.gens, s.drawn, tk, s.os⟩ ∧ d' ≤ 455 ∧ 0 ≤ d' ∧ v + Int.fdiv (36 * d') (d' + 38) = adaptF d fi n ∧
      Fr s.heap L h (mk [(Str.ofString "numchars", some (.int n tn)), (Str.ofString "delta", some (.int d' t1)), (Str.ofString "first", some (.bool fi)), (Str.ofString "divisions", some (.int v t2))]) ∧ News s.heap L h []) ?_ ?_)
  · refine wpN_While (fun k s' => ∃ h tk v d' t1 t2, s' = ⟨h, s.gens, s.drawn, tk, s.os⟩ ∧ 0 ≤ d' ∧ k = d'.toNat ∧ adLoop (d'.toNat + 1) d' v = adaptF d fi n ∧
      Fr s.heap L h (mk [(Str.ofString "numchars", some (.int n tn)), (Str.ofString "delta", some (.int d' t1)), (Str.ofString "first", some (.bool fi)), (Str.ofString "divisions", some (.int v t2))]) ∧ News s.heap L h []) ?_ (adaptD d fi n).toNat
      ⟨_, _, 0, adaptD d fi n, _, _, rfl, hD, rfl, rfl, fr_norm [Str.ofString "numchars", Str.ofString "delta", Str.ofString "first", Str.ofString "divisions"] F rfl, N⟩
    clear F N
    rintro k st ⟨h, tk, v, d', t1, t2, rfl, h0, rfl, hacc, F, N⟩
    walk_at "my steps"
    · rename 455 < d' => hlt
      have := fdiv35 hlt
      refine Stop.go ?_
      walk_at "my steps"
      rename Fr _ _ _ _ => F
      refine ⟨_, ?_, _, _, _, _, _, _, rfl, this.1, rfl, ?_, fr_norm [Str.ofString "numchars", Str.ofString "delta", Str.ofString "first", Str.ofString "divisions"] F rfl, by assumption⟩
      · omega
      · rw [← hacc]
        conv => rhs; unfold adLoop
        rw [if_pos hlt]
        exact adLoop_fuel _ _ _ _ (Nat.lt_succ_self _) (by omega)
    · rename ¬ 455 < d' => hlt
      refine Stop.go ?_
      walk_at "my steps"
      rename Fr _ _ _ _ => F
      refine ⟨rfl, _, _, v, d', _, _, rfl, Int.not_lt.mp hlt, h0, ?_, F, by assumption⟩
      rw [← hacc]; unfold adLoop; rw [if_neg hlt]
  clear F N
  rintro _ ⟨h, tk, v, d', t1, t2, rfl, h1, h0, hv, F, N⟩
  walk_at "my steps"
  rename Fr _ _ _ _ => F
  exact ret_int hret F hv
theorem words1_adapt : True := by
  k_with "call ref" => (k_here; k_dflt (refine' use_amb (by k_asm) (by k_asm) (by k_asm) (by k_asm) rfl rfl (fun am => con_adapt am (by omega) (by omega) (by omega) ?_) (Nat.le_of_ble_eq_true rfl) (Nat.le_of_ble_eq_true rfl); k_whole; intro _ _ _ hs'; clear am; (have := fr_stays (by k_asm) hs'); (have := news_stays (by k_asm) hs'); clear hs'; (try k_sweep); (try dsimp only)))
  exact True.intro


/-! part: gi -/
theorem bArr_append (l r : List Nat) : bArr l ++ bArr r = bArr (l ++ r) := by unfold bArr; simp
theorem bArr_size (l : List Nat) : (bArr l).size = l.length := by unfold bArr; simp
theorem drop_of_get {α : Type} {l : List α} {i : Nat} {a : α} (h : l[i]? = some a) : l.drop i = a :: l.drop (i + 1) := by
  have hi : i < l.length := (List.getElem?_eq_some_iff.mp h).1
  have := List.drop_eq_getElem_cons hi
  rw [this, (List.getElem?_eq_some_iff.mp h).2]

theorem mk_set2 (x x' : Str) (v v' : Option Value) (l : List (Str × Option Value)) : (fun y => if y = x then v else if y = x' then v' else mk l y) = mk ((x, v) :: (x', v') :: l) := by
  rw [← mk_set, ← mk_set]

set_option maxHeartbeats 8000000 in
theorem con_gi {w : World} {mean : ExcName → Option Value} {mg mb : Map} {outer : List Env} {base : Heap} {s : Shared} {Q : Value → Shared → Prop} {bl : Int} {tb : Tok} {l : Addr} {vs : List Value} {ds : List Int}
    (a : Amb w mean mg mb 560 3800 outer base s.heap) (hb0 : 0 ≤ bl) (hb1 : bl ≤ 100) (hl : s.heap.IsList l vs.toArray) (hi : IntsAre vs ds) (hds : ∀ d ∈ ds, 0 ≤ d ∧ d ≤ 100000) (hlen : ds.length ≤ 100)
    (hret : ∀ t h' tk', s.heap.StaysIn h' → Q (.bytes (bArr (GI bl ds)) t) { s with heap := h', toks := tk' }) :
    wpC (model PR w) (At 560 3800 outer) (call (.ref 64) [.int bl tb, .ref l]) Q s := by
  have B := a.below
  have X := a.inK
  have T := a.top
  walk_at "my enterC"
  intro L h1 tk F N
  replace F : Fr s.heap L h1 (mk [(Str.ofString "deltas", some (.ref l)), (Str.ofString "baselen", some (.int bl tb))]) := by rw [mk_lookup] at F; exact F
  clear a
  -- result = bytearray()
  refine wpC_execs_cons (wpC_Assign_Name (wpC_Call_Name ?_))
  walk_at "my steps"
  rename Fr _ _ _ _ => F
  refine wpC_callWith_type0 (wpC_bytearray fun h2 g1 g2 g3 => ?_)
  have F2 := fr_stays F g2
  have hrL : h1.objs.size ≠ L := Nat.ne_of_gt F.ns.lt
  have N2 : News s.heap L h2 [(h1.objs.size, baObj #[])] := fun p hp => by
    rw [List.mem_singleton.mp hp]
    exact ⟨g1, hrL, next_is_new F⟩
  generalize h1.objs.size = r at g1 hrL N2 ⊢
  clear F N g1 g2 g3
  walk_at "my steps"
  -- bias = 72
  refine wpC_execs_cons (wpC_of ?_)
  walk_at "my steps"
  rename Fr _ _ _ _ => F
  rename News _ _ _ _ => N
  refine wpC_execs_cons (wpC_For (wpC_of ?_))
  walk_at "my steps"
  rename Fr _ _ _ _ => F
  rename News _ _ _ _ => N
  refine Stop.go (call_enumerate_list (hl.at fun o e => F.keep l o e) fun h3 k1 k2 k3 k4 => ?_)
  have hLs : L < h3.objs.size := (fr_stays F k4).ns.lt
  dsimp only at k1 k2 k3 k4 ⊢
  refine wpAny_pyIter_enum k1 ?_
  rename_i hs _ _
  have hrs : r < hs.objs.size := Heap.lt_size (N _ (.head _)).1
  have hLs : L < hs.objs.size := F.ns.lt
  have hnone : ∀ x, hs.objs.size ≤ x → s.heap.get? x = none := fun x hx => by
    cases q : s.heap.get? x with
    | none => rfl
    | some o => exact absurd (Heap.lt_size (F.keep _ _ q)) (Nat.not_lt.mpr hx)
  have F' := fr_stays F k4
  have N' := news_stays N k4
  have e1 : hs.objs.size + 1 ≠ hs.objs.size := Nat.succ_ne_self _
  have e2 : hs.objs.size + 1 ≠ L := Nat.ne_of_gt (Nat.lt_succ_of_lt hLs)
  have e3 : hs.objs.size ≠ L := Nat.ne_of_gt hLs
  have e4 := hnone (hs.objs.size + 1) (Nat.le_succ _)
  have e5 := hnone hs.objs.size (Nat.le_refl _)
  have e6 : r ≠ hs.objs.size + 1 := Nat.ne_of_lt (Nat.lt_succ_of_lt hrs)
  have e7 : r ≠ hs.objs.size := Nat.ne_of_lt hrs
  generalize hs.objs.size + 1 = e at k1 e1 e2 e4 e6 ⊢
  generalize hs.objs.size = it at k1 k2 e1 e3 e5 e7
  clear F N k3 k4 hnone hrs hLs
  refine forEnumC (fun i m' news' => ∃ bias acc tb' op od ob, m' = mk [(Str.ofString "bias", some (.int bias tb')), (Str.ofString "result", some (.ref r)), (Str.ofString "deltas", some (.ref l)), (Str.ofString "baselen", some (.int bl tb)), (Str.ofString "points", op), (Str.ofString "delta", od), (Str.ofString "s", ob)] ∧
      news' = [(r, baObj (bArr acc))] ∧ acc ++ giF bl (ds.drop i) i bias = GI bl ds ∧ acc.length ≤ 100001 * i) rfl rfl rfl rfl hl k1 k2 e1 e2 e3 e4 e5
      (fun p hp => by rw [List.mem_singleton.mp hp]; exact e6) (fun p hp => by rw [List.mem_singleton.mp hp]; exact e7)
      (fr_norm [Str.ofString "bias", Str.ofString "result", Str.ofString "deltas", Str.ofString "baselen", Str.ofString "points", Str.ofString "delta", Str.ofString "s"] F' rfl) N' ⟨72, [], _, none, none, none, rfl, rfl, rfl, Nat.zero_le _⟩ ?_ ?_
  · clear F' N' k1 k2
    rintro i v t m1 news1 h tk oe oi hv ⟨bias, acc, tb', op, od, ob, rfl, rfl, hacc, hsz⟩ hne F N
    obtain ⟨d, td, rfl, hdi⟩ := IntsAre.at hi i v (by simpa using hv)
    have hd01 := hds d (List.mem_of_getElem? hdi)
    have hi100 : i < 100 := Nat.lt_of_lt_of_le (List.getElem?_eq_some_iff.mp hdi).1 hlen
    rw [mk_set2] at F
    replace N : News s.heap L h [(r, baObj (bArr acc)), (e, oe), (it, oi)] := N
    refine wpC_execs_cons (wpC_Assign_Name (wpC_Call_Name ?_))
    walk_at "my steps"
    refine wpC_callWith_K (K := hd.heap_39 w.params) (by k_dflt k_is) ?_
    walk_at "my steps"
    refine' use_ambC ?B ?F ?X ?T ?hf ?hk (fun am => con_ggi am hd01.1 hd01.2 ?_) ?hd ?hu
    walk_at "my use"
    intro t1 h2 tk2 hs2
    rename Fr _ _ _ _ => F
    rename News _ _ _ _ => N
    have F2 := fr_stays F hs2
    have N2 := news_stays N hs2
    clear F N hs2
    walk_at "my steps"
    -- result.extend(s)
    refine wpC_execs_cons (wpC_Expr (wpC_Method ?_))
    walk_at "my steps"
    refine wpC_callWith_builtin1 ?_
    walk_at "my steps"
    rename Fr _ _ _ _ => F
    rename News _ _ _ _ => N
    have hgl := ggiF_length (b := bias) hd01.1 hd01.2
    refine wpC_extend (N.get (.head _)) (by rw [bArr_size, bArr_size, sizeLine_eq]; omega) fun h' g1 g2 => ⟨rfl, ?_⟩
    rw [bArr_append] at g1
    obtain ⟨F', N'⟩ := upd_led F N g1 g2 (fun p hp => by
      rcases List.mem_cons.mp hp with rfl | hp
      · exact Ne.symm e6
      · rw [List.mem_singleton.mp hp]; exact Ne.symm e7)
    clear F N g1 g2
    -- bias = adapt(..)
    refine wpC_execs_cons (wpC_of ?_)
    walk_at "my steps"
    rename Fr _ _ _ _ => F
    rename News _ _ _ _ => N
    refine wpC_of (wpAny_execs_nil ?_)
    refine ⟨rfl, _, _, _, [(r, baObj (bArr (acc ++ ggiF d bias)))], rfl, fr_norm [Str.ofString "bias", Str.ofString "result", Str.ofString "deltas", Str.ofString "baselen", Str.ofString "points", Str.ofString "delta", Str.ofString "s"] F rfl, N, fun p hp => ?_, ⟨_, acc ++ ggiF d bias, _, _, _, _, rfl, rfl, ?_, ?_⟩⟩
    · rw [List.mem_singleton.mp hp]; exact ⟨e6, e7⟩
    · rw [← hacc, drop_of_get hdi, List.append_assoc]; rfl
    · rw [List.length_append]; omega
  · clear F' N' k1 k2
    rintro h tk m' news' F N ⟨bias, acc, tb', op, od, ob, rfl, rfl, hacc, hsz⟩
    have hlv := hi.length
    have hacc' : acc = GI bl ds := by
      rw [← hacc, List.drop_of_length_le (by simp [hlv])]
      simp [giF]
    have hz : (bArr acc).size ≤ sizeLine := by rw [bArr_size, sizeLine_eq]; simp only [List.size_toArray] at hsz; omega
    replace F : Fr s.heap L h _ := F
    replace N : News s.heap L h _ := N
    refine wpC_execs_cons (wpC_of ?_)
    walk_at "my steps"
    rename Fr _ _ _ _ => F
    exact ret_bytes hret F (by rw [hacc'])


/-! part: dgn -/
theorem wpN_Try {prog : Program} {w : World} {A : Around} {s : Shared} {env : Env} {body orelse : List Stmt} {h₀ : ExceptHandler} {hs : List ExceptHandler} {pos : Pos} {Q : Flow → Shared → Prop}
    (h : wpN (model prog w) A (execs body env) (fun f s₁ => match f with | .next => wpN (model prog w) A (execs orelse env) Q s₁ | f => Q f s₁) s) : wpN (model prog w) A (exec (.Try body (h₀ :: hs) orelse [] pos) env) Q s :=
  wpAny_Try_except (wpAny_mono h (fun f s₁ x => by cases f <;> exact x) fun _ _ x => x.elim)

theorem wpN_IfT {M : Model} {A : Around} {s : Shared} {env : Env} {test : Expr} {body orelse : List Stmt} {pos : Pos} {Q : Flow → Shared → Prop}
    (h : wpN M A (isTrue test env (eval test env)) (fun b s₂ => Stop (b = true ∧ wpN M A (execs body env) Q s₂)) s) : wpN M A (exec (.If test body orelse pos) env) Q s :=
  wpAny_If (wpAny_mono h (fun b s₂ x => by obtain ⟨rfl, hx⟩ := Stop.out x; exact hx) fun _ _ x => x)
theorem wpN_IfF {M : Model} {A : Around} {s : Shared} {env : Env} {test : Expr} {body orelse : List Stmt} {pos : Pos} {Q : Flow → Shared → Prop}
    (h : wpN M A (isTrue test env (eval test env)) (fun b s₂ => Stop (b = false ∧ wpN M A (execs orelse env) Q s₂)) s) : wpN M A (exec (.If test body orelse pos) env) Q s :=
  wpAny_If (wpAny_mono h (fun b s₂ x => by obtain ⟨rfl, hx⟩ := Stop.out x; exact hx) fun _ _ x => x)
theorem bArr_ints (l : List Nat) (h : ∀ c ∈ l, c < 256) : KBw.bInts (bArr l) = l.map Int.ofNat := by
  unfold bArr KBw.bInts
  simp only [List.map_map]
  refine List.map_congr_left fun c hc => ?_
  have := h c hc
  show ((c.toUInt8.toNat : Nat) : Int) = (c : Int)
  rw [show c.toUInt8.toNat = c from UInt8.toNat_ofNat_of_lt' (by simpa using this)]
theorem item_bArr {prog : Program} {w : World} {A : Around} {E : Value → Shared → Prop} {s : Shared} {value slice : Expr} {l : List Nat} {i : Int} {c : Nat} {t ui : Tok} {Q : Value → Shared → Prop} (h256 : ∀ c ∈ l, c < 256) (hlen : l.length ≤ 1000) (h0 : 0 ≤ i) (hc : l[i.toNat]? = some c)
    (h : ∀ t' k, Q (.int c t') { s with toks := k })
    (hs : subscripted slice false (.bytes (bArr l) t) (.int i ui) = operate [.bytes (bArr l) t, .int i ui] (getItem (.bytes (bArr l) t) (.int i ui)))
    (ht : ∀ r, letTemporaryGo value (.bytes (bArr l) t) r = pure ()) : wpAny (model prog w) A (subscriptTail value slice (.bytes (bArr l) t) (.int i ui)) Q E s := by
  have hi := (List.getElem?_eq_some_iff.mp hc).1
  refine KBw.item_K (ks := l.map Int.ofNat) (bArr_ints l h256) (by rw [List.length_map]; omega) h0 (by rw [List.length_map]; omega) (fun t' k _ _ => ?_) hs ht
  have e : (l.map Int.ofNat).getD i.toNat 0 = (c : Int) := by
    rw [List.getD_eq_getElem?_getD, List.getElem?_map, hc]; rfl
  rw [e]; exact h t' k
theorem words1_dgn : True := by
  k_with "subscriptTail" => (k_here; (with_reducible show wpAny _ _ (subscriptTail _ _ (Value.bytes (bArr _) _) (Value.int _ _)) _ _ _); k_dflt (refine' item_bArr (by assumption) (by assumption) (by omega) (by first | assumption | (simp only [Int.toNat_natCast]; assumption)) ?_ (by with_unfolding_all rfl) (by intro _; with_unfolding_all rfl); k_whole); intro _ _)
  exact True.intro

set_option maxHeartbeats 8000000 in
theorem con_dgn {w : World} {mean : ExcName → Option Value} {mg mb : Map} {outer : List Env} {base : Heap} {s : Shared} {Q E : Value → Shared → Prop} {ext : List Nat} {p : Nat} {b : Int} {te tp tb ts : Tok} {f : Nat} {p' : Nat} {r' : Int}
    (a : Amb w mean mg mb 580 3900 outer base s.heap) (h256 : ∀ c ∈ ext, c < 256) (hlen : ext.length ≤ 1000) (hd : dgn f ext p b 0 1 0 = some (p', r'))
    (hret : ∀ x t1 t2 h' tk', s.heap.StaysIn h' → s.heap.get? x = none → h'.get? x = some { cls := .type "tuple", data := .seq #[.int p' t1, .int r' t2] } → Q (.ref x) { s with heap := h', toks := tk' }) :
    wpAny (model PR w) (At 580 3900 outer) (call (.ref 71) [.bytes (bArr ext) te, .int p tp, .int b tb, .str (Str.ofString "strict") ts]) Q E s := by
  have B := a.below
  have X := a.inK
  have T := a.top
  walk_at "my enter"
  intro L h1 tk F N
  replace F : Fr s.heap L h1 (mk [(Str.ofString "errors", some (.str (Str.ofString "strict") ts)), (Str.ofString "bias", some (.int b tb)), (Str.ofString "extpos", some (.int p tp)), (Str.ofString "extended", some (.bytes (bArr ext) te))]) := by rw [mk_lookup] at F; exact F
  clear a
  refine wpN_cons ?_
  walk_at "my steps"
  refine Stop.go (wpN_cons ?_)
  walk_at "my steps"
  refine Stop.go (wpN_cons ?_)
  walk_at "my steps"
  rename Fr _ _ _ _ => F
  rename News _ _ _ _ => N
  refine Stop.go (wpN_cons (wpN_While (fun k s' => ∃ h tk q r w' j oc od ot t1 t2 t3 t4, s' = ⟨h, s.gens, s.drawn, tk, s.os⟩ ∧ dgn k ext q b r w' j = some (p', r') ∧
      Fr s.heap L h (mk [(Str.ofString "errors", some (.str (Str.ofString "strict") ts)), (Str.ofString "bias", some (.int b tb)), (Str.ofString "extpos", some (.int q t1)), (Str.ofString "extended", some (.bytes (bArr ext) te)), (Str.ofString "result", some (.int r t2)), (Str.ofString "w", some (.int w' t3)), (Str.ofString "j", some (.int j t4)), (Str.ofString "char", oc), (Str.ofString "digit", od), (Str.ofString "t", ot)]) ∧ News s.heap L h []) ?_ f
      ⟨_, _, p, 0, 1, 0, none, none, none, _, _, _, _, rfl, hd, fr_norm [Str.ofString "errors", Str.ofString "bias", Str.ofString "extpos", Str.ofString "extended", Str.ofString "result", Str.ofString "w", Str.ofString "j", Str.ofString "char", Str.ofString "digit", Str.ofString "t"] F rfl, N⟩))
  clear F N hd
  rintro k st ⟨h, tk, q, r, w', j, oc, od, ot, t1, t2, t3, t4, rfl, hd, F, N⟩
  cases k with
  | zero => cases hd
  | succ k =>
  obtain ⟨c, d, hc, hdv, hx⟩ := dgn_some hd
  have hdb := digV_bound hdv
  have ht1 := tF_lo j b
  have ht2 := tF_hi j b
  refine wpN_abs fun Q1 hQ1 => ?_
  walk_at "my steps"
  refine hQ1 _ _ ?_
  clear hQ1
  refine ite_pos rfl (Stop.go (wpN_abs fun Q2 hQ2 => ?_))
  -- char = extended[extpos]
  refine (wpN_cons (wpN_Try ?_))
  walk_at "my steps"
  refine Stop.go (wpN_cons ?_)
  walk_at "my steps"
  rename Fr _ _ _ _ => F
  rename News _ _ _ _ => N
  refine Stop.go (wpN_cut (fun s' => ∃ h tk t1 t5 t6, s' = ⟨h, s.gens, s.drawn, tk, s.os⟩ ∧
      Fr s.heap L h (mk [(Str.ofString "errors", some (.str (Str.ofString "strict") ts)), (Str.ofString "bias", some (.int b tb)), (Str.ofString "extpos", some (.int (q + 1) t1)), (Str.ofString "extended", some (.bytes (bArr ext) te)), (Str.ofString "result", some (.int r t2)), (Str.ofString "w", some (.int w' t3)), (Str.ofString "j", some (.int j t4)), (Str.ofString "char", some (.int c t5)), (Str.ofString "digit", some (.int d t6)), (Str.ofString "t", ot)]) ∧ News s.heap L h []) ?_ ?_)
  · refine wpN_abs fun Q3 hQ3 => ?_
    unfold digV at hdv
    by_cases hu : 65 ≤ c ∧ c ≤ 90
    · rw [if_pos hu] at hdv
      obtain rfl := Option.some.inj hdv
      refine wpN_IfT ?_
      walk_at "my steps"
      refine Stop.go ⟨decide_eq_true (by omega), ?_⟩
      walk_at "my steps"
      rename Fr _ _ _ _ => F
      exact hQ3 _ _ ⟨rfl, _, _, _, _, _, rfl, fr_norm [Str.ofString "errors", Str.ofString "bias", Str.ofString "extpos", Str.ofString "extended", Str.ofString "result", Str.ofString "w", Str.ofString "j", Str.ofString "char", Str.ofString "digit", Str.ofString "t"] F rfl, by assumption⟩
    · rw [if_neg hu] at hdv
      by_cases hv : 48 ≤ c ∧ c ≤ 57
      · rw [if_pos hv] at hdv
        obtain rfl := Option.some.inj hdv
        refine wpN_IfF ?_
        walk_at "my steps"
        refine Stop.go ⟨by first | rfl | exact decide_eq_false (by omega), ?_⟩
        refine wpN_cons (wpN_IfT ?_)
        walk_at "my steps"
        refine Stop.go ⟨decide_eq_true (by omega), ?_⟩
        walk_at "my steps"
        refine Stop.go (wpAny_execs_nil ?_)
        rename Fr _ _ _ _ => F
        exact hQ3 _ _ ⟨rfl, _, _, _, _, _, rfl, fr_norm [Str.ofString "errors", Str.ofString "bias", Str.ofString "extpos", Str.ofString "extended", Str.ofString "result", Str.ofString "w", Str.ofString "j", Str.ofString "char", Str.ofString "digit", Str.ofString "t"] F rfl, by assumption⟩
      · rw [if_neg hv] at hdv; cases hdv
  clear F N
  rintro _ ⟨h, tk, t1, t5, t6, rfl, F, N⟩
  -- t = T(j, bias)
  refine wpN_cons ?_
  walk_at "my steps"
  refine Stop.go (wpN_cons ?_)
  walk_at "my steps"
  rcases hx with ⟨hlt, hx⟩ | ⟨hlt, hx⟩
  · refine Stop.go (wpN_cons (wpN_IfT ?_))
    walk_at "my steps"
    refine Stop.go ⟨decide_eq_true hlt, ?_⟩
    walk_at "my steps"
    rename Fr _ _ _ _ => F
    rename News _ _ _ _ => N
    obtain ⟨e1, e2⟩ := Prod.mk.inj hx
    subst e1 e2
    exact hQ2 _ _ (hret _ _ _ _ _ F.keep (N.fresh (.head _)) (N.get (.head _)))
  · refine Stop.go (wpN_cons (wpN_IfF ?_))
    walk_at "my steps"
    refine Stop.go ⟨decide_eq_false hlt, ?_⟩
    walk_at "my steps"
    refine Stop.go (wpN_cons ?_)
    walk_at "my steps"
    refine Stop.go (wpN_cons ?_)
    walk_at "my steps"
    refine Stop.go (wpAny_execs_nil ?_)
    rename Fr _ _ _ _ => F
    exact hQ2 _ _ ⟨k, Nat.lt_succ_self _, _, _, q + 1, _, _, _, _, _, _, _, _, _, _, rfl, hx, fr_norm [Str.ofString "errors", Str.ofString "bias", Str.ofString "extpos", Str.ofString "extended", Str.ofString "result", Str.ofString "w", Str.ofString "j", Str.ofString "char", Str.ofString "digit", Str.ofString "t"] F rfl, by assumption⟩

theorem news_made {h₀ h h' : Heap} {L x : Addr} {m : Map} {news : Led} {o : Obj} (F : Fr h₀ L h m) (N : News h₀ L h news) (k : h.StaysIn h') (hx : h.get? x = none) (ho : h'.get? x = some o) : News h₀ L h' ((x, o) :: news) := fun p hp => by
  rcases List.mem_cons.mp hp with rfl | hp
  · refine ⟨ho, fun q => ?_, ?_⟩
    · obtain ⟨oL, _, _, hL, _⟩ := F.ns
      have q' : x = L := q
      rw [q', hL] at hx; cases hx
    · cases q : h₀.get? x with
      | none => rfl
      | some o' => rw [F.keep _ _ q] at hx; cases hx
  · exact news_stays N k p hp
theorem words2_dgn : True := by
  k_with "call ref" => (k_here; k_dflt (refine' use_amb (by k_asm) (by k_asm) (by k_asm) (by k_asm) rfl rfl (fun am => con_dgn am (by assumption) (by assumption) (by assumption) ?_) (Nat.le_of_ble_eq_true rfl) (Nat.le_of_ble_eq_true rfl); k_whole; intro _ _ _ _ _ hs' hx' ho'; clear am; (have := news_made (by k_asm) (by k_asm) hs' hx' ho'); (have := fr_stays (by k_asm) hs'); clear hs' hx' ho'; (try k_sweep); (try dsimp only)))
  exact True.intro


/-! part: StrR -/
/-! texts as lists of code points -/
abbrev sL (l : List Nat) : Str := ⟨l.toArray⟩
theorem sL_len (l : List Nat) : (sL l).length = l.length := by show l.toArray.size = _; simp
theorem slice_to_sL {l : List Nat} {j : Int} (h0 : 0 ≤ j) (h1 : j ≤ l.length) : Txt.slice (sL l) none (some j) = sL (l.take j.toNat) := by
  have := eq_of_beq (slice_closes_to (x := sL l) (j := j) ⟨h0, by simpa using h1⟩)
  simpa using this
theorem slice_from_sL {l : List Nat} {i : Int} (h0 : 0 ≤ i) (h1 : i ≤ l.length) : Txt.slice (sL l) (some i) none = sL (l.drop i.toNat) := by
  have := slice_from_eq (x := sL l) (i := i) h0 (by rw [sL_len]; exact h1) (b := (sL l).length) rfl
  rw [this]
  simp only [sL_len]
  show Str.mk _ = Str.mk _
  congr 2
  rw [List.take_of_length_le]
  simp
  omega
theorem sL_append (a b : List Nat) : sL a ++ sL b = sL (a ++ b) := by
  show Str.mk (a.toArray ++ b.toArray) = _
  simp

section
variable {prog : Program} {w : World} {A : Around} {E : Value → Shared → Prop} {s : Shared} {hp : Heap} {g : Array GenState} {dr : Drawn} {tk : Nat} {os : OsState} {Q : Value → Shared → Prop} {h₀ : Heap} {L : Addr} {m : Map} {news : Led} {l : List Nat} {value slice : Expr} {t uj : Tok} {j : Int}
theorem cut_to (F : Fr h₀ L hp m) (N : News h₀ L hp news) (h0 : 0 ≤ j) (h1 : j ≤ l.length) (hl : l.length ≤ 2000)
    (h : ∀ h' t' k, Fr h₀ L h' m → News h₀ L h' news → Q (.str (sL (l.take j.toNat)) t') ⟨h', g, dr, k, os⟩)
    (hs : subscripted slice false (.str (sL l) t) (.ref hp.objs.size) = operate [.ref hp.objs.size, .str (sL l) t] (getItem (.str (sL l) t) (.ref hp.objs.size)))
    (ht : ∀ r, letTemporaryGo value (.str (sL l) t) r = pure ()) :
    wpAny (model prog w) A (subscriptTail value slice (.str (sL l) t) (.ref hp.objs.size)) Q E ⟨hp.push { cls := .type "slice", data := .fields #[.none, .int j uj, .none] }, g, dr, tk, os⟩ :=
  slice_strN_ns (s := ⟨hp, g, dr, tk, os⟩) F N (fun h' t' k a b => by rw [slice_to_sL h0 h1]; exact h h' t' k a b) hs ht (by rw [sL_len, sizeLine_eq]; omega)
theorem cut_from (F : Fr h₀ L hp m) (N : News h₀ L hp news) (h0 : 0 ≤ j) (h1 : j ≤ l.length) (hl : l.length ≤ 2000)
    (h : ∀ h' t' k, Fr h₀ L h' m → News h₀ L h' news → Q (.str (sL (l.drop j.toNat)) t') ⟨h', g, dr, k, os⟩)
    (hs : subscripted slice false (.str (sL l) t) (.ref hp.objs.size) = operate [.ref hp.objs.size, .str (sL l) t] (getItem (.str (sL l) t) (.ref hp.objs.size)))
    (ht : ∀ r, letTemporaryGo value (.str (sL l) t) r = pure ()) :
    wpAny (model prog w) A (subscriptTail value slice (.str (sL l) t) (.ref hp.objs.size)) Q E ⟨hp.push { cls := .type "slice", data := .fields #[.int j uj, .none, .none] }, g, dr, tk, os⟩ :=
  slice_strN_sn (s := ⟨hp, g, dr, tk, os⟩) F N (fun h' t' k a b => by rw [slice_from_sL h0 h1]; exact h h' t' k a b) hs ht (by rw [sL_len, sizeLine_eq]; omega)
theorem add_sL {a b : List Nat} {t u : Tok} (hz : a.length + b.length ≤ 10000) (h : ∀ t' k, Q (.str (sL (a ++ b)) t') ⟨hp, g, dr, k, os⟩) : wpAny (model prog w) A (binaryOp .Add (.str (sL a) t) (.str (sL b) u)) Q E ⟨hp, g, dr, tk, os⟩ :=
  add_str (s := ⟨hp, g, dr, tk, os⟩) (fun t' k => by rw [sL_append]; exact h t' k) (by rw [sL_len, sL_len, sizeLine_eq]; omega)
theorem len_sL (hz : l.length ≤ 2000) (h : ∀ t' k, Q (.int l.length t') ⟨hp, g, dr, k, os⟩) : wpAny (model prog w) A (call (.builtin "len") [.str (sL l) t]) Q E ⟨hp, g, dr, tk, os⟩ :=
  len_str (s := ⟨hp, g, dr, tk, os⟩) (by rw [sL_len]; omega) (by rw [sL_len]; exact h _ _)
theorem len_bArr (h256 : ∀ c ∈ l, c < 256) (hz : l.length ≤ 2000) (h : ∀ t' k, Q (.int l.length t') ⟨hp, g, dr, k, os⟩) : wpAny (model prog w) A (call (.builtin "len") [.bytes (bArr l) t]) Q E ⟨hp, g, dr, tk, os⟩ :=
  KBw.len_K (s := ⟨hp, g, dr, tk, os⟩) (bArr_ints l h256) (by rw [List.length_map]; omega) (by rw [List.length_map]; exact h _ _)
theorem chr_sL {i : Int} (h0 : 0 ≤ i) (h1 : i ≤ 1114111) (h : ∀ t' k, Q (.str (sL [i.toNat]) t') ⟨hp, g, dr, k, os⟩) : wpAny (model prog w) A (call (.builtin "chr") [.int i t]) Q E ⟨hp, g, dr, tk, os⟩ :=
  chr_of_range (s := ⟨hp, g, dr, tk, os⟩) h0 h1 (h _ _)
end
theorem words1_StrR : True := by
  k_with "my len" => first | assumption | omega | ((try simp only [List.length_append, List.length_take, List.length_drop, List.length_cons, List.length_nil]); omega)
  k_with "call builtin:len" => (k_here; k_dflt (first
  | (refine' len_sL (by walk_at "my len") ?_; k_whole; intro _ _)
  | (refine' len_bArr (by assumption) (by walk_at "my len") ?_; k_whole; intro _ _)))
  k_with "call builtin:chr" => (k_here; k_dflt (refine' chr_sL (by omega) (by omega) ?_; k_whole; intro _ _))
  k_with "binaryOp Add str str" => (k_here; k_dflt (refine' add_sL (by walk_at "my len") ?_; k_whole; intro _ _))
  k_with "subscriptTail Name Slice str ref" => (k_here; (try dsimp only); k_dflt (first
  | (refine' cut_to (by k_asm) (by k_asm) (by omega) (by walk_at "my len") (by walk_at "my len") ?_ (by with_unfolding_all rfl) (by intro _; with_unfolding_all rfl); k_whole; intro _ _ _ _ _; (try k_sweep))
  | (refine' cut_from (by k_asm) (by k_asm) (by omega) (by walk_at "my len") (by walk_at "my len") ?_ (by with_unfolding_all rfl) (by intro _; with_unfolding_all rfl); k_whole; intro _ _ _ _ _; (try k_sweep))))
  exact True.intro


/-! part: isort -/
theorem isF_some {f : Nat} {base ext : List Nat} {char pos bias : Int} {p : Nat} {x : List Nat} (h : isF (f + 1) base ext char pos bias p = some x) :
    (p < ext.length ∧ ∃ p' d, dgn 100 ext p bias 0 1 0 = some (p', d) ∧ 0 ≤ d ∧ 0 ≤ pos + (d + 1) ∧ 0 ≤ char + Int.fdiv (pos + (d + 1)) (base.length + 1) ∧ char + Int.fdiv (pos + (d + 1)) (base.length + 1) ≤ 1114111 ∧ base.length < 900 ∧
      isF f (base.take (Int.fmod (pos + (d + 1)) (base.length + 1)).toNat ++ [(char + Int.fdiv (pos + (d + 1)) (base.length + 1)).toNat] ++ base.drop (Int.fmod (pos + (d + 1)) (base.length + 1)).toNat) ext
            (char + Int.fdiv (pos + (d + 1)) (base.length + 1)) (Int.fmod (pos + (d + 1)) (base.length + 1)) (adaptF d ((p : Int) == 0) ((base.length : Int) + 1)) p' = some x) ∨ (¬ p < ext.length ∧ x = base) := by
  unfold isF at h
  split at h
  · rename_i hp
    refine .inl ⟨hp, ?_⟩
    split at h
    · cases h
    · rename_i p' d hd
      split at h
      · rename_i hc
        exact ⟨p', d, hd, hc.1, hc.2.1, hc.2.2.1, hc.2.2.2.1, hc.2.2.2.2, h⟩
      · cases h
  · rename_i hp
    exact .inr ⟨hp, (Option.some.inj h).symm⟩

set_option maxHeartbeats 8000000 in
theorem con_isort {w : World} {mean : ExcName → Option Value} {mg mb : Map} {outer : List Env} {base : Heap} {s : Shared} {Q E : Value → Shared → Prop} {bs ext : List Nat} {tb te ts : Tok} {f : Nat} {x : List Nat}
    (a : Amb w mean mg mb 560 3800 outer base s.heap) (h256 : ∀ c ∈ ext, c < 256) (hlen : ext.length ≤ 1000) (hd : isF f bs ext 128 (-1) 72 0 = some x)
    (hret : ∀ t h' tk', s.heap.StaysIn h' → Q (.str (sL x) t) { s with heap := h', toks := tk' }) :
    wpAny (model PR w) (At 560 3800 outer) (call (.ref 78) [.str (sL bs) tb, .bytes (bArr ext) te, .str (Str.ofString "strict") ts]) Q E s := by
  have B := a.below
  have X := a.inK
  have T := a.top
  walk_at "my enter"
  intro L h1 tk F N
  replace F : Fr s.heap L h1 (mk [(Str.ofString "errors", some (.str (Str.ofString "strict") ts)), (Str.ofString "extended", some (.bytes (bArr ext) te)), (Str.ofString "base", some (.str (sL bs) tb))]) := by rw [mk_lookup] at F; exact F
  clear a
  refine wpN_cons ?_
  walk_at "my steps"
  refine Stop.go (wpN_cons ?_)
  walk_at "my steps"
  refine Stop.go (wpN_cons ?_)
  walk_at "my steps"
  refine Stop.go (wpN_cons ?_)
  walk_at "my steps"
  rename Fr _ _ _ _ => F
  rename News _ _ _ _ => N
  refine Stop.go (wpN_cut (fun s' => ∃ h tk ob t1 t2 t3 t4 od on t5, s' = ⟨h, s.gens, s.drawn, tk, s.os⟩ ∧ 
      Fr s.heap L h (mk [(Str.ofString "errors", some (.str (Str.ofString "strict") ts)), (Str.ofString "extended", some (.bytes (bArr ext) te)), (Str.ofString "base", some (.str (sL x) ob)), (Str.ofString "char", t1), (Str.ofString "pos", t2), (Str.ofString "bias", t3), (Str.ofString "extpos", t4), (Str.ofString "newpos", on), (Str.ofString "delta", od)]) ∧ News s.heap L h t5) ?_ ?_)
  · refine wpN_While (fun k s' => ∃ h tk bs char pos bias p ob t1 t2 t3 t4 od on news, s' = ⟨h, s.gens, s.drawn, tk, s.os⟩ ∧ isF k bs ext char pos bias p = some x ∧
      Fr s.heap L h (mk [(Str.ofString "errors", some (.str (Str.ofString "strict") ts)), (Str.ofString "extended", some (.bytes (bArr ext) te)), (Str.ofString "base", some (.str (sL bs) ob)), (Str.ofString "char", some (.int char t1)), (Str.ofString "pos", some (.int pos t2)), (Str.ofString "bias", some (.int bias t3)), (Str.ofString "extpos", some (.int (p : Nat) t4)), (Str.ofString "newpos", on), (Str.ofString "delta", od)]) ∧ News s.heap L h news) ?_ f
      ⟨_, _, bs, 128, -1, 72, 0, _, _, _, _, _, none, none, [], rfl, hd, fr_norm [Str.ofString "errors", Str.ofString "extended", Str.ofString "base", Str.ofString "char", Str.ofString "pos", Str.ofString "bias", Str.ofString "extpos", Str.ofString "newpos", Str.ofString "delta"] F rfl, N⟩
    clear F N hd
    rintro k st ⟨h, tk, bs, char, pos, bias, p, ob, t1, t2, t3, t4, od, on, news, rfl, hd, F, N⟩
    cases k with
    | zero => cases hd
    | succ k =>
    refine wpN_abs fun Q1 hQ1 => ?_
    walk_at "my steps"
    rename Fr _ _ _ _ => F
    rename News _ _ _ _ => N
    refine hQ1 _ _ ?_
    clear hQ1
    rcases isF_some hd with ⟨hp, p', d, hdg, hd0, hpos, hch0, hch1, hbl, hrec⟩ | ⟨hp, rfl⟩
    · refine ite_pos (decide_eq_true (by omega)) (Stop.go (wpN_abs fun Q2 hQ2 => ?_))
      refine wpN_cons ?_
      walk_at "my steps"
      have hmod : 0 ≤ Int.fmod (pos + (d + 1)) (bs.length + 1) ∧ Int.fmod (pos + (d + 1)) (bs.length + 1) ≤ bs.length := by
        rw [Int.fmod_eq_emod_of_nonneg _ (by omega)]
        have h1 := Int.emod_nonneg (pos + (d + 1)) (b := bs.length + 1) (by omega)
        have h2 := Int.emod_lt_of_pos (pos + (d + 1)) (b := bs.length + 1) (by omega)
        omega
      refine Stop.go (wpN_cons (wpN_IfF ?_))
      walk_at "my steps"
      refine Stop.go ⟨rfl, wpAny_execs_nil (Stop.go (wpN_cons ?_))⟩
      walk_at "my steps"
      refine Stop.go (wpN_cons ?_)
      walk_at "my steps"
      refine Stop.go (wpN_cons (wpN_IfF ?_))
      walk_at "my steps"
      refine Stop.go ⟨decide_eq_false (by omega), wpAny_execs_nil (Stop.go (wpN_cons ?_))⟩
      walk_at "my steps"
      generalize hm : Int.fmod (pos + (d + 1)) (bs.length + 1) = pm at *
      generalize hcm : char + Int.fdiv (pos + (d + 1)) (bs.length + 1) = cm at *
      refine Stop.go (wpN_cons ?_)
      walk_at "my steps"
      -- bias = adapt(..)
      have hln : (List.take pm.toNat bs ++ [cm.toNat] ++ List.drop pm.toNat bs).length = bs.length + 1 := by
        simp only [List.length_append, List.length_take, List.length_drop, List.length_cons, List.length_nil]; omega
      have hln2 : ((List.take pm.toNat bs ++ [cm.toNat] ++ List.drop pm.toNat bs).length : Int) = (bs.length : Int) + 1 := by rw [hln]; omega
      rw [← hln2] at hrec
      refine Stop.go (wpN_cons ?_)
      walk_at "my steps"
      refine Stop.go (wpN_cons ?_)
      walk_at "my steps"
      rename Fr _ _ _ _ => F
      refine Stop.go (wpAny_execs_nil ?_)
      exact hQ2 _ _ ⟨k, Nat.lt_succ_self _, _, _, _, _, _, _, p', _, _, _, _, _, _, _, _, rfl, hrec, fr_norm [Str.ofString "errors", Str.ofString "extended", Str.ofString "base", Str.ofString "char", Str.ofString "pos", Str.ofString "bias", Str.ofString "extpos", Str.ofString "newpos", Str.ofString "delta"] F rfl, by assumption⟩
    · refine ite_neg (by simp; omega) (Stop.go (wpAny_execs_nil ?_))
      exact ⟨rfl, _, _, _, _, _, _, _, _, _, _, rfl, F, N⟩
  · clear F N
    rintro _ ⟨h, tk, ob, t1, t2, t3, t4, od, on, t5, rfl, F, N⟩
    walk_at "my steps"
    rename Fr _ _ _ _ => F
    exact ret_str hret F rfl


/-! part: Byt -/
namespace Bt
theorem sub_self : isSubtype (.type "bytes") (.type "bytes") = pure true := F.bm_sub
theorem slot_rfind : Slot "bytes" "rfind" "bytes.rfind" :=
  .of (owner := "bytes") (n := "rfind") (by rw [typeLookup_type, builtinLookup_eq_fast]; kernel_rfl) (by decide +kernel) (by decide +kernel) (by decide +kernel)
    (by first | exact .inl (by decide +kernel) | exact .inr (by decide +kernel)) sub_self
theorem slot_upper : Slot "bytes" "upper" "bytes.upper" :=
  .of (owner := "bytes") (n := "upper") (by rw [typeLookup_type, builtinLookup_eq_fast]; kernel_rfl) (by decide +kernel) (by decide +kernel) (by decide +kernel)
    (by first | exact .inl (by decide +kernel) | exact .inr (by decide +kernel)) sub_self
theorem ty_rfind : typeOf (.builtin "bytes.rfind") = pure (.type "method_descriptor") := by show builtinType _ = _; rw [builtinType_eq_fast]; kernel_rfl
theorem ty_upper : typeOf (.builtin "bytes.upper") = pure (.type "method_descriptor") := by show builtinType _ = _; rw [builtinType_eq_fast]; kernel_rfl
theorem entry_rfind : entryFor table "bytes.rfind" = some Builtin.«bytes.rfind» := by first | exact entryFor_of_fast (by kernel_rfl) | exact entryFor_of_tree (by kernel_rfl)
theorem entry_upper : entryFor table "bytes.upper" = some Builtin.«bytes.upper» := by first | exact entryFor_of_fast (by kernel_rfl) | exact entryFor_of_tree (by kernel_rfl)
theorem args_rfind (a b : Value) : argsOk "bytes.rfind" ⟨[a, b], []⟩ := by unfold argsOk; kernel_rfl
theorem args_upper (a : Value) : argsOk "bytes.upper" ⟨[a], []⟩ := by unfold argsOk; kernel_rfl
end Bt

theorem find_congr {p q : Nat → Bool} : ∀ {l : List Nat}, (∀ i ∈ l, p i = q i) → l.find? p = l.find? q
  | [], _ => rfl
  | a :: r, h => by
    rw [List.find?_cons, List.find?_cons, h a (.head _), find_congr fun i hi => h i (.tail _ hi)]
theorem toU8_inj {c : Nat} (h : c < 256) : (c.toUInt8 == (45 : UInt8)) = (c == 45) := by
  have : ∀ c : Fin 256, ((c : Nat).toUInt8 == (45 : UInt8)) = ((c : Nat) == 45) := by decide +kernel
  exact this ⟨c, h⟩
theorem up_eq {c : Nat} (h : c < 256) : Builtin.Bytes.toUpper c.toUInt8 = (upB c).toUInt8 := by
  have : ∀ c : Fin 256, Builtin.Bytes.toUpper (c : Nat).toUInt8 = (upB (c : Nat)).toUInt8 := by decide +kernel
  exact this ⟨c, h⟩
theorem rfind_bArr {l : List Nat} (h : ∀ c ∈ l, c < 256) : Builtin.Bytes.rfind? (bArr l) #[45] 0 l.length = rfindH l := by
  unfold Builtin.Bytes.rfind? rfindH
  have e : (List.range (l.length + 1 - (0 + (#[45] : Array UInt8).size))).map (· + 0) = List.range l.length := by
    simp
  rw [e]
  refine find_congr fun i hi => ?_
  have hi' : i < l.length := List.mem_range.mp (List.mem_reverse.mp hi)
  have e1 : (bArr l).extract i (i + (#[45] : Array UInt8).size) = #[(l[i]).toUInt8] := by
    unfold bArr
    simp [List.extract_toArray, List.extract]
    rw [List.drop_eq_getElem_cons (by simpa using hi')]
    simp [Nat.toUInt8]
  rw [e1, List.getElem?_eq_getElem hi']
  have := toU8_inj (h _ (List.getElem_mem hi'))
  simp only [Option.some_beq_some]
  rw [← this]
  simp

section
variable {prog : Program} {w : World} {A : Around} {E : Value → Shared → Prop} {hp : Heap} {g : Array GenState} {dr : Drawn} {tk : Nat} {os : OsState} {Q : Value → Shared → Prop} {l : List Nat} {t u : Tok}
theorem call_rfind (h256 : ∀ c ∈ l, c < 256) (h : ∀ t' k, Q (.int (match rfindH l with | some k => (k : Int) | none => -1) t') ⟨hp, g, dr, k, os⟩) :
    wpAny (model prog w) A (call (.builtin "bytes.rfind") [.bytes (bArr l) t, .bytes #[45] u]) Q E ⟨hp, g, dr, tk, os⟩ := by
  refine wpAny_call_entry Bt.slot_rfind (typeIs_bytes _ _ _) Bt.entry_rfind ?_ (Bt.args_rfind _ _)
  unfold Builtin.«bytes.rfind» Builtin.Bytes.searchM
  have hs : Builtin.Bytes.searchArgs .bytes "rfind" ⟨[.bytes (bArr l) t, .bytes #[45] u], []⟩ = pure (bArr l, #[45], if (Builtin.Bytes.window (bArr l).size none none).2 - (Builtin.Bytes.window (bArr l).size none none).1 < ((#[45] : Array UInt8).size : Int) then none else some ((Builtin.Bytes.window (bArr l).size none none).1.toNat, (Builtin.Bytes.window (bArr l).size none none).2.toNat)) := by
    unfold Builtin.Bytes.searchArgs
    show (Builtin.Bytes.buffer? _ (.bytes #[45] u) >>= _) = _
    rw [KBy.buffer_eq]
    rfl
  refine wpAny_bind (wpAny_of_eq hs ?_)
  have hw : Builtin.Bytes.window (bArr l).size none none = (0, ((bArr l).size : Int)) := by
    unfold Builtin.Bytes.window
    simp only [Option.getD_none]
    rw [if_neg (by omega), if_neg (by omega)]
    congr 1
    omega
  rw [hw]
  dsimp only
  rw [bArr_size]
  by_cases h0 : l.length = 0
  · have e0 : rfindH l = none := by unfold rfindH; rw [h0]; rfl
    rw [e0] at h
    rw [if_pos (by simp [h0])]
    dsimp only [Option.bind_none]
    refine wpAny_bind (wpAny_rule ?_)
    exact wpAny_bind (wpAny_mkInt (wpAny_pure ⟨_, rfl, h _ _⟩))
  · rw [if_neg (by simp; omega)]
    simp only [Option.bind_some, if_true, Int.toNat_zero, Int.toNat_natCast]
    rw [rfind_bArr h256]
    cases e0 : rfindH l with
    | none =>
      rw [e0] at h
      dsimp only
      refine wpAny_bind (wpAny_rule ?_)
      exact wpAny_bind (wpAny_mkInt (wpAny_pure ⟨_, rfl, h _ _⟩))
    | some k =>
      rw [e0] at h
      dsimp only
      exact wpAny_bind (wpAny_mkInt (wpAny_pure ⟨_, rfl, h _ _⟩))
theorem call_upper (hl : l.length ≤ 2000) (h256 : ∀ c ∈ l, c < 256) (h : ∀ t' k, Q (.bytes (bArr (l.map upB)) t') ⟨hp, g, dr, k, os⟩) :
    wpAny (model prog w) A (call (.builtin "bytes.upper") [.bytes (bArr l) t]) Q E ⟨hp, g, dr, tk, os⟩ := by
  refine wpAny_call_entry Bt.slot_upper (typeIs_bytes _ _ _) Bt.entry_upper ?_ (Bt.args_upper _)
  have e : ((bArr l).toList.map Builtin.Bytes.toUpper).toArray = bArr (l.map upB) := by
    unfold bArr
    simp only [List.map_map]
    congr 1
    exact List.map_congr_left fun c hc => up_eq (h256 c hc)
  show wpAny _ _ (mkBytes ((bArr l).toList.map Builtin.Bytes.toUpper).toArray >>= fun v => ret v) _ _ _
  rw [e]
  exact wpAny_bind (wpAny_mkBytes (wpAny_pure ⟨_, rfl, h _ _⟩) (by rw [bArr_size, sizeLine_eq, List.length_map]; omega))
end


/-! part: StrD -/
/-! str(bytes, 'ascii', 'strict'), for the three bases -/
namespace Bt
theorem typeCall_str3 (a b c : Value) : checkTypeCall "str" ⟨[a, b, c], []⟩ = pure () := by kernel_rfl
theorem newCall_str3 (a b c : Value) : checkBuiltinCall "str.__new__" ⟨[.type "str", a, b, c], []⟩ = pure () := by kernel_rfl
theorem init4 (o a b c : Value) : argsOk "object.__init__" ⟨[o, a, b, c], []⟩ := by unfold argsOk; kernel_rfl
theorem args_decode_kw (a e r : Value) : argsOk "bytes.decode" ⟨[a], [(Str.ofString "encoding", e), (Str.ofString "errors", r)]⟩ := by unfold argsOk; kernel_rfl
theorem new_eq (b : Array UInt8) (t t1 t2 : Tok) : Builtin.«str.__new__» ⟨[.type "str", .bytes b t, .str (Str.ofString "ascii") t1, .str (Str.ofString "strict") t2], []⟩ =
    (mkStr (Str.ofString "ascii") >>= fun e => mkStr (Str.ofString "strict") >>= fun r => rule "str.__new__.decode-bytes" >>= fun _ =>
      call (.builtin "bytes.decode") [.bytes b t] [(Str.ofString "encoding", e), (Str.ofString "errors", r)] >>= fun v => ret v) := by kernel_rfl
theorem dec_eq (c : UInt8) (cs : List UInt8) (t t1 t2 : Tok) : Builtin.«bytes.decode» ⟨[.bytes (c :: cs).toArray t], [(Str.ofString "encoding", .str (Str.ofString "ascii") t1), (Str.ofString "errors", .str (Str.ofString "strict") t2)]⟩ =
    (mkStr (Str.ofString "utf-8") >>= fun _ => mkStr (Str.ofString "ascii") >>= fun e => mkStr (Str.ofString "strict") >>= fun r => mkStr (Str.ofString "bytes.decode") >>= fun d =>
      call (.builtin "_codecs.decode.text") [.bytes (c :: cs).toArray t, e, r, d] >>= fun v => ret v) := by kernel_rfl
theorem road_eq (b : Array UInt8) (id : String) : Builtin._codecs.decodeRoad id b (Str.ofString "ascii") (some (Str.ofString "strict")) [] = (Builtin._codecs.runDecoder id Builtin._codecs.asciiDecoder (some (Str.ofString "strict")) true b 0 [] >>= fun r => mkStr ⟨r.1⟩) := by kernel_rfl
theorem meets_text2 {b : Array UInt8} {t t1 t2 t3 : Tok} {d x : Str} {n : Nat} (hd : ∀ id, Builtin._codecs.runDecoder id Builtin._codecs.asciiDecoder (some (Str.ofString "strict")) true b 0 [] = pure (x.cps, n)) :
    Meets (Builtin.«_codecs.decode.text» ⟨[.bytes b t, .str (Str.ofString "ascii") t1, .str (Str.ofString "strict") t3, .str d t2], []⟩) (fun _ R s => x.length ≤ sizeLine ∧ R (.ok (.ret (.str x s.toks))) { s with toks := s.toks + 1 }) := by
  refine .of_wp fun prog w A R s hS => ?_
  obtain ⟨hsz, h⟩ := hS
  show wpAny _ _ (Builtin.Bytes.bytesLike _ (.bytes b t) >>= fun r => _) _ _ s
  refine wpAny_bind (wpAny_of_eq KBd.like_eq ?_)
  refine wpAny_bind (wpAny_of_eq KBd.held_eq ?_)
  show wpAny _ _ (Builtin._codecs.decodeRoad _ b (Str.ofString "ascii") (some (Str.ofString "strict")) [] >>= fun v => _) _ _ s
  rw [road_eq, hd]
  refine wpAny_bind (wpAny_bind (wpAny_pure ?_))
  exact wpAny_mkStr (wpAny_pure ⟨_, rfl, h⟩) hsz
theorem call_str3 {prog : Program} {w : World} {A : Around} {E : Value → Shared → Prop} {s : Shared} {Q : Value → Shared → Prop} {c : UInt8} {cs : List UInt8} {t t1 t2 : Tok} {x : Str} {n : Nat}
    (hd : ∀ id, Builtin._codecs.runDecoder id Builtin._codecs.asciiDecoder (some (Str.ofString "strict")) true (c :: cs).toArray 0 [] = pure (x.cps, n)) (hsz : x.length ≤ sizeLine)
    (h : ∀ t' k, Q (.str x t') { s with toks := k }) :
    wpAny (model prog w) A (call (.type "str") [.bytes (c :: cs).toArray t, .str (Str.ofString "ascii") t1, .str (Str.ofString "strict") t2]) Q E s := by
  refine callType_new F.called_str (by decide) (typeCall_str3 _ _ _) (newCall_str3 _ _ _) (fun o => init4 _ _ _ _) F.entry_str_new
    (S := fun _ R s => ∀ t' k, R (.ok (.ret (.str x t'))) { s with toks := k }) (Meets.of_wp fun prog w A R s hS => ?_) (fun t' k => ⟨typeIs_str _ _ _, h t' k⟩)
  rw [new_eq]
  refine wpAny_bind (wpAny_mkStr ?_ (by decide))
  refine wpAny_bind (wpAny_mkStr ?_ (by decide))
  refine wpAny_bind (wpAny_rule ?_)
  refine wpAny_bind (wpAny_call_entry_kw FB.slot_bytes_decode (typeIs_bytes _ _ _) FB.entry_bytes_decode ?_ (args_decode_kw _ _ _))
  rw [dec_eq]
  refine wpAny_bind (wpAny_mkStr ?_ (by decide))
  refine wpAny_bind (wpAny_mkStr ?_ (by decide))
  refine wpAny_bind (wpAny_mkStr ?_ (by decide))
  refine wpAny_bind (wpAny_mkStr ?_ (by decide))
  exact wpAny_bind (call_function_meets KBd.kind_text KBd.plain_text KBd.entry_text (KBd.args_text _ _ _ _) (meets_text2 hd) ⟨hsz, wpAny_pure ⟨_, rfl, wpAny_pure ⟨_, rfl, hS _ _⟩⟩⟩)
end Bt
/-- str(b, 'ascii', 'strict') reads these signs -/
def Asc (l : List Nat) : Prop := ∃ c cs n, bArr l = (c :: cs).toArray ∧ (∀ id, Builtin._codecs.runDecoder id Builtin._codecs.asciiDecoder (some (Str.ofString "strict")) true (c :: cs).toArray 0 [] = pure ((sL l).cps, n)) ∧ (sL l).length ≤ sizeLine
theorem asc_a : Asc [97] := ⟨_, _, 1, rfl, fun _ => by kernel_rfl, by decide⟩
theorem asc_ab : Asc [97, 98] := ⟨_, _, 2, rfl, fun _ => by kernel_rfl, by decide⟩
theorem asc_ba : Asc [98, 45, 97] := ⟨_, _, 3, rfl, fun _ => by kernel_rfl, by decide⟩
theorem call_asc {prog : Program} {w : World} {A : Around} {E : Value → Shared → Prop} {hp : Heap} {g : Array GenState} {dr : Drawn} {tk : Nat} {os : OsState} {Q : Value → Shared → Prop} {l : List Nat} {t t1 t2 : Tok}
    (ha : Asc l) (h : ∀ t' k, Q (.str (sL l) t') ⟨hp, g, dr, k, os⟩) :
    wpAny (model prog w) A (call (.type "str") [.bytes (bArr l) t, .str (Str.ofString "ascii") t1, .str (Str.ofString "strict") t2]) Q E ⟨hp, g, dr, tk, os⟩ := by
  obtain ⟨c, cs, n, e, hd, hs⟩ := ha
  rw [e]
  exact Bt.call_str3 (s := ⟨hp, g, dr, tk, os⟩) hd hs h


/-! part: Byt2 -/
theorem bArr_drop_take {l : List Nat} (a b : Nat) : (((bArr l).toList.drop a).take b).toArray = bArr ((l.drop a).take b) := by
  unfold bArr
  simp only [List.map_take, List.map_drop]
section
variable {prog : Program} {w : World} {A : Around} {E : Value → Shared → Prop} {s : Shared} {hp : Heap} {g : Array GenState} {dr : Drawn} {tk : Nat} {os : OsState} {Q : Value → Shared → Prop} {h₀ : Heap} {L : Addr} {m : Map} {news : Led} {l : List Nat} {value slice : Expr} {t uj : Tok} {j : Nat}
theorem cutB_to (F : Fr h₀ L hp m) (N : News h₀ L hp news) (h256 : ∀ c ∈ l, c < 256) (h1 : j ≤ l.length) (hl : l.length ≤ 2000)
    (h : ∀ h' t' k, Fr h₀ L h' m → News h₀ L h' news → Q (.bytes (bArr (l.take j)) t') ⟨h', g, dr, k, os⟩)
    (hs : subscripted slice false (.bytes (bArr l) t) (.ref hp.objs.size) = operate [.ref hp.objs.size, .bytes (bArr l) t] (getItem (.bytes (bArr l) t) (.ref hp.objs.size)))
    (ht : ∀ r, letTemporaryGo value (.bytes (bArr l) t) r = pure ()) :
    wpAny (model prog w) A (subscriptTail value slice (.bytes (bArr l) t) (.ref hp.objs.size)) Q E ⟨hp.push { cls := .type "slice", data := .fields #[.none, .int (j : Nat) uj, .none] }, g, dr, tk, os⟩ := by
  refine KBc.slice_K (s := ⟨hp, g, dr, tk, os⟩) (lo := none) (hi := some (j : Int)) F N (bArr_ints l h256) (by constructor) (by constructor) (by rw [List.length_map]; omega) (fun h' t' k a b _ => ?_) hs ht
  have e : KBy.picked (bArr l) none (some (j : Int)) = bArr (l.take j) := by
    rw [KBc.picked_eq]
    simp only [Option.elim, clipAt_nat, List.drop_zero, Nat.sub_zero, bArr_size]
    rw [Nat.min_eq_left h1]
    unfold bArr; simp only [List.map_take]
  rw [e]; exact h h' t' k a b
theorem cutB_from {i : Int} (hi : i = (j : Int)) (F : Fr h₀ L hp m) (N : News h₀ L hp news) (h256 : ∀ c ∈ l, c < 256) (h1 : j ≤ l.length) (hl : l.length ≤ 2000)
    (h : ∀ h' t' k, Fr h₀ L h' m → News h₀ L h' news → Q (.bytes (bArr (l.drop j)) t') ⟨h', g, dr, k, os⟩)
    (hs : subscripted slice false (.bytes (bArr l) t) (.ref hp.objs.size) = operate [.ref hp.objs.size, .bytes (bArr l) t] (getItem (.bytes (bArr l) t) (.ref hp.objs.size)))
    (ht : ∀ r, letTemporaryGo value (.bytes (bArr l) t) r = pure ()) :
    wpAny (model prog w) A (subscriptTail value slice (.bytes (bArr l) t) (.ref hp.objs.size)) Q E ⟨hp.push { cls := .type "slice", data := .fields #[.int i uj, .none, .none] }, g, dr, tk, os⟩ := by
  subst hi
  refine KBc.slice_K (s := ⟨hp, g, dr, tk, os⟩) (lo := some (j : Int)) (hi := none) F N (bArr_ints l h256) (by constructor) (by constructor) (by rw [List.length_map]; omega) (fun h' t' k a b _ => ?_) hs ht
  have e : KBy.picked (bArr l) (some (j : Int)) none = bArr (l.drop j) := by
    rw [KBc.picked_eq]
    simp only [Option.elim, clipAt_nat, bArr_size]
    rw [Nat.min_eq_left h1]
    unfold bArr; simp only [← List.map_drop]
    rw [List.take_of_length_le (by simp)]
  rw [e]; exact h h' t' k a b
theorem gm_rfind {M : Model} {b : Array UInt8} {pl : Sem Bool} {Q : Value × List Value → Shared → Prop} (h : Q (.builtin "bytes.rfind", [.bytes b t]) s) : wpAny M A (getMethod (.bytes b t) "rfind" pl) Q E s := by
  with_reducible exact KBd.method_of (.bytes b t) (typeIs_bytes _ _ _) Bt.slot_rfind Bt.ty_rfind KBd.noRef h
theorem gm_upper {M : Model} {b : Array UInt8} {pl : Sem Bool} {Q : Value × List Value → Shared → Prop} (h : Q (.builtin "bytes.upper", [.bytes b t]) s) : wpAny M A (getMethod (.bytes b t) "upper" pl) Q E s := by
  with_reducible exact KBd.method_of (.bytes b t) (typeIs_bytes _ _ _) Bt.slot_upper Bt.ty_upper KBd.noRef h
end
theorem words1_Byt2 : True := by
  k_with "getMethod bytes" => (k_here; first
  | (refine' gm_rfind ?_; (try dsimp only))
  | (refine' gm_upper ?_; (try dsimp only)))
  k_with "call builtin:bytes.rfind" => (k_here; k_dflt (refine' call_rfind (by assumption) ?_; k_whole; intro _ _))
  k_with "call builtin:bytes.upper" => (k_here; k_dflt (refine' call_upper (by walk_at "my len") (by assumption) ?_; k_whole; intro _ _))
  k_with "call type:str" => (k_here; k_dflt (refine' call_asc (by assumption) ?_; k_whole; intro _ _))
  k_with "call ref" => (k_here; k_dflt (refine' use_amb (by k_asm) (by k_asm) (by k_asm) (by k_asm) rfl rfl (fun am => con_isort am (by assumption) (by assumption) (by assumption) ?_) (Nat.le_of_ble_eq_true rfl) (Nat.le_of_ble_eq_true rfl); k_whole; intro _ _ _ hs'; clear am; (have := fr_stays (by k_asm) hs'); (have := news_stays (by k_asm) hs'); clear hs'; (try k_sweep); (try dsimp only)))
  k_with "subscriptTail" => (k_here; (with_reducible show wpAny _ _ (subscriptTail _ _ (Value.bytes (bArr _) _) (Value.ref _)) _ _ _); (try dsimp only); k_dflt (first
  | (refine' cutB_to (by k_asm) (by k_asm) (by assumption) (by walk_at "my len") (by walk_at "my len") ?_ (by with_unfolding_all rfl) (by intro _; with_unfolding_all rfl); k_whole; intro _ _ _ _ _; (try k_sweep))
  | (refine' cutB_from (by first | exact rfl | exact (Int.natCast_succ _).symm) (by k_asm) (by k_asm) (by assumption) (by walk_at "my len") (by walk_at "my len") ?_ (by with_unfolding_all rfl) (by intro _; with_unfolding_all rfl); k_whole; intro _ _ _ _ _; (try k_sweep))))
  exact True.intro


/-! part: dec -/
theorem rfindH_lt {l : List Nat} {k : Nat} (h : rfindH l = some k) : k < l.length := by
  have := List.mem_of_find?_eq_some h
  exact List.mem_range.mp (List.mem_reverse.mp this)
set_option maxHeartbeats 8000000 in
theorem con_dec {w : World} {mean : ExcName → Option Value} {mg mb : Map} {outer : List Env} {base : Heap} {s : Shared} {Q E : Value → Shared → Prop} {tx : List Nat} {te ts : Tok} {x : List Nat}
    (a : Amb w mean mg mb 540 3700 outer base s.heap) (h256 : ∀ c ∈ tx, c < 128) (hlen : tx.length ≤ 500) (hd : decF tx = some x) (hasc : ∀ k, rfindH tx = some k → Asc (tx.take k))
    (hret : ∀ t h' tk', s.heap.StaysIn h' → Q (.str (sL x) t) { s with heap := h', toks := tk' }) :
    wpAny (model PR w) (At 540 3700 outer) (call (.ref 85) [.bytes (bArr tx) te, .str (Str.ofString "strict") ts]) Q E s := by
  have B := a.below
  have X := a.inK
  have T := a.top
  replace h256 : ∀ c ∈ tx, c < 256 := fun c hc => Nat.lt_trans (h256 c hc) (by decide)
  walk_at "my enter"
  intro L h1 tk F N
  replace F : Fr s.heap L h1 (mk [(Str.ofString "errors", some (.str (Str.ofString "strict") ts)), (Str.ofString "text", some (.bytes (bArr tx) te))]) := by rw [mk_lookup] at F; exact F
  clear a
  refine wpN_cons (wpN_IfF ?_)
  walk_at "my steps"
  refine Stop.go ⟨rfl, wpAny_execs_nil (Stop.go (wpN_cons (wpN_IfF ?_)))⟩
  walk_at "my steps"
  refine Stop.go ⟨rfl, wpAny_execs_nil (Stop.go (wpN_cons ?_))⟩
  walk_at "my steps"
  unfold decF at hd
  have hu : ∀ (l : List Nat), (∀ c ∈ l, c < 256) → ∀ c ∈ l.map upB, c < 256 := by
    intro l hl c hc
    obtain ⟨d, hd, rfl⟩ := List.mem_map.mp hc
    have := hl d hd
    unfold upB; split <;> omega
  cases e : rfindH tx with
  | none =>
    rw [e] at hd
    have p1 := hu tx h256
    have p2 : (tx.map upB).length ≤ 1000 := by rw [List.length_map]; omega
    dsimp only at hd
    rename Fr _ _ _ _ => F
    rw [e] at F
    dsimp only at F
    refine Stop.go (wpN_cons (wpN_IfT ?_))
    walk_at "my steps"
    refine Stop.go ⟨rfl, ?_⟩
    walk_at "my steps"
    rename Fr _ _ _ _ => F
    rw [show Str.ofString "" = sL [] from rfl] at F
    refine Stop.go (wpN_cons (wpN_Try ?_))
    walk_at "my steps"
    rename Fr _ _ _ _ => F
    exact ret_str hret F rfl
  | some k =>
    have p0 := hasc k e
    have pk := rfindH_lt e
    rw [e] at hd
    have p3 : ∀ c ∈ tx.drop (k + 1), c < 256 := fun c hc => h256 c (List.mem_of_mem_drop hc)
    have p1 := hu _ p3
    have p2 : ((tx.drop (k + 1)).map upB).length ≤ 1000 := by rw [List.length_map, List.length_drop]; omega
    dsimp only at hd
    rename Fr _ _ _ _ => F
    rw [e] at F
    dsimp only at F
    refine Stop.go (wpN_cons (wpN_IfF ?_))
    walk_at "my steps"
    refine Stop.go ⟨decide_eq_false (by omega), ?_⟩
    refine wpN_cons (wpN_Try ?_)
    walk_at "my steps"
    refine Stop.go (wpN_cons ?_)
    walk_at "my steps"
    refine Stop.go (wpAny_execs_nil (Stop.go (wpN_cons (wpN_Try ?_))))
    walk_at "my steps"
    rename Fr _ _ _ _ => F
    exact ret_str hret F rfl
theorem words1_dec : True := by
  k_with "call ref" => (k_here; k_dflt (refine' use_amb (by k_asm) (by k_asm) (by k_asm) (by k_asm) rfl rfl (fun am => con_dec am (by assumption) (by assumption) (by assumption) (by assumption) ?_) (Nat.le_of_ble_eq_true rfl) (Nat.le_of_ble_eq_true rfl); k_whole; intro _ _ _ hs'; clear am; (have := fr_stays (by k_asm) hs'); (have := news_stays (by k_asm) hs'); clear hs'; (try k_sweep); (try dsimp only)))
  exact True.intro


/-! part: Plain3 -/
def bF (x : Int) : List Nat := [[], [97], [97, 98], [98, 45, 97]].getD (Int.fmod x 4).toNat []
def cF (x : Int) : Int := [128, 233, 252, 8364].getD (Int.fmod (Int.fdiv x 4) 4).toNat 0
def pF (x : Int) : Int := Int.fmod (Int.fdiv x 16) ((bF x).length + 1)
def tweF (x : Int) : Bool := Int.fmod (Int.fdiv x 64) 2 == 1
def latF (x : Int) : Int := Int.fmod (Int.fdiv x 128) 2 * 19
def behF (x : Int) : Int := if latF x > 0 then Int.fmod (Int.fdiv x 256) ((bF x).length + 2) else pF x + 1
def put (l : List Nat) (p c : Int) : List Nat := l.take p.toNat ++ [c.toNat] ++ l.drop p.toNat
def n1F (x : Int) : List Nat := put (bF x) (pF x) (cF x)
def nF (x : Int) : List Nat := if tweF x then put (n1F x) (behF x) (cF x + latF x) else n1F x
def kF (x : Int) : List Int := ((cF x - 128) * ((bF x).length + 1) + pF x) :: if tweF x then [latF x * ((bF x).length + 2) + behF x - pF x - 1] else []


/-! part: name -/
set_option maxHeartbeats 8000000 in
theorem con_name {w : World} {mean : ExcName → Option Value} {mg mb : Map} {outer : List Env} {base : Heap} {s : Shared} {Q E : Value → Shared → Prop} {x : Int} {tx : Tok}
    (a : Amb w mean mg mb 540 3700 outer base s.heap)
    (hret : ∀ z y t1 t2 vs n h' tk', s.heap.StaysIn h' → s.heap.get? z = none → s.heap.get? y = none → z ≠ y → h'.get? z = some { cls := .type "tuple", data := .seq #[.str (sL (bF x)) t1, .ref y, .str (sL (nF x)) t2] } → 
       h'.get? y = some (W.listOf (List.toArray vs) n) → IntsAre vs (kF x) → Q (.ref z) { s with heap := h', toks := tk' }) :
    wpAny (model PR w) (At 540 3700 outer) (call (.ref 92) [.int x tx]) Q E s := by
  have B := a.below
  have X := a.inK
  have T := a.top
  walk_at "my enter"
  intro L h1 tk F N
  replace F : Fr s.heap L h1 (mk [(Str.ofString "x", some (.int x tx))]) := by rw [mk_lookup] at F; exact F
  clear a
  have hbl : (bF x).length ≤ 3 := by
    have h1 := Int.fmod_nonneg_of_pos x (b := 4) (by decide)
    have h2 := Int.fmod_lt_of_pos x (b := 4) (by decide)
    unfold bF
    generalize Int.fmod x 4 = k at *
    rcases (show k = 0 ∨ k = 1 ∨ k = 2 ∨ k = 3 by omega) with rfl | rfl | rfl | rfl <;> decide
  refine wpN_cut (fun s' => ∃ h tk t, s' = ⟨h, s.gens, s.drawn, tk, s.os⟩ ∧ Fr s.heap L h (mk [(Str.ofString "base", some (.str (sL (bF x)) t)), (Str.ofString "x", some (.int x tx))]) ∧ News s.heap L h []) ?_ ?_
  · refine wpN_abs fun Q1 hQ1 => ?_
    walk_at "my steps"
    all_goals
      rename Fr _ _ _ _ => F
      rename Int.fmod x 4 = _ => e
      have e2 : bF x = _ := congrArg (fun k : Int => [[], [97], [97, 98], [98, 45, 97]].getD k.toNat []) e
      exact hQ1 _ _ ⟨rfl, _, _, _, rfl, by rw [e2]; exact F, News.nil⟩
  clear F N
  rintro _ ⟨h, tk, tb, rfl, F, N⟩
  refine wpN_cut (fun s' => ∃ h tk t, s' = ⟨h, s.gens, s.drawn, tk, s.os⟩ ∧ 128 ≤ cF x ∧ cF x ≤ 8364 ∧ Fr s.heap L h (mk [(Str.ofString "code", some (.int (cF x) t)), (Str.ofString "base", some (.str (sL (bF x)) tb)), (Str.ofString "x", some (.int x tx))]) ∧ News s.heap L h []) ?_ ?_
  · refine wpN_abs fun Q1 hQ1 => ?_
    walk_at "my steps"
    all_goals
      rename Fr _ _ _ _ => F
      rename Int.fmod (Int.fdiv x 4) 4 = _ => e
      have e2 : cF x = _ := congrArg (fun k : Int => [(128 : Int), 233, 252, 8364].getD k.toNat 0) e
      exact hQ1 _ _ ⟨rfl, _, _, _, rfl, by rw [e2]; decide, by rw [e2]; decide, by rw [e2]; exact F, News.nil⟩
  clear F N
  rintro _ ⟨h, tk, tc, rfl, hc0, hc1, F, N⟩
  have hp : 0 ≤ pF x ∧ pF x ≤ (bF x).length := by
    unfold pF
    have h1 := Int.fmod_nonneg_of_pos (Int.fdiv x 16) (b := (bF x).length + 1) (by omega)
    have h2 := Int.fmod_lt_of_pos (Int.fdiv x 16) (b := (bF x).length + 1) (by omega)
    omega
  -- place
  refine wpN_cons ?_
  walk_at "my steps"
  rename Fr _ _ _ _ => F
  replace F : Fr s.heap L _ (mk [(Str.ofString "place", some (.int (pF x) _)), (Str.ofString "code", some (.int (cF x) tc)), (Str.ofString "base", some (.str (sL (bF x)) tb)), (Str.ofString "x", some (.int x tx))]) := F
  obtain ⟨hp0, hp1⟩ := hp
  -- text
  refine Stop.go (wpN_cons ?_)
  walk_at "my steps"
  have hn1 : (n1F x).length = (bF x).length + 1 := by
    unfold n1F put
    simp only [List.length_append, List.length_take, List.length_drop, List.length_cons, List.length_nil]; omega
  rename Fr _ _ _ _ => F
  replace F : Fr s.heap L _ (mk [(Str.ofString "text", some (.str (sL (n1F x)) _)), (Str.ofString "place", some (.int (pF x) _)), (Str.ofString "code", some (.int (cF x) tc)), (Str.ofString "base", some (.str (sL (bF x)) tb)), (Str.ofString "x", some (.int x tx))]) := F
  -- counts
  refine Stop.go (wpN_cons ?_)
  walk_at "my steps"
  refine Stop.go (wpN_cons ?_)
  by_cases ht : tweF x = true
  · refine wpN_IfT ?_
    walk_at "my steps"
    refine Stop.go ⟨decide_eq_true (eq_of_beq ht), ?_⟩
    -- later
    refine wpN_cons ?_
    walk_at "my steps"
    rename Fr _ _ _ _ => F
    rename News _ _ _ _ => N
    replace F : Fr s.heap L _ (mk [(Str.ofString "later", some (.int (latF x) _)), (Str.ofString "counts", _), (Str.ofString "text", some (.str (sL (n1F x)) _)), (Str.ofString "place", some (.int (pF x) _)), (Str.ofString "code", some (.int (cF x) tc)), (Str.ofString "base", some (.str (sL (bF x)) tb)), (Str.ofString "x", some (.int x tx))]) := F
    have hl : latF x = 0 ∨ latF x = 19 := by
      unfold latF
      have h1 := Int.fmod_nonneg_of_pos (Int.fdiv x 128) (b := 2) (by decide)
      have h2 := Int.fmod_lt_of_pos (Int.fdiv x 128) (b := 2) (by decide)
      omega
    have hb : 0 ≤ behF x ∧ behF x ≤ (bF x).length + 1 := by
      unfold behF
      split
      · have h1 := Int.fmod_nonneg_of_pos (Int.fdiv x 256) (b := (bF x).length + 2) (by omega)
        have h2 := Int.fmod_lt_of_pos (Int.fdiv x 256) (b := (bF x).length + 2) (by omega)
        omega
      · omega
    obtain ⟨hb0, hb1⟩ := hb
    refine Stop.go (wpN_cut (fun s' => ∃ h tk y t t2 t3 t4 t5, s' = ⟨h, s.gens, s.drawn, tk, s.os⟩ ∧ Fr s.heap L h (mk [(Str.ofString "behind", some (.int (behF x) t)), (Str.ofString "later", some (.int (latF x) t2)), (Str.ofString "counts", some (.ref y)), (Str.ofString "text", some (.str (sL (n1F x)) t3)), (Str.ofString "place", some (.int (pF x) t4)), (Str.ofString "code", some (.int (cF x) tc)), (Str.ofString "base", some (.str (sL (bF x)) tb)), (Str.ofString "x", some (.int x tx))]) ∧ News s.heap L h [(y, W.listOf #[Value.int ((cF x - 128) * (↑(bF x).length + 1) + pF x) t5] 0)]) ?_ ?_)
    · walk_at "my steps"
      · rename Fr _ _ _ _ => F
        rename 0 < latF x => h
        exact ⟨trivial, _, _, _, _, _, _, _, _, rfl, by rw [show behF x = _ from if_pos h]; exact F, by assumption⟩
      · rename Fr _ _ _ _ => F
        rename ¬ 0 < latF x => h
        exact ⟨rfl, _, _, _, _, _, _, _, _, rfl, by rw [show behF x = _ from if_neg h]; exact F, by assumption⟩
    clear F N
    rintro _ ⟨h, tk, y, t, t2, t3, t4, t5, rfl, F, N⟩
    have hn1' : (n1F x).length ≤ 4 := by omega
    have hb2 : behF x ≤ (n1F x).length := by omega
    refine wpN_cons ?_
    walk_at "my steps"
    rename Fr _ _ _ _ => F
    replace F : Fr s.heap L _ (mk [(Str.ofString "text", some (.str (sL (put (n1F x) (behF x) (cF x + latF x))) _)), (Str.ofString "behind", some (.int (behF x) t)), (Str.ofString "later", some (.int (latF x) t2)), (Str.ofString "counts", some (.ref y)), (Str.ofString "place", some (.int (pF x) t4)), (Str.ofString "code", some (.int (cF x) tc)), (Str.ofString "base", some (.str (sL (bF x)) tb)), (Str.ofString "x", some (.int x tx))]) := fr_norm [Str.ofString "text", Str.ofString "behind", Str.ofString "later", Str.ofString "counts", Str.ofString "place", Str.ofString "code", Str.ofString "base", Str.ofString "x"] F rfl
    refine Stop.go (wpN_cons ?_)
    walk_at "my steps"
    refine Stop.go (wpAny_execs_nil (Stop.go ?_))
    walk_at "my steps"
    rename Fr _ _ _ _ => F
    rename News _ _ _ _ => N
    rename y < _ => hlt
    have e1 : nF x = put (n1F x) (behF x) (cF x + latF x) := by unfold nF; rw [ht]; exact if_pos rfl
    have e2 : kF x = [(cF x - 128) * ((bF x).length + 1) + pF x, latF x * ((bF x).length + 2) + behF x - pF x - 1] := by unfold kF; rw [ht]; rfl
    exact hret _ _ _ _ [_, _] _ _ _ F.keep (N.fresh (.head _)) (N.fresh (.tail _ (.head _))) (Nat.ne_of_gt hlt) (by rw [e1]; exact N.get (.head _)) (N.get (.tail _ (.head _))) (by rw [e2]; exact IntsAre.cons _ _ (.cons _ _ .nil))
  · refine wpN_IfF ?_
    walk_at "my steps"
    refine Stop.go ⟨decide_eq_false fun e => ht (beq_iff_eq.mpr e), ?_⟩
    walk_at "my steps"
    refine Stop.go ?_
    walk_at "my steps"
    rename Fr _ _ _ _ => F
    rename News _ _ _ _ => N
    rename _ < _ => hlt
    rw [Bool.not_eq_true] at ht
    have e1 : nF x = n1F x := by unfold nF; rw [ht]; exact if_neg Bool.false_ne_true
    have e2 : kF x = [(cF x - 128) * ((bF x).length + 1) + pF x] := by unfold kF; rw [ht]; rfl
    exact hret _ _ _ _ [_] _ _ _ F.keep (N.fresh (.head _)) (N.fresh (.tail _ (.head _))) (Nat.ne_of_gt hlt) (by rw [e1]; exact N.get (.head _)) (N.get (.tail _ (.head _))) (by rw [e2]; exact IntsAre.cons _ _ .nil)
theorem news_made2 {h₀ h h' : Heap} {L x y : Addr} {m : Map} {news : Led} {o o2 : Obj} (F : Fr h₀ L h m) (N : News h₀ L h news) (k : h.StaysIn h') (hx : h.get? x = none) (hy : h.get? y = none) (ho : h'.get? x = some o) (ho2 : h'.get? y = some o2) : News h₀ L h' ((x, o) :: (y, o2) :: news) := fun p hp => by
  rcases List.mem_cons.mp hp with rfl | hp
  · exact news_made F N k hx ho _ (.head _)
  · exact news_made F N k hy ho2 p hp
theorem words1_name : True := by
  k_with "call ref" => (k_here; k_dflt (refine' use_amb (by k_asm) (by k_asm) (by k_asm) (by k_asm) rfl rfl (fun am => con_name am ?_) (Nat.le_of_ble_eq_true rfl) (Nat.le_of_ble_eq_true rfl); k_whole; intro _ _ _ _ _ _ _ _ hs' hz' hy' _ hoz' hoy' _; clear am; (have := news_made2 (by k_asm) (by k_asm) hs' hz' hy' hoz' hoy'); (have := fr_stays (by k_asm) hs'); clear hs' hz' hy' hoz' hoy'; (try k_sweep); (try dsimp only)))
  exact True.intro


/-! part: Plain4 -/
def octF (x : Int) (i c : Nat) : Nat := if 96 < c ∧ Int.fmod (Int.fdiv x (2 ^ (9 + i % 3))) 2 = 1 then c - 32 else c
def octL (x : Int) : List Nat → Nat → List Nat
  | [], _ => []
  | c :: r, i => octF x i c :: octL x r (i + 1)
def aheadF (x : Int) : List Nat := if bF x = [] then [] else bF x ++ [45]
def labF (x : Int) : List Nat := aheadF x ++ octL x (GI (bF x).length (kF x)) 0
theorem digitB_lt7 (d : Int) : digitB d < 128 := by
  unfold digitB
  have : ∀ (l : List Nat) (n : Nat), (∀ c ∈ l, c < 128) → l.getD n 0 < 128 := by
    intro l
    induction l with
    | nil => intro n _; simp
    | cons a r ih => intro n h; cases n with
      | zero => exact h a (.head _)
      | succ n => exact ih n fun c hc => h c (.tail _ hc)
  exact this _ _ (by decide)
theorem ggi_lt : ∀ (f : Nat) (n b j : Int), ∀ c ∈ ggi f n b j, c < 128
  | 0, _, _, _ => by intro c h; cases h
  | f + 1, n, b, j => by
    unfold ggi
    intro c h
    split at h
    · rw [List.mem_singleton.mp h]; exact digitB_lt7 _
    · rcases List.mem_cons.mp h with rfl | h
      · exact digitB_lt7 _
      · exact ggi_lt f _ b _ c h
theorem giF_lt (bl : Int) : ∀ (ds : List Int) (k : Nat) (b : Int), ∀ c ∈ giF bl ds k b, c < 128
  | [], _, _ => by intro c h; cases h
  | d :: r, k, b => by
    unfold giF
    intro c h
    rcases List.mem_append.mp h with h | h
    · exact ggi_lt _ _ _ _ c h
    · exact giF_lt bl r _ _ c h
theorem octL_length (x : Int) : ∀ (l : List Nat) (i : Nat), (octL x l i).length = l.length
  | [], _ => rfl
  | _ :: r, i => congrArg (· + 1) (octL_length x r (i + 1))
theorem octL_snoc (x : Int) : ∀ (l : List Nat) (i c : Nat), octL x (l ++ [c]) i = octL x l i ++ [octF x (i + l.length) c]
  | [], _, _ => rfl
  | a :: r, i, c => by
    show octF x i a :: octL x (r ++ [c]) (i + 1) = octF x i a :: (octL x r (i + 1) ++ [octF x (i + (r.length + 1)) c])
    rw [octL_snoc x r (i + 1) c, show i + 1 + r.length = i + (r.length + 1) by omega]
theorem octF_lt {x : Int} {i c : Nat} (h : c < 128) : octF x i c < 128 := by unfold octF; split <;> omega
theorem octL_lt (x : Int) : ∀ (l : List Nat) (i : Nat), (∀ c ∈ l, c < 128) → ∀ c ∈ octL x l i, c < 128
  | [], _, _ => by intro c h; cases h
  | a :: r, i, hl => by
    intro c h
    rcases List.mem_cons.mp h with rfl | h
    · exact octF_lt (hl a (.head _))
    · exact octL_lt x r _ (fun c hc => hl c (.tail _ hc)) c h
theorem fmod4 (y : Int) : Int.fmod y 4 = 0 ∨ Int.fmod y 4 = 1 ∨ Int.fmod y 4 = 2 ∨ Int.fmod y 4 = 3 := by
  have h1 := Int.fmod_nonneg_of_pos y (b := 4) (by decide)
  have h2 := Int.fmod_lt_of_pos y (b := 4) (by decide)
  omega
theorem bF_cases (x : Int) : bF x = [] ∨ bF x = [97] ∨ bF x = [97, 98] ∨ bF x = [98, 45, 97] := by
  unfold bF
  rcases fmod4 x with e | e | e | e <;> rw [e] <;> decide
theorem bF_len (x : Int) : (bF x).length ≤ 3 := by rcases bF_cases x with e | e | e | e <;> rw [e] <;> decide
theorem cF_cases (x : Int) : cF x = 128 ∨ cF x = 233 ∨ cF x = 252 ∨ cF x = 8364 := by
  unfold cF
  rcases fmod4 (Int.fdiv x 4) with e | e | e | e <;> rw [e] <;> decide
theorem pF_ok (x : Int) : 0 ≤ pF x ∧ pF x ≤ (bF x).length := by
  unfold pF
  have h1 := Int.fmod_nonneg_of_pos (Int.fdiv x 16) (b := (bF x).length + 1) (by omega)
  have h2 := Int.fmod_lt_of_pos (Int.fdiv x 16) (b := (bF x).length + 1) (by omega)
  omega
theorem latF_cases (x : Int) : latF x = 0 ∨ latF x = 19 := by
  unfold latF
  have h1 := Int.fmod_nonneg_of_pos (Int.fdiv x 128) (b := 2) (by decide)
  have h2 := Int.fmod_lt_of_pos (Int.fdiv x 128) (b := 2) (by decide)
  omega
theorem behF_ok (x : Int) : 0 ≤ behF x ∧ behF x ≤ (bF x).length + 1 := by
  have hp := pF_ok x
  unfold behF
  split
  · have h1 := Int.fmod_nonneg_of_pos (Int.fdiv x 256) (b := (bF x).length + 2) (by omega)
    have h2 := Int.fmod_lt_of_pos (Int.fdiv x 256) (b := (bF x).length + 2) (by omega)
    omega
  · omega
theorem kF_ok (x : Int) : ∀ d ∈ kF x, 0 ≤ d ∧ d ≤ 100000 := by
  have hb := bF_len x
  have hp := pF_ok x
  have hc := cF_cases x
  have hl := latF_cases x
  have hh := behF_ok x
  have h2 : latF x = 0 → behF x = pF x + 1 := fun e => by unfold behF; rw [if_neg (by omega)]
  unfold kF
  intro d hd
  rcases List.mem_cons.mp hd with rfl | hd
  · generalize (bF x).length = n at *
    rcases (show n = 0 ∨ n = 1 ∨ n = 2 ∨ n = 3 by omega) with rfl | rfl | rfl | rfl <;> rcases hc with e | e | e | e <;> rw [e] <;> omega
  · split at hd
    · rw [List.mem_singleton.mp hd]
      rcases hl with e | e
      · have := h2 e; rw [e]; omega
      · rw [e]; omega
    · cases hd
theorem kF_len (x : Int) : (kF x).length ≤ 2 := by unfold kF; split <;> simp
theorem giF_length (bl : Int) : ∀ (ds : List Int) (k : Nat) (b : Int), (∀ d ∈ ds, 0 ≤ d ∧ d ≤ 100000) → (giF bl ds k b).length ≤ 100001 * ds.length
  | [], _, _, _ => Nat.le_refl _
  | d :: r, k, b, h => by
    have h1 := ggiF_length (b := b) (h d (.head _)).1 (h d (.head _)).2
    have h2 := giF_length bl r (k + 1) (adaptF d ((k : Int) == 0) (bl + k + 1)) fun c hc => h c (.tail _ hc)
    unfold giF
    rw [List.length_append, List.length_cons]
    omega
theorem GI_length (x : Int) : (GI (bF x).length (kF x)).length ≤ 200002 := by
  have := giF_length (bF x).length (kF x) 0 72 (kF_ok x)
  have := kF_len x
  unfold GI; omega
theorem GI_lt (x : Int) : ∀ c ∈ GI (bF x).length (kF x), c < 128 := giF_lt _ _ _ _


/-! part: label -/
section
variable {prog : Program} {w : World} {A : Around} {s : Shared} {env : Env}
/-- a for over a name, its iterable in a clean context, its body anywhere -/
theorem wpC_For_V {Q : Flow → Shared → Prop} {x : Str} {px pos : Pos} {iter : Expr} {body : List Stmt} (h₀ : Heap) (hx : env.kindOf x = some .local)
    (hp : (env.scope.kind == .class || (env.scope.kind == .module && env.locals != env.globals)) = false)
    (h : wpC (model prog w) A (eval iter env) (fun xv s₁ => wpN (model prog w) A (pyIter xv) (fun it s₂ => LoopAtV prog w A h₀ env x body Q (fun _ _ => False) it s₂) s₁) s)
    (hs : ∀ x, foldedSetIterable iter env x = pure x := by intro _; rfl) :
    wpC (model prog w) A (exec (.For (.Name x px) iter body [] pos) env) Q s := by
  refine wpC_For (wpC_mono h fun xv s₁ h₁ => wpAny_mono h₁ (fun it s₂ h₂ => ?_) fun _ _ e => e) hs
  obtain ⟨I, fp, wr, n, P, St, m, news, J, rfl, W, hLf, hwr, hnw, hst, F, N, h0, step, hQ⟩ := h₂
  exact codeC_of (codeAny_forLoop_frV (R := okR Q) W hx hp hLf hwr hnw hst F N J h0 (by intros; refine wpAny_mono ?_ (fun _ _ e => e) (E := fun _ _ => False) (fun _ _ e => False.elim e); apply step <;> assumption) hQ)
theorem len_led {E : Value → Shared → Prop} {hp : Heap} {g : Array GenState} {dr : Drawn} {tk : Nat} {os : OsState} {Q : Value → Shared → Prop} {h₀ : Heap} {L r : Addr} {news : Led} {its : Array Value} {c n : Nat}
    (N : News h₀ L hp news) (hm : (r, W.listOf its c) ∈ news) (hs : its.size = n) (hf : n < 2 ^ 62) (h : ∀ t' k, Q (.int (n : Nat) t') ⟨hp, g, dr, k, os⟩) :
    wpAny (model prog w) A (call (.builtin "len") [.ref r]) Q E ⟨hp, g, dr, tk, os⟩ := by
  subst hs
  exact Calls.call_len_list (s := ⟨hp, g, dr, tk, os⟩) (News.isList N hm) (by omega) (h _ _)
theorem pow_led {E : Value → Shared → Prop} {hp : Heap} {g : Array GenState} {dr : Drawn} {tk : Nat} {os : OsState} {Q : Value → Shared → Prop} {n p : Int} {t u : Tok}
    (e : (2 : Int) ^ n.toNat = p) (h0 : 0 ≤ n) (h1 : n ≤ 20) (h : ∀ t' k, Q (.int p t') ⟨hp, g, dr, k, os⟩) : wpAny (model prog w) A (binaryOp .Pow (.int 2 t) (.int n u)) Q E ⟨hp, g, dr, tk, os⟩ := by
  subst e
  exact pow_int_small (s := ⟨hp, g, dr, tk, os⟩) h0 (by omega) (by decide) (h _ _)
theorem add_hy {E : Value → Shared → Prop} {hp : Heap} {g : Array GenState} {dr : Drawn} {tk : Nat} {os : OsState} {Q : Value → Shared → Prop} {a : List Nat} {t u : Tok} (hz : a.length ≤ 2000) (h : ∀ t' k, Q (.str (sL (a ++ [45])) t') ⟨hp, g, dr, k, os⟩) :
    wpAny (model prog w) A (binaryOp .Add (.str (sL a) t) (.str (Str.ofString "-") u)) Q E ⟨hp, g, dr, tk, os⟩ := by
  have e : Str.ofString "-" = sL [45] := rfl
  rw [e]
  exact add_sL (by simp; omega) h
end
theorem words1_label : True := by
  k_with "eval ListComp" => (k_here; refine stop_here ?_)
  k_with "call builtin:len" => (k_here; k_dflt (refine' len_led (by k_asm) (by k_mem) (by assumption) (by omega) ?_; k_whole; intro _ _))
  k_with "binaryOp Add str str" => (k_here; k_dflt (refine' add_hy (by omega) ?_; k_whole; intro _ _))
  k_with "binaryOp Pow int int" => (k_here; k_dflt (refine' pow_led (by assumption) (by omega) (by omega) ?_; k_whole; intro _ _))
  exact True.intro

theorem ints_snoc {vs : List Value} {ns : List Int} (h : IntsAre vs ns) (k : Int) (t : Tok) : IntsAre (vs ++ [.int k t]) (ns ++ [k]) := by
  induction h with
  | nil => exact .cons _ _ .nil
  | cons n t' _ ih => exact .cons _ _ ih
theorem ints_paired {F : Value → Value → Prop} (hF : ∀ {v r : Value}, F v r → ∃ (c : Nat) (u u' : Tok), v = .str ⟨#[c]⟩ u ∧ r = .int (c : Nat) u') : ∀ {vs ys : List Value} {l : List Nat}, Paired F vs ys → vs.length = l.length → (∀ (j : Nat) (v : Value), vs[j]? = some v → ∃ (c : Nat) (u : Tok), l[j]? = some c ∧ v = .str ⟨#[c]⟩ u) → IntsAre ys (l.map Int.ofNat)
  | _, _, [], .nil, _, _ => .nil
  | _, _, a :: l, .cons (a := v) h r, hl, hP => by
    obtain ⟨c, u, u', rfl, rfl⟩ := hF h
    obtain ⟨c', u2, h1, h2⟩ := hP 0 _ rfl
    simp only [List.getElem?_cons_zero, Option.some.injEq] at h1
    subst h1
    have : c = a := by simpa using (Value.str.inj h2).1
    subst this
    exact .cons _ _ (ints_paired hF r (by simpa using hl) fun j v hv => hP (j + 1) v hv)
theorem aheadF_lt (x : Int) : ∀ c ∈ aheadF x, c < 128 := by
  unfold aheadF
  rcases bF_cases x with e | e | e | e <;> rw [e] <;> decide
set_option maxHeartbeats 8000000 in
theorem con_label {w : World} {mean : ExcName → Option Value} {mg mb : Map} {outer : List Env} {base : Heap} {s : Shared} {Q : Value → Shared → Prop} {x : Int} {tx : Tok}
    (a : Amb w mean mg mb 520 3600 outer base s.heap)
    (hret : ∀ t h' tk', s.heap.StaysIn h' → Q (.bytes (bArr (labF x)) t) { s with heap := h', toks := tk' }) :
    wpC (model PR w) (At 520 3600 outer) (call (.ref 97) [.int x tx]) Q s := by
  have B := a.below
  have X := a.inK
  have T := a.top
  have hbl := bF_len x
  walk_at "my enterC"
  intro L h1 tk F N
  replace F : Fr s.heap L h1 (mk [(Str.ofString "x", some (.int x tx))]) := by rw [mk_lookup] at F; exact F
  clear a
  refine wpC_execs_cons (wpC_of ?_)
  walk_at "my steps"
  refine wpC_execs_cons (wpC_of ?_)
  walk_at "my steps"
  refine wpC_execs_cons (wpC_For_V s.heap rfl rfl (wpC_Call_Name ?_))
  walk_at "my steps"
  refine wpC_callWith_K (K := hd.heap_39 w.params) (by k_dflt k_is) ?_
  walk_at "my steps"
  rename IntsAre _ _ => hi
  rename Fr _ _ _ _ => F
  rename News _ _ _ _ => N
  refine' use_ambC ?B ?F ?X ?T ?hf ?hk (fun am => con_gi am (Int.natCast_nonneg _) (by omega) ⟨_, N.get (.tail _ (.tail _ (.head _))), rfl, _, rfl⟩ hi (kF_ok x) (Nat.le_trans (kF_len x) (by decide)) ?_) ?hd ?hu
  walk_at "my use"
  intro t1 h2 tk2 hs2
  have F2 := fr_stays F hs2
  have N2 := news_stays N hs2
  clear F N hs2 hi
  generalize hg : GI (bF x).length (kF x) = oc
  have hoc : ∀ c ∈ oc, c < 128 := hg ▸ GI_lt x
  have hol : oc.length ≤ 200002 := hg ▸ GI_length x
  obtain ⟨r, y, t5, t6, F2, N3⟩ : ∃ r y t5 t6, Fr s.heap L h2 (mk [(Str.ofString "octets", some (.ref r)), (Str.ofString "text", some (.str (sL (nF x)) t5)), (Str.ofString "counts", some (.ref y)), (Str.ofString "base", some (.str (sL (bF x)) t6)), (Str.ofString "x", some (.int x tx))]) ∧ News s.heap L h2 [(r, W.listOf (List.toArray []) 0)] :=
    ⟨_, _, _, _, F2, fun p hp => N2 p (by rw [List.mem_singleton.mp hp]; exact .head _)⟩
  clear N2
  clear am
  refine KBmo.iter_bytesN (s := ⟨h2, s.gens, s.drawn, tk2, s.os⟩) (fun i m nx => ∃ oo us n, m = mk [(Str.ofString "octets", some (.ref r)), (Str.ofString "text", some (.str (sL (nF x)) t5)), (Str.ofString "counts", some (.ref y)), (Str.ofString "base", some (.str (sL (bF x)) t6)), (Str.ofString "x", some (.int x tx)), (Str.ofString "octet", oo)] ∧ nx = [(r, W.listOf (List.toArray us) n)] ∧ IntsAre us ((octL x (oc.take i) 0).map Int.ofNat))
    (bArr_ints oc fun c hc => Nat.lt_trans (hoc c hc) (by decide)) rfl (fr_norm [Str.ofString "octets", Str.ofString "text", Str.ofString "counts", Str.ofString "base", Str.ofString "x", Str.ofString "octet"] F2 rfl) N3 ⟨none, [], 0, rfl, rfl, .nil⟩ ?_ ?_
  · clear F2 N3
    rintro i k t m1 news1 h tk own hk hk0 hk1 hoff ⟨oo, us, n, rfl, rfl, hi⟩ F N
    replace F : Fr s.heap L h (mk [(Str.ofString "octet", some (.int k t)), (Str.ofString "octets", some (.ref r)), (Str.ofString "text", some (.str (sL (nF x)) t5)), (Str.ofString "counts", some (.ref y)), (Str.ofString "base", some (.str (sL (bF x)) t6)), (Str.ofString "x", some (.int x tx)), (Str.ofString "octet", oo)]) := by rw [mk_set] at F; exact F
    replace N : News s.heap L h ([(r, W.listOf us.toArray n)] ++ own) := N
    replace hoff : OwnOff own [r] := hoff
    have hil := (List.getElem?_eq_some_iff.mp hk).1
    rw [List.length_map] at hil
    have hul : us.length = i := by
      have := hi.length
      rw [List.length_map, octL_length, List.length_take] at this
      omega
    obtain ⟨c, hc, rfl⟩ : ∃ c, oc[i]? = some c ∧ k = Int.ofNat c := by
      rw [List.getElem?_map] at hk
      obtain ⟨c, hc, e⟩ := Option.map_eq_some_iff.mp hk
      exact ⟨c, hc, e.symm⟩
    have hnx : (octL x (oc.take (i + 1)) 0).map Int.ofNat = (octL x (oc.take i) 0).map Int.ofNat ++ [Int.ofNat (octF x i c)] := by
      rw [List.take_add_one, hc]
      show (octL x (oc.take i ++ [c]) 0).map Int.ofNat = _
      rw [octL_snoc, List.map_append, List.length_take, Nat.min_eq_left (Nat.le_of_lt hil), Nat.zero_add]
      rfl
    have hsz : us.toArray.size = i := by rw [List.size_toArray]; exact hul
    have hm3 := Int.fmod_nonneg_of_pos (i : Int) (b := 3) (by decide)
    have hm4 := Int.fmod_lt_of_pos (i : Int) (b := 3) (by decide)
    obtain ⟨pw, hpw, hpa, hpb, hpe⟩ : ∃ pw, (2 : Int) ^ (9 + Int.fmod i 3).toNat = pw ∧ 512 ≤ pw ∧ pw ≤ 2048 ∧ pw = (2 : Int) ^ (9 + i % 3) := by
      have e : (9 + Int.fmod i 3).toNat = 9 + i % 3 := by rw [Int.fmod_eq_emod_of_nonneg _ (by decide)]; omega
      refine ⟨_, rfl, ?_, ?_, by rw [e]⟩ <;> rw [e] <;> rcases (show i % 3 = 0 ∨ i % 3 = 1 ∨ i % 3 = 2 by omega) with e | e | e <;> rw [e] <;> decide
    refine wpN_abs fun Q1 hQ1 => ?_
    have fin : ∀ h' tk' v tv nn, v = Int.ofNat (octF x i c) → Fr s.heap L h' (mk [(Str.ofString "octet", some (.int (Int.ofNat c) t)), (Str.ofString "octets", some (.ref r)), (Str.ofString "text", some (.str (sL (nF x)) t5)), (Str.ofString "counts", some (.ref y)), (Str.ofString "base", some (.str (sL (bF x)) t6)), (Str.ofString "x", some (.int x tx)), (Str.ofString "octet", oo)]) →
        News s.heap L h' ((r, W.listOf (us.toArray.push (.int v tv)) nn) :: [].append own) → Q1 .next ⟨h', s.gens, s.drawn, tk', s.os⟩ := by
      intro h' tk' v tv nn e F N
      subst e
      refine hQ1 _ _ ⟨h', tk', _, _, [(r, W.listOf (List.toArray (us ++ [.int (Int.ofNat (octF x i c)) tv])) nn)], rfl, fr_norm [Str.ofString "octets", Str.ofString "text", Str.ofString "counts", Str.ofString "base", Str.ofString "x", Str.ofString "octet"] F rfl, N, fun p hp => ?_, fun p hp => .tail _ hp, rfl, _, _, _, rfl, rfl, ?_⟩
      · rw [List.mem_singleton.mp hp, List.push_toArray]; exact .head _
      · rw [hnx]; exact ints_snoc hi _ _
    refine wpN_cons ?_
    walk_at "my steps"
    · rename Fr _ _ _ _ => F
      rename News _ _ _ _ => N
      rename Int.fmod (Int.fdiv x pw) 2 = 1 => h1
      rename 96 < Int.ofNat c => h2
      refine Stop.go (wpAny_execs_nil (fin _ _ _ _ _ ?_ F N))
      have h2' : 96 < c := Int.ofNat_lt.mp h2
      rw [show octF x i c = c - 32 from if_pos ⟨h2', by rw [← hpe]; exact h1⟩]
      show (c : Int) - 32 = ((c - 32 : Nat) : Int)
      omega
    · rename Fr _ _ _ _ => F
      rename News _ _ _ _ => N
      rename Int.fmod (Int.fdiv x pw) 2 ≠ 1 => h1
      refine Stop.go (wpAny_execs_nil (fin _ _ _ _ _ ?_ F N))
      rw [show octF x i c = c from if_neg fun q => h1 (by rw [hpe]; exact q.2)]
    · rename Fr _ _ _ _ => F
      rename News _ _ _ _ => N
      rename ¬ 96 < Int.ofNat c => h2
      refine Stop.go (wpAny_execs_nil (fin _ _ _ _ _ ?_ F N))
      rw [show octF x i c = c from if_neg fun q => h2 (Int.ofNat_lt.mpr q.1)]
  · clear F2 N3
    rintro m1 news1 h tk ⟨oo, us, n, rfl, rfl, hi⟩ F N
    rw [List.length_map, List.take_length] at hi
    replace F : Fr s.heap L h (mk [(Str.ofString "octets", some (.ref r)), (Str.ofString "text", some (.str (sL (nF x)) t5)), (Str.ofString "counts", some (.ref y)), (Str.ofString "base", some (.str (sL (bF x)) t6)), (Str.ofString "x", some (.int x tx)), (Str.ofString "octet", oo)]) := F
    replace N : News s.heap L h [(r, W.listOf us.toArray n)] := N
    refine wpC_of ?_
    refine wpN_cut (fun s' => ∃ h tk t, s' = ⟨h, s.gens, s.drawn, tk, s.os⟩ ∧ Fr s.heap L h (mk [(Str.ofString "ahead", some (.str (sL (aheadF x)) t)), (Str.ofString "octets", some (.ref r)), (Str.ofString "text", some (.str (sL (nF x)) t5)), (Str.ofString "counts", some (.ref y)), (Str.ofString "base", some (.str (sL (bF x)) t6)), (Str.ofString "x", some (.int x tx)), (Str.ofString "octet", oo)]) ∧ News s.heap L h [(r, W.listOf us.toArray n)]) ?_ ?_
    · refine wpN_abs fun Q1 hQ1 => ?_
      walk_at "my steps"
      · rename Fr _ _ _ _ => F
        rename (sL (bF x) != _) = true => hb
        have hb' : bF x ≠ [] := fun e => by rw [e] at hb; exact absurd hb (by decide)
        exact hQ1 _ _ ⟨rfl, _, _, _, rfl, by rw [show aheadF x = bF x ++ [45] from if_neg hb']; exact F, by assumption⟩
      · rename Fr _ _ _ _ => F
        rename (sL (bF x) != _) = false => hb
        have hb' : bF x = [] := by
          rcases bF_cases x with e | e | e | e
          · exact e
          all_goals rw [e] at hb; exact absurd hb (by decide)
        exact hQ1 _ _ ⟨rfl, _, _, _, rfl, by rw [show aheadF x = [] from if_pos hb']; exact F, by assumption⟩
    clear F N
    rintro _ ⟨h, tk, t, rfl, F, N⟩
    walk_at "my steps"
    have hal : (aheadF x).length ≤ 4 := by unfold aheadF; split <;> simp <;> omega
    refine Stop.go (wpAny_ListComp_free (cl := []) (fun _ => true) (fun v r => ∃ c u u', v = .str ⟨#[c]⟩ u ∧ r = .int (c : Nat) u') rfl (by decide) rfl (by decide) rfl ?_ (by intro _; rfl))
    walk_at "my steps"
    refine wpAny_pyIter_str fun o St W hst => ⟨_, _, _, _, _, St, rfl, W _ rfl, by rw [sizeLine_eq]; show (aheadF x).toArray.size ≤ _; rw [List.size_toArray]; omega, hst, ?_, ⟨?_, ?_⟩, ?_⟩
    · intro b hb
      rw [List.mem_singleton.mp hb]
      show _ < (Heap.push _ o).objs.size
      rw [Heap.size_push]
      exact Nat.lt_succ_self _
    · intro C i v s3 m3 E' hC hP hn hm hk htk
      exact wpAny_pure ⟨rfl, _, _, rfl, fun _ _ e => e⟩
    · rintro C i v s3 m3 E' hC ⟨c, u, hc, rfl⟩ _ hn hm hk htk
      have F3 := F.keeps (fun b o' e => hk b o' (old_not_new e) (Heap.get?_push_of_some _ e))
      have N3 := News.grown N (fun b o' e => hk b o' (old_not_new e) (Heap.get?_push_of_some _ e))
      clear F N hk
      walk_at "my steps"
      exact ⟨_, _, rfl, fun _ _ e => e⟩
    · intro D h3 tk3 ys vs hD hl hpl hlen hP hF hk
      have up : h.StaysIn h3 := fun b o' e => hk b o' (old_not_new e) (Heap.get?_push_of_some _ e)
      obtain ⟨nD, hpl⟩ := hpl
      have hD0 : h.get? D = none := by
        cases q : h.get? D with
        | none => rfl
        | some o' => rw [show (Heap.push h o).get? D = some o' from Heap.get?_push_of_some _ q] at hD; cases hD
      have N3 := news_made F N up hD0 hpl
      have F3 := fr_stays F up
      have hys : IntsAre ys.toList ((aheadF x).map Int.ofNat) := by
        have hf : vs.filter (fun _ => true) = vs := List.filter_eq_self.mpr fun _ _ => rfl
        rw [hf] at hF
        refine ints_paired (fun h => h) hF (by rw [hlen]; show (aheadF x).toArray.size = _; simp) fun j v hv => ?_
        obtain ⟨c, u, hc, e⟩ := hP j v hv
        exact ⟨c, u, by simpa using hc, e⟩
      clear hk up hD hl hpl hD0 hP hF hst W St
      clear F N
      walk_at "my steps"
      have hzl := octL_length x oc 0
      refine add_lists_ints F3 N3 ⟨_, (N3 _ (.head _)).1, rfl, nD, by rw [Array.toArray_toList]⟩ ⟨_, (N3 _ (.tail _ (.head _))).1, rfl, _, rfl⟩ hys hi (fun h4 F4 N4 hi4 => ?_) (by rw [sizeLine_eq, List.length_map, List.length_map]; omega)
      rw [← List.map_append] at hi4
      walk_at "my steps"
      refine call_bytes_ints ⟨_, (N4 _ (.head _)).1, rfl, _, rfl⟩ hi4 (fun n hn => ?_) (by rw [hi4.length, sizeLine_eq, List.length_map, List.length_append]; omega) rfl fun h5 t5 k5 hk5 => ?_
      · obtain ⟨c, hc, rfl⟩ := List.mem_map.mp hn
        have : c < 128 := by
          rcases List.mem_append.mp hc with hc | hc
          · exact aheadF_lt x c hc
          · exact octL_lt x oc 0 hoc c hc
        exact ⟨Int.natCast_nonneg _, by show (c : Int) < 256; omega⟩
      · refine ret_bytes hret (F4.keeps hk5) ?_
        unfold byteArr bArr labF
        rw [hg, List.map_map]
        rfl

theorem again_label : True := by
  k_with_none
  k_with "my enter" => (k_dflt (refine' enter (by assumption) ?k6 ?k7 ?k8 ?k9 ?kB ?_ ?c5 ?c2 ?c3 ?c4; (case k6 => k_is); (case k7 => k_is); (case k8 => decide); (case k9 => exact BindsTo.of_eq rfl); (case c5 => decide); (case kB => exact locs rfl); (case c2 => exact rfl); (case c3 => exact rfl); (case c4 => exact rfl); k_whole))
  k_with "my enterC" => (k_dflt (refine' enterC (by assumption) ?k6 ?k7 ?k8 ?k9 ?kB ?_ ?c5 ?c2 ?c3 ?c4; (case k6 => k_is); (case k7 => k_is); (case k8 => decide); (case k9 => exact BindsTo.of_eq rfl); (case c5 => decide); (case kB => exact locs rfl); (case c2 => exact rfl); (case c3 => exact rfl); (case c4 => exact rfl); k_whole))
  k_with "my steps" => repeat' (first | (k_unfold; (try dsimp only)) | walk1 | (dsimp only; walk1))
  k_with "storeName" => (k_here; k_dflt (first
  | (refine' st_int (by k_asm) (by k_asm) ?_ rfl rfl; k_whole; intro _ _ _ _ _; (try k_sweep); (try dsimp only))
  | (refine' st_str (by k_asm) (by k_asm) ?_ rfl rfl; k_whole; intro _ _ _ _ _; (try k_sweep); (try dsimp only))
  | (refine' st_bytes (by k_asm) (by k_asm) ?_ rfl rfl; k_whole; intro _ _ _ _ _; (try k_sweep); (try dsimp only))
  | (refine' st_val (by k_asm) (by k_asm) ?_ rfl rfl; k_whole; intro _ _ _ _; (try k_sweep); (try dsimp only))))
  k_with "my use" => ((case hd => exact Nat.le_of_ble_eq_true rfl); (case hu => exact Nat.le_of_ble_eq_true rfl); (case B => k_asm); (case F => k_asm); (case X => k_asm); (case T => k_asm); (case hf => rfl); (case hk => rfl); k_whole)
  k_with "getMethod ref" => (k_here; k_dflt (first
  | (refine' gm_append (News.get (by k_asm) (by k_mem)) ?_; k_whole)
  | (refine' gm_extend (News.get (by k_asm) (by k_mem)) ?_; k_whole)))
  k_with "call type:enumerate" => (k_here; refine stop_here ?_)
  k_with "call ref" => (k_here; k_dflt (refine' use_amb (by k_asm) (by k_asm) (by k_asm) (by k_asm) rfl rfl (fun am => con_T am ?_) (Nat.le_of_ble_eq_true rfl) (Nat.le_of_ble_eq_true rfl); k_whole; intro _ _ _ hs'; clear am; (have := fr_stays (by k_asm) hs'); (have := news_stays (by k_asm) hs'); clear hs'; (try k_sweep); (try dsimp only)))
  k_with "subscriptTail" => (k_here; (with_reducible show wpAny _ _ (subscriptTail _ _ (Value.bytes _ _) (Value.int _ _)) _ _ _); k_dflt (refine' item_digits (by omega) (by omega) ?_ (by with_unfolding_all rfl) (by intro _; with_unfolding_all rfl); k_whole); intro _ _)
  k_with "call type:bytes" => (k_here; (with_reducible show wpAny _ _ (call (Value.type _) [Value.ref _]) _ _ _); k_dflt (refine' call_bytes_ba (News.get (by k_asm) (by k_mem)) (by first | assumption | omega) ?_; k_whole); intro _ _)
  k_with "call ref" => (k_here; k_dflt (refine' use_amb (by k_asm) (by k_asm) (by k_asm) (by k_asm) rfl rfl (fun am => con_adapt am (by omega) (by omega) (by omega) ?_) (Nat.le_of_ble_eq_true rfl) (Nat.le_of_ble_eq_true rfl); k_whole; intro _ _ _ hs'; clear am; (have := fr_stays (by k_asm) hs'); (have := news_stays (by k_asm) hs'); clear hs'; (try k_sweep); (try dsimp only)))
  k_with "subscriptTail" => (k_here; (with_reducible show wpAny _ _ (subscriptTail _ _ (Value.bytes (bArr _) _) (Value.int _ _)) _ _ _); k_dflt (refine' item_bArr (by assumption) (by assumption) (by omega) (by first | assumption | (simp only [Int.toNat_natCast]; assumption)) ?_ (by with_unfolding_all rfl) (by intro _; with_unfolding_all rfl); k_whole); intro _ _)
  k_with "call ref" => (k_here; k_dflt (refine' use_amb (by k_asm) (by k_asm) (by k_asm) (by k_asm) rfl rfl (fun am => con_dgn am (by assumption) (by assumption) (by assumption) ?_) (Nat.le_of_ble_eq_true rfl) (Nat.le_of_ble_eq_true rfl); k_whole; intro _ _ _ _ _ hs' hx' ho'; clear am; (have := news_made (by k_asm) (by k_asm) hs' hx' ho'); (have := fr_stays (by k_asm) hs'); clear hs' hx' ho'; (try k_sweep); (try dsimp only)))
  k_with "my len" => first | assumption | omega | ((try simp only [List.length_append, List.length_take, List.length_drop, List.length_cons, List.length_nil]); omega)
  k_with "call builtin:len" => (k_here; k_dflt (first
  | (refine' len_sL (by walk_at "my len") ?_; k_whole; intro _ _)
  | (refine' len_bArr (by assumption) (by walk_at "my len") ?_; k_whole; intro _ _)))
  k_with "call builtin:chr" => (k_here; k_dflt (refine' chr_sL (by omega) (by omega) ?_; k_whole; intro _ _))
  k_with "binaryOp Add str str" => (k_here; k_dflt (refine' add_sL (by walk_at "my len") ?_; k_whole; intro _ _))
  k_with "subscriptTail Name Slice str ref" => (k_here; (try dsimp only); k_dflt (first
  | (refine' cut_to (by k_asm) (by k_asm) (by omega) (by walk_at "my len") (by walk_at "my len") ?_ (by with_unfolding_all rfl) (by intro _; with_unfolding_all rfl); k_whole; intro _ _ _ _ _; (try k_sweep))
  | (refine' cut_from (by k_asm) (by k_asm) (by omega) (by walk_at "my len") (by walk_at "my len") ?_ (by with_unfolding_all rfl) (by intro _; with_unfolding_all rfl); k_whole; intro _ _ _ _ _; (try k_sweep))))
  k_with "getMethod bytes" => (k_here; first
  | (refine' gm_rfind ?_; (try dsimp only))
  | (refine' gm_upper ?_; (try dsimp only)))
  k_with "call builtin:bytes.rfind" => (k_here; k_dflt (refine' call_rfind (by assumption) ?_; k_whole; intro _ _))
  k_with "call builtin:bytes.upper" => (k_here; k_dflt (refine' call_upper (by walk_at "my len") (by assumption) ?_; k_whole; intro _ _))
  k_with "call type:str" => (k_here; k_dflt (refine' call_asc (by assumption) ?_; k_whole; intro _ _))
  k_with "call ref" => (k_here; k_dflt (refine' use_amb (by k_asm) (by k_asm) (by k_asm) (by k_asm) rfl rfl (fun am => con_isort am (by assumption) (by assumption) (by assumption) ?_) (Nat.le_of_ble_eq_true rfl) (Nat.le_of_ble_eq_true rfl); k_whole; intro _ _ _ hs'; clear am; (have := fr_stays (by k_asm) hs'); (have := news_stays (by k_asm) hs'); clear hs'; (try k_sweep); (try dsimp only)))
  k_with "subscriptTail" => (k_here; (with_reducible show wpAny _ _ (subscriptTail _ _ (Value.bytes (bArr _) _) (Value.ref _)) _ _ _); (try dsimp only); k_dflt (first
  | (refine' cutB_to (by k_asm) (by k_asm) (by assumption) (by walk_at "my len") (by walk_at "my len") ?_ (by with_unfolding_all rfl) (by intro _; with_unfolding_all rfl); k_whole; intro _ _ _ _ _; (try k_sweep))
  | (refine' cutB_from (by first | exact rfl | exact (Int.natCast_succ _).symm) (by k_asm) (by k_asm) (by assumption) (by walk_at "my len") (by walk_at "my len") ?_ (by with_unfolding_all rfl) (by intro _; with_unfolding_all rfl); k_whole; intro _ _ _ _ _; (try k_sweep))))
  k_with "call ref" => (k_here; k_dflt (refine' use_amb (by k_asm) (by k_asm) (by k_asm) (by k_asm) rfl rfl (fun am => con_dec am (by assumption) (by assumption) (by assumption) (by assumption) ?_) (Nat.le_of_ble_eq_true rfl) (Nat.le_of_ble_eq_true rfl); k_whole; intro _ _ _ hs'; clear am; (have := fr_stays (by k_asm) hs'); (have := news_stays (by k_asm) hs'); clear hs'; (try k_sweep); (try dsimp only)))
  k_with "call ref" => (k_here; k_dflt (refine' use_amb (by k_asm) (by k_asm) (by k_asm) (by k_asm) rfl rfl (fun am => con_name am ?_) (Nat.le_of_ble_eq_true rfl) (Nat.le_of_ble_eq_true rfl); k_whole; intro _ _ _ _ _ _ _ _ hs' hz' hy' _ hoz' hoy' _; clear am; (have := news_made2 (by k_asm) (by k_asm) hs' hz' hy' hoz' hoy'); (have := fr_stays (by k_asm) hs'); clear hs' hz' hy' hoz' hoy'; (try k_sweep); (try dsimp only)))
  k_with "eval ListComp" => (k_here; refine stop_here ?_)
  k_with "call builtin:len" => (k_here; k_dflt (refine' len_led (by k_asm) (by k_mem) (by assumption) (by omega) ?_; k_whole; intro _ _))
  exact True.intro


/-! part: Seq -/
/-! lists of names (texts) and of labels (bytes), as one kind -/
open PySem.SeqAt
structure Kd (val : List Nat → Tok → Value) (P : List Nat → Prop) (dec : Value → List Nat) : Prop where
  dec : ∀ {x : List Nat} {t : Tok}, P x → dec (val x t) = x
  eq : ∀ {A : Around} {s : Shared} {x y : List Nat} {t u : Tok}, P x → P y → EqAt A s (val x t) (val y u) (x == y)
abbrev vS (l : List Nat) (t : Tok) : Value := .str (sL l) t
abbrev vB (l : List Nat) (t : Tok) : Value := .bytes (bArr l) t
def Sm (_ : List Nat) : Prop := True
def By (l : List Nat) : Prop := ∀ c ∈ l, c < 256
theorem sL_inj {a b : List Nat} : (sL a == sL b) = (a == b) := by
  rw [Bool.eq_iff_iff, beq_iff_eq, beq_iff_eq]
  constructor
  · intro h; have := congrArg Str.cps h; simpa using this
  · intro h; rw [h]
def dS : Value → List Nat
  | .str x _ => x.cps.toList
  | _ => []
def dB : Value → List Nat
  | .bytes b _ => (KBw.bInts b).map Int.toNat
  | _ => []
theorem kS : Kd vS Sm dS := ⟨fun _ => rfl, fun _ _ => by rw [← sL_inj]; exact EqAt.str_str _ _ _ _⟩
theorem bArr_inj {a b : List Nat} (ha : By a) (hb : By b) (h : (bArr a).toList = (bArr b).toList) : a = b := by
  have h1 := bArr_ints a ha
  have h2 := bArr_ints b hb
  have : KBw.bInts (bArr a) = KBw.bInts (bArr b) := by unfold KBw.bInts; rw [h]
  rw [h1, h2] at this
  have h3 := congrArg (List.map Int.toNat) this
  rw [List.map_map, List.map_map] at h3
  exact (List.map_id a).symm.trans (h3.trans (List.map_id b))
theorem kB : Kd vB By dB := ⟨fun {x t} h => by show (KBw.bInts (bArr x)).map Int.toNat = x; rw [bArr_ints x h, List.map_map]; exact List.map_id _, fun {A s x y t u} hx hy prog w E Q h => by
  have e : ((bArr x).toList == (bArr y).toList) = (x == y) := by
    rw [Bool.eq_iff_iff, beq_iff_eq, beq_iff_eq]
    exact ⟨bArr_inj hx hy, fun h => by rw [h]⟩
  rw [← e] at h
  unfold eqBool
  refine wpAny_holding ?_
  refine wpAny_ite_split (fun hab => ?_) (fun _ => ?_)
  · have e : bArr x = bArr y := by have := eq_of_beq hab; injection this
    rw [e, beq_self_eq_true] at h
    exact wpAny_bind (wpAny_rule (wpAny_pure h))
  · exact wpAny_bind (richCompare_gives (typeIs_bytes s _ t) (typeIs_bytes s _ u) FB.slot_bytes_eq FB.entry_bytes_eq (FB.args_bytes_eq_2 _ _) (gives_bytes_eq _ _ t u) (fun e => nomatch e) (wpAny_truthy_bool h))⟩

inductive Are (val : List Nat → Tok → Value) : List Value → List (List Nat) → Prop
  | nil : Are val [] []
  | cons (x : List Nat) (t : Tok) {vs xs} : Are val vs xs → Are val (val x t :: vs) (x :: xs)
theorem Are.length {val} : ∀ {vs xs}, Are val vs xs → vs.length = xs.length
  | _, _, .nil => rfl
  | _, _, .cons _ _ h => congrArg (· + 1) h.length
theorem Are.at {val} : ∀ {vs xs}, Are val vs xs → ∀ (i : Nat) (v : Value), vs[i]? = some v → ∃ x t, v = val x t ∧ xs[i]? = some x
  | _, _, .nil, i, v, h => by simp at h
  | _, _, .cons x t h, 0, v, e => by simp at e; exact ⟨x, t, e.symm, rfl⟩
  | _, _, .cons x t h, i + 1, v, e => h.at i v (by simpa using e)
theorem Are.snoc {val} {x : List Nat} {t : Tok} : ∀ {vs xs}, Are val vs xs → Are val (vs ++ [val x t]) (xs ++ [x])
  | _, _, .nil => .cons _ _ .nil
  | _, _, .cons _ _ h => .cons _ _ h.snoc
theorem Are.append {val} : ∀ {vs xs ws ys}, Are val vs xs → Are val ws ys → Are val (vs ++ ws) (xs ++ ys)
  | _, _, _, _, .nil, h => h
  | _, _, _, _, .cons _ _ r, h => .cons _ _ (r.append h)
theorem Are.mem {val} {vs xs} (h : Are val vs xs) {v : Value} (hv : v ∈ vs) : ∃ x t, v = val x t ∧ x ∈ xs := by
  obtain ⟨i, hi⟩ := List.getElem?_of_mem hv
  obtain ⟨x, t, e, hx⟩ := h.at i v hi
  exact ⟨x, t, e, List.mem_of_getElem? hx⟩

/-- what is in a list, by the kind -/
theorem Are.any {val P dec} (k : Kd val P dec) {A : Around} {s : Shared} {x : List Nat} {t : Tok} (hx : P x) {vs xs} (h : Are val vs xs) (hP : ∀ y ∈ xs, P y) :
    (∀ v ∈ vs, EqAt A s v (val x t) (dec v == x)) ∧ vs.any (fun v => dec v == x) = xs.contains x := by
  induction h with
  | nil => exact ⟨fun _ h => (List.not_mem_nil h).elim, rfl⟩
  | cons y u h ih =>
    obtain ⟨i1, i2⟩ := ih fun y hy => hP y (.tail _ hy)
    have hy := hP y (.head _)
    refine ⟨fun v hv => ?_, ?_⟩
    · rcases List.mem_cons.mp hv with rfl | hv
      · rw [k.dec hy]; exact k.eq hy hx
      · exact i1 v hv
    · rw [List.any_cons, i2, k.dec hy, List.contains_cons]
      congr 1
      rw [Bool.eq_iff_iff, beq_iff_eq, beq_iff_eq]
      exact eq_comm

section
variable {prog : Program} {w : World} {A : Around} {E : Value → Shared → Prop} {s : Shared} {env : Env} {h₀ : Heap} {x : Str} {body : List Stmt} {Q : Flow → Shared → Prop} {m₀ : Map}
/-- a for over a list of any values -/
theorem iter_list {l : Addr} {vs : List Value} {news : Led} (J : Nat → Map → Led → Prop)
    (hh : A.handled = none) (hl : s.heap.IsList l vs.toArray) (hlL : l ≠ env.locals) (hnl : ∀ p ∈ news, p.1 ≠ l) (F : Fr h₀ env.locals s.heap m₀) (N : News h₀ env.locals s.heap news) (hj : J 0 m₀ news)
    (turn : ∀ i v m₁ news₁ h tk own, vs[i]? = some v → OwnOff own (news.map (·.1)) → J i m₁ news₁ → Fr h₀ env.locals h (fun y => if y = x then some v else m₁ y) → News h₀ env.locals h (news₁ ++ own) →
      wpAny (model prog w) A (execs body env) (InvPostN h₀ env.locals (J (i + 1)) own (news.map (·.1)) { s with heap := h, toks := tk } Q) E { s with heap := h, toks := tk })
    (done : ∀ m₁ news₁ h tk, J vs.length m₁ news₁ → Fr h₀ env.locals h m₁ → News h₀ env.locals h news₁ → Q .next { s with heap := h, toks := tk }) :
    wpAny (model prog w) A (pyIter (.ref l)) (fun it s₂ => LoopAtV prog w A h₀ env x body Q E it s₂) E s := by
  obtain ⟨ol, hol, _⟩ := id hl
  have hne : l ≠ s.heap.objs.size := Nat.ne_of_lt (Heap.lt_size hol)
  refine wpAny_pyIter_list hl ?_
  have W := Walks.list (prog := prog) (w := w) hh s.heap.objs.size l hne vs.toArray
  have hlen : vs.toArray.size = vs.length := List.size_toArray
  rw [hlen] at W
  refine loop_invN J W ?_ ?_ ?_ ?_ ⟨⟨_, Heap.get?_push_size _ rfl, rfl, rfl⟩, hl.at fun o e => Heap.get?_push_of_some _ e⟩ (F.push _) (fun p hp => ⟨Heap.get?_push_of_some _ (N p hp).1, (N p hp).2⟩) hj ?_ ?_
  · intro hm
    rcases List.mem_cons.mp hm with e | hm
    · exact absurd F.ns.lt (e ▸ Nat.lt_irrefl _)
    · exact hlL (List.mem_singleton.mp hm).symm
  · intro b hb
    rw [List.mem_singleton.mp hb]
    exact next_is_new F
  · intro p hp hI
    exact absurd (Heap.lt_size (N p hp).1) ((List.mem_singleton.mp hI) ▸ Nat.lt_irrefl _)
  · intro p hp hI
    rcases List.mem_cons.mp hI with e | hm
    · exact absurd (Heap.lt_size (N p hp).1) (e ▸ Nat.lt_irrefl _)
    · exact hnl p hp (List.mem_singleton.mp hm)
  · intro i v m₁ news₁ h tk own hi hv _ hoff hJ F₁ N₁
    exact turn i v m₁ news₁ h tk own (by simpa using hv) hoff hJ F₁ N₁
  · intro m₁ news₁ h tk hJ F₁ N₁
    exact done m₁ news₁ h tk hJ F₁ N₁
end


/-! part: Plain5 -/
def ddF (acc : List (List Nat)) : List (List Nat) → List (List Nat)
  | [] => acc
  | x :: r => ddF (if acc.contains x then acc else acc ++ [x]) r
theorem ddF_mem : ∀ (xs acc : List (List Nat)) (y : List Nat), y ∈ ddF acc xs ↔ y ∈ acc ∨ y ∈ xs
  | [], acc, y => by simp [ddF]
  | x :: r, acc, y => by
    unfold ddF
    rw [ddF_mem r]
    split
    · rename_i h
      have h' : x ∈ acc := by simpa using h
      constructor
      · rintro (a | a)
        · exact .inl a
        · exact .inr (.tail _ a)
      · rintro (a | a)
        · exact .inl a
        · rcases List.mem_cons.mp a with rfl | a
          · exact .inl h'
          · exact .inr a
    · simp [List.mem_append, or_assoc]
theorem ddF_len : ∀ (xs acc : List (List Nat)), (ddF acc xs).length ≤ acc.length + xs.length
  | [], acc => Nat.le_refl _
  | x :: r, acc => by
    unfold ddF
    have := ddF_len r (if acc.contains x then acc else acc ++ [x])
    have h : (if acc.contains x then acc else acc ++ [x]).length ≤ acc.length + 1 := by split <;> simp
    rw [List.length_cons]; omega


/-! part: Plain6 -/
/-! what punycode_decode reads of a label is the name -/
theorem find_rev (p : Nat → Bool) : ∀ (n k : Nat), k < n → p k = true → (∀ j, k < j → j < n → p j = false) → (List.range n).reverse.find? p = some k
  | 0, _, h, _, _ => absurd h (Nat.not_lt_zero _)
  | n + 1, k, hk, hp, hj => by
    rw [List.range_succ, List.reverse_append]
    show (n :: (List.range n).reverse).find? p = some k
    rw [List.find?_cons]
    by_cases e : k = n
    · subst e; rw [hp]
    · rw [hj n (by omega) (Nat.lt_succ_self _)]
      exact find_rev p n k (by omega) hp fun j h1 h2 => hj j h1 (by omega)
theorem rfindH_none {l : List Nat} (h : ∀ c ∈ l, c ≠ 45) : rfindH l = none := by
  unfold rfindH
  rw [List.find?_eq_none]
  intro i _ e
  exact h 45 (List.mem_of_getElem? (by simpa using e)) rfl
theorem rfindH_at (l o : List Nat) (h : ∀ c ∈ o, c ≠ 45) : rfindH (l ++ [45] ++ o) = some l.length := by
  unfold rfindH
  refine find_rev _ _ _ (by simp) (by simp) fun j h1 h2 => ?_
  rw [beq_eq_false_iff_ne]
  intro e
  rw [List.getElem?_append_right (by simp; omega)] at e
  exact h 45 (List.mem_of_getElem? e) rfl
def Dg (c : Nat) : Prop := c ≤ 122 ∧ c ≠ 45
theorem digitB_ok (d : Int) : Dg (digitB d) := by
  unfold digitB
  rw [List.getD_eq_getElem?_getD]
  cases h : digitsL[d.toNat]? with
  | none => exact ⟨by decide, by decide⟩
  | some x => exact (by decide : ∀ x ∈ digitsL, x ≤ 122 ∧ x ≠ 45) x (List.mem_of_getElem? h)
theorem ggi_ok : ∀ (f : Nat) (n b j : Int), ∀ c ∈ ggi f n b j, Dg c
  | 0, _, _, _ => by intro c h; cases h
  | f + 1, n, b, j => by
    unfold ggi
    intro c h
    split at h
    · rw [List.mem_singleton.mp h]; exact digitB_ok _
    · rcases List.mem_cons.mp h with rfl | h
      · exact digitB_ok _
      · exact ggi_ok f _ b _ c h
theorem giF_ok (bl : Int) : ∀ (ds : List Int) (k : Nat) (b : Int), ∀ c ∈ giF bl ds k b, Dg c
  | [], _, _ => by intro c h; cases h
  | d :: r, k, b => by
    unfold giF
    intro c h
    rcases List.mem_append.mp h with h | h
    · exact ggi_ok _ _ _ _ c h
    · exact giF_ok bl r _ _ c h
theorem octF_up {x : Int} {i c : Nat} (h : Dg c) : upB (octF x i c) = upB c ∧ octF x i c ≠ 45 := by
  obtain ⟨h1, h2⟩ := h
  unfold octF
  split
  · rename_i hc
    obtain ⟨hc, _⟩ := hc
    unfold upB
    refine ⟨?_, by omega⟩
    rw [if_neg (by omega), if_pos (by omega)]
  · exact ⟨rfl, h2⟩
theorem octL_up (x : Int) : ∀ (l : List Nat) (i : Nat), (∀ c ∈ l, Dg c) → (octL x l i).map upB = l.map upB ∧ ∀ c ∈ octL x l i, c ≠ 45
  | [], _, _ => ⟨rfl, fun c h => by cases h⟩
  | a :: r, i, hl => by
    obtain ⟨e1, e2⟩ := octF_up (x := x) (i := i) (hl a (.head _))
    obtain ⟨i1, i2⟩ := octL_up x r (i + 1) fun c hc => hl c (.tail _ hc)
    refine ⟨?_, fun c hc => ?_⟩
    · show upB (octF x i a) :: (octL x r (i + 1)).map upB = upB a :: r.map upB
      rw [e1, i1]
    · rcases List.mem_cons.mp hc with rfl | hc
      · exact e2
      · exact i2 c hc
def kP (b : List Nat) (c p : Int) (tw : Bool) (lat beh : Int) : List Int := ((c - 128) * (b.length + 1) + p) :: if tw then [lat * (b.length + 2) + beh - p - 1] else []
def nP (b : List Nat) (c p : Int) (tw : Bool) (lat beh : Int) : List Nat := if tw then put (put b p c) beh (c + lat) else put b p c
def okP (b : List Nat) (c p : Int) (tw : Bool) (lat beh : Int) : Bool :=
  (isF 100 b ((GI b.length (kP b c p tw lat beh)).map upB) 128 (-1) 72 0 == some (nP b c p tw lat beh)) && decide ((GI b.length (kP b c p tw lat beh)).length ≤ 400)
def chkP (b : List Nat) (c : Int) : Bool :=
  (List.range (b.length + 1)).all fun p => okP b c p false 0 0 && okP b c p true 0 (p + 1) && (List.range (b.length + 2)).all fun q => okP b c p true 19 q
def chkB (b : List Nat) : Bool := chkP b 128 && chkP b 233 && chkP b 252 && chkP b 8364
theorem chk0 : chkB [] = true := by decide +kernel
theorem chk1 : chkB [97] = true := by decide +kernel
theorem chk2 : chkB [97, 98] = true := by decide +kernel
theorem chk3 : chkB [98, 45, 97] = true := by decide +kernel
theorem chkP_all {b : List Nat} {c : Int} (h : chkP b c = true) {p lat beh : Int} {tw : Bool} (hp : 0 ≤ p ∧ p ≤ b.length) (hl : lat = 0 ∨ lat = 19) (h0 : lat = 0 → beh = p + 1) (hb : 0 ≤ beh ∧ beh ≤ b.length + 1) : okP b c p tw lat beh = true := by
  unfold chkP at h
  obtain ⟨p, rfl⟩ : ∃ q : Nat, p = q := ⟨p.toNat, by omega⟩
  have h1 := (List.all_eq_true.mp h) p (List.mem_range.mpr (by omega))
  simp only [Bool.and_eq_true] at h1
  cases tw with
  | false => exact h1.1.1
  | true =>
    rcases hl with e | e
    · rw [h0 e, e]; exact h1.1.2
    · obtain ⟨q, rfl⟩ : ∃ q : Nat, beh = q := ⟨beh.toNat, by omega⟩
      rw [e]
      exact (List.all_eq_true.mp h1.2) q (List.mem_range.mpr (by omega))
theorem okF (x : Int) : okP (bF x) (cF x) (pF x) (tweF x) (latF x) (behF x) = true := by
  have hb : chkB (bF x) = true := by
    rcases bF_cases x with e | e | e | e
    · rw [e]; exact chk0
    · rw [e]; exact chk1
    · rw [e]; exact chk2
    · rw [e]; exact chk3
  have hc : chkP (bF x) (cF x) = true := by
    unfold chkB at hb
    simp only [Bool.and_eq_true] at hb
    rcases cF_cases x with e | e | e | e
    · rw [e]; exact hb.1.1.1
    · rw [e]; exact hb.1.1.2
    · rw [e]; exact hb.1.2
    · rw [e]; exact hb.2
  refine chkP_all hc (pF_ok x) (latF_cases x) (fun e => ?_) (behF_ok x)
  unfold behF; rw [if_neg (by omega)]
theorem GI_len (x : Int) : (GI (bF x).length (kF x)).length ≤ 400 := by
  have h := okF x
  unfold okP at h
  rw [Bool.and_eq_true] at h
  exact of_decide_eq_true h.2
theorem labF_len (x : Int) : (labF x).length ≤ 500 := by
  have h1 := GI_len x
  have h2 := bF_len x
  unfold labF aheadF
  rw [List.length_append, octL_length]
  split <;> simp <;> omega
theorem labF_lt (x : Int) : ∀ c ∈ labF x, c < 128 := by
  unfold labF
  intro c hc
  rcases List.mem_append.mp hc with hc | hc
  · exact aheadF_lt x c hc
  · exact octL_lt x _ 0 (GI_lt x) c hc
theorem labF_read (x : Int) : decF (labF x) = some (nF x) ∧ ∀ k, rfindH (labF x) = some k → bF x ≠ [] ∧ (labF x).take k = bF x := by
  have ho := octL_up x (GI (bF x).length (kF x)) 0 (giF_ok _ _ _ _)
  have hk : isF 100 (bF x) ((GI (bF x).length (kF x)).map upB) 128 (-1) 72 0 = some (nF x) := by
    have h := okF x
    unfold okP at h
    rw [Bool.and_eq_true] at h
    exact eq_of_beq h.1
  unfold labF aheadF
  by_cases e : bF x = []
  · rw [if_pos e, List.nil_append]
    have hn := rfindH_none ho.2
    refine ⟨?_, fun k h => by rw [hn] at h; cases h⟩
    unfold decF
    rw [hn, ← hk, ho.1, e]
  · rw [if_neg e]
    have hn := rfindH_at (bF x) _ ho.2
    refine ⟨?_, fun k h => ?_⟩
    · unfold decF
      rw [hn, ← hk, ← ho.1]
      simp
    · rw [hn] at h
      cases h
      exact ⟨e, by simp⟩
theorem labF_asc (x : Int) : ∀ k, rfindH (labF x) = some k → Asc ((labF x).take k) := by
  intro k h
  obtain ⟨h1, h2⟩ := (labF_read x).2 k h
  rw [h2]
  rcases bF_cases x with e | e | e | e
  · exact absurd e h1
  · rw [e]; exact asc_a
  · rw [e]; exact asc_ab
  · rw [e]; exact asc_ba


/-! part: unh -/
theorem wpN_For {prog : Program} {w : World} {A : Around} {s : Shared} {env : Env} {Q : Flow → Shared → Prop} {x : Str} {px pos : Pos} {iter : Expr} {body : List Stmt} (h₀ : Heap) (hx : env.kindOf x = some .local)
    (hp : (env.scope.kind == .class || (env.scope.kind == .module && env.locals != env.globals)) = false)
    (h : wpN (model prog w) A (eval iter env) (fun xv s₁ => Stop (wpN (model prog w) A (pyIter xv) (fun it s₂ => LoopAtV prog w A h₀ env x body Q (fun _ _ => False) it s₂) s₁)) s)
    (hs : ∀ x, foldedSetIterable iter env x = pure x := by intro _; rfl) :
    wpN (model prog w) A (exec (.For (.Name x px) iter body [] pos) env) Q s :=
  For_invV h₀ hx hp h hs
theorem app_led {prog : Program} {w : World} {A : Around} {E : Value → Shared → Prop} {hp : Heap} {g : Array GenState} {dr : Drawn} {tk : Nat} {os : OsState} {h₀ : Heap} {L D : Addr} {m : Map} {news : Led} {its : Array Value} {n : Nat} {x : Value} {Q : Value → Shared → Prop}
    (F : Fr h₀ L hp m) (N : News h₀ L hp ((D, W.listOf its n) :: news)) (hne : ∀ p ∈ news, p.1 ≠ D) (hz : its.size ≤ sizeLine) (h : ∀ h', Fr h₀ L h' m → News h₀ L h' ((D, W.listOf (its.push x) (n + 1)) :: news) → Q .none ⟨h', g, dr, tk, os⟩) :
    wpAny (model prog w) A (call (.builtin "list.append") [.ref D, x]) Q E ⟨hp, g, dr, tk, os⟩ :=
  append_at (s := ⟨hp, g, dr, tk, os⟩) (hsz := hz) (N.get (.head _)) fun h' hs ho => by
    obtain ⟨F', N'⟩ := upd_led F N ho hs hne
    exact h h' F' N'
section
theorem words1_unh : True := by
  k_with "call builtin:list.append" => (k_here; refine stop_here ?_)
  exact True.intro
set_option maxHeartbeats 8000000 in
theorem con_unh {w : World} {mean : ExcName → Option Value} {mg mb : Map} {outer : List Env} {base : Heap} {s : Shared} {Q E : Value → Shared → Prop} {val : List Nat → Tok → Value} {P : List Nat → Prop} {dec : Value → List Nat} {l : Addr} {vs : List Value} {xs : List (List Nat)}
    (kd : Kd val P dec) (a : Amb w mean mg mb 540 3700 outer base s.heap) (hl : s.heap.IsList l vs.toArray) (ha : Are val vs xs) (hP : ∀ y ∈ xs, P y) (hn : xs.length ≤ 1000)
    (hret : ∀ r us n h' tk', s.heap.StaysIn h' → s.heap.get? r = none → h'.get? r = some (W.listOf (List.toArray us) n) → Are val us (ddF [] xs) → Q (.ref r) { s with heap := h', toks := tk' }) :
    wpAny (model PR w) (At 540 3700 outer) (call (.ref 29) [.ref l]) Q E s := by
  have B := a.below
  have X := a.inK
  have T := a.top
  walk_at "my enter"
  intro L h1 tk F N
  replace F : Fr s.heap L h1 (mk [(Str.ofString "unhashable_params", some (.ref l))]) := by rw [mk_lookup] at F; exact F
  clear a
  refine wpN_cons ?_
  walk_at "my steps"
  rename Fr _ _ _ _ => F
  rename News _ _ _ _ => N
  refine Stop.go (wpN_cut (fun s' => ∃ h tk r us n ot, s' = ⟨h, s.gens, s.drawn, tk, s.os⟩ ∧ Are val us (ddF [] xs) ∧ Fr s.heap L h (mk [(Str.ofString "new_unhashable", some (.ref r)), (Str.ofString "unhashable_params", some (.ref l)), (Str.ofString "t", ot)]) ∧ News s.heap L h [(r, W.listOf (List.toArray us) n)]) ?_ ?_)
  · obtain ⟨r, F, N⟩ : ∃ r, Fr s.heap L _ (mk [(Str.ofString "new_unhashable", some (.ref r)), (Str.ofString "unhashable_params", some (.ref l))]) ∧ News s.heap L _ [(r, W.listOf (List.toArray []) 0)] := ⟨_, F, N⟩
    refine wpN_abs fun Q1 hQ1 => wpN_For s.heap rfl rfl ?_
    walk_at "my steps"
    have hlL : l ≠ L := fun e => by
      obtain ⟨o, ho, _⟩ := id hl
      have := Nat.lt_of_lt_of_le (Heap.lt_size ho) F.above
      rw [e] at this; exact Nat.lt_irrefl _ this
    have hrl : r ≠ l := fun e => by
      obtain ⟨o, ho, _⟩ := id hl
      have := (N _ (.head _)).2.2
      rw [show (r, W.listOf (List.toArray []) 0).1 = l from e, ho] at this; cases this
    refine Stop.go (iter_list (fun i m nx => ∃ us n ot, m = mk [(Str.ofString "new_unhashable", some (.ref r)), (Str.ofString "unhashable_params", some (.ref l)), (Str.ofString "t", ot)] ∧ nx = [(r, W.listOf (List.toArray us) n)] ∧ ∃ acc, Are val us acc ∧ (∀ y ∈ acc, P y) ∧ acc.length ≤ i ∧ ddF acc (xs.drop i) = ddF [] xs)
      rfl (hl.at fun o e => F.keep l o e) hlL (fun p hp => by rw [List.mem_singleton.mp hp]; exact hrl) (fr_norm [Str.ofString "new_unhashable", Str.ofString "unhashable_params", Str.ofString "t"] F rfl) N ⟨[], 0, none, rfl, rfl, [], .nil, (fun _ h => (List.not_mem_nil h).elim), Nat.le_refl _, rfl⟩ ?_ ?_)
    · clear F N
      rintro i v m1 news1 h tk own hv hoff ⟨us, n, ot, rfl, rfl, acc, hus, hacc, hal, hdd⟩ F N
      obtain ⟨y, ty, rfl, hy⟩ := ha.at i v hv
      have hPy := hP y (List.mem_of_getElem? hy)
      have hil := (List.getElem?_eq_some_iff.mp hy).1
      replace F : Fr s.heap L h (mk [(Str.ofString "t", some (val y ty)), (Str.ofString "new_unhashable", some (.ref r)), (Str.ofString "unhashable_params", some (.ref l)), (Str.ofString "t", ot)]) := by rw [mk_set] at F; exact F
      replace N : News s.heap L h ([(r, W.listOf us.toArray n)] ++ own) := N
      replace hoff : OwnOff own [r] := hoff
      rw [drop_of_get hy] at hdd
      refine wpN_abs fun Q2 hQ2 => wpN_cons ?_
      walk_at "my steps"
      obtain ⟨e1, e2⟩ := Are.any kd (A := (At 540 3700 outer).deeper _ |>.in1) (s := ⟨h, s.gens, s.drawn, tk, s.os⟩) (t := ty) hPy hus hacc
      refine PySem.SeqAt.notIn_listAt (fun v => dec v == y) ⟨_, (N _ (.head _)).1, rfl, _, rfl⟩ (fun v hv => e1 v (by simpa using hv)) ?_
      have e3 : us.toArray.any (fun v => dec v == y) = acc.contains y := by rw [List.any_toArray]; exact e2
      clear e1 e2
      replace hdd : ddF (if acc.contains y then acc else acc ++ [y]) (xs.drop (i + 1)) = ddF [] xs := hdd
      cases hc : acc.contains y with
      | true =>
        rw [hc, if_pos rfl] at hdd
        rw [e3, hc]
        clear e3
        dsimp only [Bool.not_true]
        walk_at "my steps"
        rename Fr _ _ _ _ => F
        rename News _ _ _ _ => N
        refine Stop.go (wpAny_execs_nil (hQ2 _ _ ⟨_, _, _, _, _, rfl, fr_norm [Str.ofString "new_unhashable", Str.ofString "unhashable_params", Str.ofString "t"] F rfl, N, fun p hp => List.mem_append_left _ hp, fun p hp => List.mem_append_right _ hp, rfl, us, n, _, rfl, rfl, acc, hus, hacc, Nat.le_succ_of_le hal, hdd⟩))
      | false =>
        rw [hc, if_neg Bool.false_ne_true] at hdd
        rw [e3, hc]
        clear e3
        dsimp only [Bool.not_false]
        have hsz : us.toArray.size ≤ sizeLine := by rw [sizeLine_eq, List.size_toArray, hus.length]; omega
        walk_at "my steps"
        refine Stop.go (app_led F N (fun p hp => hoff p hp r (.head _)) hsz fun h' F' N' => ?_)
        clear F N
        walk_at "my steps"
        rename Fr _ _ _ _ => F
        rename News _ _ _ _ => N
        refine Stop.go (wpAny_execs_nil (hQ2 _ _ ⟨_, _, _, _, [(r, W.listOf (List.toArray (us ++ [val y ty])) (n + 1))], rfl, fr_norm [Str.ofString "new_unhashable", Str.ofString "unhashable_params", Str.ofString "t"] F rfl, N, fun p hp => ?_, fun p hp => .tail _ hp, rfl, _, _, _, rfl, rfl, acc ++ [y], hus.snoc, ?_, ?_, hdd⟩))
        · rw [List.mem_singleton.mp hp, List.push_toArray]; exact .head _
        · intro z hz
          rcases List.mem_append.mp hz with hz | hz
          · exact hacc z hz
          · rw [List.mem_singleton.mp hz]; exact hPy
        · rw [List.length_append]; exact Nat.succ_le_succ hal
    · clear F N
      rintro m1 news1 h tk ⟨us, n, ot, rfl, rfl, acc, hus, hacc, hal, hdd⟩ F N
      rw [ha.length, List.drop_length] at hdd
      exact hQ1 _ _ ⟨rfl, _, _, _, _, _, _, rfl, hdd ▸ hus, F, N⟩
  clear F N
  rintro _ ⟨h, tk, r, us, n, ot, rfl, hus, F, N⟩
  walk_at "my steps"
  rename Fr _ _ _ _ => F
  rename News _ _ _ _ => N
  exact hret _ _ _ _ _ F.keep (N.fresh (.head _)) (N.get (.head _)) hus
end

theorem again_unh : True := by
  k_with_none
  k_with "my enter" => (k_dflt (refine' enter (by assumption) ?k6 ?k7 ?k8 ?k9 ?kB ?_ ?c5 ?c2 ?c3 ?c4; (case k6 => k_is); (case k7 => k_is); (case k8 => decide); (case k9 => exact BindsTo.of_eq rfl); (case c5 => decide); (case kB => exact locs rfl); (case c2 => exact rfl); (case c3 => exact rfl); (case c4 => exact rfl); k_whole))
  k_with "my enterC" => (k_dflt (refine' enterC (by assumption) ?k6 ?k7 ?k8 ?k9 ?kB ?_ ?c5 ?c2 ?c3 ?c4; (case k6 => k_is); (case k7 => k_is); (case k8 => decide); (case k9 => exact BindsTo.of_eq rfl); (case c5 => decide); (case kB => exact locs rfl); (case c2 => exact rfl); (case c3 => exact rfl); (case c4 => exact rfl); k_whole))
  k_with "my steps" => repeat' (first | (k_unfold; (try dsimp only)) | walk1 | (dsimp only; walk1))
  k_with "storeName" => (k_here; k_dflt (first
  | (refine' st_int (by k_asm) (by k_asm) ?_ rfl rfl; k_whole; intro _ _ _ _ _; (try k_sweep); (try dsimp only))
  | (refine' st_str (by k_asm) (by k_asm) ?_ rfl rfl; k_whole; intro _ _ _ _ _; (try k_sweep); (try dsimp only))
  | (refine' st_bytes (by k_asm) (by k_asm) ?_ rfl rfl; k_whole; intro _ _ _ _ _; (try k_sweep); (try dsimp only))
  | (refine' st_val (by k_asm) (by k_asm) ?_ rfl rfl; k_whole; intro _ _ _ _; (try k_sweep); (try dsimp only))))
  k_with "my use" => ((case hd => exact Nat.le_of_ble_eq_true rfl); (case hu => exact Nat.le_of_ble_eq_true rfl); (case B => k_asm); (case F => k_asm); (case X => k_asm); (case T => k_asm); (case hf => rfl); (case hk => rfl); k_whole)
  k_with "getMethod ref" => (k_here; k_dflt (first
  | (refine' gm_append (News.get (by k_asm) (by k_mem)) ?_; k_whole)
  | (refine' gm_extend (News.get (by k_asm) (by k_mem)) ?_; k_whole)))
  k_with "call type:enumerate" => (k_here; refine stop_here ?_)
  k_with "call ref" => (k_here; k_dflt (refine' use_amb (by k_asm) (by k_asm) (by k_asm) (by k_asm) rfl rfl (fun am => con_T am ?_) (Nat.le_of_ble_eq_true rfl) (Nat.le_of_ble_eq_true rfl); k_whole; intro _ _ _ hs'; clear am; (have := fr_stays (by k_asm) hs'); (have := news_stays (by k_asm) hs'); clear hs'; (try k_sweep); (try dsimp only)))
  k_with "subscriptTail" => (k_here; (with_reducible show wpAny _ _ (subscriptTail _ _ (Value.bytes _ _) (Value.int _ _)) _ _ _); k_dflt (refine' item_digits (by omega) (by omega) ?_ (by with_unfolding_all rfl) (by intro _; with_unfolding_all rfl); k_whole); intro _ _)
  k_with "call type:bytes" => (k_here; (with_reducible show wpAny _ _ (call (Value.type _) [Value.ref _]) _ _ _); k_dflt (refine' call_bytes_ba (News.get (by k_asm) (by k_mem)) (by first | assumption | omega) ?_; k_whole); intro _ _)
  k_with "call ref" => (k_here; k_dflt (refine' use_amb (by k_asm) (by k_asm) (by k_asm) (by k_asm) rfl rfl (fun am => con_adapt am (by omega) (by omega) (by omega) ?_) (Nat.le_of_ble_eq_true rfl) (Nat.le_of_ble_eq_true rfl); k_whole; intro _ _ _ hs'; clear am; (have := fr_stays (by k_asm) hs'); (have := news_stays (by k_asm) hs'); clear hs'; (try k_sweep); (try dsimp only)))
  k_with "subscriptTail" => (k_here; (with_reducible show wpAny _ _ (subscriptTail _ _ (Value.bytes (bArr _) _) (Value.int _ _)) _ _ _); k_dflt (refine' item_bArr (by assumption) (by assumption) (by omega) (by first | assumption | (simp only [Int.toNat_natCast]; assumption)) ?_ (by with_unfolding_all rfl) (by intro _; with_unfolding_all rfl); k_whole); intro _ _)
  k_with "call ref" => (k_here; k_dflt (refine' use_amb (by k_asm) (by k_asm) (by k_asm) (by k_asm) rfl rfl (fun am => con_dgn am (by assumption) (by assumption) (by assumption) ?_) (Nat.le_of_ble_eq_true rfl) (Nat.le_of_ble_eq_true rfl); k_whole; intro _ _ _ _ _ hs' hx' ho'; clear am; (have := news_made (by k_asm) (by k_asm) hs' hx' ho'); (have := fr_stays (by k_asm) hs'); clear hs' hx' ho'; (try k_sweep); (try dsimp only)))
  k_with "my len" => first | assumption | omega | ((try simp only [List.length_append, List.length_take, List.length_drop, List.length_cons, List.length_nil]); omega)
  k_with "call builtin:len" => (k_here; k_dflt (first
  | (refine' len_sL (by walk_at "my len") ?_; k_whole; intro _ _)
  | (refine' len_bArr (by assumption) (by walk_at "my len") ?_; k_whole; intro _ _)))
  k_with "call builtin:chr" => (k_here; k_dflt (refine' chr_sL (by omega) (by omega) ?_; k_whole; intro _ _))
  k_with "binaryOp Add str str" => (k_here; k_dflt (refine' add_sL (by walk_at "my len") ?_; k_whole; intro _ _))
  k_with "subscriptTail Name Slice str ref" => (k_here; (try dsimp only); k_dflt (first
  | (refine' cut_to (by k_asm) (by k_asm) (by omega) (by walk_at "my len") (by walk_at "my len") ?_ (by with_unfolding_all rfl) (by intro _; with_unfolding_all rfl); k_whole; intro _ _ _ _ _; (try k_sweep))
  | (refine' cut_from (by k_asm) (by k_asm) (by omega) (by walk_at "my len") (by walk_at "my len") ?_ (by with_unfolding_all rfl) (by intro _; with_unfolding_all rfl); k_whole; intro _ _ _ _ _; (try k_sweep))))
  k_with "getMethod bytes" => (k_here; first
  | (refine' gm_rfind ?_; (try dsimp only))
  | (refine' gm_upper ?_; (try dsimp only)))
  k_with "call builtin:bytes.rfind" => (k_here; k_dflt (refine' call_rfind (by assumption) ?_; k_whole; intro _ _))
  k_with "call builtin:bytes.upper" => (k_here; k_dflt (refine' call_upper (by walk_at "my len") (by assumption) ?_; k_whole; intro _ _))
  k_with "call type:str" => (k_here; k_dflt (refine' call_asc (by assumption) ?_; k_whole; intro _ _))
  k_with "call ref" => (k_here; k_dflt (refine' use_amb (by k_asm) (by k_asm) (by k_asm) (by k_asm) rfl rfl (fun am => con_isort am (by assumption) (by assumption) (by assumption) ?_) (Nat.le_of_ble_eq_true rfl) (Nat.le_of_ble_eq_true rfl); k_whole; intro _ _ _ hs'; clear am; (have := fr_stays (by k_asm) hs'); (have := news_stays (by k_asm) hs'); clear hs'; (try k_sweep); (try dsimp only)))
  k_with "subscriptTail" => (k_here; (with_reducible show wpAny _ _ (subscriptTail _ _ (Value.bytes (bArr _) _) (Value.ref _)) _ _ _); (try dsimp only); k_dflt (first
  | (refine' cutB_to (by k_asm) (by k_asm) (by assumption) (by walk_at "my len") (by walk_at "my len") ?_ (by with_unfolding_all rfl) (by intro _; with_unfolding_all rfl); k_whole; intro _ _ _ _ _; (try k_sweep))
  | (refine' cutB_from (by first | exact rfl | exact (Int.natCast_succ _).symm) (by k_asm) (by k_asm) (by assumption) (by walk_at "my len") (by walk_at "my len") ?_ (by with_unfolding_all rfl) (by intro _; with_unfolding_all rfl); k_whole; intro _ _ _ _ _; (try k_sweep))))
  k_with "call ref" => (k_here; k_dflt (refine' use_amb (by k_asm) (by k_asm) (by k_asm) (by k_asm) rfl rfl (fun am => con_dec am (by assumption) (by assumption) (by assumption) (by assumption) ?_) (Nat.le_of_ble_eq_true rfl) (Nat.le_of_ble_eq_true rfl); k_whole; intro _ _ _ hs'; clear am; (have := fr_stays (by k_asm) hs'); (have := news_stays (by k_asm) hs'); clear hs'; (try k_sweep); (try dsimp only)))
  k_with "call ref" => (k_here; k_dflt (refine' use_amb (by k_asm) (by k_asm) (by k_asm) (by k_asm) rfl rfl (fun am => con_name am ?_) (Nat.le_of_ble_eq_true rfl) (Nat.le_of_ble_eq_true rfl); k_whole; intro _ _ _ _ _ _ _ _ hs' hz' hy' _ hoz' hoy' _; clear am; (have := news_made2 (by k_asm) (by k_asm) hs' hz' hy' hoz' hoy'); (have := fr_stays (by k_asm) hs'); clear hs' hz' hy' hoz' hoy'; (try k_sweep); (try dsimp only)))
  k_with "eval ListComp" => (k_here; refine stop_here ?_)
  k_with "call builtin:len" => (k_here; k_dflt (refine' len_led (by k_asm) (by k_mem) (by assumption) (by omega) ?_; k_whole; intro _ _))
  exact True.intro


/-! part: rows -/
def allF (ns : List Int) : List Int := ns.take 8 ++ [21, 3093, 70, 21, 1094, 25]
def r0F (l : List Int) : List Int := (l.filter fun x => Int.fmod x 3 != 1).map fun x => Int.fdiv x 3
def r1F (l : List Int) : List Int := (l.filter fun x => Int.fmod x 3 != 0).map fun x => Int.fdiv x 3
theorem ints_at : ∀ {vs : List Value} {ns : List Int}, IntsAre vs ns → ∀ (i : Nat) (v : Value), vs[i]? = some v → ∃ n t, v = .int n t ∧ ns[i]? = some n
  | _, _, .nil, i, v, h => by simp at h
  | _, _, .cons x t h, 0, v, e => by simp at e; exact ⟨x, t, e.symm, rfl⟩
  | _, _, .cons x t h, i + 1, v, e => ints_at h i v (by simpa using e)
set_option maxHeartbeats 8000000 in
theorem con_rows {w : World} {mean : ExcName → Option Value} {mg mb : Map} {outer : List Env} {base : Heap} {s : Shared} {Q E : Value → Shared → Prop} {l : Addr} {vs : List Value} {ns : List Int}
    (a : Amb w mean mg mb 540 3700 outer base s.heap) (hl : s.heap.IsList l vs.toArray) (hi : IntsAre vs ns) (hn : ns.length ≤ 63)
    (hret : ∀ r r0 r1 us0 us1 n n0 n1 h' tk', s.heap.StaysIn h' → s.heap.get? r = none → s.heap.get? r0 = none → s.heap.get? r1 = none → h'.get? r = some (W.listOf #[.ref r0, .ref r1] n) → h'.get? r0 = some (W.listOf (List.toArray us0) n0) → h'.get? r1 = some (W.listOf (List.toArray us1) n1) →
      IntsAre us0 (r0F (allF ns)) → IntsAre us1 (r1F (allF ns)) → Q (.ref r) { s with heap := h', toks := tk' }) :
    wpAny (model PR w) (At 540 3700 outer) (call (.ref 104) [.ref l]) Q E s := by
  have B := a.below
  have X := a.inK
  have T := a.top
  walk_at "my enter"
  intro L h1 tk F N
  replace F : Fr s.heap L h1 (mk [(Str.ofString "script", some (.ref l))]) := by rw [mk_lookup] at F; exact F
  clear a
  refine wpN_cons ?_
  walk_at "my steps"
  rename Fr _ _ _ _ => F
  rename News _ _ _ _ => N
  refine Stop.go (wpN_cut (fun s' => ∃ h tk r0 r1 r us0 us1 n0 n1 n ox, s' = ⟨h, s.gens, s.drawn, tk, s.os⟩ ∧ IntsAre us0 (r0F (allF ns)) ∧ IntsAre us1 (r1F (allF ns)) ∧ Fr s.heap L h (mk [(Str.ofString "rows", some (.ref r)), (Str.ofString "script", some (.ref l)), (Str.ofString "x", ox)]) ∧ News s.heap L h [(r, W.listOf #[.ref r0, .ref r1] n), (r0, W.listOf (List.toArray us0) n0), (r1, W.listOf (List.toArray us1) n1)]) ?_ ?_)
  · refine wpN_abs fun Q1 hQ1 => wpN_For s.heap rfl rfl ?_
    walk_at "my steps"
    rename Fr _ _ _ _ => F
    rename News _ _ _ _ => N
    rename IntsAre _ (List.take 8 ns ++ _) => hw
    rename _ ∧ _ ∧ _ ∧ _ ∧ _ => hlt
    rename_i r0 q1 e1 r1 q2 e2 r q3 e3 q4 q5 D1 ws1 q6 i1 i2 i3 e4 l2 q7 e5 D ws hh
    have hDL : D ≠ L := (N _ (.head _)).2.1
    obtain ⟨N, hD⟩ : News s.heap L hh [(r, W.listOf #[.ref r0, .ref r1] 0), (r0, W.listOf (List.toArray []) 0), (r1, W.listOf (List.toArray []) 0)] ∧ hh.IsList D ws.toArray :=
      ⟨fun p hp => N p (by
        rcases List.mem_cons.mp hp with rfl | hp
        · exact .tail _ (.tail _ (.tail _ (.head _)))
        · rcases List.mem_cons.mp hp with rfl | hp
          · exact .tail _ (.tail _ (.tail _ (.tail _ (.tail _ (.head _)))))
          · rw [List.mem_singleton.mp hp]; exact .tail _ (.tail _ (.tail _ (.tail _ (.head _))))), _, N.get (.head _), rfl, _, rfl⟩
    replace hw : IntsAre ws (allF ns) := hw
    have hD0 : D ≠ r0 ∧ D ≠ r1 ∧ D ≠ r := ⟨Nat.ne_of_gt hlt.2.2.2.2, Nat.ne_of_gt hlt.2.2.2.1, Nat.ne_of_gt hlt.2.2.1⟩
    clear hlt i1 i2 i3 e4 e5 e1
    refine Stop.go (iter_list (fun i m nx => ∃ us0 us1 n0 n1 ox, m = mk [(Str.ofString "rows", some (.ref r)), (Str.ofString "script", some (.ref l)), (Str.ofString "x", ox)] ∧ nx = [(r, W.listOf #[.ref r0, .ref r1] 0), (r0, W.listOf (List.toArray us0) n0), (r1, W.listOf (List.toArray us1) n1)] ∧ IntsAre us0 (r0F ((allF ns).take i)) ∧ IntsAre us1 (r1F ((allF ns).take i)))
      rfl hD hDL (fun p hp => ?_) (fr_norm [Str.ofString "rows", Str.ofString "script", Str.ofString "x"] F rfl) N ⟨[], [], 0, 0, none, rfl, rfl, .nil, .nil⟩ ?_ ?_)
    · rcases List.mem_cons.mp hp with rfl | hp
      · exact Ne.symm hD0.2.2
      · rcases List.mem_cons.mp hp with rfl | hp
        · exact Ne.symm hD0.1
        · rw [List.mem_singleton.mp hp]; exact Ne.symm hD0.2.1
    · clear F N
      rintro i v m1 news1 h tk own hv hoff ⟨us0, us1, n0, n1, ox, rfl, rfl, hu0, hu1⟩ F N
      obtain ⟨x, tx, rfl, hx⟩ := ints_at hw i v hv
      replace F : Fr s.heap L h (mk [(Str.ofString "x", some (.int x tx)), (Str.ofString "rows", some (.ref r)), (Str.ofString "script", some (.ref l)), (Str.ofString "x", ox)]) := by rw [mk_set] at F; exact F
      replace N : News s.heap L h ([(r, W.listOf #[.ref r0, .ref r1] 0), (r0, W.listOf us0.toArray n0), (r1, W.listOf us1.toArray n1)] ++ own) := N
      replace hoff : OwnOff own [r, r0, r1] := hoff
      have hall : (allF ns).length ≤ 14 := by unfold allF; rw [List.length_append, List.length_take]; show _ + 6 ≤ 14; omega
      have hil := (List.getElem?_eq_some_iff.mp hx).1
      have hz0 : us0.toArray.size ≤ sizeLine := by
        have := hu0.length; unfold r0F at this
        have h2 := List.length_filter_le (fun x => Int.fmod x 3 != 1) ((allF ns).take i)
        rw [List.length_map] at this; rw [List.length_take] at h2
        rw [sizeLine_eq, List.size_toArray]; omega
      have hz1 : us1.toArray.size ≤ sizeLine := by
        have := hu1.length; unfold r1F at this
        have h2 := List.length_filter_le (fun x => Int.fmod x 3 != 0) ((allF ns).take i)
        rw [List.length_map] at this; rw [List.length_take] at h2
        rw [sizeLine_eq, List.size_toArray]; omega
      have s0 : r0F ((allF ns).take (i + 1)) = r0F ((allF ns).take i) ++ if Int.fmod x 3 != 1 then [Int.fdiv x 3] else [] := by
        unfold r0F
        rw [List.take_add_one, hx, List.filter_append, List.map_append]
        congr 1
        show (List.filter _ [x]).map _ = _
        rw [List.filter_cons]
        split <;> rfl
      have s1 : r1F ((allF ns).take (i + 1)) = r1F ((allF ns).take i) ++ if Int.fmod x 3 != 0 then [Int.fdiv x 3] else [] := by
        unfold r1F
        rw [List.take_add_one, hx, List.filter_append, List.map_append]
        congr 1
        show (List.filter _ [x]).map _ = _
        rw [List.filter_cons]
        split <;> rfl
      refine wpN_abs fun Q2 hQ2 => wpN_cut (fun s' => ∃ h tk us n, s' = ⟨h, s.gens, s.drawn, tk, s.os⟩ ∧ IntsAre us (r0F ((allF ns).take (i + 1))) ∧ Fr s.heap L h (mk [(Str.ofString "x", some (.int x tx)), (Str.ofString "rows", some (.ref r)), (Str.ofString "script", some (.ref l)), (Str.ofString "x", ox)]) ∧ News s.heap L h ([(r, W.listOf #[.ref r0, .ref r1] 0), (r0, W.listOf us.toArray n), (r1, W.listOf us1.toArray n1)] ++ own)) ?_ ?_
      · refine wpN_abs fun Q3 hQ3 => ?_
        walk_at "my steps"
        · rename Fr _ _ _ _ => F
          rename News _ _ _ _ => N
          rename Int.fmod x 3 ≠ 1 => hc
          rw [if_pos (by simpa using hc)] at s0
          rw [List.push_toArray] at N
          refine hQ3 _ _ (Stop.go ⟨rfl, _, _, _, _, rfl, ?_, F, N⟩)
          rw [s0]; exact ints_snoc hu0 _ _
        · rename Int.fmod x 3 = 1 => hc
          rw [if_neg (by simpa using hc), List.append_nil] at s0
          refine hQ3 _ _ (Stop.go ⟨rfl, _, _, us0, _, rfl, by rw [s0]; exact hu0, F, N⟩)
      clear F N hu0 hz0 s0
      rintro _ ⟨h, tk, us0', n0', rfl, hu0, F, N⟩
      refine wpN_cut (fun s' => ∃ h tk us n, s' = ⟨h, s.gens, s.drawn, tk, s.os⟩ ∧ IntsAre us (r1F ((allF ns).take (i + 1))) ∧ Fr s.heap L h (mk [(Str.ofString "x", some (.int x tx)), (Str.ofString "rows", some (.ref r)), (Str.ofString "script", some (.ref l)), (Str.ofString "x", ox)]) ∧ News s.heap L h ([(r, W.listOf #[.ref r0, .ref r1] 0), (r0, W.listOf us0'.toArray n0'), (r1, W.listOf us.toArray n)] ++ own)) ?_ ?_
      · refine wpN_abs fun Q3 hQ3 => ?_
        walk_at "my steps"
        · rename Fr _ _ _ _ => F
          rename News _ _ _ _ => N
          rename Int.fmod x 3 ≠ 0 => hc
          rw [if_pos (by simpa using hc)] at s1
          rw [List.push_toArray] at N
          refine hQ3 _ _ (Stop.go ⟨rfl, _, _, _, _, rfl, ?_, F, N⟩)
          rw [s1]; exact ints_snoc hu1 _ _
        · rename Int.fmod x 3 = 0 => hc
          rw [if_neg (by simpa using hc), List.append_nil] at s1
          refine hQ3 _ _ (Stop.go ⟨rfl, _, _, us1, _, rfl, by rw [s1]; exact hu1, F, N⟩)
      clear F N hu1 hz1 s1
      rintro _ ⟨h, tk, us1', n1', rfl, hu1, F, N⟩
      exact wpAny_execs_nil (hQ2 _ _ ⟨_, _, _, _, _, rfl, fr_norm [Str.ofString "rows", Str.ofString "script", Str.ofString "x"] F rfl, N, fun p hp => List.mem_append_left _ hp, fun p hp => List.mem_append_right _ hp, rfl, us0', us1', n0', n1', _, rfl, rfl, hu0, hu1⟩)
    · clear F N
      rintro m1 news1 h tk ⟨us0, us1, n0, n1, ox, rfl, rfl, hu0, hu1⟩ F N
      rw [hw.length, List.take_length] at hu0 hu1
      exact hQ1 _ _ (Stop.go ⟨rfl, _, _, _, _, _, _, _, _, _, _, _, rfl, hu0, hu1, F, N⟩)
  clear F N
  rintro _ ⟨h, tk, r0, r1, r, us0, us1, n0, n1, n, ox, rfl, hu0, hu1, F, N⟩
  walk_at "my steps"
  rename Fr _ _ _ _ => F
  rename News _ _ _ _ => N
  exact hret _ _ _ _ _ _ _ _ _ _ F.keep (N.fresh (.head _)) (N.fresh (.tail _ (.head _))) (N.fresh (.tail _ (.tail _ (.head _)))) (N.get (.head _)) (N.get (.tail _ (.head _))) (N.get (.tail _ (.tail _ (.head _)))) hu0 hu1


/-! part: Cell -/
section
variable {w : World} {mean : ExcName → Option Value} {mg mb : Map} {d u : Nat} {outer : List Env} {base : Heap} {s : Shared}
  {name qual : Str} {params : Arguments} {body : List Stmt} {scope : Scope} {dV kV doc pm cdv ct oc : Value} {an od : Option Addr} {osl : Array (Option Value)} {f : Addr} {pos : List Value} {kw : List (Str × Value)} {binds : List (Str × Value)}
  {Q E : Value → Shared → Prop}
/-- a def with captured names is entered -/
theorem enterX (a : Amb w mean mg mb d u outer base s.heap)
    (ho : (hd.heap_39 w.params).lookup f = some ⟨oc, od, .func (fnOf name qual params body scope dV kV doc pm an cdv ct), osl⟩) (hcd : codeIn (hd.heap_39 w.params) cdv qual = true) (hroom : d < recursionLimit)
    (hbind : BindsTo s (fnOf name qual params body scope dV kV doc pm an cdv ct) ⟨pos, kw⟩ binds) (hkind : (binds.all fun y => scope.names.lookup y.1 == some .local || scope.names.lookup y.1 == some .cell) = true)
    (hnd : ((cellsFrom 0 scope.names []).map (·.1)).Nodup)
    (h : ∀ L h₁ tk cells, Fr s.heap L h₁ (bindL (envOfC qual scope L f cdv).kindOf binds fun _ => none) → News s.heap L h₁ cells →
      CellsAre (bindC (envOfC qual scope L f cdv).kindOf binds fun _ => none) (cellsFrom (L + 1) scope.names []) cells →
      wpN (model PR w) ((At d u outer).deeper (envOfC qual scope L f cdv)) (execs body (envOfC qual scope L f cdv))
        (fun fl s' => Q (match fl with | .ret v => v | _ => .none) s') { s with heap := h₁, toks := tk })
    (hco : scope.isCoroutine = false) (hgen : scope.isGenerator = false) (hk : scope.kind = .function) :
    wpAny (model PR w) (At d u outer) (call (.ref f) pos kw) Q E s := by
  refine wpAny_call ?_
  refine codeAny_call_function hroom (a.inK _ _ ho) rfl hco hgen rfl (codeRec_of a.inK hcd) (hbind _ _ _ _ ?_)
  refine wpAny_newFunctionEnv_cells hk (kindsX hkind _) fun env' he s' x => ?_
  subst he
  refine ⟨a.top.nolimit.keeps x.toInCall.keep, codeAny_func ?_⟩
  obtain ⟨h₁, tk, rfl, _⟩ := x.done
  obtain ⟨cells, NC, Y⟩ := Cl.news (h₀ := s.heap) (Nat.le_refl _) fun n c hm => ⟨x.cell n c (lookup_of_mem_nodup (cellsFrom_names scope.names 0 (s.heap.objs.size + 1) [] [] rfl ▸ hnd) hm), x.above n c hm⟩
  exact wpAny_mono (h s.heap.objs.size h₁ tk cells ⟨x.toInCall.ns, x.toInCall.keep, Nat.le_refl _⟩ NC Y) (fun _ _ x => x) fun _ _ x => x.elim
theorem enterXC (a : Amb w mean mg mb d u outer base s.heap)
    (ho : (hd.heap_39 w.params).lookup f = some ⟨oc, od, .func (fnOf name qual params body scope dV kV doc pm an cdv ct), osl⟩) (hcd : codeIn (hd.heap_39 w.params) cdv qual = true) (hroom : d < recursionLimit)
    (hbind : BindsTo s (fnOf name qual params body scope dV kV doc pm an cdv ct) ⟨pos, kw⟩ binds) (hkind : (binds.all fun y => scope.names.lookup y.1 == some .local || scope.names.lookup y.1 == some .cell) = true)
    (hnd : ((cellsFrom 0 scope.names []).map (·.1)).Nodup)
    (h : ∀ L h₁ tk cells, Fr s.heap L h₁ (bindL (envOfC qual scope L f cdv).kindOf binds fun _ => none) → News s.heap L h₁ cells →
      CellsAre (bindC (envOfC qual scope L f cdv).kindOf binds fun _ => none) (cellsFrom (L + 1) scope.names []) cells →
      wpC (model PR w) ((At d u outer).deeper (envOfC qual scope L f cdv)) (execs body (envOfC qual scope L f cdv))
        (fun fl s' => Q (match fl with | .ret v => v | _ => .none) s') { s with heap := h₁, toks := tk })
    (hco : scope.isCoroutine = false) (hgen : scope.isGenerator = false) (hk : scope.kind = .function) :
    wpC (model PR w) (At d u outer) (call (.ref f) pos kw) Q s := by
  refine wpC_call ?_
  refine codeC_call_function (body := body) (fd := fnOf name qual params body scope dV kV doc pm an cdv ct) hroom (a.inK _ _ ho) rfl hco hgen rfl (codeRec_of a.inK hcd) (hbind _ _ _ _ ?_)
  refine wpAny_newFunctionEnv_cells hk (kindsX hkind _) fun env' he s' x => ?_
  subst he
  refine ⟨a.top.nolimit.keeps x.toInCall.keep, codeC_func ?_⟩
  obtain ⟨h₁, tk, rfl, _⟩ := x.done
  obtain ⟨cells, NC, Y⟩ := Cl.news (h₀ := s.heap) (Nat.le_refl _) fun n c hm => ⟨x.cell n c (lookup_of_mem_nodup (cellsFrom_names scope.names 0 (s.heap.objs.size + 1) [] [] rfl ▸ hnd) hm), x.above n c hm⟩
  refine wpC_mono (h s.heap.objs.size h₁ tk cells ⟨x.toInCall.ns, x.toInCall.keep, Nat.le_refl _⟩ NC Y) fun fl s' x => ?_
  cases fl <;> exact x
end


/-! part: once -/
def onF (xs : List (List Nat)) : List (List Nat) := ((List.range xs.length).filter fun k => !(xs.take k).contains (xs.getD k [])).map fun k => xs.getD k []
theorem one_test {M : Model} {A : Around} {E : Value → Shared → Prop} {s : Shared} {c : Expr} {cenv : Env} {Q : Bool → Shared → Prop} (h : wpAny M A (isTrue c cenv (eval c cenv)) Q E s) :
    wpAny M A (forIn [c] true fun c r => if r = true then do let ok ← isTrue c cenv (eval c cenv); pure (ForInStep.yield ok) else pure (ForInStep.yield r)) Q E s := by
  simp only [List.forIn_cons, List.forIn_nil]
  rw [if_pos trivial]
  exact wpAny_bind (wpAny_bind (wpAny_mono h (fun b s' x => wpAny_pure (wpAny_pure x)) fun _ _ x => x))
theorem Are.get {val} : ∀ {vs xs}, Are val vs xs → ∀ (i : Nat) {x : List Nat}, xs[i]? = some x → ∃ t, vs[i]? = some (val x t)
  | _, _, .nil, i, x, h => by simp at h
  | _, _, .cons x t h, 0, y, e => by simp at e; subst e; exact ⟨t, rfl⟩
  | _, _, .cons x t h, i + 1, y, e => h.get i (by simpa using e)
theorem item_at {prog : Program} {w : World} {A : Around} {E : Value → Shared → Prop} {s : Shared} {value slice : Expr} {l : Addr} {vs : List Value} {i : Nat} {u : Tok} {v : Value} {Q : Value → Shared → Prop}
    (hl : s.heap.IsList l vs.toArray) (hx : vs[i]? = some v) (hi : i < 100000) (h : Q v s)
    (hs : subscripted slice false (.ref l) (.int i u) = operate [.ref l, .int i u] (getItem (.ref l) (.int i u)) := by with_unfolding_all rfl) :
    wpAny (model prog w) A (subscriptTail value slice (.ref l) (.int i u)) Q E s :=
  tail_any hl.typeIs slot_list_getitem.lookup (wpAny_getItem_list hl (Int.natCast_nonneg _) (by omega) (by simpa using hx) h) hs
theorem Are.take {val} : ∀ {vs xs}, Are val vs xs → ∀ i, Are val (vs.take i) (xs.take i)
  | _, _, _, 0 => .nil
  | _, _, .nil, _ + 1 => .nil
  | _, _, .cons x t h, i + 1 => .cons x t (h.take i)
theorem once_paired {val : List Nat → Tok → Value} {xs : List (List Nat)} : ∀ (k : Nat) (ws ys : List Value), (∀ (j : Nat) (v : Value), ws[j]? = some v → ∃ t, v = .int ((k : Int) + (j : Nat)) t) →
    Paired (fun v y => ∃ k t u, v = .int k t ∧ y = val (xs.getD k.toNat []) u) (ws.filter fun v => match v with | .int k _ => !(xs.take k.toNat).contains (xs.getD k.toNat []) | _ => false) ys →
    Are val ys (((List.range' k ws.length).filter fun k => !(xs.take k).contains (xs.getD k [])).map fun k => xs.getD k [])
  | k, [], _, _, .nil => .nil
  | k, v :: ws, ys, hv, hp => by
    obtain ⟨t, e⟩ := hv 0 v rfl
    have e0 : v = .int (k : Int) t := by rw [e]; simp
    subst e0
    have hv' : ∀ (j : Nat) (v : Value), ws[j]? = some v → ∃ t, v = .int (((k + 1 : Nat) : Int) + (j : Nat)) t := fun j v h => by
      obtain ⟨t, e⟩ := hv (j + 1) v h
      exact ⟨t, by rw [e]; congr 1; push_cast; omega⟩
    rw [List.length_cons, List.range'_succ]
    rw [List.filter_cons] at hp ⊢
    cases hc : (!(xs.take k).contains (xs.getD k [])) with
    | false =>
      rw [if_neg Bool.false_ne_true]
      simp only [Int.toNat_natCast, hc, Bool.false_eq_true, if_false] at hp
      exact once_paired (k + 1) ws ys hv' hp
    | true =>
      rw [if_pos rfl]
      simp only [Int.toNat_natCast, hc, if_true] at hp
      cases hp with
      | cons h r =>
        obtain ⟨k', t', u, e, rfl⟩ := h
        cases e
        exact .cons _ _ (once_paired (k + 1) ws _ hv' r)
theorem range_size (n : Nat) : Builtin.Range.rangeSize 0 n 1 = (n : Int) := by rw [rangeSize_nat]; simp
theorem range_small {n : Nat} (h : n ≤ 1000) : Builtin.Range.small 0 n 1 = true := by
  unfold Builtin.Range.small
  rw [range_size]
  have : ∀ k : Int, 0 ≤ k → k ≤ 1000 → Builtin.Range.rangeFitsLong k = true := fun k h0 h1 => by
    unfold Builtin.Range.rangeFitsLong
    rw [Bool.and_eq_true, decide_eq_true_eq, decide_eq_true_eq]
    omega
  rw [this 0 (by decide) (by decide), this n (by omega) (by omega), this 1 (by decide) (by decide), if_pos (by decide), this ((n : Int) + (1 - 1)) (by omega) (by omega)]
  simp
theorem cut_keep {prog : Program} {w : World} {A : Around} {E : Value → Shared → Prop} {s : Shared} {value slice : Expr} {l : Addr} {items : Array Value} {vl vu : Value} {lo hi : Option Int} {Q : Value → Shared → Prop}
    (hl : s.heap.IsList l items) (pl : IsPart vl lo) (pu : IsPart vu hi)
    (h : ∀ r h', s.heap.StaysIn h' → h'.IsList r (slicePick items lo hi none) → Q (.ref r) { s with heap := h' })
    (hs : subscripted slice false (.ref l) (.ref s.heap.objs.size) = operate [.ref s.heap.objs.size, .ref l] (getItem (.ref l) (.ref s.heap.objs.size)) := by with_unfolding_all rfl)
    (ht : ∀ r, letTemporaryGo value (.ref l) r = pure () := by intro _; with_unfolding_all rfl)
    (hsz : items.size ≤ sizeLine) :
    wpAny (model prog w) A (subscriptTail value slice (.ref l) (.ref s.heap.objs.size)) Q E { s with heap := s.heap.push { cls := .type "slice", data := .fields #[vl, vu, .none] } } := by
  refine subscriptTail_ops (Heap.IsList.typeIs (s := { s with heap := s.heap.push { cls := .type "slice", data := .fields #[vl, vu, .none] } }) (hl.push _)) list_getitem_lookup
    (wpAny_getItem_list_slice (hl.push _) (Heap.IsSliceOf.new ..) pl pu .none (by simp) ?_ hsz) hs ht
  exact h _ _ (fun b o e => Heap.get?_push_of_some _ (Heap.get?_push_of_some _ e)) ⟨_, Heap.get?_push_size _ rfl, rfl, _, rfl⟩
section
theorem words1_once : True := by
  k_with "subscriptTail Name Slice ref ref" => (k_here; refine stop_here ?_)
  exact True.intro
set_option maxHeartbeats 8000000 in
theorem con_once {w : World} {mean : ExcName → Option Value} {mg mb : Map} {outer : List Env} {base : Heap} {s : Shared} {Q E : Value → Shared → Prop} {val : List Nat → Tok → Value} {P : List Nat → Prop} {dec : Value → List Nat} {l : Addr} {vs : List Value} {xs : List (List Nat)}
    (kd : Kd val P dec) (a : Amb w mean mg mb 540 3700 outer base s.heap) (hl : s.heap.IsList l vs.toArray) (ha : Are val vs xs) (hP : ∀ y ∈ xs, P y) (hn : xs.length ≤ 1000)
    (hret : ∀ r us n h' tk', s.heap.StaysIn h' → s.heap.get? r = none → h'.get? r = some (W.listOf (List.toArray us) n) → Are val us (onF xs) → Q (.ref r) { s with heap := h', toks := tk' }) :
    wpAny (model PR w) (At 540 3700 outer) (call (.ref 109) [.ref l]) Q E s := by
  have B := a.below
  have X := a.inK
  have T := a.top
  k_dflt (refine' enterX (by assumption) ?k6 ?k7 ?k8 ?k9 ?kB ?kD ?_ ?c2 ?c3 ?c4; (case k6 => k_is); (case k7 => k_is); (case k8 => decide); (case k9 => exact BindsTo.of_eq rfl); (case kB => exact rfl); (case kD => decide +kernel); (case c2 => exact rfl); (case c3 => exact rfl); (case c4 => exact rfl); k_whole)
  intro L h1 tk cells F N Y
  obtain ⟨oc, rfl, hoc⟩ := CellsAre.one Y
  clear a Y
  replace hoc : oc.data = .cell (some (.ref l)) := hoc
  replace F : Fr s.heap L h1 (mk []) := F
  walk_at "my steps"
  refine Stop.go (wpAny_ListComp_free (cl := [(Str.ofString "things", L + 1)]) (fun v => match v with | .int k _ => !(xs.take k.toNat).contains (xs.getD k.toNat []) | _ => false) (fun v y => ∃ k t u, v = .int k t ∧ y = val (xs.getD k.toNat []) u) rfl (by decide) rfl (by decide) rfl ?_ (by intro _; rfl))
  walk_at "my steps"
  have hvl := ha.length
  have hl1 : h1.IsList l vs.toArray := hl.at fun o e => F.keep l o e
  refine Calls.call_len_list hl1 (by rw [List.size_toArray]; omega) ?_
  rw [List.size_toArray, hvl]
  dsimp only
  walk_at "my steps"
  rename IsRange _ _ _ _ _ _ _ _ => hr
  rename Fr _ _ _ _ => F
  rename News _ _ _ _ => N
  rename_i hu
  rename_i h2 tk2 _ _ _
  replace hu : h1.StaysIn h2 := hu
  have hl2 : h2.IsList l vs.toArray := hl1.at fun o e => hu l o e
  clear hl1 hu
  refine wpAny_pyIter_range hr (range_small hn) ⟨_, _, _, xs.length, _, _, rfl, (Walks.range rfl _ 0 1 xs.length).bound, by rw [sizeLine_eq]; omega, (by show IsRangeIter _ _ _ _ _; rw [range_size]; simpa using Heap.get?_push_size _ rfl), ?_, ⟨?_, ?_⟩, ?_⟩
  · intro b hb
    rw [List.mem_singleton.mp hb]
    show _ < (Heap.push _ _).objs.size
    rw [Heap.size_push]
    exact Nat.lt_succ_self _
  · rintro C i v s3 m3 E' hC ⟨hi, t, rfl⟩ hn3 hm hk htk
    have up : h2.StaysIn s3.heap := fun b o' e => hk b o' (old_not_new e) (Heap.get?_push_of_some _ e)
    have F3 := F.keeps up
    have N3 := News.grown N up
    have hl3 : s3.heap.IsList l vs.toArray := hl2.at fun o e => up l o e
    clear F N hk up hl2
    rw [Int.zero_add, Int.mul_one] at hm
    clear htk
    obtain ⟨y, hy⟩ : ∃ y, xs[i]? = some y := ⟨_, List.getElem?_eq_getElem hi⟩
    refine one_test ?_
    walk_at "my steps"
    obtain ⟨ty, hvy⟩ := ha.get i hy
    refine item_at hl3 hvy (by omega) ?_
    walk_at "my steps"
    refine Stop.go (cut_keep hl3 .none (.int _ _) (fun r h' hst hr' => ?_) (hsz := by rw [sizeLine_eq, List.size_toArray]; omega))
    have hsp : slicePick vs.toArray none (some (i : Int)) none = (vs.take i).toArray := slicePick_upto vs.toArray i (by rw [List.size_toArray]; omega)
    rw [hsp] at hr'
    obtain ⟨e1, e2⟩ := Are.any kd (A := (At 540 3700 outer).deeper _ |>.in1) (s := ⟨h', s3.gens, s3.drawn, s3.toks, s3.os⟩) (t := ty) (hP y (List.mem_of_getElem? hy)) (ha.take i) (fun z hz => hP z (List.mem_of_mem_take hz))
    refine PySem.SeqAt.notIn_listAt (fun v => dec v == y) hr' (fun v hv => e1 v (by simpa using hv)) ?_
    have e3 : (vs.take i).toArray.any (fun v => dec v == y) = (xs.take i).contains y := by rw [List.any_toArray]; exact e2
    rw [e3]
    refine wpAny_truthy_bool ⟨?_, _, _, rfl, hst⟩
    show _ = !(xs.take ((0 : Int) + i * 1).toNat).contains (xs.getD ((0 : Int) + i * 1).toNat [])
    rw [Int.zero_add, Int.mul_one, Int.toNat_natCast, List.getD_eq_getElem?_getD, hy]
    rfl
  · rintro C i v s3 m3 E' hC ⟨hi, t, rfl⟩ _ hn3 hm hk htk
    have up : h2.StaysIn s3.heap := fun b o' e => hk b o' (old_not_new e) (Heap.get?_push_of_some _ e)
    have F3 := F.keeps up
    have N3 := News.grown N up
    have hl3 : s3.heap.IsList l vs.toArray := hl2.at fun o e => up l o e
    clear F N hk up hl2
    rw [Int.zero_add, Int.mul_one] at hm
    clear htk
    obtain ⟨y, hy⟩ : ∃ y, xs[i]? = some y := ⟨_, List.getElem?_eq_getElem hi⟩
    walk_at "my steps"
    obtain ⟨ty, hvy⟩ := ha.get i hy
    refine item_at hl3 hvy (by omega) ⟨⟨_, _, ty, rfl, ?_⟩, _, _, rfl, fun _ _ e => e⟩
    rw [Int.zero_add, Int.mul_one, Int.toNat_natCast, List.getD_eq_getElem?_getD, hy]
    rfl
  · intro D h3 tk3 ys ws hD hl3 hpl hlen hPw hFw hk
    have up : h2.StaysIn h3 := fun b o' e => hk b o' (old_not_new e) (Heap.get?_push_of_some _ e)
    obtain ⟨nD, hpl⟩ := hpl
    have hD0 : h2.get? D = none := by
      cases q : h2.get? D with
      | none => rfl
      | some o' => rw [show (Heap.push h2 _).get? D = some o' from Heap.get?_push_of_some _ q] at hD; cases hD
    have hD1 : s.heap.get? D = none := by
      cases q : s.heap.get? D with
      | none => rfl
      | some o' => rw [F.keep D o' q] at hD0; cases hD0
    refine hret D ys.toList nD h3 tk3 (fun b o e => up b o (F.keep b o e)) hD1 (by rw [Array.toArray_toList]; exact hpl) ?_
    unfold onF
    rw [← hlen, List.range_eq_range']
    refine once_paired 0 ws ys.toList (fun j v hv => ?_) hFw
    obtain ⟨_, t, e⟩ := hPw j v hv
    exact ⟨t, by rw [e, Int.mul_one]; rfl⟩
end

theorem again_once : True := by
  k_with_none
  k_with "my enter" => (k_dflt (refine' enter (by assumption) ?k6 ?k7 ?k8 ?k9 ?kB ?_ ?c5 ?c2 ?c3 ?c4; (case k6 => k_is); (case k7 => k_is); (case k8 => decide); (case k9 => exact BindsTo.of_eq rfl); (case c5 => decide); (case kB => exact locs rfl); (case c2 => exact rfl); (case c3 => exact rfl); (case c4 => exact rfl); k_whole))
  k_with "my enterC" => (k_dflt (refine' enterC (by assumption) ?k6 ?k7 ?k8 ?k9 ?kB ?_ ?c5 ?c2 ?c3 ?c4; (case k6 => k_is); (case k7 => k_is); (case k8 => decide); (case k9 => exact BindsTo.of_eq rfl); (case c5 => decide); (case kB => exact locs rfl); (case c2 => exact rfl); (case c3 => exact rfl); (case c4 => exact rfl); k_whole))
  k_with "my steps" => repeat' (first | (k_unfold; (try dsimp only)) | walk1 | (dsimp only; walk1))
  k_with "storeName" => (k_here; k_dflt (first
  | (refine' st_int (by k_asm) (by k_asm) ?_ rfl rfl; k_whole; intro _ _ _ _ _; (try k_sweep); (try dsimp only))
  | (refine' st_str (by k_asm) (by k_asm) ?_ rfl rfl; k_whole; intro _ _ _ _ _; (try k_sweep); (try dsimp only))
  | (refine' st_bytes (by k_asm) (by k_asm) ?_ rfl rfl; k_whole; intro _ _ _ _ _; (try k_sweep); (try dsimp only))
  | (refine' st_val (by k_asm) (by k_asm) ?_ rfl rfl; k_whole; intro _ _ _ _; (try k_sweep); (try dsimp only))))
  k_with "my use" => ((case hd => exact Nat.le_of_ble_eq_true rfl); (case hu => exact Nat.le_of_ble_eq_true rfl); (case B => k_asm); (case F => k_asm); (case X => k_asm); (case T => k_asm); (case hf => rfl); (case hk => rfl); k_whole)
  k_with "getMethod ref" => (k_here; k_dflt (first
  | (refine' gm_append (News.get (by k_asm) (by k_mem)) ?_; k_whole)
  | (refine' gm_extend (News.get (by k_asm) (by k_mem)) ?_; k_whole)))
  k_with "call type:enumerate" => (k_here; refine stop_here ?_)
  k_with "call ref" => (k_here; k_dflt (refine' use_amb (by k_asm) (by k_asm) (by k_asm) (by k_asm) rfl rfl (fun am => con_T am ?_) (Nat.le_of_ble_eq_true rfl) (Nat.le_of_ble_eq_true rfl); k_whole; intro _ _ _ hs'; clear am; (have := fr_stays (by k_asm) hs'); (have := news_stays (by k_asm) hs'); clear hs'; (try k_sweep); (try dsimp only)))
  k_with "subscriptTail" => (k_here; (with_reducible show wpAny _ _ (subscriptTail _ _ (Value.bytes _ _) (Value.int _ _)) _ _ _); k_dflt (refine' item_digits (by omega) (by omega) ?_ (by with_unfolding_all rfl) (by intro _; with_unfolding_all rfl); k_whole); intro _ _)
  k_with "call type:bytes" => (k_here; (with_reducible show wpAny _ _ (call (Value.type _) [Value.ref _]) _ _ _); k_dflt (refine' call_bytes_ba (News.get (by k_asm) (by k_mem)) (by first | assumption | omega) ?_; k_whole); intro _ _)
  k_with "call ref" => (k_here; k_dflt (refine' use_amb (by k_asm) (by k_asm) (by k_asm) (by k_asm) rfl rfl (fun am => con_adapt am (by omega) (by omega) (by omega) ?_) (Nat.le_of_ble_eq_true rfl) (Nat.le_of_ble_eq_true rfl); k_whole; intro _ _ _ hs'; clear am; (have := fr_stays (by k_asm) hs'); (have := news_stays (by k_asm) hs'); clear hs'; (try k_sweep); (try dsimp only)))
  k_with "subscriptTail" => (k_here; (with_reducible show wpAny _ _ (subscriptTail _ _ (Value.bytes (bArr _) _) (Value.int _ _)) _ _ _); k_dflt (refine' item_bArr (by assumption) (by assumption) (by omega) (by first | assumption | (simp only [Int.toNat_natCast]; assumption)) ?_ (by with_unfolding_all rfl) (by intro _; with_unfolding_all rfl); k_whole); intro _ _)
  k_with "call ref" => (k_here; k_dflt (refine' use_amb (by k_asm) (by k_asm) (by k_asm) (by k_asm) rfl rfl (fun am => con_dgn am (by assumption) (by assumption) (by assumption) ?_) (Nat.le_of_ble_eq_true rfl) (Nat.le_of_ble_eq_true rfl); k_whole; intro _ _ _ _ _ hs' hx' ho'; clear am; (have := news_made (by k_asm) (by k_asm) hs' hx' ho'); (have := fr_stays (by k_asm) hs'); clear hs' hx' ho'; (try k_sweep); (try dsimp only)))
  k_with "my len" => first | assumption | omega | ((try simp only [List.length_append, List.length_take, List.length_drop, List.length_cons, List.length_nil]); omega)
  k_with "call builtin:len" => (k_here; k_dflt (first
  | (refine' len_sL (by walk_at "my len") ?_; k_whole; intro _ _)
  | (refine' len_bArr (by assumption) (by walk_at "my len") ?_; k_whole; intro _ _)))
  k_with "call builtin:chr" => (k_here; k_dflt (refine' chr_sL (by omega) (by omega) ?_; k_whole; intro _ _))
  k_with "binaryOp Add str str" => (k_here; k_dflt (refine' add_sL (by walk_at "my len") ?_; k_whole; intro _ _))
  k_with "subscriptTail Name Slice str ref" => (k_here; (try dsimp only); k_dflt (first
  | (refine' cut_to (by k_asm) (by k_asm) (by omega) (by walk_at "my len") (by walk_at "my len") ?_ (by with_unfolding_all rfl) (by intro _; with_unfolding_all rfl); k_whole; intro _ _ _ _ _; (try k_sweep))
  | (refine' cut_from (by k_asm) (by k_asm) (by omega) (by walk_at "my len") (by walk_at "my len") ?_ (by with_unfolding_all rfl) (by intro _; with_unfolding_all rfl); k_whole; intro _ _ _ _ _; (try k_sweep))))
  k_with "getMethod bytes" => (k_here; first
  | (refine' gm_rfind ?_; (try dsimp only))
  | (refine' gm_upper ?_; (try dsimp only)))
  k_with "call builtin:bytes.rfind" => (k_here; k_dflt (refine' call_rfind (by assumption) ?_; k_whole; intro _ _))
  k_with "call builtin:bytes.upper" => (k_here; k_dflt (refine' call_upper (by walk_at "my len") (by assumption) ?_; k_whole; intro _ _))
  k_with "call type:str" => (k_here; k_dflt (refine' call_asc (by assumption) ?_; k_whole; intro _ _))
  k_with "call ref" => (k_here; k_dflt (refine' use_amb (by k_asm) (by k_asm) (by k_asm) (by k_asm) rfl rfl (fun am => con_isort am (by assumption) (by assumption) (by assumption) ?_) (Nat.le_of_ble_eq_true rfl) (Nat.le_of_ble_eq_true rfl); k_whole; intro _ _ _ hs'; clear am; (have := fr_stays (by k_asm) hs'); (have := news_stays (by k_asm) hs'); clear hs'; (try k_sweep); (try dsimp only)))
  k_with "subscriptTail" => (k_here; (with_reducible show wpAny _ _ (subscriptTail _ _ (Value.bytes (bArr _) _) (Value.ref _)) _ _ _); (try dsimp only); k_dflt (first
  | (refine' cutB_to (by k_asm) (by k_asm) (by assumption) (by walk_at "my len") (by walk_at "my len") ?_ (by with_unfolding_all rfl) (by intro _; with_unfolding_all rfl); k_whole; intro _ _ _ _ _; (try k_sweep))
  | (refine' cutB_from (by first | exact rfl | exact (Int.natCast_succ _).symm) (by k_asm) (by k_asm) (by assumption) (by walk_at "my len") (by walk_at "my len") ?_ (by with_unfolding_all rfl) (by intro _; with_unfolding_all rfl); k_whole; intro _ _ _ _ _; (try k_sweep))))
  k_with "call ref" => (k_here; k_dflt (refine' use_amb (by k_asm) (by k_asm) (by k_asm) (by k_asm) rfl rfl (fun am => con_dec am (by assumption) (by assumption) (by assumption) (by assumption) ?_) (Nat.le_of_ble_eq_true rfl) (Nat.le_of_ble_eq_true rfl); k_whole; intro _ _ _ hs'; clear am; (have := fr_stays (by k_asm) hs'); (have := news_stays (by k_asm) hs'); clear hs'; (try k_sweep); (try dsimp only)))
  k_with "call ref" => (k_here; k_dflt (refine' use_amb (by k_asm) (by k_asm) (by k_asm) (by k_asm) rfl rfl (fun am => con_name am ?_) (Nat.le_of_ble_eq_true rfl) (Nat.le_of_ble_eq_true rfl); k_whole; intro _ _ _ _ _ _ _ _ hs' hz' hy' _ hoz' hoy' _; clear am; (have := news_made2 (by k_asm) (by k_asm) hs' hz' hy' hoz' hoy'); (have := fr_stays (by k_asm) hs'); clear hs' hz' hy' hoz' hoy'; (try k_sweep); (try dsimp only)))
  k_with "eval ListComp" => (k_here; refine stop_here ?_)
  k_with "call builtin:len" => (k_here; k_dflt (refine' len_led (by k_asm) (by k_mem) (by assumption) (by omega) ?_; k_whole; intro _ _))
  exact True.intro


/-! part: Catch -/
/-- what stands behind a call that may have caught something: the frames below may bear other slots -/
def Turned (fs : List Addr) (g h' : Heap) : Prop := ∃ g', KtsTurn fs g g' ∧ g'.StaysIn h'
theorem Turned.of {fs : List Addr} {g h' : Heap} (k : g.StaysIn h') : Turned fs g h' := ⟨g, KtsTurn.refl, k⟩
theorem fr_turned {h₀ h h' : Heap} {L : Addr} {m : Map} {fs : List Addr} (hfs : ∀ b ∈ fs, h₀.get? b = none) (F : Fr h₀ L h m) (k : Turned fs h h') : Fr h₀ L h' m := by
  obtain ⟨g', T, k⟩ := k
  refine ⟨?_, fun b o e => k b o (T.other b o (F.keep b o e) fun hm => by rw [hfs b hm] at e; cases e), F.above⟩
  obtain ⟨o, es, ep, ho, hd, r⟩ := F.ns
  obtain ⟨sl, hs⟩ := T.up ho
  exact ⟨_, es, ep, k _ _ hs, hd, r⟩
theorem news_turned {h₀ h h' : Heap} {L : Addr} {news : Led} {fs : List Addr} (hfs : ∀ p ∈ news, p.1 ∉ fs) (N : News h₀ L h news) (k : Turned fs h h') : News h₀ L h' news := by
  obtain ⟨g', T, k⟩ := k
  exact fun p hp => ⟨k _ _ (T.other _ _ (N p hp).1 (hfs p hp)), (N p hp).2⟩

section
variable {prog : Program} {w : World} {A₀ : Around} {s' : Shared} {base g h : Heap} {outer : List Env} {L a e : Addr} {m : Map} {name : Str} {scope : Scope} {cd : Value}
  {b₀ : Stmt} {suite : List Stmt} {pos np : Pos} {rest : List ExceptHandler} {Q : Flow → Shared → Prop} {news : Led} {KF : Frag}
  {p : Program} {loose : List Str} {mean : ExcName → Option Value} {mg mb : Map} {x : Str} {X T' : String}
/-- an exception that the frame's own statement made is caught in it -/
theorem caught_new (hx' : Heap.NewExc h s'.heap e X) (F : Fr g L h m) (N : News g L h news) (K : Below A₀ base outer g) (XB : KF.In base) (TB : Top p loose mean mg mb base)
    (ex : nsIn KF mainGlobals x = some none) (hv : bootBuiltins x = some (.type T')) (hn' : x ≠ "__name__")
    (hexc : isSubtype (.type T') (.type "BaseException") = pure true) (hnt : isSubtype (.type ((Manifest.find? T').elim "type" fun y => y.metatype)) (.type "tuple") = pure false) (hsub : isSubtype (.type X) (.type T') = pure true)
    (k : ∀ h' g', KtsTurn (outer.filterMap (·.frame)) g g' → Fr g' L h' m → News g' L h' news →
      wpN (model prog w) ((A₀.deeper (envOf name scope L a cd)).mark (some (.ref e))) (execs (b₀ :: suite) (envOf name scope L a cd)) Q { s' with heap := h' })
    (hk : scope.kind = .function := by rfl) (hx : (envOf name scope L a cd).kindOf x = some .globalImplicit := by rfl) (hd : (x == ("__debug__" : Str)) = false := by decide) :
    wpN (model prog w) (A₀.deeper (envOf name scope L a cd)) (noteFrame (.ref e) (envOf name scope L a cd))
      (fun _ s₂ => wpN (model prog w) (A₀.deeper (envOf name scope L a cd)) (setFlight (.ref e) none) (fun _ s₃ =>
        wpN (model prog w) (A₀.deeper (envOf name scope L a cd)) (handleBy (.ref e) (envOf name scope L a cd) (.ExceptHandler (some (.Name x np)) none (b₀ :: suite) pos :: rest)) Q s₃) s₂) s' := by
  have K' := K.push (name := name) (a := a) (cd := cd) F hk
  have hin : ∀ env ∈ (envOf name scope L a cd :: outer), ∀ b, env.frame = some b → b ∈ (envOf name scope L a cd :: outer).filterMap (·.frame) := fun env he b hb => List.mem_filterMap.mpr ⟨env, he, hb⟩
  generalize hfs : (envOf name scope L a cd :: outer).filterMap (·.frame) = fs at hin
  have sg : ∀ b o, h.get? b = some o → b ∉ fs → (hideAll h fs).get? b = some o := fun b o q nm => hideAll_get _ q nm
  have hlF : ∀ q ∈ news, q.1 ∉ fs := fun q hq hm => by
    rw [← hfs] at hm
    rcases kts_mem hm with z | z
    · exact (N q hq).2.1 z
    · obtain ⟨o, ho, _⟩ := (K.frames.mem z).2
      rw [(N q hq).2.2] at ho; cases ho
  obtain ⟨ob, tp, he, hcls, hdat⟩ := hx'.there
  have hen : (hideAll h fs).get? e = none := by
    cases q : (hideAll h fs).get? e with
    | none => rfl
    | some o => have := of_hideAll _ q; rw [hx'.new] at this; cases this
  have hL : (hideAll h fs).get? L = none := hideAll_none _ (hin _ (.head _) L rfl)
  have first : ∀ {Q' : Unit → Shared → Prop}, (∀ h₄, Heap.HeldW (hideAll h fs) (envOf name scope L a cd :: outer) e (.type X) tp L h₄ → s'.heap.UpToSlots h₄ → Q' () { s' with heap := h₄ }) →
      wpN (model prog w) (A₀.deeper (envOf name scope L a cd)) (noteFrame (.ref e) (envOf name scope L a cd)) Q' s' := fun hQ => by
    unfold noteFrame
    dsimp only
    refine wpAny_bind (wpAny_field he hdat (x := .none) rfl ?_)
    rw [if_neg (by decide)]
    refine wpAny_entryW K'.stack ((funFrames_hide K'.frames (by rw [hfs] at *; exact hin)).of_keeps fun b o hb _ => ⟨o, hx'.keeps b o hb, rfl⟩) rfl he (fun b o hb => hx'.keeps b o (of_hideAll _ hb)) hen hdat (show 1 < 6 by decide) rfl fun h' hN => ?_
    obtain ⟨k1, k2, k3, k4⟩ := hN
    exact hQ h' ⟨k1, hen, k2, by rw [← hcls]; exact k3⟩ k4
  refine first fun h₄ hheld₄ hsm₄ => ?_
  refine wpAny_landsW hheld₄ fun h₅ hheld hsm₅' => ?_
  have hsm₅ : h.UpToSlots h₅ := (Heap.UpToSlots.of_keeps hx'.keeps).trans (hsm₄.trans hsm₅')
  have hBG : ∀ b o, h.get? b = some o → b ∉ (envOf name scope L a cd :: outer).filterMap (·.frame) → (hideAll h fs).get? b = some o := fun b o q nm => sg b o q (hfs ▸ nm)
  obtain ⟨g₅, T₅, F₅, K₅⟩ := kts_ground K F hBG hheld.1 hsm₅
  have X₅ : KF.In g₅ := XB.keeps K₅.stays
  have P₅ : TopRead p loose mg mb g₅ := topRead_of (TB.keeps K₅.stays)
  obtain ⟨ob', hob, hobc⟩ := hheld.there
  refine wpAny_handleBy_builtin (X := X) (T := T') (b := true) hexc hnt hsub (name_B F₅ X₅ P₅ ex hv hn' ⟨rfl, ⟨ob', hob, hobc⟩, ?_⟩ hk hx hd)
  rw [if_pos rfl]
  refine lands_againW hheld fun h₆ hfl₆ hsm₆ => ?_
  obtain ⟨g₆, T₆, F₆, K₆⟩ := kts_ground K F hBG hfl₆.1 (hsm₅.trans hsm₆)
  have Nl : News g₆ L h₆ news := fun q hq => ⟨hfl₆.1 _ _ (sg _ _ (N q hq).1 (hlF q hq)), (N q hq).2.1, T₆.none_ _ (N q hq).2.2⟩
  exact wpAny_mono (k h₆ g₆ T₆ F₆ Nl) (fun _ _ x => x) fun _ _ x => x.elim
end


/-! part: cmp -/
def rmF : List (List Nat) → List (List Nat) → Option (List (List Nat))
  | t, [] => some t
  | t, x :: r => if t.contains x then rmF (t.erase x) r else none
def cmpF (xs ys : List (List Nat)) : Bool := match rmF (ddF [] ys) (ddF [] xs) with | none => false | some t => t.isEmpty
theorem Are.eraseIdx {val} : ∀ {vs xs}, Are val vs xs → ∀ i, Are val (vs.eraseIdx i) (xs.eraseIdx i)
  | _, _, .nil, _ => .nil
  | _, _, .cons x t h, 0 => h
  | _, _, .cons x t h, i + 1 => .cons x t (h.eraseIdx i)
theorem eq_str {x : List Nat} {t : Tok} {vs : List Value} {xs : List (List Nat)} (h : Are vS vs xs) : ∀ y ∈ vs.toArray, MeetsSeq.EqGives y (vS x t) (dS y == x) := fun y hy => by
  obtain ⟨z, u, rfl, _⟩ := h.mem (by simpa using hy)
  show MeetsSeq.EqGives _ _ (z == x)
  rw [← sL_inj]
  exact eqGives_str _ _ _ _
section
variable {prog : Program} {w : World} {A : Around} {E : Value → Shared → Prop} {hp : Heap} {g : Array GenState} {dr : Drawn} {tk : Nat} {os : OsState} {h₀ : Heap} {L D : Addr} {m : Map} {news : Led} {ts : List Value} {tl : List (List Nat)} {n : Nat} {x : List Nat} {t : Tok} {Q : Value → Shared → Prop}
theorem rem_led (F : Fr h₀ L hp m) (N : News h₀ L hp ((D, W.listOf ts.toArray n) :: news)) (hne : ∀ p ∈ news, p.1 ≠ D) (ha : Are vS ts tl) (hx : tl.contains x = true) (hz : tl.length ≤ 1000)
    (h : ∀ h' ts', Are vS ts' (tl.erase x) → Fr h₀ L h' m → News h₀ L h' ((D, W.listOf ts'.toArray (n + 1)) :: news) → Q .none ⟨h', g, dr, tk, os⟩) :
    wpAny (model prog w) A (call (.builtin "list.remove") [.ref D, vS x t]) Q E ⟨hp, g, dr, tk, os⟩ := by
  have hx' : x ∈ tl := by simpa using hx
  have hj : tl.idxOf x < tl.length := List.idxOf_lt_length_of_mem hx'
  have hjt : tl.idxOf x < ts.toArray.size := by rw [List.size_toArray, ha.length]; exact hj
  have at' : ∀ i (hi : i < ts.toArray.size) (hi' : i < tl.length), (dS ts.toArray[i] == x) = (tl[i] == x) := fun i hi hi' => by
    obtain ⟨u, hu⟩ := ha.get i (List.getElem?_eq_getElem hi')
    have : ts.toArray[i] = vS tl[i] u := by
      have h2 : ts.toArray[i]? = some (vS tl[i] u) := by simpa using hu
      rw [Array.getElem?_eq_getElem hi] at h2
      exact Option.some.inj h2
    rw [this]
    rfl
  refine call_meets PySem.F.slot_list_remove ⟨_, N.get (.head _), rfl⟩ PySem.F.entry_list_remove (PySem.F.args_list_remove_2 _ _)
    (MeetsSeq.list_remove D ts.toArray n (vS x t) (fun y => dS y == x) (eq_str ha) (tl.idxOf x) hjt (by rw [at' _ hjt hj]; simp) (fun i hi hlt => ?_) (by rw [sizeLine_eq, List.size_toArray, ha.length]; omega)) ⟨N.get (.head _), ?_⟩
  · rw [at' i hi (Nat.lt_trans hlt hj)]
    rw [beq_eq_false_iff_ne]
    intro e
    have := List.not_of_lt_findIdx (p := (· == x)) (xs := tl) (i := i) hlt
    simp [e] at this
  · obtain ⟨F', N'⟩ := upd_led (o' := W.listOf ((ts.eraseIdx (tl.idxOf x))).toArray (n + 1)) F N (by
      rw [Heap.get?_update_self (Obj.mapSeq fun xs => xs.eraseIdxIfInBounds (tl.idxOf x)) (N.get (.head _)) (by rw [mapSeq_erase _ _ _ hjt]; rfl), mapSeq_erase _ _ _ hjt]) (Heap.SameBut.update ..) hne
    refine h _ _ ?_ F' N'
    rw [List.erase_eq_eraseIdx_of_idxOf rfl]
    exact ha.eraseIdx _
theorem rem_none (F : Fr h₀ L hp m) (N : News h₀ L hp ((D, W.listOf ts.toArray n) :: news)) (ha : Are vS ts tl) (hx : tl.contains x = false) (hh : A.handled = none)
    (h : ∀ h' tk' e, Heap.NewExc hp h' e "ValueError" → E (.ref e) ⟨h', g, dr, tk', os⟩) :
    wpAny (model prog w) A (call (.builtin "list.remove") [.ref D, vS x t]) Q E ⟨hp, g, dr, tk, os⟩ := by
  refine call_meets PySem.F.slot_list_remove ⟨_, N.get (.head _), rfl⟩ PySem.F.entry_list_remove (PySem.F.args_list_remove_2 _ _)
    (MeetsSeq.list_remove_none D ts.toArray n (vS x t) (fun y => dS y == x) (eq_str ha) (fun i hi => ?_)) ⟨N.get (.head _), hh, fun h' tk' e he => h h' tk' e he⟩
  rw [beq_eq_false_iff_ne]
  intro e
  have hm : ts.toArray[i] ∈ ts := by simpa using Array.getElem_mem hi
  obtain ⟨z, u, e2, hz⟩ := ha.mem hm
  rw [e2] at e
  have e3 : z = x := e
  subst e3
  simp [hz] at hx
end
theorem wpE_For {prog : Program} {w : World} {A : Around} {s : Shared} {env : Env} {Q : Flow → Shared → Prop} {E : Value → Shared → Prop} {x : Str} {px pos : Pos} {iter : Expr} {body : List Stmt} (h₀ : Heap) (hx : env.kindOf x = some .local)
    (hp : (env.scope.kind == .class || (env.scope.kind == .module && env.locals != env.globals)) = false)
    (h : wpAny (model prog w) A (eval iter env) (fun xv s₁ => Stop (wpAny (model prog w) A (pyIter xv) (fun it s₂ => LoopAtV prog w A h₀ env x body Q E it s₂) E s₁)) E s)
    (hs : ∀ x, foldedSetIterable iter env x = pure x := by intro _; rfl) (hE : PassesOwn (model prog w) A env E := by passes_own) :
    wpAny (model prog w) A (exec (.For (.Name x px) iter body [] pos) env) Q E s :=
  For_invV h₀ hx hp h hs
section
theorem words1_cmp : True := by
  k_with "call ref" => (k_here; refine stop_here ?_)
  exact True.intro
set_option maxHeartbeats 8000000 in
theorem con_cmp {w : World} {mean : ExcName → Option Value} {mg mb : Map} {outer : List Env} {base : Heap} {s : Shared} {Q E : Value → Shared → Prop} {l1 l2 : Addr} {vs1 vs2 : List Value} {xs ys : List (List Nat)}
    (a : Amb w mean mg mb 520 3600 outer base s.heap) (XB : (hd.heap_39 w.params).In base) (TB : Top hd.view_39 LS mean mg mb base)
    (hl1 : s.heap.IsList l1 vs1.toArray) (ha1 : Are vS vs1 xs) (hn1 : xs.length ≤ 500) (hl2 : s.heap.IsList l2 vs2.toArray) (ha2 : Are vS vs2 ys) (hn2 : ys.length ≤ 500)
    (hret : ∀ h' tk', Turned (outer.filterMap (·.frame)) s.heap h' → Q (.bool (cmpF xs ys)) { s with heap := h', toks := tk' }) :
    wpAny (model PR w) (At 520 3600 outer) (call (.ref 36) [.ref l1, .ref l2]) Q E s := by
  have B := a.below
  have X := a.inK
  have T := a.top
  walk_at "my enter"
  intro L h1 tk F N
  replace F : Fr s.heap L h1 (mk [(Str.ofString "second_args", some (.ref l2)), (Str.ofString "first_args", some (.ref l1))]) := by rw [mk_lookup] at F; exact F
  clear a
  refine wpN_cons ?_
  walk_at "my steps"
  refine Stop.go ?_
  refine' use_amb ?B ?F ?X ?T ?hf ?hk (fun am => con_unh kS am (hl1.at fun o e => F.keep l1 o e) ha1 (fun _ _ => trivial) (by omega) ?_) ?hd ?hu
  walk_at "my use"
  intro r1 us1 n1 h2 tk2 hs2 hr1 ho1 hu1
  clear am
  have F2 := fr_stays F hs2
  have N2 := news_made F N hs2 hr1 ho1
  clear hs2 hr1 ho1 F N
  walk_at "my steps"
  refine Stop.go (wpN_cons ?_)
  walk_at "my steps"
  rename Fr _ _ _ _ => F
  rename News _ _ _ _ => N
  refine Stop.go ?_
  refine' use_amb ?B ?F ?X ?T ?hf ?hk (fun am => con_unh kS am (hl2.at fun o e => F.keep l2 o e) ha2 (fun _ _ => trivial) (by omega) ?_) ?hd ?hu
  walk_at "my use"
  intro r2 us2 n2 h3 tk3 hs3 hr2 ho2 hu2
  clear am
  have F3 := fr_stays F hs3
  have N3 := news_made F N hs3 hr2 ho2
  clear hs3 hr2 ho2 F N
  walk_at "my steps"
  refine Stop.go (wpN_cons ?_)
  walk_at "my steps"
  rename Fr _ _ _ _ => F
  rename News _ _ _ _ => N
  have hdl := ddF_len ys []
  rw [List.length_nil, Nat.zero_add] at hdl
  refine list_copyK F N ⟨_, N.get (.head _), rfl, _, rfl⟩ ?_ (by rw [sizeLine_eq, List.size_toArray, hu2.length]; omega)
  intro r3 n3 h4 F4 N4 hlt
  have hr31 : r3 ≠ r1 := Nat.ne_of_gt (hlt _ (.tail _ (.head _)))
  clear F N hlt
  walk_at "my steps"
  rename Fr _ _ _ _ => F
  rename News _ _ _ _ => N
  rename_i h5 tk5
  have hr1L : r1 ≠ L := (N _ (.tail _ (.tail _ (.head _)))).2.1
  have hr1 : Heap.IsList h5 r1 us1.toArray := ⟨_, N.get (.tail _ (.tail _ (.head _))), rfl, _, rfl⟩
  have N5 : News s.heap L h5 [(r3, W.listOf us2.toArray n3)] := fun p hp => N p (by rw [List.mem_singleton.mp hp]; exact .head _)
  clear N
  refine Stop.go (wpN_abs fun Q0 hQ0 => wpN_cons (wpAny_Try_except (wpAny_execs_cons (wpE_For s.heap rfl rfl ?_))))
  walk_at "my steps"
  refine Stop.go (iter_list (fun i m nx => ∃ ts n oe, m = mk [(Str.ofString "t", some (.ref r3)), (Str.ofString "second_unhashable", some (.ref r2)), (Str.ofString "first_unhashable", some (.ref r1)), (Str.ofString "second_args", some (.ref l2)), (Str.ofString "first_args", some (.ref l1)), (Str.ofString "elem", oe)] ∧ nx = [(r3, W.listOf (List.toArray ts) n)] ∧ ∃ tl, Are vS ts tl ∧ tl.length ≤ 500 ∧ rmF tl ((ddF [] xs).drop i) = rmF (ddF [] ys) (ddF [] xs))
      rfl hr1 hr1L (fun p hp => by rw [List.mem_singleton.mp hp]; exact hr31) (fr_norm [Str.ofString "t", Str.ofString "second_unhashable", Str.ofString "first_unhashable", Str.ofString "second_args", Str.ofString "first_args", Str.ofString "elem"] F rfl) N5 ⟨us2, n3, none, rfl, rfl, ddF [] ys, hu2, by omega, rfl⟩ ?_ ?_)
  · clear F N5
    rintro i v m1 news1 h tk own hv hoff ⟨ts, n, oe, rfl, rfl, tl, hts, htl, hrm⟩ F N
    obtain ⟨y, ty, rfl, hy⟩ := hu1.at i v hv
    replace F : Fr s.heap L h (mk [(Str.ofString "elem", some (vS y ty)), (Str.ofString "t", some (.ref r3)), (Str.ofString "second_unhashable", some (.ref r2)), (Str.ofString "first_unhashable", some (.ref r1)), (Str.ofString "second_args", some (.ref l2)), (Str.ofString "first_args", some (.ref l1)), (Str.ofString "elem", oe)]) := by rw [mk_set] at F; exact F
    replace N : News s.heap L h ([(r3, W.listOf ts.toArray n)] ++ own) := N
    replace hoff : OwnOff own [r3] := hoff
    rw [drop_of_get hy] at hrm
    refine wpAny_execs_cons ?_
    walk_at "my steps"
    cases hc : tl.contains y with
    | true =>
      refine rem_led F N (fun p hp => hoff p hp r3 (.head _)) hts hc (by omega) fun h' ts' hts' F' N' => ?_
      clear F N
      walk_at "my steps"
      refine ⟨_, _, _, _, [(r3, W.listOf (List.toArray ts') (n + 1))], rfl, fr_norm [Str.ofString "t", Str.ofString "second_unhashable", Str.ofString "first_unhashable", Str.ofString "second_args", Str.ofString "first_args", Str.ofString "elem"] F' rfl, N', fun p hp => ?_, fun p hp => .tail _ hp, rfl, ts', n + 1, _, rfl, rfl, tl.erase y, hts', Nat.le_trans (List.length_erase_le) htl, ?_⟩
      · rw [List.mem_singleton.mp hp]; exact .head _
      · rw [← hrm]; show _ = (if tl.contains y then rmF (tl.erase y) _ else none); rw [hc, if_pos rfl]
    | false =>
      have hfin : cmpF xs ys = false := by
        unfold cmpF
        rw [← hrm]
        show (match (if tl.contains y then rmF (tl.erase y) _ else none) with | none => false | some t => t.isEmpty) = false
        rw [hc, if_neg Bool.false_ne_true]
      refine rem_none F N hts hc rfl fun h' tk' e he => ?_
      refine' caught_new he F N B XB TB ?ex PyProof.Rows.Boot.«ValueError» (by decide +kernel) PySem.F.isExc_ValueError PySem.F.notTuple_ValueError (by rw [isSubtype_type]; kernel_rfl) ?_
      case ex => k_dflt k_is
      intro h6 g6 T6 F6 N6
      clear F N
      walk_at "my steps"
      refine hQ0 _ _ ?_
      have := hret h6 tk' ⟨g6, T6, F6.keep⟩
      rw [hfin] at this
      exact this
  · clear F N5
    rintro m1 news1 h tk ⟨ts, n, oe, rfl, rfl, tl, hts, htl, hrm⟩ F N
    replace F : Fr s.heap L h (mk [(Str.ofString "t", some (.ref r3)), (Str.ofString "second_unhashable", some (.ref r2)), (Str.ofString "first_unhashable", some (.ref r1)), (Str.ofString "second_args", some (.ref l2)), (Str.ofString "first_args", some (.ref l1)), (Str.ofString "elem", oe)]) := F
    replace N : News s.heap L h [(r3, W.listOf ts.toArray n)] := N
    rw [hu1.length, List.drop_length] at hrm
    refine wpAny_execs_nil (wpAny_execs_nil (Stop.go ?_))
    walk_at "my steps"
    refine wpAny_truthy_list ⟨_, N.get (.head _), rfl, _, rfl⟩ (by rw [List.size_toArray, hts.length]; omega) ?_
    refine hQ0 _ _ ?_
    have := hret h (tk + 1 + 1) (.of F.keep)
    have hfin : cmpF xs ys = !!ts.toArray.isEmpty := by
      rw [show cmpF xs ys = tl.isEmpty by unfold cmpF; rw [← hrm]; rfl, Bool.not_not, List.isEmpty_toArray]
      cases hts <;> rfl
    rw [hfin] at this
    exact this
end

theorem again_cmp : True := by
  k_with_none
  k_with "my enter" => (k_dflt (refine' enter (by assumption) ?k6 ?k7 ?k8 ?k9 ?kB ?_ ?c5 ?c2 ?c3 ?c4; (case k6 => k_is); (case k7 => k_is); (case k8 => decide); (case k9 => exact BindsTo.of_eq rfl); (case c5 => decide); (case kB => exact locs rfl); (case c2 => exact rfl); (case c3 => exact rfl); (case c4 => exact rfl); k_whole))
  k_with "my enterC" => (k_dflt (refine' enterC (by assumption) ?k6 ?k7 ?k8 ?k9 ?kB ?_ ?c5 ?c2 ?c3 ?c4; (case k6 => k_is); (case k7 => k_is); (case k8 => decide); (case k9 => exact BindsTo.of_eq rfl); (case c5 => decide); (case kB => exact locs rfl); (case c2 => exact rfl); (case c3 => exact rfl); (case c4 => exact rfl); k_whole))
  k_with "my steps" => repeat' (first | (k_unfold; (try dsimp only)) | walk1 | (dsimp only; walk1))
  k_with "storeName" => (k_here; k_dflt (first
  | (refine' st_int (by k_asm) (by k_asm) ?_ rfl rfl; k_whole; intro _ _ _ _ _; (try k_sweep); (try dsimp only))
  | (refine' st_str (by k_asm) (by k_asm) ?_ rfl rfl; k_whole; intro _ _ _ _ _; (try k_sweep); (try dsimp only))
  | (refine' st_bytes (by k_asm) (by k_asm) ?_ rfl rfl; k_whole; intro _ _ _ _ _; (try k_sweep); (try dsimp only))
  | (refine' st_val (by k_asm) (by k_asm) ?_ rfl rfl; k_whole; intro _ _ _ _; (try k_sweep); (try dsimp only))))
  k_with "my use" => ((case hd => exact Nat.le_of_ble_eq_true rfl); (case hu => exact Nat.le_of_ble_eq_true rfl); (case B => k_asm); (case F => k_asm); (case X => k_asm); (case T => k_asm); (case hf => rfl); (case hk => rfl); k_whole)
  k_with "getMethod ref" => (k_here; k_dflt (first
  | (refine' gm_append (News.get (by k_asm) (by k_mem)) ?_; k_whole)
  | (refine' gm_extend (News.get (by k_asm) (by k_mem)) ?_; k_whole)))
  k_with "call type:enumerate" => (k_here; refine stop_here ?_)
  k_with "call ref" => (k_here; k_dflt (refine' use_amb (by k_asm) (by k_asm) (by k_asm) (by k_asm) rfl rfl (fun am => con_T am ?_) (Nat.le_of_ble_eq_true rfl) (Nat.le_of_ble_eq_true rfl); k_whole; intro _ _ _ hs'; clear am; (have := fr_stays (by k_asm) hs'); (have := news_stays (by k_asm) hs'); clear hs'; (try k_sweep); (try dsimp only)))
  k_with "subscriptTail" => (k_here; (with_reducible show wpAny _ _ (subscriptTail _ _ (Value.bytes _ _) (Value.int _ _)) _ _ _); k_dflt (refine' item_digits (by omega) (by omega) ?_ (by with_unfolding_all rfl) (by intro _; with_unfolding_all rfl); k_whole); intro _ _)
  k_with "call type:bytes" => (k_here; (with_reducible show wpAny _ _ (call (Value.type _) [Value.ref _]) _ _ _); k_dflt (refine' call_bytes_ba (News.get (by k_asm) (by k_mem)) (by first | assumption | omega) ?_; k_whole); intro _ _)
  k_with "call ref" => (k_here; k_dflt (refine' use_amb (by k_asm) (by k_asm) (by k_asm) (by k_asm) rfl rfl (fun am => con_adapt am (by omega) (by omega) (by omega) ?_) (Nat.le_of_ble_eq_true rfl) (Nat.le_of_ble_eq_true rfl); k_whole; intro _ _ _ hs'; clear am; (have := fr_stays (by k_asm) hs'); (have := news_stays (by k_asm) hs'); clear hs'; (try k_sweep); (try dsimp only)))
  k_with "subscriptTail" => (k_here; (with_reducible show wpAny _ _ (subscriptTail _ _ (Value.bytes (bArr _) _) (Value.int _ _)) _ _ _); k_dflt (refine' item_bArr (by assumption) (by assumption) (by omega) (by first | assumption | (simp only [Int.toNat_natCast]; assumption)) ?_ (by with_unfolding_all rfl) (by intro _; with_unfolding_all rfl); k_whole); intro _ _)
  k_with "call ref" => (k_here; k_dflt (refine' use_amb (by k_asm) (by k_asm) (by k_asm) (by k_asm) rfl rfl (fun am => con_dgn am (by assumption) (by assumption) (by assumption) ?_) (Nat.le_of_ble_eq_true rfl) (Nat.le_of_ble_eq_true rfl); k_whole; intro _ _ _ _ _ hs' hx' ho'; clear am; (have := news_made (by k_asm) (by k_asm) hs' hx' ho'); (have := fr_stays (by k_asm) hs'); clear hs' hx' ho'; (try k_sweep); (try dsimp only)))
  k_with "my len" => first | assumption | omega | ((try simp only [List.length_append, List.length_take, List.length_drop, List.length_cons, List.length_nil]); omega)
  k_with "call builtin:len" => (k_here; k_dflt (first
  | (refine' len_sL (by walk_at "my len") ?_; k_whole; intro _ _)
  | (refine' len_bArr (by assumption) (by walk_at "my len") ?_; k_whole; intro _ _)))
  k_with "call builtin:chr" => (k_here; k_dflt (refine' chr_sL (by omega) (by omega) ?_; k_whole; intro _ _))
  k_with "binaryOp Add str str" => (k_here; k_dflt (refine' add_sL (by walk_at "my len") ?_; k_whole; intro _ _))
  k_with "subscriptTail Name Slice str ref" => (k_here; (try dsimp only); k_dflt (first
  | (refine' cut_to (by k_asm) (by k_asm) (by omega) (by walk_at "my len") (by walk_at "my len") ?_ (by with_unfolding_all rfl) (by intro _; with_unfolding_all rfl); k_whole; intro _ _ _ _ _; (try k_sweep))
  | (refine' cut_from (by k_asm) (by k_asm) (by omega) (by walk_at "my len") (by walk_at "my len") ?_ (by with_unfolding_all rfl) (by intro _; with_unfolding_all rfl); k_whole; intro _ _ _ _ _; (try k_sweep))))
  k_with "getMethod bytes" => (k_here; first
  | (refine' gm_rfind ?_; (try dsimp only))
  | (refine' gm_upper ?_; (try dsimp only)))
  k_with "call builtin:bytes.rfind" => (k_here; k_dflt (refine' call_rfind (by assumption) ?_; k_whole; intro _ _))
  k_with "call builtin:bytes.upper" => (k_here; k_dflt (refine' call_upper (by walk_at "my len") (by assumption) ?_; k_whole; intro _ _))
  k_with "call type:str" => (k_here; k_dflt (refine' call_asc (by assumption) ?_; k_whole; intro _ _))
  k_with "call ref" => (k_here; k_dflt (refine' use_amb (by k_asm) (by k_asm) (by k_asm) (by k_asm) rfl rfl (fun am => con_isort am (by assumption) (by assumption) (by assumption) ?_) (Nat.le_of_ble_eq_true rfl) (Nat.le_of_ble_eq_true rfl); k_whole; intro _ _ _ hs'; clear am; (have := fr_stays (by k_asm) hs'); (have := news_stays (by k_asm) hs'); clear hs'; (try k_sweep); (try dsimp only)))
  k_with "subscriptTail" => (k_here; (with_reducible show wpAny _ _ (subscriptTail _ _ (Value.bytes (bArr _) _) (Value.ref _)) _ _ _); (try dsimp only); k_dflt (first
  | (refine' cutB_to (by k_asm) (by k_asm) (by assumption) (by walk_at "my len") (by walk_at "my len") ?_ (by with_unfolding_all rfl) (by intro _; with_unfolding_all rfl); k_whole; intro _ _ _ _ _; (try k_sweep))
  | (refine' cutB_from (by first | exact rfl | exact (Int.natCast_succ _).symm) (by k_asm) (by k_asm) (by assumption) (by walk_at "my len") (by walk_at "my len") ?_ (by with_unfolding_all rfl) (by intro _; with_unfolding_all rfl); k_whole; intro _ _ _ _ _; (try k_sweep))))
  k_with "call ref" => (k_here; k_dflt (refine' use_amb (by k_asm) (by k_asm) (by k_asm) (by k_asm) rfl rfl (fun am => con_dec am (by assumption) (by assumption) (by assumption) (by assumption) ?_) (Nat.le_of_ble_eq_true rfl) (Nat.le_of_ble_eq_true rfl); k_whole; intro _ _ _ hs'; clear am; (have := fr_stays (by k_asm) hs'); (have := news_stays (by k_asm) hs'); clear hs'; (try k_sweep); (try dsimp only)))
  k_with "call ref" => (k_here; k_dflt (refine' use_amb (by k_asm) (by k_asm) (by k_asm) (by k_asm) rfl rfl (fun am => con_name am ?_) (Nat.le_of_ble_eq_true rfl) (Nat.le_of_ble_eq_true rfl); k_whole; intro _ _ _ _ _ _ _ _ hs' hz' hy' _ hoz' hoy' _; clear am; (have := news_made2 (by k_asm) (by k_asm) hs' hz' hy' hoz' hoy'); (have := fr_stays (by k_asm) hs'); clear hs' hz' hy' hoz' hoy'; (try k_sweep); (try dsimp only)))
  k_with "eval ListComp" => (k_here; refine stop_here ?_)
  k_with "call builtin:len" => (k_here; k_dflt (refine' len_led (by k_asm) (by k_mem) (by assumption) (by omega) ?_; k_whole; intro _ _))
  exact True.intro


/-! part: Fk -/
/-! dict.fromkeys, the class's method, upon a list of texts -/
namespace Fk
open KFB (if_not if_so slot_get entry_get args_get)
def bound : Obj := { cls := .type "builtin_function_or_method", data := .fields #[.builtin "dict.fromkeys", .type "dict"] }
theorem type_fk : typeOf (.builtin "dict.fromkeys") = pure (.type "classmethod_descriptor") := by show builtinType _ = _; rw [builtinType_eq_fast]; kernel_rfl
theorem entry_fk : entryFor table "dict.fromkeys" = some Builtin.«dict.fromkeys» := by first | exact entryFor_of_fast (by kernel_rfl) | exact entryFor_of_tree (by kernel_rfl)
theorem entry_loop : entryFor table "dict.fromkeys.loop" = some Builtin.«dict.fromkeys.loop» := by first | exact entryFor_of_fast (by kernel_rfl) | exact entryFor_of_tree (by kernel_rfl)
theorem quiet_fk {as : Args} : (Code.builtin "dict.fromkeys" as).quiet = true := Code.quiet_builtin _ (by decide +kernel)
theorem plain_loop : plainId "dict.fromkeys.loop" = true := by decide +kernel
theorem plain_fk : plainId "dict.fromkeys" = true := by decide +kernel
theorem type_dict : isType (.type "dict") = pure true := by first | rfl | kernel_rfl | (unfold isType; rw [isSubtype_type]; kernel_rfl)
theorem owner_fk : (kfb_private% "ownerAndName") "dict.fromkeys" = ("dict", "fromkeys") := by first | decide +kernel | kernel_rfl
theorem typeCall0 : checkTypeCall "dict" ⟨[], []⟩ = pure () := by kernel_rfl
theorem newCall0 : checkBuiltinCall "dict.__new__" ⟨[.type "dict"], []⟩ = pure () := by kernel_rfl
theorem args0 (a : Value) : argsOk "dict.__init__" ⟨[a], []⟩ := by unfold argsOk; kernel_rfl
theorem check_fk (l : Addr) : checkBoundCall "dict.fromkeys" ⟨[.type "dict", .ref l], []⟩ = pure () := by first | kernel_rfl | rfl
section
variable {prog : Program} {w : World} {M : Model} {A : Around} {E : Value → Shared → Prop} {s : Shared} {K : Frag} {h₀ : Heap} {L : Addr} {m : Map} {news : Led}
theorem run_get {P : PySem.Fin → Shared → Prop} (h : P (.done (.ret (.ref s.heap.objs.size))) { s with heap := s.heap.push bound }) :
    wpAny M A (Builtin.«classmethod_descriptor.__get__» ⟨[.builtin "dict.fromkeys", .none, .type "dict"], []⟩) P E s := by
  unfold Builtin.«classmethod_descriptor.__get__»
  refine wpAny_bind (wpAny_of_eq (a := (.builtin "dict.fromkeys", none, some (.type "dict"))) (by first | rfl | kernel_rfl) ?_)
  simp only [owner_fk]
  refine wpAny_bind (wpAny_of_eq (a := .type "dict") rfl ?_)
  refine wpAny_bind (wpAny_of_eq (a := true) type_dict ?_)
  refine if_not rfl ?_
  refine wpAny_bind (wpAny_of_eq (a := true) F.kt_sub_dict ?_)
  refine if_not rfl ?_
  exact wpAny_bind (wpAny_newObj_type (wpAny_pure h))
theorem getm {pl : Sem Bool} {Q : Value × List Value → Shared → Prop} (F : Fr h₀ L s.heap m) (N : News h₀ L s.heap news) (X₀ : K.In h₀)
    (e : findCls K (.type "dict") (.type "type") (PySem.Str.ofString "fromkeys") = some (.get (.builtin "classmethod_descriptor.__get__") (.builtin "dict.fromkeys") .none (.type "dict")))
    (h : ∀ x h', Fr h₀ L h' m → News h₀ L h' ((x, bound) :: news) → (∀ p ∈ news, p.1 < x) → Q (.ref x, []) { s with heap := h', toks := s.toks + 1 }) :
    wpAny (model prog w) A (getMethod (.type "dict") (PySem.Str.ofString "fromkeys") pl) Q E s := by
  have X := X₀.keeps F.keep
  have hstub : opaqueClassAbove (.type "dict") = pure none := by unfold opaqueClassAbove; dsimp only; rw [show Manifest.isStub "dict" = false by decide +kernel]; rfl
  have ht : typeOf (.type "dict") = pure (.type "type") := by first | rfl | kernel_rfl
  have L0 : Looks (model prog w) s.heap (typeOf (.type "dict")) (.type "type") := Looks.of_pure ht
  have hg : findIn K (.type "type") "__getattribute__" = some (some (.builtin "type.__getattribute__")) := type_tga
  unfold getMethod specialOf
  refine wpAny_bind (wpAny_bind (L0.here ((looks_findIn X hg).here ?_)))
  dsimp only
  rw [if_pos canon_tga]
  refine wpAny_bind (wpAny_mono (Q := fun v => Q (v, [])) (E := E) ?_ (fun _ _ z => wpAny_pure z) fun _ _ z => z)
  have LO : Looks (model prog w) s.heap (opaqueClassAbove (.type "dict")) none := Looks.of_pure hstub
  refine cls_open X LO L0 hg (looks_hook X (r := none) (by rfl)) (by show subIn K _ _ = _; rfl) e ?_
  show wpAny _ _ (holding [.builtin "dict.fromkeys"] (call (.builtin "classmethod_descriptor.__get__") [.builtin "dict.fromkeys", .none, .type "dict"]) >>= fun v => ret v) _ _ _
  refine wpAny_bind (wpAny_holding (wpAny_call_entry slot_get type_fk entry_get (run_get ⟨_, rfl, wpAny_pure (wpAny_pure (h _ _ (F.push _) (News.push F N _) fun p hp => Heap.lt_size (N p hp).1))⟩) (args_get _ _ _)))
theorem callWith_fields {pos : Pos} {u : Addr} {env : Env} {e : Expr} {Q : Value → Shared → Prop}
    (h : wpAny M A (eval e env) (fun v s₁ => s₁.heap.get? u = some bound ∧ wpAny M A (call (.ref u) [v]) Q E s₁) E s)
    (he : starEach [e] env = [(false, eval e env)] := by rfl) : wpAny M A (callWith pos (.ref u) [] (backTo pos (starEach [e] env)) []) Q E s := by
  rw [he]
  unfold callWith
  refine wpAny_bind (wpAny_holding (evalArgs_plain (spliced_cons (wpAny_mono h (fun v s₁ h₁ => spliced_nil (wpAny_bind (wpAny_standAt ?_))) fun _ _ x => x))))
  obtain ⟨ho, hcall⟩ := h₁
  simp only [backTo, List.map_cons, List.map_nil, List.any_cons, List.any_nil, Bool.or_false]
  refine wpAny_bind (m := keeperOf (.ref u)) ?_
  unfold keeperOf
  refine wpAny_bind (wpAny_load ho ?_)
  simp only [bound, show (Value.type "builtin_function_or_method" != Value.type "method") = true by decide, show (Value.type "builtin_function_or_method" == Value.type "builtin_function_or_method" || Value.type "builtin_function_or_method" == Value.type "method-wrapper") = true by decide, if_true]
  refine wpAny_pure ?_
  exact wpAny_bind (wpAny_mono hcall (fun r s₂ hr => wpAny_bind (wpAny_holding (wpAny_point (wpAny_pure hr)))) fun _ _ x => x)
/-- dict() -/
theorem dict0 {Q : Value → Shared → Prop} (h : Q (.ref s.heap.objs.size) { s with heap := s.heap.push { cls := .type "dict", data := .dict #[] } }) : wpAny (model prog w) A (call (.type "dict") []) Q E s := by
  have hn : codeAny (model prog w) A.in1 (.call (.builtin "dict.__new__") ⟨[.type "dict"], []⟩) (wants (fun obj s₁ => obj = .ref s.heap.objs.size ∧ s₁ = { s with heap := s.heap.push { cls := .type "dict", data := .dict #[] } }) E) s := by
    refine codeAny_call_builtin F.kt_plain_dict_new F.kt_entry_dict_new (wpAny_of_eq newCall0 ?_)
    have hsub := F.kt_sub_dict
    have hmro := F.kt_mro_dict
    obtain ⟨hp, g, d, tk, os⟩ := s
    unfold Builtin.«dict.__new__»
    wp_walk
    exact ⟨rfl, rfl⟩
  refine callType_codes (Q₁ := fun obj s₁ => obj = .ref s.heap.objs.size ∧ s₁ = { s with heap := s.heap.push { cls := .type "dict", data := .dict #[] } }) F.kt_called_dict typeCall0 F.entry_dict_init hn ?_
  rintro obj s₁ ⟨rfl, rfl⟩
  have hnew : s.heap.push { cls := .type "dict", data := .dict #[] } |>.DictOf (PySem.strKind prog w) s.heap.objs.size [] := Heap.DictOf.new s.heap
  refine ⟨⟨_, Heap.get?_push_size _ rfl, rfl⟩, args0 _, ?_⟩
  unfold Builtin.«dict.__init__»
  refine wpAny_bind ?_
  unfold Builtin.Dict.selfAndRest
  refine wpAny_bind (wpAny_notOrdered_dict hnew.typeIs ?_)
  show wpAny _ _ (pure (s.heap.objs.size, [])) _ _ _
  refine wpAny_pure ?_
  unfold Builtin.Dict.updateCommon
  dsimp only
  refine wpAny_bind (wpAny_of_eq (a := ()) rfl ?_)
  exact wpAny_pure ⟨rfl, h⟩
end
theorem any_sL (y : List Nat) : ∀ acc : List (List Nat), acc.any ((fun k => decide (k = sL y)) ∘ sL) = acc.contains y
  | [] => rfl
  | a :: r => by
    rw [List.any_cons, List.contains_cons, any_sL y r]
    congr 1
    show decide (sL a = sL y) = (y == a)
    rw [Bool.eq_iff_iff, decide_eq_true_eq, beq_iff_eq]
    constructor
    · intro q; have := congrArg Str.cps q; simpa using this.symm
    · intro q; rw [q]
theorem stored_keys {kvs : List (Str × Value)} {acc : List (List Nat)} {y : List Nat} {v : Value} (h : kvs.map (·.1) = acc.map sL) :
    (stored kvs (sL y) v).map (·.1) = (if acc.contains y then acc else acc ++ [y]).map sL := by
  have e : (kvs.any fun kv => decide (kv.1 = sL y)) = acc.contains y := by
    have e1 : (kvs.any fun kv => decide (kv.1 = sL y)) = (kvs.map (·.1)).any fun k => decide (k = sL y) := by rw [List.any_map]; rfl
    rw [e1, h, List.any_map]
    exact any_sL y acc
  unfold stored
  rw [e]
  split
  · rw [keys_map_store]; exact h
  · rw [List.map_append, List.map_append, h]; rfl
section
variable {prog : Program} {w : World} {A : Around} {E : Value → Shared → Prop} {s : Shared}
set_option maxHeartbeats 4000000 in
theorem loop_fk {d it l : Addr} {vs : List Value} {xs : List (List Nat)} {Q : Value → Shared → Prop} (hh : A.handled = none) (hdi : d ≠ it) (hli : l ≠ it) (hld : l ≠ d) (ha : Are vS vs xs) (hn : xs.length ≤ 1000)
    (hD : s.heap.DictOf (PySem.strKind prog w) d []) (hit : s.heap.IsListIter it l 0) (hl : s.heap.IsList l vs.toArray)
    (h : ∀ kvs h' tk', (∀ b o, b ≠ d → b ≠ it → s.heap.get? b = some o → h'.get? b = some o) → h'.DictOf (PySem.strKind prog w) d kvs → kvs.map (·.1) = (ddF [] xs).map sL → Q (.ref d) { s with heap := h', toks := tk' }) :
    codeAny (model prog w) A (.builtin "dict.fromkeys.loop" ⟨[.ref d, .ref it, .none], []⟩) (wants Q E) s := by
  have hvl := ha.length
  refine codeAny_loop (plainId_quiet plain_loop _) (fun k s' => ∃ h' tk i kvs acc, s' = ⟨h', s.gens, s.drawn, tk, s.os⟩ ∧ h'.DictOf (PySem.strKind prog w) d kvs ∧ h'.IsListIter it l i ∧ h'.IsList l vs.toArray ∧ (∀ b o, b ≠ d → b ≠ it → s.heap.get? b = some o → h'.get? b = some o) ∧
      kvs.map (·.1) = acc.map sL ∧ ddF acc (xs.drop i) = ddF [] xs ∧ acc.length ≤ i ∧ i ≤ xs.length ∧ k = xs.length - i) ?_ xs.length ⟨s.heap, s.toks, 0, [], [], rfl, hD, hit, hl, fun _ _ _ _ e => e, rfl, rfl, Nat.le_refl _, Nat.zero_le _, rfl⟩
  rintro k _ ⟨h1, tk, i, kvs, acc, rfl, hD1, hit1, hl1, hk1, hkv, hdd, hal, hi, rfl⟩
  show wpAny _ _ (match entryFor table "dict.fromkeys.loop" with | some b => b ⟨[.ref d, .ref it, .none], []⟩ | none => unsupported ((withoutEnding? "dict.fromkeys.loop" "#data").getD "dict.fromkeys.loop")) _ _ _
  rw [entry_loop, Around.under_plainId plain_loop _]
  dsimp only
  unfold Builtin.«dict.fromkeys.loop»
  dsimp only
  cases hx : vs[i]? with
  | none =>
    have hi2 : i = xs.length := Nat.le_antisymm hi (by rw [← hvl]; simpa using hx)
    refine wpAny_bind (wpAny_pyNext_list_end hh hit1 hl1 (by simpa using hx) fun h2 he => ?_)
    refine wpAny_pure ?_
    obtain ⟨o, es, ep, ho, r⟩ := hD1
    refine h kvs h2 tk (fun b o hb1 hb2 e => he b o hb2 (hk1 b o hb1 hb2 e)) ⟨o, es, ep, he d o hdi ho, r⟩ ?_
    rw [hkv, ← hdd, hi2, List.drop_length]
    rfl
  | some v =>
    obtain ⟨y, t, rfl, hy⟩ := ha.at i v hx
    have hlt := (List.getElem?_eq_some_iff.mp hy).1
    refine wpAny_bind (wpAny_pyNext_list_item hit1 hl1 (by simpa using hx) fun h2 hit2 hs2 => ?_)
    dsimp only
    have hD2 := hD1.sameBut hs2 hdi
    refine wpAny_bind (wpAny_typeOf hD2.typeIs ?_)
    rw [if_pos (by decide)]
    refine wpAny_bind (wpAny_of_eq (a := d) rfl (wpAny_bind (wpAny_holding ?_)))
    have hkl : kvs.length ≤ sizeLine := by
      have := congrArg List.length hkv
      rw [List.length_map, List.length_map] at this
      rw [sizeLine_eq]; omega
    refine wpAny_dictSet_pairs (strKind_is prog w (sL y) t) hD2 (fun h3 hD3 hs3 => ?_) hkl
    refine wpAny_pure ⟨rfl, xs.length - (i + 1), by omega, h3, _, i + 1, _, if acc.contains y then acc else acc ++ [y], rfl, hD3, hit2.at (fun o e => (hs3.2 _ (Ne.symm hdi)).trans e), hl1.at (fun o e => (hs3.2 _ hld).trans ((hs2.2 _ hli).trans e)), fun b o hb1 hb2 e => (hs3.2 b hb1).trans ((hs2.2 b hb2).trans (hk1 b o hb1 hb2 e)), stored_keys hkv, ?_, ?_, hlt, rfl⟩
    · rw [drop_of_get hy] at hdd
      exact hdd
    · split
      · exact Nat.le_succ_of_le hal
      · rw [List.length_append]; exact Nat.succ_le_succ hal
theorem call_fk {x l : Addr} {vs : List Value} {xs : List (List Nat)} {Q : Value → Shared → Prop} (hh : A.handled = none) (ho : s.heap.get? x = some bound) (ha : Are vS vs xs) (hn : xs.length ≤ 1000) (hl : s.heap.IsList l vs.toArray)
    (h : ∀ d kvs h' tk', s.heap.StaysIn h' → s.heap.objs.size ≤ d → h'.DictOf (PySem.strKind prog w) d kvs → kvs.map (·.1) = (ddF [] xs).map sL → Q (.ref d) { s with heap := h', toks := tk' }) :
    wpAny (model prog w) A (call (.ref x) [.ref l]) Q E s := by
  refine wpAny_call (codeAny_of_tree ?_)
  show wpAny _ A.in1 (callAny (.ref x) ⟨[.ref l], []⟩) _ _ s
  simp only [callAny]
  refine wpAny_bind (wpAny_load ho ?_)
  simp only [bound, show (Value.type "builtin_function_or_method" == Value.type "method" || Value.type "builtin_function_or_method" == Value.type "builtin_function_or_method" || Value.type "builtin_function_or_method" == Value.type "method-wrapper") = true by decide, if_true]
  refine if_so (by decide) ?_
  refine wpAny_bind (wpAny_of_eq (a := ()) (check_fk l) ?_)
  refine wpAny_bind (wpAny_pure (wpAny_pure ?_))
  refine ⟨quiet_fk, codeAny_builtin entry_fk ?_⟩
  rw [Around.under_plainId plain_fk _]
  unfold Builtin.«dict.fromkeys»
  refine wpAny_bind (wpAny_of_eq (a := true) type_dict ?_)
  refine if_not rfl ?_
  refine wpAny_bind (wpAny_of_eq (a := true) F.kt_sub_dict ?_)
  refine if_not rfl ?_
  refine if_not rfl ?_
  refine wpAny_bind (wpAny_rule (wpAny_bind (wpAny_pure ?_)))
  show wpAny _ _ (call (.type "dict") [] >>= _) _ _ _
  refine wpAny_bind (dict0 ?_)
  refine wpAny_holding ?_
  have hl' : (s.heap.push { cls := .type "dict", data := .dict #[] }).IsList l vs.toArray := hl.push _
  have hD : (s.heap.push { cls := .type "dict", data := .dict #[] }).DictOf (PySem.strKind prog w) s.heap.objs.size [] := Heap.DictOf.new s.heap
  have hll : l < s.heap.objs.size := by obtain ⟨o, ho, _⟩ := id hl; exact Heap.lt_size ho
  refine wpAny_bind (wpAny_typeOf (s := { s with heap := s.heap.push { cls := .type "dict", data := .dict #[] } }) hl'.typeIs ?_)
  refine wpAny_bind (wpAny_typeOf (s := { s with heap := s.heap.push { cls := .type "dict", data := .dict #[] } }) hD.typeIs ?_)
  rw [if_neg (by decide)]
  refine wpAny_bind (wpAny_typeOf (s := { s with heap := s.heap.push { cls := .type "dict", data := .dict #[] } }) hD.typeIs ?_)
  rw [if_neg (by decide)]
  refine wpAny_bind (wpAny_pyIter_list (s := { s with heap := s.heap.push { cls := .type "dict", data := .dict #[] } }) hl' ?_)
  refine wpAny_pure ⟨plainId_quiet plain_loop _, ?_⟩
  have hsz : (s.heap.push { cls := .type "dict", data := .dict #[] }).objs.size = s.heap.objs.size + 1 := Heap.size_push _ _
  refine loop_fk (s := { s with heap := (s.heap.push { cls := .type "dict", data := .dict #[] }).push _ }) hh (by show _ ≠ (Heap.push _ _).objs.size; rw [hsz]; exact Nat.ne_of_lt (Nat.lt_succ_self _)) (by show _ ≠ (Heap.push _ _).objs.size; rw [hsz]; exact Nat.ne_of_lt (Nat.lt_succ_of_lt hll)) (Nat.ne_of_lt hll) ha hn (hD.push _) ⟨_, Heap.get?_push_size _ rfl, rfl, rfl⟩ (hl'.push _) fun kvs h' tk' hk hD' hkv => ?_
  refine h _ kvs h' tk' (fun b o e => hk b o (Nat.ne_of_lt (Heap.lt_size e)) ?_ (Heap.get?_push_of_some _ (Heap.get?_push_of_some _ e))) (Nat.le_refl _) hD' hkv
  show _ ≠ (Heap.push _ _).objs.size
  rw [hsz]
  exact Nat.ne_of_lt (Nat.lt_succ_of_lt (Heap.lt_size e))
theorem are_strs {vs : List Value} : ∀ {ks : List (List Nat)}, vs.length = ks.length → (∀ (j : Nat) (v : Value), vs[j]? = some v → ∃ k, ks[j]? = some k ∧ (PySem.strKind prog w).is (sL k) v = true) → Are vS vs ks := by
  induction vs with
  | nil => intro ks h _; cases ks with
    | nil => exact .nil
    | cons _ _ => cases h
  | cons v r ih =>
    intro ks h hv
    cases ks with
    | nil => cases h
    | cons k ks =>
      obtain ⟨k', hk, hs⟩ := hv 0 v rfl
      cases hk
      obtain ⟨t, rfl⟩ := Value.isStrOf_shape hs
      exact .cons _ _ (ih (Nat.succ.inj h) fun j v e => hv (j + 1) v e)
theorem list_dict {h₀ : Heap} {L d : Addr} {m : Map} {news : Led} {kvs : List (Str × Value)} {ks : List (List Nat)} {Q : Value → Shared → Prop} (hh : A.handled = none) (F : Fr h₀ L s.heap m) (N : News h₀ L s.heap news) (hD : s.heap.DictOf (PySem.strKind prog w) d kvs)
    (lo : (d == sysModules) = false) (hkv : kvs.map (·.1) = ks.map sL) (hn : ks.length ≤ 1000)
    (h : ∀ D c h' tk (vs : List Value), Fr h₀ L h' m → News h₀ L h' ((D, W.listOf vs.toArray c) :: news) → (∀ q ∈ news, q.1 < D) → Are vS vs ks → Q (.ref D) { s with heap := h', toks := tk }) :
    wpAny (model prog w) A (call (.type "list") [.ref d]) Q E s := by
  obtain ⟨ep, hat⟩ := hD.dictAt
  have hlen : kvs.length = ks.length := by simpa using congrArg List.length hkv
  refine kdl_N (kdl_dict (knd := PySem.strKind prog w) (kvs := kvs) (ep := ep) lo) hh F N hat (by rw [sizeLine_eq]; omega) fun B n h' tk vs F' N' l1 hl hv => ?_
  refine h B n h' tk vs F' N' l1 (are_strs (prog := prog) (w := w) (hl.trans hlen) fun j v e => ?_)
  obtain ⟨k, x, hx, hk⟩ := hv j v e
  have e2 : (kvs.map (·.1))[j]? = some k := by rw [List.getElem?_map, hx]; rfl
  rw [hkv, List.getElem?_map] at e2
  obtain ⟨k', hk', rfl⟩ := Option.map_eq_some_iff.mp e2
  exact ⟨k', hk', hk⟩
end
end Fk


/-! part: ded -/
theorem binds_kw {s : Shared} {fd : FuncData} {x y : Str} {px py : Pos} {d : Addr} {m : Map} {a v : Value}
    (hp : fd.params = { posonlyargs := [], args := [{ arg := x, annotation := none, pos := px }], vararg := none, kwonlyargs := [{ arg := y, annotation := none, pos := py }], kw_defaults := fd.params.kw_defaults, kwarg := none, defaults := [] })
    (hd : fd.defaults = .none) (hkd : fd.kwdefaults = .ref d) (hne : (y == x) = false) (hm : s.heap.Ns d m) (hv : m y = some v) : BindsTo s fd ⟨[a], []⟩ [(x, a), (y, v)] := fun M A E Q hq => by
  have hne' : (x == y) = false := by rw [beq_eq_false_iff_ne] at hne ⊢; exact Ne.symm hne
  unfold bindArgs
  rw [hp, hd, hkd]
  simp only [List.map_nil, List.map_cons, List.nil_append, List.zip_cons_cons, List.zip_nil_right, List.forIn_nil, pure_bind, List.length_cons, List.length_nil]
  refine wpAny_bind (wpAny_of_eq (a := (none : Option (Array Value))) rfl ?_)
  simp [hne, hne', List.lookup_cons, -bind_pure_comp]
  refine wpAny_bind (wpAny_nsGet hm ?_)
  rw [hv]
  refine wpAny_bind (wpAny_pure (wpAny_bind (wpAny_pure ?_)))
  rw [if_pos rfl]
  have e : (List.filterMap (fun n => Option.map (fun x => (n, x)) (List.lookup n [(x, a), (y, v)])) [x, y]) = [(x, a), (y, v)] := by simp [hne, List.lookup_cons]
  rw [e]
  exact wpAny_pure hq
set_option maxHeartbeats 8000000 in
theorem con_ded {w : World} {mean : ExcName → Option Value} {mg mb : Map} {outer : List Env} {base : Heap} {s : Shared} {Q E : Value → Shared → Prop} {l : Addr} {vs : List Value} {xs : List (List Nat)}
    (a : Amb w mean mg mb 540 3700 outer base s.heap) (hl : s.heap.IsList l vs.toArray) (ha : Are vS vs xs) (hn : xs.length ≤ 1000)
    (hret : ∀ d kvs h' tk', s.heap.StaysIn h' → s.heap.objs.size ≤ d → h'.DictOf (PySem.strKind PR w) d kvs → kvs.map (·.1) = (ddF [] xs).map sL → Q (.ref d) { s with heap := h', toks := tk' }) :
    wpAny (model PR w) (At 540 3700 outer) (call (.ref 22) [.ref l]) Q E s := by
  have B := a.below
  have X := a.inK
  have T := a.top
  k_dflt (refine' enter (by assumption) ?k6 ?k7 ?k8 ?k9 ?kB ?_ ?c5 ?c2 ?c3 ?c4; (case k6 => k_is); (case k7 => k_is); (case k8 => decide); (case k9 => (refine' binds_kw (v := .bool false) ?a ?b ?c ?d ?e ?f; (case a => rfl); (case b => rfl); (case c => rfl); (case d => decide); (case e => exact ⟨_, _, _, X 15 _ (by k_is), rfl, (by intro e he; simp at he; subst he; exact ⟨_, _, rfl⟩), fun _ => rfl⟩); (case f => rfl))); (case c5 => decide); (case kB => exact locs rfl); (case c2 => exact rfl); (case c3 => exact rfl); (case c4 => exact rfl); k_whole)
  intro L h1 tk F N
  clear a
  refine wpN_cons (wpN_Try ?_)
  walk_at "my steps"
  refine' Fk.getm (K := hd.heap_39 w.params) F N X ?e ?_
  case e => k_dflt k_is
  intro x h2 F2 N2 _
  clear F N
  refine Fk.callWith_fields ?_
  walk_at "my steps"
  · exact N2.get (.head _)
  · refine Fk.call_fk rfl (N2.get (.head _)) ha hn (hl.at fun o e => F2.keep l o e) fun d kvs h' tk' hs hd hD hkv => ?_
    refine hret d kvs h' tk' (fun b o e => hs b o (F2.keep b o e)) (Nat.le_trans F2.above (Nat.le_trans (Nat.le_of_lt F2.ns.lt) hd)) hD hkv


/-! part: CompC -/
/-! a comprehension in a clean context -/
section
variable {prog : Program} {w : World} {A : Around} {s : Shared}
theorem codeC_compLoop {elt target iter : Expr} {scope : Scope} {pos : Pos} {it acc : Value} {env : Env} {R : Flow → Shared → Prop} (I : Nat → Shared → Prop)
    (turn : ∀ n s, I n s → wpN (model prog w) A (pyNext it) (fun r s₁ => match r with
      | none => R .next s₁
      | some v => wpN (model prog w) A (assign target env v) (fun _ s₂ => wpC (model prog w) A (eval elt env) (fun x s₄ =>
              wpN (model prog w) A (call (.builtin "list.append") [acc, x]) (fun _ s₅ => ∃ m, m < n ∧ I m s₅) s₄) s₂) s₁) s)
    (n : Nat) (h : I n s) (ht : ∀ v, letOwnedTupleGo target it v = pure ()) :
    codeC (model prog w) A (.compLoop (.ListComp elt [⟨target, iter, [], 0⟩] scope pos) 0 it acc env) R s := by
  refine codeC_loop rfl rfl I (fun n s hI => ?_) n h
  show wpC _ A ((compTurn (.ListComp elt [⟨target, iter, [], 0⟩] scope pos) 0 it acc env).onRaise (fun x => do noteFrame x env; theTreesLotGoes x)) _ s
  refine wpC_onRaise ?_
  rw [compTurn_list]
  refine wpC_bind (wpC_standAt (wpC_then (wpAny_mono (turn n s hI) (fun r s₁ h₁ => ?_) fun _ _ h' => h')))
  cases r with
  | none => exact wpC_pure h₁
  | some v =>
    refine wpC_then (wpAny_of_eq (ht v) ?_)
    refine wpC_then (wpAny_mono h₁ (fun _ s₂ h₂ => ?_) fun _ _ h' => h')
    show wpC _ _ ((eval elt env >>= fun x => call (.builtin "list.append") [acc, x] >>= fun _ => pure ()) >>= fun _ => again _) _ s₂
    exact wpC_bind (wpC_bind (wpC_mono h₂ fun x s₄ h₄ => wpC_then (wpAny_mono h₄ (fun _ s₅ h₅ => wpC_pure (wpC_pure (.inl ⟨rfl, h₅⟩))) fun _ _ x => x)))
theorem codeC_compStart {elt target iter scope pos it acc env} {R : Flow → Shared → Prop}
    (h0 : codeC (model prog w) A (.compLoop (.ListComp elt [⟨target, iter, [], 0⟩] scope pos) 0 it acc env) R s)
    (h : wpN (model prog w) A (pyIter it) (fun it' s' => codeC (model prog w) A (.compLoop (.ListComp elt [⟨target, iter, [], 0⟩] scope pos) 0 it' acc env) R s') s) :
    codeC (model prog w) A (.compStart (.ListComp elt [⟨target, iter, [], 0⟩] scope pos) 0 it acc env) R s := by
  refine codeC_of_tree ?_
  show wpC _ _ ((compStart (.ListComp elt [⟨target, iter, [], 0⟩] scope pos) 0 it acc env).onRaise (fun x => do noteFrame x env; standAt theWindowsPlace)) _ s
  refine wpC_onRaise ?_
  unfold compStart
  show wpC _ _ (ask >>= _) _ s
  refine wpC_then (wpAny_askSetting ?_)
  split
  · exact wpC_pure ⟨rfl, rfl, h0⟩
  · refine wpC_then (wpAny_rule ?_)
    show wpC _ A (standAt iter.pos >>= fun _ => pyIter it >>= fun x => again _) _ s
    exact wpC_bind (wpC_standAt (wpC_then (wpAny_mono h (fun it' s' h' => wpC_pure ⟨rfl, rfl, h'⟩) fun _ _ x => x)))
theorem wpC_standIf {α : Type} {M : Model} {c : Prop} [Decidable c] {pos : Pos} {k : PUnit → Sem α} {Q : α → Shared → Prop} (h : wpC M A (k ()) Q s) : wpC M A (if c then (standAt pos >>= k) else k ()) Q s := by
  split
  · exact wpC_bind (wpC_standAt h)
  · exact h
theorem wpC_Assign_ListComp {env : Env} {elt iter : Expr} {x y : Str} {px py : Pos} {scope : Scope} {pos spos : Pos} {l : Addr} {items : List Value} {m : Map} {Q : Flow → Shared → Prop} (F : Value → Value → Prop) (hh : A.handled = none)
    (hsw : swapsWith (.ListComp elt [⟨.Name x px, iter, [], 0⟩] scope pos) (some (.Name y py)) spos.line env = pure true)
    (hclos : closureFor scope env = pure []) (hcell : ∀ z ∈ scope.names, z.2 ≠ .cell) (hkind : scope.kind = .function)
    (hnames : ∀ z ∈ scope.names, z.2 = .local → scope.names.lookup z.1 = some .local) (hx : scope.names.lookup x = some .local)
    (hy : env.kindOf y = some .local) (hp : (env.scope.kind == .class || (env.scope.kind == .module && env.locals != env.globals)) = false)
    (h : wpN (model prog w) A (eval iter env) (fun xv s₁ => Stop (xv = .ref l ∧ s₁.heap.IsList l items.toArray ∧ items.length ≤ sizeLine ∧ s₁.heap.Ns env.locals m ∧
      (∀ C (i : Nat) v s₃ m₃, s₁.heap.objs.size ≤ C → items[i]? = some v → s₃.heap.Ns C m₃ → m₃ x = some v → s₁.heap.StaysIn s₃.heap →
        wpC (model prog w) A (eval elt (compEnvC scope [] C env)) (fun y s₄ => F v y ∧ Keeps s₃ s₄) s₃) ∧
      (∀ D h' tk ys n, s₁.heap.get? D = none → h'.get? D = some (W.listOf (List.toArray ys) n) → Paired F items ys → h'.Ns env.locals (fun z => if z = y then some (.ref D) else m z) →
        (∀ b o, b ≠ env.locals → s₁.heap.get? b = some o → h'.get? b = some o) → Q .next { s₁ with heap := h', toks := tk }))) s)
    (hs : ∀ x, foldedSetIterable iter env x = pure x := by intro _; rfl) :
    wpC (model prog w) A (exec (.Assign [.Name y py] (.ListComp elt [⟨.Name x px, iter, [], 0⟩] scope pos) spos) env) Q s := by
  rw [exec_Assign_Name_used _ _ _ _ hsw]
  refine wpC_bind (wpC_standAt (wpC_bind ?_))
  show wpC _ A (do let _ ← comprehension (.ListComp elt [⟨.Name x px, iter, [], 0⟩] scope pos) scope env _ (newList []) false (eval iter env) (some (assign (.Name y py) env))) _ s
  refine wpC_bind (wpC_mono (Q := fun _ s' => Q .next s') ?_ (fun _ s' hq => wpC_pure (wpC_pure hq)))
  unfold comprehension
  rw [hclos]
  refine wpC_then (wpAny_mono h (fun xv s₁ hh₁ => ?_) fun _ _ x => x)
  obtain ⟨rfl, hl, hsz, hn, helt, hfin⟩ := Stop.out hh₁
  clear hh₁
  refine wpC_bind (wpC_standAt (wpC_then (wpAny_of_eq (hs _) ?_)))
  refine wpC_bind (wpC_holding (wpC_of (wpAny_pyIter_list hl ?_)))
  refine wpC_standIf (wpC_then (wpAny_newObj_type (wpC_then (wpAny_pure ?_))))
  refine wpC_then (wpAny_newFunctionEnv hcell (by intro y hy; simp at hy) (fun h₁ hns₁ hsb₁ => ?_) hkind)
  dsimp only at hns₁ hsb₁ ⊢
  generalize hH1 : s₁.heap.push { cls := Value.type "list_iterator", data := Data.fields #[Value.ref l, Value.int 0 0] } = H1 at hns₁ hsb₁ ⊢
  generalize hH2 : H1.push { cls := .type "list", data := .seq ([] : List Value).toArray } = H2 at hns₁ hsb₁ ⊢
  have z1 : H1.objs.size = s₁.heap.objs.size + 1 := by rw [← hH1, Heap.size_push]
  have z2 : H2.objs.size = s₁.heap.objs.size + 2 := by rw [← hH2, Heap.size_push, z1]
  generalize hI : s₁.heap.objs.size = I at *
  generalize hDD : H1.objs.size = D at *
  generalize hCC : H2.objs.size = C at *
  have up : ∀ b o, H2.get? b = some o → h₁.get? b = some o := fun b o e => hsb₁.extBut b o (Nat.ne_of_lt (hCC ▸ Heap.lt_size e)) (Heap.get?_push_of_some _ e)
  have old : ∀ b o, s₁.heap.get? b = some o → h₁.get? b = some o := fun b o e => up b o (hH2 ▸ Heap.get?_push_of_some _ (hH1 ▸ Heap.get?_push_of_some _ e))
  have lt : ∀ b o, s₁.heap.get? b = some o → b < I := fun b o e => hI ▸ Heap.lt_size e
  have hit0 : h₁.IsListIter I l 0 := ⟨_, up _ _ (hH2 ▸ Heap.get?_push_of_some _ (hH1 ▸ hI ▸ Heap.get?_push_size _ rfl)), rfl, rfl⟩
  have hD0 : h₁.get? D = some (W.listOf (List.toArray []) 0) := up _ _ (hH2 ▸ hDD ▸ Heap.get?_push_size _ rfl)
  have hDI : D ≠ I := by omega
  have hCI : C ≠ I := by omega
  have hCD : C ≠ D := by omega
  have leD : I ≤ D := by omega
  have leC : I ≤ C := by omega
  have ne : ∀ b o, s₁.heap.get? b = some o → b ≠ I ∧ b ≠ D ∧ b ≠ C := fun b o e => ⟨Nat.ne_of_lt (lt b o e), Nat.ne_of_lt (Nat.lt_of_lt_of_le (lt b o e) leD), Nat.ne_of_lt (Nat.lt_of_lt_of_le (lt b o e) leC)⟩
  have loop : codeC (model prog w) A (.compLoop (.ListComp elt [⟨.Name x px, iter, [], 0⟩] scope pos) 0 (.ref I) (.ref D) (compEnvC scope [] C env))
      (fun _ s' => ∃ h' tk ys n m', s' = { s₁ with heap := h', toks := tk } ∧ h'.get? D = some (W.listOf (List.toArray ys) n) ∧ Paired F items ys ∧ h'.Ns C m' ∧ s₁.heap.StaysIn h') { s₁ with heap := h₁, toks := s₁.toks } := by
    refine codeC_compLoop (fun k s' => ∃ h' tk i ys n m', s' = { s₁ with heap := h', toks := tk } ∧ h'.IsListIter I l i ∧ h'.get? D = some (W.listOf (List.toArray ys) n) ∧ Paired F (items.take i) ys ∧ h'.Ns C m' ∧ s₁.heap.StaysIn h' ∧ i ≤ items.length ∧ k = items.length - i) ?_ items.length
      ⟨h₁, _, 0, [], 0, _, rfl, hit0, hD0, .nil, hns₁, old, Nat.zero_le _, rfl⟩ (by intro _; rfl)
    rintro k _ ⟨h2, tk, i, ys, n, m', rfl, hit2, hD2, hpa, hC2, hk2, hi, rfl⟩
    have hl2 : h2.IsList l items.toArray := hl.at fun o e => hk2 l o e
    cases hv : items[i]? with
    | none =>
      have hi2 : i = items.length := Nat.le_antisymm hi (by simpa using hv)
      refine wpAny_pyNext_list_end hh hit2 hl2 (by simpa using hv) fun h3 he3 => ?_
      refine ⟨h3, tk, ys, n, m', rfl, he3 _ _ hDI hD2, ?_, hC2.at' (fun o e => he3 _ o hCI e), fun b o e => he3 b o (Nat.ne_of_lt (lt b o e)) (hk2 b o e)⟩
      rw [hi2, List.take_length] at hpa
      exact hpa
    | some v =>
      have hlt := (List.getElem?_eq_some_iff.mp hv).1
      refine wpAny_pyNext_list_item hit2 hl2 (by simpa using hv) fun h3 hit3 hs3 => ?_
      refine wpAny_assign_Name (wpAny_storeName_local (env := compEnvC scope [] C env) (lookup_relabel_local hx) (hC2.sameBut hs3 hCI) (fun h4 hn4 hs4 => ?_) (by simp [compEnvC, relabel, hkind]))
      have st4 : s₁.heap.StaysIn h4 := fun b o e => (hs4.2 b (ne b o e).2.2).trans ((hs3.2 b (Nat.ne_of_lt (lt b o e))).trans (hk2 b o e))
      refine wpC_mono (helt C i v _ _ (by omega) hv hn4 (by simp) st4) fun y s5 h5 => ?_
      obtain ⟨hFy, h6, tk6, rfl, hk6⟩ := h5
      have hD6 : h6.get? D = some (W.listOf (List.toArray ys) n) := hk6 _ _ ((hs4.2 D (Ne.symm hCD)).trans ((hs3.2 D hDI).trans hD2))
      have hyl : ys.length = i := by rw [← hpa.length, List.length_take]; omega
      refine append_at (hsz := by rw [List.size_toArray, hyl]; omega) hD6 fun h7 hs7 hD7 => ?_
      refine ⟨items.length - (i + 1), by omega, h7, tk6, i + 1, ys ++ [y], n + 1, _, rfl, hit3.at (fun o e => (hs7.2 I (Ne.symm hDI)).trans (hk6 _ _ ((hs4.2 I (Ne.symm hCI)).trans e))), by rw [hD7, List.push_toArray], ?_, (hn4.keeps hk6).sameBut hs7 hCD, fun b o e => (hs7.2 b (ne b o e).2.1).trans (hk6 b o (st4 b o e)), hlt, rfl⟩
      rw [List.take_add_one, hv]
      exact Paired.snoc hpa hFy
  refine wpC_holding (wpC_bind (wpC_attempt (wpC_holding (wpC_run (codeC_mono (codeC_compStart loop (wpAny_pyIter_listiter hit0 loop)) fun f s' hr => ?_)))))
  obtain ⟨h2, tk2, ys, n, m', rfl, hD2, hpa, hC2, hk2⟩ := hr
  refine wpC_then (wpAny_rule (wpC_bind (wpC_holding (wpC_of ?_))))
  have hLne : env.locals ≠ I ∧ env.locals ≠ D ∧ env.locals ≠ C := by obtain ⟨o, _, _, ho, _⟩ := id hn; exact ne _ o ho
  refine wpAny_assign_Name (wpAny_storeName_local hy (hn.keeps hk2) (fun h3 hn3 hs3 => ?_) hp)
  have hv : ∀ x ∈ (scope.names.filter fun x => (x.2 == .local || x.2 == .cell) && x.1 != (".0" : Str)).reverse, x.2 = .local →
      Env.kindOf (compEnvC scope [] C env) x.1 = some .local := fun x hx hl => lookup_relabel_local (hnames x (List.mem_filter.mp (List.mem_reverse.mp hx)).1 hl)
  refine wpC_then (wpAny_comp_letGo (cenv := compEnvC scope [] C env) hkind _ _ m' (fun x hx hl => ?_) (hC2.sameBut hs3 (Ne.symm hLne.2.2)) fun h4 m4 hn4 hs4 => wpC_pure ?_)
  · rcases List.mem_append.mp hx with h1 | h1
    · exact hv x (List.mem_of_mem_drop h1) hl
    · exact hv x (List.mem_of_mem_take h1) hl
  · replace hs4 : Heap.SameBut C h3 h4 := hs4
    refine hfin D h4 _ ys n ?_ ?_ hpa (hn3.sameBut hs4 hLne.2.2) fun b o hb e => (hs4.2 b (ne b o e).2.2).trans ((hs3.2 b hb).trans (hk2 b o e))
    · cases q : s₁.heap.get? D with
      | none => rfl
      | some o => exact absurd rfl (ne D o q).2.1
    · exact (hs4.2 D (Ne.symm hCD)).trans ((hs3.2 D (Ne.symm hLne.2.1)).trans hD2)
end


/-! part: Plain7 -/
theorem onF_snoc (pre : List (List Nat)) (x : List Nat) : onF (pre ++ [x]) = onF pre ++ if pre.contains x then [] else [x] := by
  have g : ∀ k, k < pre.length → (pre ++ [x]).getD k [] = pre.getD k [] ∧ (pre ++ [x]).take k = pre.take k := fun k hk => by
    refine ⟨?_, List.take_append_of_le_length (Nat.le_of_lt hk)⟩
    rw [List.getD_eq_getElem?_getD, List.getD_eq_getElem?_getD, List.getElem?_append_left hk]
  have e1 : (pre ++ [x]).getD pre.length [] = x := by
    rw [List.getD_eq_getElem?_getD, List.getElem?_append_right (Nat.le_refl _), Nat.sub_self]; rfl
  have e2 : (pre ++ [x]).take pre.length = pre := by rw [List.take_append_of_le_length (Nat.le_refl _), List.take_length]
  unfold onF
  rw [List.length_append, List.length_singleton, List.range_succ, List.filter_append, List.map_append]
  congr 1
  · have f : (List.range pre.length).filter (fun k => !((pre ++ [x]).take k).contains ((pre ++ [x]).getD k [])) = (List.range pre.length).filter (fun k => !(pre.take k).contains (pre.getD k [])) := by
      refine List.filter_congr fun k hk => ?_
      obtain ⟨a, b⟩ := g k (List.mem_range.mp hk)
      rw [a, b]
    rw [f]
    refine List.map_congr_left fun k hk => ?_
    exact (g k (List.mem_range.mp (List.mem_filter.mp hk).1)).1
  · rw [List.filter_cons, e1, e2, List.filter_nil]
    cases pre.contains x
    · simp [e1]
    · simp
theorem onF_mem (n : Nat) : ∀ (xs : List (List Nat)), xs.length = n → ∀ y, y ∈ onF xs ↔ y ∈ xs := by
  induction n with
  | zero =>
    intro xs h y
    rw [List.length_eq_zero_iff.mp h]
    simp [onF]
  | succ n ih =>
    intro xs h y
    have hne : xs ≠ [] := by intro e; rw [e] at h; cases h
    rw [← List.dropLast_concat_getLast hne]
    have hl : xs.dropLast.length = n := by rw [List.length_dropLast, h]; rfl
    generalize xs.dropLast = pre at *
    generalize xs.getLast hne = x at *
    rw [onF_snoc, List.mem_append, List.mem_append, ih pre hl]
    by_cases hc : pre.contains x = true
    · rw [if_pos hc]
      have : x ∈ pre := by simpa using hc
      constructor
      · rintro (a | a)
        · exact .inl a
        · cases a
      · rintro (a | a)
        · exact .inl a
        · rw [List.mem_singleton.mp a]; exact .inl this
    · rw [if_neg hc]
theorem ddF_on : ∀ (rest pre : List (List Nat)), ddF (onF pre) rest = onF (pre ++ rest)
  | [], pre => by rw [List.append_nil]; rfl
  | x :: r, pre => by
    have e : (onF pre).contains x = pre.contains x := by
      rw [Bool.eq_iff_iff, List.contains_iff_mem, List.contains_iff_mem]
      exact onF_mem _ pre rfl x
    have h := ddF_on r (pre ++ [x])
    rw [onF_snoc, List.append_assoc, List.singleton_append] at h
    show ddF (if (onF pre).contains x then onF pre else onF pre ++ [x]) r = _
    rw [← h, e]
    cases pre.contains x
    · rfl
    · rw [if_pos rfl, if_pos rfl, List.append_nil]
theorem ddF_onF (xs : List (List Nat)) : ddF [] xs = onF xs := ddF_on xs []
theorem ddF_nodup : ∀ (xs acc : List (List Nat)), acc.Nodup → (ddF acc xs).Nodup
  | [], acc, h => h
  | x :: r, acc, h => by
    unfold ddF
    refine ddF_nodup r _ ?_
    split
    · exact h
    · rename_i hc
      have : x ∉ acc := by simpa using hc
      rw [List.nodup_append]
      refine ⟨h, by simp, ?_⟩
      intro a ha b hb e
      rw [List.mem_singleton.mp hb] at e
      exact this (e ▸ ha)
theorem rmF_some : ∀ (a t : List (List Nat)), t.Nodup → a.Nodup → (∀ x ∈ a, x ∈ t) → rmF t a = some (t.filter fun z => !a.contains z)
  | [], t, _, _, _ => by
    show some t = _
    rw [List.filter_eq_self.mpr]
    intro z _; rfl
  | x :: r, t, ht, ha, hs => by
    have hx : x ∈ t := hs x (.head _)
    have hxr : x ∉ r := (List.nodup_cons.mp ha).1
    show (if t.contains x then rmF (t.erase x) r else none) = _
    rw [if_pos (by simpa using hx), rmF_some r (t.erase x) (ht.erase x) (List.nodup_cons.mp ha).2 fun z hz => (List.Nodup.mem_erase_iff ht).mpr ⟨fun e => hxr (e ▸ hz), hs z (.tail _ hz)⟩]
    rw [List.Nodup.erase_eq_filter ht, List.filter_filter]
    congr 2
    funext z
    rw [List.contains_cons, Bool.not_or, Bool.and_comm]
    rfl
theorem rmF_none : ∀ (a t : List (List Nat)), t.Nodup → a.Nodup → ¬ (∀ x ∈ a, x ∈ t) → rmF t a = none
  | [], t, _, _, h => absurd (fun _ hx => nomatch hx) h
  | x :: r, t, ht, ha, h => by
    have hxr : x ∉ r := (List.nodup_cons.mp ha).1
    show (if t.contains x then rmF (t.erase x) r else none) = _
    by_cases hx : x ∈ t
    · rw [if_pos (by simpa using hx)]
      refine rmF_none r (t.erase x) (ht.erase x) (List.nodup_cons.mp ha).2 fun hr => h fun z hz => ?_
      rcases List.mem_cons.mp hz with rfl | hz
      · exact hx
      · exact ((List.Nodup.mem_erase_iff ht).mp (hr z hz)).2
    · rw [if_neg (by simpa using hx)]
theorem cmpF_iff (xs ys : List (List Nat)) : cmpF xs ys = true ↔ (∀ x ∈ xs, x ∈ ys) ∧ ∀ y ∈ ys, y ∈ xs := by
  have n1 := ddF_nodup xs [] List.nodup_nil
  have n2 := ddF_nodup ys [] List.nodup_nil
  have m1 : ∀ z, z ∈ ddF [] xs ↔ z ∈ xs := fun z => by rw [ddF_mem]; simp
  have m2 : ∀ z, z ∈ ddF [] ys ↔ z ∈ ys := fun z => by rw [ddF_mem]; simp
  unfold cmpF
  by_cases h : ∀ x ∈ ddF [] xs, x ∈ ddF [] ys
  · rw [rmF_some _ _ n2 n1 h]
    dsimp only
    rw [List.isEmpty_iff, List.filter_eq_nil_iff]
    constructor
    · intro q
      refine ⟨fun x hx => (m2 x).mp (h x ((m1 x).mpr hx)), fun y hy => ?_⟩
      have := q y ((m2 y).mpr hy)
      rw [← m1]
      simpa using this
    · intro q z hz
      have := (m1 z).mpr (q.2 z ((m2 z).mp hz))
      simpa using this
  · rw [rmF_none _ _ n2 n1 h]
    constructor
    · intro q; cases q
    · intro q
      exact absurd (fun x hx => (m2 x).mpr (q.1 x ((m1 x).mp hx))) h
def alF (xs ys : List (List Nat)) : Bool := ((xs.filter fun x => !ys.contains x) ++ (ys.filter fun y => !xs.contains y)).isEmpty
theorem alF_iff (xs ys : List (List Nat)) : alF xs ys = true ↔ (∀ x ∈ xs, x ∈ ys) ∧ ∀ y ∈ ys, y ∈ xs := by
  unfold alF
  rw [List.isEmpty_iff, List.append_eq_nil_iff, List.filter_eq_nil_iff, List.filter_eq_nil_iff]
  simp
theorem cmpF_al (xs ys : List (List Nat)) : cmpF xs ys = alF xs ys := by rw [Bool.eq_iff_iff, cmpF_iff, alF_iff]
theorem cmpF_la (xs ys : List (List Nat)) : cmpF ys xs = alF xs ys := by
  rw [Bool.eq_iff_iff, cmpF_iff, alF_iff]
  exact ⟨fun h => ⟨h.2, h.1⟩, fun h => ⟨h.2, h.1⟩⟩
theorem cmpF_turned (xs : List (List Nat)) : cmpF (xs.reverse ++ xs) xs = true := by
  rw [cmpF_iff]
  refine ⟨fun x hx => ?_, fun y hy => List.mem_append_right _ hy⟩
  rcases List.mem_append.mp hx with h | h
  · exact List.mem_reverse.mp h
  · exact h


/-! part: Eqs -/
/-! two lists that hold the same -/
section
open PySem.SeqAt
theorem are_same {val P dec} (k : Kd val P dec) {A : Around} {s : Shared} {vs ws : List Value} {xs : List (List Nat)} (ha : Are val vs xs) (hb : Are val ws xs) (hP : ∀ y ∈ xs, P y) :
    vs.toArray.size = ws.toArray.size ∧ ∀ j (h1 : j < vs.toArray.size) (h2 : j < ws.toArray.size), EqAt A s vs.toArray[j] ws.toArray[j] true := by
  refine ⟨by rw [List.size_toArray, List.size_toArray, ha.length, hb.length], fun j h1 h2 => ?_⟩
  have hj : j < xs.length := by rw [List.size_toArray, ha.length] at h1; exact h1
  obtain ⟨t, ht⟩ := ha.get j (List.getElem?_eq_getElem hj)
  obtain ⟨u, hu⟩ := hb.get j (List.getElem?_eq_getElem hj)
  have e1 : vs.toArray[j] = val xs[j] t := by
    have h3 : vs.toArray[j]? = some (val xs[j] t) := by simpa using ht
    rw [Array.getElem?_eq_getElem h1] at h3; exact Option.some.inj h3
  have e2 : ws.toArray[j] = val xs[j] u := by
    have h3 : ws.toArray[j]? = some (val xs[j] u) := by simpa using hu
    rw [Array.getElem?_eq_getElem h2] at h3; exact Option.some.inj h3
  rw [e1, e2]
  have hx := hP xs[j] (List.getElem_mem hj)
  have := k.eq (A := A) (s := s) (t := t) (u := u) hx hx
  rwa [beq_self_eq_true] at this
theorem all_true (n : Nat) : (List.range n).all (fun _ => true) = true := by simp
theorem rc_same {val P dec} (k : Kd val P dec) {A : Around} {s : Shared} {l b : Addr} {vs ws : List Value} {xs : List (List Nat)} (hl : s.heap.IsList l vs.toArray) (hb : s.heap.IsList b ws.toArray) (ha : Are val vs xs) (hb' : Are val ws xs) (hP : ∀ y ∈ xs, P y) (hu : A.units < cLine) : RcAt A s (.ref l) (.ref b) true := by
  obtain ⟨e1, e2⟩ := are_same k (A := A.in1) (s := s) ha hb' hP
  have := RcAt.lists (e := fun _ => true) hl hb e1 hu e2
  rwa [all_true] at this
variable {prog : Program} {w : World} {A : Around} {E : Value → Shared → Prop} {s : Shared} {Q : Value → Shared → Prop}
theorem eq_same {val P dec} (k : Kd val P dec) {l b : Addr} {vs ws : List Value} {xs : List (List Nat)} (hl : s.heap.IsList l vs.toArray) (hb : s.heap.IsList b ws.toArray) (ha : Are val vs xs) (hb' : Are val ws xs) (hP : ∀ y ∈ xs, P y) (hu : A.units < cLine) (h : Q (.bool true) s) :
    wpAny (model prog w) A (compareOp .Eq (.ref l) (.ref b)) Q E s := rc_same k hl hb ha hb' hP hu prog w E Q h
theorem ne_same {val P dec} (k : Kd val P dec) {l b : Addr} {vs ws : List Value} {xs : List (List Nat)} (hl : s.heap.IsList l vs.toArray) (hb : s.heap.IsList b ws.toArray) (ha : Are val vs xs) (hb' : Are val ws xs) (hP : ∀ y ∈ xs, P y) (hu : A.units < cLine) (h : Q (.bool false) s) :
    wpAny (model prog w) A (compareOp .NotEq (.ref l) (.ref b)) Q E s := by
  obtain ⟨e1, e2⟩ := are_same k (A := A.in1) (s := s) ha hb' hP
  have := RcNeAt.lists (e := fun _ => true) hl hb e1 hu e2
  rw [all_true] at this
  exact this prog w E Q h
/-- [a, b] != [c, d], where a == c and b == d -/
theorem ne_pairs {l b : Addr} {v1 v2 u1 u2 : Value} (hl : s.heap.IsList l #[v1, v2]) (hb : s.heap.IsList b #[u1, u2]) (h1 : EqAt A.in1 s v1 u1 true) (h2 : EqAt A.in1 s v2 u2 true) (hu : A.units < cLine) (h : Q (.bool false) s) :
    wpAny (model prog w) A (compareOp .NotEq (.ref l) (.ref b)) Q E s := by
  have := RcNeAt.lists (e := fun _ => true) hl hb rfl hu fun j a b => by
    match j, a with
    | 0, _ => exact h1
    | 1, _ => exact h2
  rw [all_true] at this
  exact this prog w E Q h
end
theorem are_labels {vs : List Value} : ∀ {ys : List Value} {ns : List Int}, IntsAre vs ns → Paired (fun v y => ∃ k t u, v = .int k t ∧ y = vB (labF k) u) vs ys → Are vB ys (ns.map labF) := by
  induction vs with
  | nil => intro ys ns hi hp; cases hi; cases hp; exact .nil
  | cons v r ih =>
    intro ys ns hi hp
    cases hi with
    | cons n t hi =>
      cases hp with
      | cons h hp =>
        obtain ⟨k, t', u, e, rfl⟩ := h
        cases e
        exact .cons _ _ (ih hi hp)
theorem are_told {vs : List Value} : ∀ {ys : List Value} {ns : List Int}, IntsAre vs ns → Paired (fun v y => ∃ k t u, v = .int k t ∧ y = vS (nF k) u) vs ys → Are vS ys (ns.map nF) := by
  induction vs with
  | nil => intro ys ns hi hp; cases hi; cases hp; exact .nil
  | cons v r ih =>
    intro ys ns hi hp
    cases hi with
    | cons n t hi =>
      cases hp with
      | cons h hp =>
        obtain ⟨k, t', u, e, rfl⟩ := h
        cases e
        exact .cons _ _ (ih hi hp)
theorem labF_by (x : Int) : By (labF x) := fun c hc => Nat.lt_trans (labF_lt x c hc) (by decide)
theorem are_names {vs : List Value} : ∀ {ys : List Value} {ns : List Int}, Are vB vs (ns.map labF) → Paired (fun v y => ∃ nm u, decF (dB v) = some nm ∧ y = vS nm u) vs ys → Are vS ys (ns.map nF) := by
  induction vs with
  | nil => intro ys ns ha hp; cases ns with
    | nil => cases hp; exact .nil
    | cons _ _ => cases ha
  | cons v r ih =>
    intro ys ns ha hp
    cases ns with
    | nil => cases ha
    | cons n ns =>
      cases ha with
      | cons x t ha =>
        cases hp with
        | cons h hp =>
          obtain ⟨nm, u, e, rfl⟩ := h
          rw [kB.dec (labF_by n), (labF_read n).1] at e
          cases e
          exact .cons _ _ (ih ha hp)


/-! part: row -/
theorem comp_done {h₀ h h' : Heap} {L D : Addr} {m m' : Map} {o : Obj} {news : Led} (F : Fr h₀ L h m) (N : News h₀ L h news) (hD : h.get? D = none) (hDo : h'.get? D = some o) (hn : h'.Ns L m') (hk : ∀ b o, b ≠ L → h.get? b = some o → h'.get? b = some o) :
    Fr h₀ L h' m' ∧ News h₀ L h' ((D, o) :: news) := by
  have hLn : ∀ b o, h₀.get? b = some o → b ≠ L := fun b o e q => by rw [q, kts_self F] at e; cases e
  refine ⟨⟨hn, fun b o e => hk b o (hLn b o e) (F.keep b o e), F.above⟩, fun p hp => ?_⟩
  rcases List.mem_cons.mp hp with rfl | hp
  · refine ⟨hDo, fun q => ?_, kts_none F.keep hD⟩
    obtain ⟨oL, _, _, hoL, _⟩ := F.ns
    rw [show D = L from q] at hD
    rw [hD] at hoL; cases hoL
  · exact ⟨hk _ _ (N p hp).2.1 (N p hp).1, (N p hp).2⟩
theorem eqat_refs {A : Around} {s : Shared} {l b : Addr} (h : SeqAt.RcAt A s (.ref l) (.ref b) true) : SeqAt.EqAt A s (.ref l) (.ref b) true := by
  by_cases e : l = b
  · subst e; exact SeqAt.EqAt.same _
  · exact SeqAt.EqAt.of_refs e h
section
theorem words1_row : True := by
  k_with "compareOp NotEq ref ref" => (k_here; refine stop_here ?_)
  k_with "compareOp Eq ref ref" => (k_here; refine stop_here ?_)
  k_with "call ref" => (k_here; refine stop_here ?_)
  exact True.intro
set_option maxHeartbeats 8000000 in
theorem con_row {w : World} {mean : ExcName → Option Value} {mg mb : Map} {outer : List Env} {base : Heap} {s : Shared} {Q : Value → Shared → Prop} {l : Addr} {vs : List Value} {ns : List Int}
    (a : Amb w mean mg mb 500 3500 outer base s.heap) (hl : s.heap.IsList l vs.toArray) (hi : IntsAre vs ns) (hn : ns.length ≤ 20)
    (hret : ∀ r us n h' tk', s.heap.StaysIn h' → s.heap.get? r = none → h'.get? r = some (W.listOf (List.toArray us) n) → Are vS us (ns.map nF) → Q (.ref r) { s with heap := h', toks := tk' }) :
    wpC (model PR w) (At 500 3500 outer) (call (.ref 114) [.ref l]) Q s := by
  have B := a.below
  have X := a.inK
  have T := a.top
  walk_at "my enterC"
  intro L h1 tk F N
  replace F : Fr s.heap L h1 (mk [(Str.ofString "row", some (.ref l))]) := by rw [mk_lookup] at F; exact F
  clear a
  have hvl := hi.length
  refine wpC_execs_cons (wpC_Assign_ListComp (l := l) (items := vs) (m := mk [(Str.ofString "row", some (.ref l))]) (fun v y => ∃ k t u, v = .int k t ∧ y = vB (labF k) u) rfl rfl rfl (by decide) rfl (by decide) rfl rfl rfl ?_ (by intro _; rfl))
  walk_at "my steps"
  refine Stop.go ⟨rfl, hl.at fun o e => F.keep l o e, by rw [sizeLine_eq]; omega, F.ns, ?_, ?_⟩
  · intro C i v s3 m3 hC hv hn3 hm hk
    obtain ⟨x, tx, rfl, hx⟩ := ints_at hi i v hv
    have F3 := F.keeps hk
    have N3 := News.grown N hk
    clear F N
    refine wpC_Call_Name ?_
    walk_at "my steps"
    refine wpC_callWith_K (K := hd.heap_39 w.params) (by k_dflt k_is) ?_
    walk_at "my steps"
    refine' use_ambC ?B ?F ?X ?T ?hf ?hk (fun am => con_label am ?_) ?hd ?hu
    walk_at "my use"
    intro t1 h2 tk2 hs2
    exact ⟨⟨_, _, _, rfl, rfl⟩, _, _, rfl, hs2⟩
  intro D h2 tk2 ys n hD hDo hpa hnL hk
  have hlab := are_labels hi hpa
  have hlabP : ∀ y ∈ ns.map labF, By y := fun y hy => by obtain ⟨k, _, rfl⟩ := List.mem_map.mp hy; exact labF_by k
  obtain ⟨F2, N2⟩ := comp_done F N hD hDo hnL hk
  replace F2 : Fr s.heap L h2 (mk [(Str.ofString "labels", some (.ref D)), (Str.ofString "row", some (.ref l))]) := by rw [mk_set] at F2; exact F2
  clear hD hDo hpa hnL hk F N
  have hyl : ys.length = ns.length := by rw [hlab.length, List.length_map]
  -- names
  refine wpC_execs_cons (wpC_Assign_ListComp (l := D) (items := ys) (m := mk [(Str.ofString "labels", some (.ref D)), (Str.ofString "row", some (.ref l))]) (fun v y => ∃ nm u, decF (dB v) = some nm ∧ y = vS nm u) rfl rfl rfl (by decide) rfl (by decide) rfl rfl rfl ?_ (by intro _; rfl))
  walk_at "my steps"
  refine Stop.go ⟨rfl, ⟨_, N2.get (.head _), rfl, _, rfl⟩, by rw [sizeLine_eq]; omega, F2.ns, ?_, ?_⟩
  · intro C i v s3 m3 hC hv hn3 hm hk
    obtain ⟨lb, tx, rfl, hx⟩ := hlab.at i v hv
    obtain ⟨k, _, rfl⟩ := List.mem_map.mp (List.mem_of_getElem? hx)
    have F3 := F2.keeps hk
    have N3 := News.grown N2 hk
    clear F2 N2
    refine wpC_of ?_
    walk_at "my steps"
    refine Stop.go ?_
    refine' use_amb ?B ?F ?X ?T ?hf ?hk (fun am => con_dec am (labF_lt k) (labF_len k) (labF_read k).1 (labF_asc k) ?_) ?hd ?hu
    walk_at "my use"
    intro t1 h4 tk4 hs4
    exact ⟨⟨nF k, _, by rw [kB.dec (labF_by k)]; exact (labF_read k).1, rfl⟩, _, _, rfl, hs4⟩
  intro Dn h3 tk3 zs nz hD hDo hpa hnL hk
  have hnam := are_names hlab hpa
  obtain ⟨F3, N3⟩ := comp_done F2 N2 hD hDo hnL hk
  replace F3 : Fr s.heap L h3 (mk [(Str.ofString "names", some (.ref Dn)), (Str.ofString "labels", some (.ref D)), (Str.ofString "row", some (.ref l))]) := by rw [mk_set] at F3; exact F3
  clear hD hDo hpa hnL hk F2 N2
  -- told
  refine wpC_execs_cons (wpC_Assign_ListComp (l := l) (items := vs) (m := mk [(Str.ofString "names", some (.ref Dn)), (Str.ofString "labels", some (.ref D)), (Str.ofString "row", some (.ref l))]) (fun v y => ∃ k t u, v = .int k t ∧ y = vS (nF k) u) rfl rfl rfl (by decide) rfl (by decide) rfl rfl rfl ?_ (by intro _; rfl))
  walk_at "my steps"
  refine Stop.go ⟨rfl, hl.at fun o e => F3.keep l o e, by rw [sizeLine_eq]; omega, F3.ns, ?_, ?_⟩
  · intro C i v s3 m3 hC hv hn3 hm hk
    obtain ⟨x, tx, rfl, hx⟩ := ints_at hi i v hv
    have F4 := F3.keeps hk
    have N4 := News.grown N3 hk
    clear F3 N3
    refine wpC_of ?_
    walk_at "my steps"
    refine Stop.go ?_
    refine' use_amb ?B ?F ?X ?T ?hf ?hk (fun am => con_name am ?_) ?hd ?hu
    walk_at "my use"
    intro z y t1 t2 vs5 n5 h5 tk5 hs5 hz hy hne hoz hoy hi5
    clear am
    have N5 := news_made2 F4 N4 hs5 hz hy hoz hoy
    have F5 := fr_stays F4 hs5
    clear F4 N4 hz hy hoz hoy
    walk_at "my steps"
    exact ⟨_, _, rfl, hs5⟩
  intro Dt h4 tk4 us nu hD hDo hpa hnL hk
  have htol := are_told hi hpa
  obtain ⟨F4, N4⟩ := comp_done F3 N3 hD hDo hnL hk
  replace F4 : Fr s.heap L h4 (mk [(Str.ofString "told", some (.ref Dt)), (Str.ofString "names", some (.ref Dn)), (Str.ofString "labels", some (.ref D)), (Str.ofString "row", some (.ref l))]) := by rw [mk_set] at F4; exact F4
  clear hD hDo hpa hnL hk F3 N3
  -- once
  refine wpC_execs_cons (wpC_of ?_)
  have hnl : (ns.map nF).length ≤ 20 := by rw [List.length_map]; exact hn
  have hdl := ddF_len (ns.map nF) []
  rw [List.length_nil, Nat.zero_add] at hdl
  walk_at "my steps"
  refine Stop.go ?_
  refine' use_amb ?B ?F ?X ?T ?hf ?hk (fun am => con_ded am ⟨_, N4.get (.tail _ (.head _)), rfl, _, rfl⟩ hnam (by omega) ?_) ?hd ?hu
  walk_at "my use"
  intro d kvs h5 tk5 hs5 hd5 hD5 hkv
  clear am
  have F5 := fr_stays F4 hs5
  have N5 := news_stays N4 hs5
  have hlow : (d == sysModules) = false := by
    have h119 : (119 : Nat) < h4.objs.size := Heap.lt_size (F4.keep _ _ (X 119 _ (by k_dflt k_is)))
    rw [beq_eq_false_iff_ne]
    intro e
    rw [e] at hd5
    exact absurd (Nat.lt_of_lt_of_le h119 hd5) (by decide)
  clear F4 N4 hs5 hd5
  walk_at "my steps"
  refine Fk.list_dict rfl F5 N5 hD5 hlow hkv (by omega) ?_
  intro K1 c1 h6 tk6 ws1 F6 N6 _ hw1
  clear F5 N5 hD5 hkv hlow
  walk_at "my steps"
  refine Stop.go ?_
  refine' use_amb ?B ?F ?X ?T ?hf ?hk (fun am => con_unh kS am ⟨_, N6.get (.tail _ (.tail _ (.head _))), rfl, _, rfl⟩ hnam (fun _ _ => trivial) (by omega) ?_) ?hd ?hu
  walk_at "my use"
  intro K2 ws2 c2 h7 tk7 hs7 hr7 ho7 hw2
  clear am
  have F7 := fr_stays F6 hs7
  have N7 := news_made F6 N6 hs7 hr7 ho7
  clear F6 N6 hs7 hr7 ho7
  walk_at "my steps"
  rename Fr _ _ _ _ => F8
  rename News _ _ _ _ => N8
  refine wpC_of (wpN_cons (wpN_IfF ?_))
  walk_at "my steps"
  refine Stop.go (ne_same kS ⟨_, N8.get (.tail _ (.tail _ (.tail _ (.tail _ (.head _))))), rfl, _, rfl⟩ ⟨_, N8.get (.tail _ (.tail _ (.tail _ (.head _)))), rfl, _, rfl⟩ hnam htol (fun _ _ => trivial) (Nat.le_of_ble_eq_true rfl) ?_)
  walk_at "my steps"
  rename_i O _ _ _ _
  refine Stop.go ?_
  refine' use_amb ?B ?F ?X ?T ?hf ?hk (fun am => con_once kS am ⟨_, N8.get (.tail _ (.tail _ (.tail _ (.head _)))), rfl, _, rfl⟩ htol (fun _ _ => trivial) (by omega) ?_) ?hd ?hu
  walk_at "my use"
  intro O1 ps1 d1 h9 tk9 hs9 hr9 ho9 hp1
  clear am
  have F9 := fr_stays F8 hs9
  have N9 := news_made F8 N8 hs9 hr9 ho9
  clear F8 N8 hs9 hr9 ho9
  walk_at "my steps"
  refine Stop.go ?_
  refine' use_amb ?B ?F ?X ?T ?hf ?hk (fun am => con_once kS am ⟨_, N9.get (.tail _ (.tail _ (.tail _ (.tail _ (.head _))))), rfl, _, rfl⟩ htol (fun _ _ => trivial) (by omega) ?_) ?hd ?hu
  walk_at "my use"
  intro O2 ps2 d2 h10 tk10 hs10 hr10 ho10 hp2
  clear am
  have F10 := fr_stays F9 hs10
  have N10 := news_made F9 N9 hs10 hr10 ho10
  clear F9 N9 hs10 hr10 ho10
  walk_at "my steps"
  rename Fr _ _ _ _ => F11
  rename News _ _ _ _ => N11
  rw [← ddF_onF] at hp1 hp2
  refine Stop.go (ne_pairs ⟨_, N11.get (.tail _ (.tail _ (.tail _ (.head _)))), rfl, _, rfl⟩ ⟨_, N11.get (.head _), rfl, _, rfl⟩
    (eqat_refs (rc_same kS ⟨_, N11.get (.tail _ (.tail _ (.tail _ (.tail _ (.tail _ (.head _)))))), rfl, _, rfl⟩ ⟨_, N11.get (.tail _ (.tail _ (.head _))), rfl, _, rfl⟩ hw1 hp1 (fun _ _ => trivial) (Nat.le_of_ble_eq_true rfl)))
    (eqat_refs (rc_same kS ⟨_, N11.get (.tail _ (.tail _ (.tail _ (.tail _ (.head _))))), rfl, _, rfl⟩ ⟨_, N11.get (.tail _ (.head _)), rfl, _, rfl⟩ hw2 hp2 (fun _ _ => trivial) (Nat.le_of_ble_eq_true rfl))) (Nat.le_of_ble_eq_true rfl) ?_)
  obtain ⟨N12, hDnm⟩ : News s.heap L _ [(Dn, W.listOf zs.toArray nz), (D, W.listOf ys.toArray n)] ∧ True := ⟨fun p hp => N11 p (.tail _ (.tail _ (.tail _ (.tail _ (.tail _ (.tail _ (.tail _ hp))))))), trivial⟩
  clear N11 hp1 hp2 hw1 hw2
  walk_at "my steps"
  refine Stop.go ⟨rfl, wpAny_execs_nil (Stop.go ?_)⟩
  have hll : (ns.map labF).length ≤ 20 := by rw [List.length_map]; exact hn
  walk_at "my steps"
  refine Stop.go ?_
  refine' use_amb ?B ?F ?X ?T ?hf ?hk (fun am => con_unh kB am ⟨_, N12.get (.tail _ (.head _)), rfl, _, rfl⟩ hlab hlabP (by omega) ?_) ?hd ?hu
  walk_at "my use"
  intro U1 qs1 e1 h13 tk13 hs13 hr13 ho13 hq1
  clear am
  have F13 := fr_stays F11 hs13
  have N13 := news_made F11 N12 hs13 hr13 ho13
  clear F11 N12 hs13 hr13 ho13
  walk_at "my steps"
  refine Stop.go ?_
  refine' use_amb ?B ?F ?X ?T ?hf ?hk (fun am => con_once kB am ⟨_, N13.get (.tail _ (.tail _ (.head _))), rfl, _, rfl⟩ hlab hlabP (by omega) ?_) ?hd ?hu
  walk_at "my use"
  intro U2 qs2 e2 h14 tk14 hs14 hr14 ho14 hq2
  clear am
  have F14 := fr_stays F13 hs14
  have N14 := news_made F13 N13 hs14 hr14 ho14
  clear F13 N13 hs14 hr14 ho14
  walk_at "my steps"
  rw [← ddF_onF] at hq2
  refine Stop.go (eq_same kB ⟨_, N14.get (.tail _ (.head _)), rfl, _, rfl⟩ ⟨_, N14.get (.head _), rfl, _, rfl⟩ hq1 hq2 (fun y hy => ?_) (Nat.le_of_ble_eq_true rfl) ?_)
  · rcases (ddF_mem (ns.map labF) [] y).mp hy with h | h
    · cases h
    · exact hlabP y h
  walk_at "my steps"
  exact hret _ _ _ _ _ F14.keep (N14.fresh (.tail _ (.tail _ (.head _)))) (N14.get (.tail _ (.tail _ (.head _)))) hnam
end

theorem again_row : True := by
  k_with_none
  k_with "my enter" => (k_dflt (refine' enter (by assumption) ?k6 ?k7 ?k8 ?k9 ?kB ?_ ?c5 ?c2 ?c3 ?c4; (case k6 => k_is); (case k7 => k_is); (case k8 => decide); (case k9 => exact BindsTo.of_eq rfl); (case c5 => decide); (case kB => exact locs rfl); (case c2 => exact rfl); (case c3 => exact rfl); (case c4 => exact rfl); k_whole))
  k_with "my enterC" => (k_dflt (refine' enterC (by assumption) ?k6 ?k7 ?k8 ?k9 ?kB ?_ ?c5 ?c2 ?c3 ?c4; (case k6 => k_is); (case k7 => k_is); (case k8 => decide); (case k9 => exact BindsTo.of_eq rfl); (case c5 => decide); (case kB => exact locs rfl); (case c2 => exact rfl); (case c3 => exact rfl); (case c4 => exact rfl); k_whole))
  k_with "my steps" => repeat' (first | (k_unfold; (try dsimp only)) | walk1 | (dsimp only; walk1))
  k_with "storeName" => (k_here; k_dflt (first
  | (refine' st_int (by k_asm) (by k_asm) ?_ rfl rfl; k_whole; intro _ _ _ _ _; (try k_sweep); (try dsimp only))
  | (refine' st_str (by k_asm) (by k_asm) ?_ rfl rfl; k_whole; intro _ _ _ _ _; (try k_sweep); (try dsimp only))
  | (refine' st_bytes (by k_asm) (by k_asm) ?_ rfl rfl; k_whole; intro _ _ _ _ _; (try k_sweep); (try dsimp only))
  | (refine' st_val (by k_asm) (by k_asm) ?_ rfl rfl; k_whole; intro _ _ _ _; (try k_sweep); (try dsimp only))))
  k_with "my use" => ((case hd => exact Nat.le_of_ble_eq_true rfl); (case hu => exact Nat.le_of_ble_eq_true rfl); (case B => k_asm); (case F => k_asm); (case X => k_asm); (case T => k_asm); (case hf => rfl); (case hk => rfl); k_whole)
  k_with "getMethod ref" => (k_here; k_dflt (first
  | (refine' gm_append (News.get (by k_asm) (by k_mem)) ?_; k_whole)
  | (refine' gm_extend (News.get (by k_asm) (by k_mem)) ?_; k_whole)))
  k_with "call type:enumerate" => (k_here; refine stop_here ?_)
  k_with "call ref" => (k_here; k_dflt (refine' use_amb (by k_asm) (by k_asm) (by k_asm) (by k_asm) rfl rfl (fun am => con_T am ?_) (Nat.le_of_ble_eq_true rfl) (Nat.le_of_ble_eq_true rfl); k_whole; intro _ _ _ hs'; clear am; (have := fr_stays (by k_asm) hs'); (have := news_stays (by k_asm) hs'); clear hs'; (try k_sweep); (try dsimp only)))
  k_with "subscriptTail" => (k_here; (with_reducible show wpAny _ _ (subscriptTail _ _ (Value.bytes _ _) (Value.int _ _)) _ _ _); k_dflt (refine' item_digits (by omega) (by omega) ?_ (by with_unfolding_all rfl) (by intro _; with_unfolding_all rfl); k_whole); intro _ _)
  k_with "call type:bytes" => (k_here; (with_reducible show wpAny _ _ (call (Value.type _) [Value.ref _]) _ _ _); k_dflt (refine' call_bytes_ba (News.get (by k_asm) (by k_mem)) (by first | assumption | omega) ?_; k_whole); intro _ _)
  k_with "call ref" => (k_here; k_dflt (refine' use_amb (by k_asm) (by k_asm) (by k_asm) (by k_asm) rfl rfl (fun am => con_adapt am (by omega) (by omega) (by omega) ?_) (Nat.le_of_ble_eq_true rfl) (Nat.le_of_ble_eq_true rfl); k_whole; intro _ _ _ hs'; clear am; (have := fr_stays (by k_asm) hs'); (have := news_stays (by k_asm) hs'); clear hs'; (try k_sweep); (try dsimp only)))
  k_with "subscriptTail" => (k_here; (with_reducible show wpAny _ _ (subscriptTail _ _ (Value.bytes (bArr _) _) (Value.int _ _)) _ _ _); k_dflt (refine' item_bArr (by assumption) (by assumption) (by omega) (by first | assumption | (simp only [Int.toNat_natCast]; assumption)) ?_ (by with_unfolding_all rfl) (by intro _; with_unfolding_all rfl); k_whole); intro _ _)
  k_with "call ref" => (k_here; k_dflt (refine' use_amb (by k_asm) (by k_asm) (by k_asm) (by k_asm) rfl rfl (fun am => con_dgn am (by assumption) (by assumption) (by assumption) ?_) (Nat.le_of_ble_eq_true rfl) (Nat.le_of_ble_eq_true rfl); k_whole; intro _ _ _ _ _ hs' hx' ho'; clear am; (have := news_made (by k_asm) (by k_asm) hs' hx' ho'); (have := fr_stays (by k_asm) hs'); clear hs' hx' ho'; (try k_sweep); (try dsimp only)))
  k_with "my len" => first | assumption | omega | ((try simp only [List.length_append, List.length_take, List.length_drop, List.length_cons, List.length_nil]); omega)
  k_with "call builtin:len" => (k_here; k_dflt (first
  | (refine' len_sL (by walk_at "my len") ?_; k_whole; intro _ _)
  | (refine' len_bArr (by assumption) (by walk_at "my len") ?_; k_whole; intro _ _)))
  k_with "call builtin:chr" => (k_here; k_dflt (refine' chr_sL (by omega) (by omega) ?_; k_whole; intro _ _))
  k_with "binaryOp Add str str" => (k_here; k_dflt (refine' add_sL (by walk_at "my len") ?_; k_whole; intro _ _))
  k_with "subscriptTail Name Slice str ref" => (k_here; (try dsimp only); k_dflt (first
  | (refine' cut_to (by k_asm) (by k_asm) (by omega) (by walk_at "my len") (by walk_at "my len") ?_ (by with_unfolding_all rfl) (by intro _; with_unfolding_all rfl); k_whole; intro _ _ _ _ _; (try k_sweep))
  | (refine' cut_from (by k_asm) (by k_asm) (by omega) (by walk_at "my len") (by walk_at "my len") ?_ (by with_unfolding_all rfl) (by intro _; with_unfolding_all rfl); k_whole; intro _ _ _ _ _; (try k_sweep))))
  k_with "getMethod bytes" => (k_here; first
  | (refine' gm_rfind ?_; (try dsimp only))
  | (refine' gm_upper ?_; (try dsimp only)))
  k_with "call builtin:bytes.rfind" => (k_here; k_dflt (refine' call_rfind (by assumption) ?_; k_whole; intro _ _))
  k_with "call builtin:bytes.upper" => (k_here; k_dflt (refine' call_upper (by walk_at "my len") (by assumption) ?_; k_whole; intro _ _))
  k_with "call type:str" => (k_here; k_dflt (refine' call_asc (by assumption) ?_; k_whole; intro _ _))
  k_with "call ref" => (k_here; k_dflt (refine' use_amb (by k_asm) (by k_asm) (by k_asm) (by k_asm) rfl rfl (fun am => con_isort am (by assumption) (by assumption) (by assumption) ?_) (Nat.le_of_ble_eq_true rfl) (Nat.le_of_ble_eq_true rfl); k_whole; intro _ _ _ hs'; clear am; (have := fr_stays (by k_asm) hs'); (have := news_stays (by k_asm) hs'); clear hs'; (try k_sweep); (try dsimp only)))
  k_with "subscriptTail" => (k_here; (with_reducible show wpAny _ _ (subscriptTail _ _ (Value.bytes (bArr _) _) (Value.ref _)) _ _ _); (try dsimp only); k_dflt (first
  | (refine' cutB_to (by k_asm) (by k_asm) (by assumption) (by walk_at "my len") (by walk_at "my len") ?_ (by with_unfolding_all rfl) (by intro _; with_unfolding_all rfl); k_whole; intro _ _ _ _ _; (try k_sweep))
  | (refine' cutB_from (by first | exact rfl | exact (Int.natCast_succ _).symm) (by k_asm) (by k_asm) (by assumption) (by walk_at "my len") (by walk_at "my len") ?_ (by with_unfolding_all rfl) (by intro _; with_unfolding_all rfl); k_whole; intro _ _ _ _ _; (try k_sweep))))
  k_with "call ref" => (k_here; k_dflt (refine' use_amb (by k_asm) (by k_asm) (by k_asm) (by k_asm) rfl rfl (fun am => con_dec am (by assumption) (by assumption) (by assumption) (by assumption) ?_) (Nat.le_of_ble_eq_true rfl) (Nat.le_of_ble_eq_true rfl); k_whole; intro _ _ _ hs'; clear am; (have := fr_stays (by k_asm) hs'); (have := news_stays (by k_asm) hs'); clear hs'; (try k_sweep); (try dsimp only)))
  k_with "call ref" => (k_here; k_dflt (refine' use_amb (by k_asm) (by k_asm) (by k_asm) (by k_asm) rfl rfl (fun am => con_name am ?_) (Nat.le_of_ble_eq_true rfl) (Nat.le_of_ble_eq_true rfl); k_whole; intro _ _ _ _ _ _ _ _ hs' hz' hy' _ hoz' hoy' _; clear am; (have := news_made2 (by k_asm) (by k_asm) hs' hz' hy' hoz' hoy'); (have := fr_stays (by k_asm) hs'); clear hs' hz' hy' hoz' hoy'; (try k_sweep); (try dsimp only)))
  k_with "eval ListComp" => (k_here; refine stop_here ?_)
  k_with "call builtin:len" => (k_here; k_dflt (refine' len_led (by k_asm) (by k_mem) (by assumption) (by omega) ?_; k_whole; intro _ _))
  exact True.intro


/-! part: TupC -/
section
variable {M : Model} {A : Around} {s : Shared} {env : Env}
theorem wpC_Assign_Tuple {elts k tpos value pos} {Q : Flow → Shared → Prop}
    (h : wpC M A (eval value env) (fun v s₁ => wpN M A (assign (.Tuple elts k tpos) env v) (fun _ => Q .next) s₁) s)
    (hs : swapsWithSole [.Tuple elts k tpos] value pos.line env = pure false := by rfl)
    (hw : swappedStores [.Tuple elts k tpos] value env = pure none := by rfl) :
    wpC M A (exec (.Assign [.Tuple elts k tpos] value pos) env) Q s := by
  rw [exec_Assign]
  refine wpC_bind (wpC_standAt ?_)
  rw [hs]
  refine wpC_bind (wpC_pure ?_)
  rw [if_neg (by decide)]
  refine wpC_bind (wpC_mono h fun v s₁ h₁ => ?_)
  rw [hw]
  refine wpC_bind (wpC_pure ?_)
  show wpC M A (do assignAll v [assign (.Tuple elts k tpos) env]; pure .next) Q s₁
  exact wpC_then (wpAny_mono h₁ (fun _ _ x => wpC_pure x) fun _ _ x => x)
theorem wpC_spliced_cons {x : Sem Value} {rest : List (Bool × Sem Value)} {Q : List Value → Shared → Prop}
    (h : wpC M A x (fun v s₁ => wpC M A (spliced rest) (fun vs s₂ => Q (v :: vs) s₂) s₁) s) : wpC M A (spliced ((false, x) :: rest)) Q s := by
  rw [spliced]
  refine wpC_bind (wpC_mono h fun v s₁ h₁ => ?_)
  simp only [Bool.false_eq_true, if_false]
  exact wpC_bind (wpC_pure (wpC_bind (wpC_holding (wpC_mono h₁ fun vs s₂ h₂ => wpC_pure h₂))))
theorem wpC_Tuple2 {e1 e2 : Expr} {k : Nat} {pos : Pos} {Q : Value → Shared → Prop}
    (h : wpC M A (eval e1 env) (fun v1 s₁ => wpC M A (eval e2 env) (fun v2 s₂ => wpN M A (newTuple [v1, v2]) Q s₂) s₁) s)
    (he : starEach [e1, e2] env = [(false, eval e1 env), (false, eval e2 env)] := by rfl) : wpC M A (eval (.Tuple [e1, e2] k pos) env) Q s := by
  show wpC M A (standAt pos >>= fun _ => spliced (backTo pos (starEach [e1, e2] env)) >>= fun vs => newTuple vs) Q s
  rw [he]
  refine wpC_bind (wpC_standAt (wpC_bind (wpC_spliced_cons (wpC_mono h fun v1 s₁ h₁ => ?_))))
  exact wpC_spliced_cons (wpC_mono h₁ fun v2 s₂ h₂ => wpC_pure (wpC_of h₂))
end


/-! part: law -/
theorem st_cell {M : Model} {A : Around} {E : Value → Shared → Prop} {hp : Heap} {g : Array GenState} {dr : Drawn} {tk₀ : Nat} {os : OsState} {h₀ : Heap} {L c : Addr} {env : Env} {m : Map} {news : Led} {x : Str} {v : Value} {v₀ : Option Value} {o : Obj} {Q : Unit → Shared → Prop}
    (F : Fr h₀ L hp m) (N : News h₀ L hp ((c, o) :: news)) (hne : ∀ p ∈ news, p.1 ≠ c) (hc : env.cells.lookup x = some c) (hd : o.data = .cell v₀)
    (h : ∀ h' o', Fr h₀ L h' m → News h₀ L h' ((c, o') :: news) → o'.data = .cell (some v) → Q () ⟨h', g, dr, tk₀, os⟩)
    (hk : env.scope.kind = .function) (hx : env.kindOf x = some .cell) : wpAny M A (storeName env x v) Q E ⟨hp, g, dr, tk₀, os⟩ := by
  refine wpAny_storeName_cell hk hx hc ⟨o, N.get (.head _), hd⟩ fun h' hv hs => ?_
  obtain ⟨o', ho', hd'⟩ := hv
  obtain ⟨F', N'⟩ := upd_led F N ho' hs hne
  exact h h' o' F' N' hd'
theorem led_ne {h₀ h : Heap} {L c : Addr} {news : Led} {o : Obj} (N : News h₀ L h news) (hc : (c, o) ∈ news) {p : Addr × Obj} (hp : p ∈ news) (hd : p.2.data ≠ o.data) : p.1 ≠ c := fun e => by
  have h1 := (N p hp).1
  have h2 := (N _ hc).1
  rw [e, h2] at h1
  cases h1
  exact hd rfl
theorem Are.filter {q : List Nat → Bool} : ∀ {vs xs}, Are vS vs xs → Are vS (vs.filter fun v => q (dS v)) (xs.filter q)
  | _, _, .nil => .nil
  | _, _, .cons x t h => by
    rw [List.filter_cons, List.filter_cons]
    have e : q (dS (vS x t)) = q x := rfl
    rw [e]
    split
    · exact .cons _ _ h.filter
    · exact h.filter
theorem Are.reverse {val} : ∀ {vs xs}, Are val vs xs → Are val vs.reverse xs.reverse
  | _, _, .nil => .nil
  | _, _, .cons x t h => by rw [List.reverse_cons, List.reverse_cons]; exact h.reverse.snoc
theorem paired_eq : ∀ {vs ys : List Value}, Paired (fun v y => v = y) vs ys → ys = vs
  | _, _, .nil => rfl
  | _, _, .cons h r => by rw [paired_eq r, h]
theorem r0F_ne (ns : List Int) : (r0F (allF ns)).map nF ≠ [] := fun e => by
  have : (21 : Int) ∈ (allF ns).filter fun x => Int.fmod x 3 != 1 := List.mem_filter.mpr ⟨List.mem_append_right _ (.head _), by decide⟩
  rw [List.map_eq_nil_iff] at e
  unfold r0F at e
  rw [List.map_eq_nil_iff] at e
  rw [e] at this; cases this
theorem r1F_ne (ns : List Int) : (r1F (allF ns)).map nF ≠ [] := fun e => by
  have : (70 : Int) ∈ (allF ns).filter fun x => Int.fmod x 3 != 0 := List.mem_filter.mpr ⟨List.mem_append_right _ (.tail _ (.tail _ (.head _))), by decide⟩
  rw [List.map_eq_nil_iff] at e
  unfold r1F at e
  rw [List.map_eq_nil_iff] at e
  rw [e] at this; cases this
theorem Are.isEmpty {val vs xs} (h : Are val vs xs) : vs.isEmpty = xs.isEmpty := by cases h <;> rfl
theorem eq_nil {prog : Program} {w : World} {A : Around} {E : Value → Shared → Prop} {s : Shared} {Q : Value → Shared → Prop} {l b : Addr} {vs : List Value} (hl : s.heap.IsList l vs.toArray) (hb : s.heap.IsList b #[]) (hu : A.units < cLine) (h : Q (.bool vs.isEmpty) s) :
    wpAny (model prog w) A (compareOp .Eq (.ref l) (.ref b)) Q E s := by
  cases vs with
  | nil => exact SeqAt.eq_listAt (e := fun _ => true) hl hb rfl hu (fun j h1 _ => absurd h1 (Nat.not_lt_zero _)) h
  | cons v r => exact SeqAt.eq_list_lengthsAt hl hb (bne_iff_ne.mpr (by simp)) hu h
theorem comp_filt {h₀ h h' : Heap} {L D : Addr} {m : Map} {news : Led} {oI : Obj} {ps ws : List Value} {ys' : Array Value} {q : Value → Bool} (F : Fr h₀ L h m) (N : News h₀ L h news) (hD : (h.push oI).get? D = none) (hpl : h'.PlainList D ys') (hlen : ws.length = ps.toArray.size)
    (hPw : ∀ (j : Nat) (v : Value), ws[j]? = some v → ps.toArray[j]? = some v) (hFw : Paired (fun v y => v = y) (ws.filter q) ys'.toList) (hk : ∀ b o, b ∉ [h.objs.size] → (h.push oI).get? b = some o → h'.get? b = some o) :
    ∃ n, Fr h₀ L h' m ∧ News h₀ L h' ((D, W.listOf (List.toArray (ps.filter q)) n) :: news) := by
  have up : Heap.StaysIn h h' := fun b o' e => hk b o' (old_not_new e) (Heap.get?_push_of_some _ e)
  obtain ⟨nD, hpl⟩ := hpl
  have hws : ws = ps := List.ext_getElem? fun j => by
    cases q : ws[j]? with
    | none =>
      have : ps.length ≤ j := by
        have h1 := List.getElem?_eq_none_iff.mp q
        rw [hlen, List.size_toArray] at h1; exact h1
      exact (List.getElem?_eq_none_iff.mpr this).symm
    | some v => have := hPw j v q; simpa using this.symm
  rw [hws] at hFw
  have hys : ys' = (ps.filter q).toArray := by rw [← paired_eq hFw, Array.toArray_toList]
  subst hys
  refine ⟨nD, fr_stays F up, news_made F N up ?_ hpl⟩
  cases q : Heap.get? h D with
  | none => rfl
  | some o' => rw [Heap.get?_push_of_some _ q] at hD; cases hD
section
theorem words1_law : True := by
  k_with "compareOp NotIn str ref" => (k_here; refine stop_here ?_)
  k_with "compareOp NotEq ref ref" => (k_here; refine stop_here ?_)
  k_with "compareOp Eq ref ref" => (k_here; refine stop_here ?_)
  k_with "call ref" => (k_here; refine stop_here ?_)
  exact True.intro
set_option maxHeartbeats 8000000 in
theorem con_law {w : World} {mean : ExcName → Option Value} {mg mb : Map} {s : Shared} {Q : Value → Shared → Prop} {l : Addr} {vs : List Value} {ns : List Int}
    (a : Amb w mean mg mb 301 4 [] s.heap s.heap) (hl : s.heap.IsList l vs.toArray) (hi : IntsAre vs ns) (hn : ns.length ≤ 63)
    (hret : ∀ h' tk', s.heap.StaysIn h' → Q (.bool true) { s with heap := h', toks := tk' }) :
    wpC (model PR w) (At 301 4 []) (call (.ref 119) [.ref l]) Q s := by
  have B := a.below
  have X := a.inK
  have T := a.top
  k_dflt (refine' enterXC (by assumption) ?k6 ?k7 ?k8 ?k9 ?kB ?kD ?_ ?c2 ?c3 ?c4; (case k6 => k_is); (case k7 => k_is); (case k8 => decide); (case k9 => exact BindsTo.of_eq rfl); (case kB => exact rfl); (case kD => decide +kernel); (case c2 => exact rfl); (case c3 => exact rfl); (case c4 => exact rfl); k_whole)
  intro L h1 tk cells F N Y
  obtain ⟨o1, o2, rfl, ho1, ho2⟩ := CellsAre.two Y
  clear a Y
  replace ho1 : o1.data = .cell none := ho1
  replace ho2 : o2.data = .cell none := ho2
  replace F : Fr s.heap L h1 (mk [(Str.ofString "script", some (.ref l))]) := by rw [← mk_set]; exact F
  refine wpC_execs_cons (wpC_of ?_)
  walk_at "my steps"
  refine Stop.go ?_
  refine' use_amb ?B ?F ?X ?T ?hf ?hk (fun am => con_rows am (hl.at fun o e => F.keep l o e) hi hn ?_) ?hd ?hu
  walk_at "my use"
  intro r r0 r1 us0 us1 n n0 n1 h2 tk2 hs2 hr hr0 hr1 ho hor0 hor1 hi0 hi1
  clear am
  have N2 : News s.heap L h2 [(r, W.listOf #[.ref r0, .ref r1] n), (r0, W.listOf (List.toArray us0) n0), (r1, W.listOf (List.toArray us1) n1), (L + 1 + 1, o1), (L + 1, o2)] := fun p hp => by
    rcases List.mem_cons.mp hp with rfl | hp
    · exact news_made F N hs2 hr ho _ (.head _)
    · rcases List.mem_cons.mp hp with rfl | hp
      · exact news_made F N hs2 hr0 hor0 _ (.head _)
      · exact news_made F N hs2 hr1 hor1 p hp
  have F2 := fr_stays F hs2
  clear hr hr0 hr1 ho hor0 hor1 F N hs2
  walk_at "my steps"
  rename Fr _ _ _ _ => F3
  rename News _ _ _ _ => N3
  have hal : (allF ns).length ≤ 14 := by unfold allF; rw [List.length_append, List.length_take]; show _ + 6 ≤ 14; omega
  have hl0 : (r0F (allF ns)).length ≤ 20 := by
    unfold r0F; rw [List.length_map]; exact Nat.le_trans (List.length_filter_le _ _) (by omega)
  have hl1 : (r1F (allF ns)).length ≤ 20 := by
    unfold r1F; rw [List.length_map]; exact Nat.le_trans (List.length_filter_le _ _) (by omega)
  refine wpC_execs_cons (wpC_Assign_Tuple (wpC_Tuple2 (wpC_Call_Name ?_)))
  walk_at "my steps"
  refine wpC_callWith_K (K := hd.heap_39 w.params) (by k_dflt k_is) ?_
  walk_at "my steps"
  refine' use_ambC ?B ?F ?X ?T ?hf ?hk (fun am => con_row am ⟨_, N3.get (.tail _ (.head _)), rfl, _, rfl⟩ hi0 hl0 ?_) ?hd ?hu
  walk_at "my use"
  intro q0 ps0 m0 h4 tk4 hs4 hq0 hqo0 hp0
  clear am
  have F4 := fr_stays F3 hs4
  have N4 := news_made F3 N3 hs4 hq0 hqo0
  clear F3 N3 hs4 hq0 hqo0
  refine wpC_Call_Name ?_
  walk_at "my steps"
  refine wpC_callWith_K (K := hd.heap_39 w.params) (by k_dflt k_is) ?_
  walk_at "my steps"
  refine' use_ambC ?B ?F ?X ?T ?hf ?hk (fun am => con_row am ⟨_, N4.get (.tail _ (.tail _ (.tail _ (.head _)))), rfl, _, rfl⟩ hi1 hl1 ?_) ?hd ?hu
  walk_at "my use"
  intro q1 ps1 m1 h5 tk5 hs5 hq1 hqo1 hp1
  clear am
  have F5 := fr_stays F4 hs5
  have N5 := news_made F4 N4 hs5 hq1 hqo1
  clear F4 N4 hs5 hq1 hqo1
  walk_at "my steps"
  rename Fr _ _ _ _ => F6
  rename News _ _ _ _ => N6
  rename_i h6
  have hn0 : q0 ≠ L + 1 := led_ne N6 (.tail _ (.tail _ (.tail _ (.tail _ (.tail _ (.tail _ (.tail _ (.head _)))))))) (.tail _ (.tail _ (.head _))) (by rw [ho2]; intro e; cases e)
  have hn1 : q1 ≠ L + 1 := led_ne N6 (.tail _ (.tail _ (.tail _ (.tail _ (.tail _ (.tail _ (.tail _ (.head _)))))))) (.tail _ (.head _)) (by rw [ho2]; intro e; cases e)
  have hn2 : q0 ≠ L + 1 + 1 := led_ne N6 (.tail _ (.tail _ (.tail _ (.tail _ (.tail _ (.tail _ (.head _))))))) (.tail _ (.tail _ (.head _))) (by rw [ho1]; intro e; cases e)
  have hn3 : q1 ≠ L + 1 + 1 := led_ne N6 (.tail _ (.tail _ (.tail _ (.tail _ (.tail _ (.tail _ (.head _))))))) (.tail _ (.head _)) (by rw [ho1]; intro e; cases e)
  have hn4 : L + 1 + 1 ≠ L + 1 := Nat.ne_of_gt (Nat.lt_succ_self _)
  have N7 : News s.heap L h6 [(L + 1, o2), (L + 1 + 1, o1), (q1, W.listOf ps1.toArray m1), (q0, W.listOf ps0.toArray m0)] := fun p hp => N6 p (by
    rcases List.mem_cons.mp hp with rfl | hp
    · exact .tail _ (.tail _ (.tail _ (.tail _ (.tail _ (.tail _ (.tail _ (.head _)))))))
    · rcases List.mem_cons.mp hp with rfl | hp
      · exact .tail _ (.tail _ (.tail _ (.tail _ (.tail _ (.tail _ (.head _))))))
      · rcases List.mem_cons.mp hp with rfl | hp
        · exact .tail _ (.head _)
        · rw [List.mem_singleton.mp hp]; exact .tail _ (.tail _ (.head _)))
  clear N6
  refine st_cell F6 N7 (fun p hp => ?_) rfl ho2 (fun h7 o2' F7 N7' ho2' => ?_) rfl rfl
  · rcases List.mem_cons.mp hp with rfl | hp
    · exact hn4
    · rcases List.mem_cons.mp hp with rfl | hp
      · exact hn1
      · rw [List.mem_singleton.mp hp]; exact hn0
  clear F6 N7 ho2
  walk_at "my steps"
  rename Fr _ _ _ _ => F8
  rename News _ _ _ _ => N8
  rename_i h8 o1' ho1'
  have hxne := r0F_ne ns
  have hyne := r1F_ne ns
  have hxl : ((r0F (allF ns)).map nF).length ≤ 20 := by rw [List.length_map]; exact hl0
  have hyl : ((r1F (allF ns)).map nF).length ≤ 20 := by rw [List.length_map]; exact hl1
  generalize (r0F (allF ns)).map nF = xs at hp0 hxne hxl
  generalize (r1F (allF ns)).map nF = ys at hp1 hyne hyl
  clear hl0 hl1 hal hi0 hi1
  have hps0 := hp0.length
  have hps1 := hp1.length
  have hxp : 0 < xs.length := List.length_pos_iff.mpr hxne
  have hyp : 0 < ys.length := List.length_pos_iff.mpr hyne
  refine wpC_of (wpN_cons (wpN_IfF ?_))
  walk_at "my steps"
  rename Fr _ _ _ _ => F9
  rename News _ _ _ _ => N9
  refine Stop.go (SeqAt.eq_list_lengthsAt ⟨_, N9.get (.tail _ (.tail _ (.tail _ (.tail _ (.head _))))), rfl, _, rfl⟩ ⟨_, N9.get (.head _), rfl, _, rfl⟩ (bne_iff_ne.mpr (by rw [List.size_toArray, hps0]; exact Nat.ne_of_gt hxp)) (Nat.le_of_ble_eq_true rfl) ?_)
  have N10 : News s.heap L _ [(L + 1, o2'), (L + 1 + 1, o1'), (q1, W.listOf ps1.toArray m1), (q0, W.listOf ps0.toArray m0)] := fun p hp => N9 p (.tail _ hp)
  clear N9
  walk_at "my steps"
  rename Fr _ _ _ _ => F11
  rename News _ _ _ _ => N11
  refine Stop.go (SeqAt.eq_list_lengthsAt ⟨_, N11.get (.tail _ (.tail _ (.tail _ (.head _)))), rfl, _, rfl⟩ ⟨_, N11.get (.head _), rfl, _, rfl⟩ (bne_iff_ne.mpr (by rw [List.size_toArray, hps1]; exact Nat.ne_of_gt hyp)) (Nat.le_of_ble_eq_true rfl) ?_)
  have N12 : News s.heap L _ [(L + 1, o2'), (L + 1 + 1, o1'), (q1, W.listOf ps1.toArray m1), (q0, W.listOf ps0.toArray m0)] := fun p hp => N11 p (.tail _ hp)
  clear N11
  walk_at "my steps"
  refine Stop.go ⟨rfl, wpAny_execs_nil (Stop.go (wpN_cons ?_))⟩
  clear hxne hyne
  walk_at "my steps"
  refine Stop.go (wpAny_ListComp_free (cl := [(Str.ofString "two", L + 1 + 1)]) (fun v => !ys.contains (dS v)) (fun v y => v = y) rfl (by decide) rfl (by decide) rfl ?_ (by intro _; rfl))
  walk_at "my steps"
  refine wpAny_pyIter_list ⟨_, N12.get (.tail _ (.tail _ (.tail _ (.head _)))), rfl, _, rfl⟩ ⟨_, _, _, _, _, _, rfl, Walks.list rfl _ q0 (Nat.ne_of_lt (Heap.lt_size (N12.get (.tail _ (.tail _ (.tail _ (.head _))))))) ps0.toArray, by rw [sizeLine_eq, List.size_toArray]; omega, ⟨⟨_, Heap.get?_push_size _ rfl, rfl, rfl⟩, ⟨_, Heap.get?_push_of_some _ (N12.get (.tail _ (.tail _ (.tail _ (.head _))))), rfl, _, rfl⟩⟩, ?_, ⟨?_, ?_⟩, ?_⟩
  · intro b hb
    show _ < (Heap.push _ _).objs.size
    rw [Heap.size_push]
    rcases List.mem_cons.mp hb with rfl | hb
    · exact Nat.lt_succ_self _
    · rw [List.mem_singleton.mp hb]; exact Nat.lt_succ_of_lt (Heap.lt_size (N12.get (.tail _ (.tail _ (.tail _ (.head _))))))
  · rintro C i v s3 m3 E' hC hP hn3 hm hk htk
    have up : Heap.StaysIn _ s3.heap := fun b o' e => hk b o' (old_not_new e) (Heap.get?_push_of_some _ e)
    have F3 := F11.keeps up
    have N3 := News.grown N12 up
    clear F11 N12 hk up htk
    obtain ⟨x, tx, rfl, hx⟩ := hp0.at i v (by simpa using hP)
    refine one_test ?_
    walk_at "my steps"
    refine Stop.go ?_
    obtain ⟨e1, e2⟩ := Are.any kS (A := (At 301 4 []).deeper _ |>.in1) (s := s3) (t := tx) trivial hp1 (fun _ _ => trivial)
    refine PySem.SeqAt.notIn_listAt (fun v => dS v == x) ⟨_, N3.get (.tail _ (.tail _ (.head _))), rfl, _, rfl⟩ (fun v hv => e1 v (by simpa using hv)) ?_
    refine wpAny_truthy_bool ⟨?_, _, _, rfl, fun _ _ e => e⟩
    rw [List.any_toArray]
    exact congrArg (!·) e2
  · rintro C i v s3 m3 E' hC hP hq hn3 hm hk htk
    have up : Heap.StaysIn _ s3.heap := fun b o' e => hk b o' (old_not_new e) (Heap.get?_push_of_some _ e)
    have F3 := F11.keeps up
    have N3 := News.grown N12 up
    clear F11 N12 hk up htk
    walk_at "my steps"
    exact ⟨_, _, rfl, fun _ _ e => e⟩
  intro D1 h13 tk13 ys' ws' hD hl3 hpl hlen hPw hFw hk
  obtain ⟨n13, h13F, h13N⟩ := comp_filt F11 N12 hD hpl hlen hPw hFw hk
  have hD1 : Are vS (ps0.filter fun v => !ys.contains (dS v)) (_ : List (List Nat)) := Are.filter (q := fun x => !ys.contains x) hp0
  clear F11 N12 hD hl3 hpl hlen hPw hFw hk
  walk_at "my steps"
  refine Stop.go (wpAny_ListComp_free (cl := [(Str.ofString "one", L + 1)]) (fun v => !xs.contains (dS v)) (fun v y => v = y) rfl (by decide) rfl (by decide) rfl ?_ (by intro _; rfl))
  walk_at "my steps"
  refine wpAny_pyIter_list ⟨_, h13N.get (.tail _ (.tail _ (.tail _ (.head _)))), rfl, _, rfl⟩ ⟨_, _, _, _, _, _, rfl, Walks.list rfl _ q1 (Nat.ne_of_lt (Heap.lt_size (h13N.get (.tail _ (.tail _ (.tail _ (.head _))))))) ps1.toArray, by rw [sizeLine_eq, List.size_toArray]; omega, ⟨⟨_, Heap.get?_push_size _ rfl, rfl, rfl⟩, ⟨_, Heap.get?_push_of_some _ (h13N.get (.tail _ (.tail _ (.tail _ (.head _))))), rfl, _, rfl⟩⟩, ?_, ⟨?_, ?_⟩, ?_⟩
  · intro b hb
    show _ < (Heap.push _ _).objs.size
    rw [Heap.size_push]
    rcases List.mem_cons.mp hb with rfl | hb
    · exact Nat.lt_succ_self _
    · rw [List.mem_singleton.mp hb]; exact Nat.lt_succ_of_lt (Heap.lt_size (h13N.get (.tail _ (.tail _ (.tail _ (.head _))))))
  · rintro C i v s3 m3 E' hC hP hn3 hm hk htk
    have up : Heap.StaysIn _ s3.heap := fun b o' e => hk b o' (old_not_new e) (Heap.get?_push_of_some _ e)
    have F3 := h13F.keeps up
    have N3 := News.grown h13N up
    clear h13F h13N hk up htk
    obtain ⟨x, tx, rfl, hx⟩ := hp1.at i v (by simpa using hP)
    refine one_test ?_
    walk_at "my steps"
    refine Stop.go ?_
    obtain ⟨e1, e2⟩ := Are.any kS (A := (At 301 4 []).deeper _ |>.in1) (s := s3) (t := tx) trivial hp0 (fun _ _ => trivial)
    refine PySem.SeqAt.notIn_listAt (fun v => dS v == x) ⟨_, N3.get (.tail _ (.tail _ (.tail _ (.tail _ (.head _))))), rfl, _, rfl⟩ (fun v hv => e1 v (by simpa using hv)) ?_
    refine wpAny_truthy_bool ⟨?_, _, _, rfl, fun _ _ e => e⟩
    rw [List.any_toArray]
    exact congrArg (!·) e2
  · rintro C i v s3 m3 E' hC hP hq hn3 hm hk htk
    have up : Heap.StaysIn _ s3.heap := fun b o' e => hk b o' (old_not_new e) (Heap.get?_push_of_some _ e)
    have F3 := h13F.keeps up
    have N3 := News.grown h13N up
    clear h13F h13N hk up htk
    walk_at "my steps"
    exact ⟨_, _, rfl, fun _ _ e => e⟩
  intro D2 h14 tk14 ys' ws' hD hl3 hpl hlen hPw hFw hk
  obtain ⟨n14, h14F, h14N⟩ := comp_filt h13F h13N hD hpl hlen hPw hFw hk
  have hD2 : Are vS (ps1.filter fun v => !xs.contains (dS v)) (_ : List (List Nat)) := Are.filter (q := fun x => !xs.contains x) hp1
  clear h13F h13N hD hl3 hpl hlen hPw hFw hk
  walk_at "my steps"
  have hf1 := hD1.length
  have hf2 := hD2.length
  have hf3 := List.length_filter_le (fun x => !ys.contains x) xs
  have hf4 := List.length_filter_le (fun x => !xs.contains x) ys
  refine add_lists h14F h14N ⟨_, h14N.get (.tail _ (.head _)), rfl, _, rfl⟩ ⟨_, h14N.get (.head _), rfl, _, rfl⟩ (fun h15 F15 N15 => ?_) (by rw [sizeLine_eq]; omega)
  have hall := (hD1.append hD2).isEmpty
  rw [show ((xs.filter fun x => !ys.contains x) ++ (ys.filter fun x => !xs.contains x)).isEmpty = alF xs ys from rfl] at hall
  clear h14F h14N hD1 hD2 hf1 hf2 hf3 hf4
  walk_at "my steps"
  rename Fr _ _ _ _ => F16
  rename News _ _ _ _ => N16
  refine Stop.go (eq_nil ⟨_, N16.get (.tail _ (.head _)), rfl, _, rfl⟩ ⟨_, N16.get (.head _), rfl, _, rfl⟩ (Nat.le_of_ble_eq_true rfl) ?_)
  rw [hall]
  have N17 : News s.heap L _ [(L + 1, o2'), (L + 1 + 1, o1'), (q1, W.listOf ps1.toArray m1), (q0, W.listOf ps0.toArray m0)] := fun p hp => N16 p (.tail _ (.tail _ (.tail _ (.tail _ hp))))
  clear N16 hall
  walk_at "my steps"
  refine Stop.go (wpN_cons (wpN_IfF ?_))
  walk_at "my steps"
  rename Fr _ _ _ _ => F18
  rename News _ _ _ _ => N18
  refine Stop.go ?_
  refine' use_amb ?B ?F ?X ?T ?hf ?hk (fun am => con_cmp am X T ⟨_, N18.get (.tail _ (.tail _ (.tail _ (.head _)))), rfl, _, rfl⟩ hp0 (by omega) ⟨_, N18.get (.tail _ (.tail _ (.head _))), rfl, _, rfl⟩ hp1 (by omega) ?_) ?hd ?hu
  walk_at "my use"
  intro h19 tk19 hT19
  clear am
  have F19 := fr_turned (fun b hb => by rw [List.mem_singleton.mp hb]; exact kts_self F18) F18 hT19
  have N19 := news_turned (fun p hp hm => (N18 p hp).2.1 (List.mem_singleton.mp hm)) N18 hT19
  rw [cmpF_al]
  clear F18 N18 hT19
  walk_at "my steps"
  refine Stop.go ?_
  refine' use_amb ?B ?F ?X ?T ?hf ?hk (fun am => con_cmp am X T ⟨_, N19.get (.tail _ (.tail _ (.head _))), rfl, _, rfl⟩ hp1 (by omega) ⟨_, N19.get (.tail _ (.tail _ (.tail _ (.head _)))), rfl, _, rfl⟩ hp0 (by omega) ?_) ?hd ?hu
  walk_at "my use"
  intro h20 tk20 hT20
  clear am
  have F20 := fr_turned (fun b hb => by rw [List.mem_singleton.mp hb]; exact kts_self F19) F19 hT20
  have N20 := news_turned (fun p hp hm => (N19 p hp).2.1 (List.mem_singleton.mp hm)) N19 hT20
  rw [cmpF_la]
  clear F19 N19 hT20
  walk_at "my steps"
  rename Fr _ _ _ _ => F21
  rename News _ _ _ _ => N21
  refine Stop.go (ne_pairs ⟨_, N21.get (.tail _ (.head _)), rfl, _, rfl⟩ ⟨_, N21.get (.head _), rfl, _, rfl⟩ (SeqAt.EqAt.same _) (SeqAt.EqAt.same _) (Nat.le_of_ble_eq_true rfl) ?_)
  have N22 : News s.heap L _ [(L + 1, o2'), (L + 1 + 1, o1'), (q1, W.listOf ps1.toArray m1), (q0, W.listOf ps0.toArray m0)] := fun p hp => N21 p (.tail _ (.tail _ hp))
  clear N21
  walk_at "my steps"
  refine Stop.go ⟨rfl, wpAny_execs_nil (Stop.go ?_)⟩
  walk_at "my steps"
  rename Fr _ _ _ _ => F23
  rename News _ _ _ _ => N23
  have hrev : slicePick ps0.toArray none none (some (-1)) = ps0.reverse.toArray := krv_pick ps0.toArray
  rw [hrev] at N23
  refine add_lists (vs := ps0.reverse) F23 N23 ⟨_, N23.get (.head _), rfl, _, rfl⟩ ⟨_, N23.get (.tail _ (.tail _ (.tail _ (.tail _ (.head _))))), rfl, _, rfl⟩ (fun h24 F24 N24 => ?_) (by rw [sizeLine_eq, List.length_reverse]; omega)
  clear F23 N23
  have hpr := hp0.reverse.append hp0
  walk_at "my steps"
  refine Stop.go ?_
  refine' use_amb ?B ?F ?X ?T ?hf ?hk (fun am => con_cmp am X T ⟨_, N24.get (.head _), rfl, _, rfl⟩ hpr (by rw [List.length_append, List.length_reverse]; omega) ⟨_, N24.get (.tail _ (.tail _ (.tail _ (.tail _ (.tail _ (.head _)))))), rfl, _, rfl⟩ hp0 (by omega) ?_) ?hd ?hu
  walk_at "my use"
  intro h25 tk25 hT25
  clear am
  have F25 := fr_turned (fun b hb => by rw [List.mem_singleton.mp hb]; exact kts_self F24) F24 hT25
  have N25 := news_turned (fun p hp hm => (N24 p hp).2.1 (List.mem_singleton.mp hm)) N24 hT25
  rw [cmpF_turned]
  clear F24 N24 hT25
  walk_at "my steps"
  exact hret h25 tk25 F25.keep
end

theorem again_law : True := by
  k_with_none
  k_with "my enter" => (k_dflt (refine' enter (by assumption) ?k6 ?k7 ?k8 ?k9 ?kB ?_ ?c5 ?c2 ?c3 ?c4; (case k6 => k_is); (case k7 => k_is); (case k8 => decide); (case k9 => exact BindsTo.of_eq rfl); (case c5 => decide); (case kB => exact locs rfl); (case c2 => exact rfl); (case c3 => exact rfl); (case c4 => exact rfl); k_whole))
  k_with "my enterC" => (k_dflt (refine' enterC (by assumption) ?k6 ?k7 ?k8 ?k9 ?kB ?_ ?c5 ?c2 ?c3 ?c4; (case k6 => k_is); (case k7 => k_is); (case k8 => decide); (case k9 => exact BindsTo.of_eq rfl); (case c5 => decide); (case kB => exact locs rfl); (case c2 => exact rfl); (case c3 => exact rfl); (case c4 => exact rfl); k_whole))
  k_with "my steps" => repeat' (first | (k_unfold; (try dsimp only)) | walk1 | (dsimp only; walk1))
  k_with "storeName" => (k_here; k_dflt (first
  | (refine' st_int (by k_asm) (by k_asm) ?_ rfl rfl; k_whole; intro _ _ _ _ _; (try k_sweep); (try dsimp only))
  | (refine' st_str (by k_asm) (by k_asm) ?_ rfl rfl; k_whole; intro _ _ _ _ _; (try k_sweep); (try dsimp only))
  | (refine' st_bytes (by k_asm) (by k_asm) ?_ rfl rfl; k_whole; intro _ _ _ _ _; (try k_sweep); (try dsimp only))
  | (refine' st_val (by k_asm) (by k_asm) ?_ rfl rfl; k_whole; intro _ _ _ _; (try k_sweep); (try dsimp only))))
  k_with "my use" => ((case hd => exact Nat.le_of_ble_eq_true rfl); (case hu => exact Nat.le_of_ble_eq_true rfl); (case B => k_asm); (case F => k_asm); (case X => k_asm); (case T => k_asm); (case hf => rfl); (case hk => rfl); k_whole)
  k_with "getMethod ref" => (k_here; k_dflt (first
  | (refine' gm_append (News.get (by k_asm) (by k_mem)) ?_; k_whole)
  | (refine' gm_extend (News.get (by k_asm) (by k_mem)) ?_; k_whole)))
  k_with "call type:enumerate" => (k_here; refine stop_here ?_)
  k_with "call ref" => (k_here; k_dflt (refine' use_amb (by k_asm) (by k_asm) (by k_asm) (by k_asm) rfl rfl (fun am => con_T am ?_) (Nat.le_of_ble_eq_true rfl) (Nat.le_of_ble_eq_true rfl); k_whole; intro _ _ _ hs'; clear am; (have := fr_stays (by k_asm) hs'); (have := news_stays (by k_asm) hs'); clear hs'; (try k_sweep); (try dsimp only)))
  k_with "subscriptTail" => (k_here; (with_reducible show wpAny _ _ (subscriptTail _ _ (Value.bytes _ _) (Value.int _ _)) _ _ _); k_dflt (refine' item_digits (by omega) (by omega) ?_ (by with_unfolding_all rfl) (by intro _; with_unfolding_all rfl); k_whole); intro _ _)
  k_with "call type:bytes" => (k_here; (with_reducible show wpAny _ _ (call (Value.type _) [Value.ref _]) _ _ _); k_dflt (refine' call_bytes_ba (News.get (by k_asm) (by k_mem)) (by first | assumption | omega) ?_; k_whole); intro _ _)
  k_with "call ref" => (k_here; k_dflt (refine' use_amb (by k_asm) (by k_asm) (by k_asm) (by k_asm) rfl rfl (fun am => con_adapt am (by omega) (by omega) (by omega) ?_) (Nat.le_of_ble_eq_true rfl) (Nat.le_of_ble_eq_true rfl); k_whole; intro _ _ _ hs'; clear am; (have := fr_stays (by k_asm) hs'); (have := news_stays (by k_asm) hs'); clear hs'; (try k_sweep); (try dsimp only)))
  k_with "subscriptTail" => (k_here; (with_reducible show wpAny _ _ (subscriptTail _ _ (Value.bytes (bArr _) _) (Value.int _ _)) _ _ _); k_dflt (refine' item_bArr (by assumption) (by assumption) (by omega) (by first | assumption | (simp only [Int.toNat_natCast]; assumption)) ?_ (by with_unfolding_all rfl) (by intro _; with_unfolding_all rfl); k_whole); intro _ _)
  k_with "call ref" => (k_here; k_dflt (refine' use_amb (by k_asm) (by k_asm) (by k_asm) (by k_asm) rfl rfl (fun am => con_dgn am (by assumption) (by assumption) (by assumption) ?_) (Nat.le_of_ble_eq_true rfl) (Nat.le_of_ble_eq_true rfl); k_whole; intro _ _ _ _ _ hs' hx' ho'; clear am; (have := news_made (by k_asm) (by k_asm) hs' hx' ho'); (have := fr_stays (by k_asm) hs'); clear hs' hx' ho'; (try k_sweep); (try dsimp only)))
  k_with "my len" => first | assumption | omega | ((try simp only [List.length_append, List.length_take, List.length_drop, List.length_cons, List.length_nil]); omega)
  k_with "call builtin:len" => (k_here; k_dflt (first
  | (refine' len_sL (by walk_at "my len") ?_; k_whole; intro _ _)
  | (refine' len_bArr (by assumption) (by walk_at "my len") ?_; k_whole; intro _ _)))
  k_with "call builtin:chr" => (k_here; k_dflt (refine' chr_sL (by omega) (by omega) ?_; k_whole; intro _ _))
  k_with "binaryOp Add str str" => (k_here; k_dflt (refine' add_sL (by walk_at "my len") ?_; k_whole; intro _ _))
  k_with "subscriptTail Name Slice str ref" => (k_here; (try dsimp only); k_dflt (first
  | (refine' cut_to (by k_asm) (by k_asm) (by omega) (by walk_at "my len") (by walk_at "my len") ?_ (by with_unfolding_all rfl) (by intro _; with_unfolding_all rfl); k_whole; intro _ _ _ _ _; (try k_sweep))
  | (refine' cut_from (by k_asm) (by k_asm) (by omega) (by walk_at "my len") (by walk_at "my len") ?_ (by with_unfolding_all rfl) (by intro _; with_unfolding_all rfl); k_whole; intro _ _ _ _ _; (try k_sweep))))
  k_with "getMethod bytes" => (k_here; first
  | (refine' gm_rfind ?_; (try dsimp only))
  | (refine' gm_upper ?_; (try dsimp only)))
  k_with "call builtin:bytes.rfind" => (k_here; k_dflt (refine' call_rfind (by assumption) ?_; k_whole; intro _ _))
  k_with "call builtin:bytes.upper" => (k_here; k_dflt (refine' call_upper (by walk_at "my len") (by assumption) ?_; k_whole; intro _ _))
  k_with "call type:str" => (k_here; k_dflt (refine' call_asc (by assumption) ?_; k_whole; intro _ _))
  k_with "call ref" => (k_here; k_dflt (refine' use_amb (by k_asm) (by k_asm) (by k_asm) (by k_asm) rfl rfl (fun am => con_isort am (by assumption) (by assumption) (by assumption) ?_) (Nat.le_of_ble_eq_true rfl) (Nat.le_of_ble_eq_true rfl); k_whole; intro _ _ _ hs'; clear am; (have := fr_stays (by k_asm) hs'); (have := news_stays (by k_asm) hs'); clear hs'; (try k_sweep); (try dsimp only)))
  k_with "subscriptTail" => (k_here; (with_reducible show wpAny _ _ (subscriptTail _ _ (Value.bytes (bArr _) _) (Value.ref _)) _ _ _); (try dsimp only); k_dflt (first
  | (refine' cutB_to (by k_asm) (by k_asm) (by assumption) (by walk_at "my len") (by walk_at "my len") ?_ (by with_unfolding_all rfl) (by intro _; with_unfolding_all rfl); k_whole; intro _ _ _ _ _; (try k_sweep))
  | (refine' cutB_from (by first | exact rfl | exact (Int.natCast_succ _).symm) (by k_asm) (by k_asm) (by assumption) (by walk_at "my len") (by walk_at "my len") ?_ (by with_unfolding_all rfl) (by intro _; with_unfolding_all rfl); k_whole; intro _ _ _ _ _; (try k_sweep))))
  k_with "call ref" => (k_here; k_dflt (refine' use_amb (by k_asm) (by k_asm) (by k_asm) (by k_asm) rfl rfl (fun am => con_dec am (by assumption) (by assumption) (by assumption) (by assumption) ?_) (Nat.le_of_ble_eq_true rfl) (Nat.le_of_ble_eq_true rfl); k_whole; intro _ _ _ hs'; clear am; (have := fr_stays (by k_asm) hs'); (have := news_stays (by k_asm) hs'); clear hs'; (try k_sweep); (try dsimp only)))
  k_with "call ref" => (k_here; k_dflt (refine' use_amb (by k_asm) (by k_asm) (by k_asm) (by k_asm) rfl rfl (fun am => con_name am ?_) (Nat.le_of_ble_eq_true rfl) (Nat.le_of_ble_eq_true rfl); k_whole; intro _ _ _ _ _ _ _ _ hs' hz' hy' _ hoz' hoy' _; clear am; (have := news_made2 (by k_asm) (by k_asm) hs' hz' hy' hoz' hoy'); (have := fr_stays (by k_asm) hs'); clear hs' hz' hy' hoz' hoy'; (try k_sweep); (try dsimp only)))
  k_with "eval ListComp" => (k_here; refine stop_here ?_)
  k_with "call builtin:len" => (k_here; k_dflt (refine' len_led (by k_asm) (by k_mem) (by assumption) (by omega) ?_; k_whole; intro _ _))
  exact True.intro


/-! part: fin -/
set_option maxHeartbeats 8000000 in
theorem walked : PySem.Challenge.rw_oc0094_01.Holds := by
  refine hd ?_
  k_fill
  intro w s₀ s₁ mg mb G Y fa o pm cd doc dV kV ho hd' hcd hD hmg hg args vals as hpre hlay hrd hwl hlo
  have KX := kIn_of Y
  refine Ground.open G ?_
  intro T B D TE TW
  have e : mg (Str.ofString "law") = some (.ref 119) := mg_of KX T.g (by k_dflt k_is)
  obtain rfl : fa = 119 := by
    have := hmg.symm.trans e
    injection this with this
    injection this
  clear hmg e ho hd' hcd hD B D TE TW G Y
  wrow_args hpre hlay hrd hwl hlo
  rename IntsAre _ _ => hI
  rename Heap.IsList _ _ _ => hL
  rename ¬ _ => hc
  refine con_law ⟨below_caller s₁.heap, KX, T⟩ hL hI (by omega) fun h' tk' hst => ?_
  refine GoodW.toG ⟨.inl ⟨_, .bool true, [], rfl, ?_, .bool true, ?_, ?_⟩, hst, rfl, hg⟩
  · intro _; rfl
  · first | kernel_rfl | with_unfolding_all rfl
  · exact fun _ => ⟨List.nodup_nil, fun _ h => nomatch h⟩

end Mine

theorem PySem.Challenge.cw_oc0094_01_holds : PySem.Challenge.rw_oc0094_01.Holds :=
  Mine.walked
