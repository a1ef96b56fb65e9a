import PyProof.Rows.All
import Wide.All
import OpenK.AllK
import Wide.FinOn
import PyProof.ListNew
import PyProof.CallType
import KE.BytesMake
import PyProof.StrLawsReplace
import KE.LcTurns
import KE.KBytesWalk
import PyProof.Rows.SumAny
import PyProof.Rows.SeqMore3
import PyProof.StrLaws
import PyProof.Rows.StrJoin2
import PyProof.Rows.TupMore
import PyProof.Rows.StrCut
import Lean
import KE.KTreeN
import Lean
import PySem.Challenge.RW_zn0007_01
set_option Elab.async false
set_option rowWalk.seconds 0
set_option compiler.extract_closed false
section
open PySem PySem.W PyProof.Rows
set_option maxRecDepth 100000
namespace Zn
/-- the goal stands aside as a hypothesis: what is parted meanwhile does not write it down -/
theorem by_no {P : Prop} (h : (P → False) → False) : P := Classical.byContradiction h
/-- no decoder of bytes stands on the stack -/
noncomputable def cleanC : Code → Bool
  | .builtin id _ => !Builtin.Bytes.decodersThatHold.contains id
  | _ => true
noncomputable def Clean (Γ : Ctx) : Prop := cleanC Γ.code = true ∧ ∀ x ∈ Γ.below, cleanC x.1 = true
/-- wpAny, codeAny over clean contexts alone -/
noncomputable def wpP {α : Type} (M : Model) (A : Around) (t : Sem α) (Q : α → Shared → Prop) (E : Value → Shared → Prop) (s : Shared) : Prop :=
  ∀ Γ p, Γ.In A → Clean Γ → Sem.wp M Γ t (fun a _ s' => Q a s') (fun e _ s' => E e s') p s
noncomputable def codeP (M : Model) (A : Around) (c : Code) (R : Result → Shared → Prop) (s : Shared) : Prop :=
  ∀ Γ p, Γ.code = c → Γ.Below A → Clean Γ → wpCode M Γ R p s
/-- nothing is raised -/
noncomputable def Nev : Value → Shared → Prop := fun _ _ => False
section
variable {α β : Type} {M : Model} {A : Around} {E : Value → Shared → Prop} {s : Shared}
theorem P_any {t : Sem α} {Q : α → Shared → Prop} (h : wpAny M A t Q E s) : wpP M A t Q E s := fun Γ p hΓ _ => h Γ p hΓ
theorem codeP_any {c : Code} {R : Result → Shared → Prop} (h : codeAny M A c R s) : codeP M A c R s := fun Γ p hc hΓ _ => h Γ p hc hΓ
theorem P_mono {t : Sem α} {Q Q' : α → Shared → Prop} {E' : Value → Shared → Prop} (h : wpP M A t Q E s) (hQ : ∀ a s, Q a s → Q' a s) (hE : ∀ e s, E e s → E' e s) : wpP M A t Q' E' s :=
  fun Γ p hΓ hC => Sem.wp_mono M Γ t (fun a _ s => hQ a s) (fun e _ s => hE e s) p s (h Γ p hΓ hC)
theorem P_nev {t : Sem α} {Q : α → Shared → Prop} (h : wpP M A t Q Nev s) : wpP M A t Q E s := P_mono h (fun _ _ x => x) fun _ _ x => x.elim
theorem P_pure {a : α} {Q : α → Shared → Prop} (h : Q a s) : wpP M A (pure a) Q E s := fun _ _ _ _ => h
theorem P_bind {m : Sem α} {f : α → Sem β} {Q : β → Shared → Prop} (h : wpP M A m (fun a s' => wpP M A (f a) Q E s') E s) : wpP M A (m >>= f) Q E s := fun Γ p hΓ hC => by
  rw [Sem.wp_bind']
  exact Sem.wp_mono M Γ m (fun a p' s' h' => h' Γ p' hΓ hC) (fun _ _ _ h' => h') p s (h Γ p hΓ hC)
theorem P_step {m : Sem α} {f : α → Sem β} {Q : β → Shared → Prop} (h : wpAny M A m (fun a s' => wpP M A (f a) Q E s') E s) : wpP M A (m >>= f) Q E s := P_bind (P_any h)
theorem P_holding {vs : List Value} {m : Sem α} {Q : α → Shared → Prop} (h : wpP M A m Q E s) : wpP M A (holding vs m) Q E s := fun Γ p hΓ hC => by rw [Sem.wp_holding]; exact h Γ p hΓ hC
theorem P_keep {vs : List Value} {m : Sem α} {Q : α → Shared → Prop} (h : wpP M A m Q E s) : wpP M A (m.keep vs) Q E s := fun Γ p hΓ hC => by rw [Sem.wp_keep]; exact h Γ p hΓ hC
theorem P_onRaise {m : Sem α} {k : Value → Sem Unit} {Q : α → Shared → Prop} (h : wpP M A m Q Nev s) : wpP M A (m.onRaise k) Q E s := fun Γ p hΓ hC => by
  rw [Sem.wp_onRaise]
  exact Sem.wp_mono M Γ m (fun _ _ _ h' => h') (fun _ _ _ h' => h'.elim) p s (h Γ p hΓ hC)
theorem P_ite {c : Prop} [Decidable c] {a b : Sem α} {Q : α → Shared → Prop} (h : if c then wpP M A a Q E s else wpP M A b Q E s) : wpP M A (if c then a else b) Q E s := by split <;> simp_all
theorem P_runValue {c : Code} {Q : Value → Shared → Prop} (hcl : cleanC c = true)
    (hc : codeP M A c (fun r s' => match r with | .ok (.ret v) => Q v s' | .ok _ => False | .error e => E e s') s) : wpP M A (runValue c) Q E s := fun Γ p hΓ hC => by
  rw [Sem.wp_runValue]
  exact hc _ p rfl (hΓ.enter c none p (by intro x; cases x)) ⟨hcl, fun x hx => by
    rcases List.mem_cons.mp hx with rfl | hx
    · exact hC.1
    · exact hC.2 x hx⟩
theorem P_call {f : Value} {pos : List Value} {kw : List (Str × Value)} {Q : Value → Shared → Prop}
    (hc : codeP M A (.call f ⟨pos, kw⟩) (fun r s' => match r with | .ok (.ret v) => Q v s' | .ok _ => False | .error e => E e s') s) : wpP M A (call f pos kw) Q E s := P_runValue rfl hc
theorem P_run {c : Code} {Q : Flow → Shared → Prop} (hcl : cleanC c = true)
    (hc : codeP M A c (fun r s' => match r with | .ok f => Q f s' | .error e => E e s') s) : wpP M A (run c none) Q E s := fun Γ p hΓ hC => by
  rw [Sem.wp_run]
  exact hc _ p rfl (hΓ.enter c none p (by intro x; cases x)) ⟨hcl, fun x hx => by
    rcases List.mem_cons.mp hx with rfl | hx
    · exact hC.1
    · exact hC.2 x hx⟩
theorem codeP_tree {c : Code} {R : Result → Shared → Prop}
    (h : wpP M (A.under c) (M.den c) (fun fin s' => match fin with | .done f => R (.ok f) s' | .again c' => c'.quiet = true ∧ cleanC c' = true ∧ codeP M A c' R s') (fun e s' => R (.error e) s') s) : codeP M A c R s := fun Γ p hc hΓ hC => by
  rw [wpCode_iff_wp, hc]
  refine Sem.wp_mono M Γ _ (fun fin p' s' h' => ?_) (fun _ _ _ h' => h') p s (h Γ p (hc ▸ hΓ.in) hC)
  cases fin with
  | done f => exact h'
  | again c' => exact ⟨h'.1, h'.2.2 (Γ.goto c') p' rfl (hΓ.goto c') ⟨h'.2.1, hC.2⟩⟩
theorem codeP_mono {c : Code} {R R' : Result → Shared → Prop} (h : codeP M A c R s) (hR : ∀ r s, R r s → R' r s) : codeP M A c R' s :=
  fun Γ p hc hΓ hC => wpCode_mono hR (h Γ p hc hΓ hC)
end

section
variable {prog : Program} {w : World} {A : Around} {s : Shared} {env : Env}
-- statements on the road
theorem P_execs_cons {st : Stmt} {rest : List Stmt} {Q : Flow → Shared → Prop} (h : wpP (model prog w) A (exec st env) (fun f s' => match f with | .next => wpP (model prog w) A (execs rest env) Q Nev s' | f => Q f s') Nev s) :
    wpP (model prog w) A (execs (st :: rest) env) Q Nev s := by
  rw [execs_cons]
  refine P_bind (P_mono h (fun f s' hf => ?_) fun _ _ e => e)
  cases f with
  | next => exact hf
  | brk => exact P_pure hf
  | cont => exact P_pure hf
  | ret v => exact P_pure hf
theorem P_execs_nil {Q : Flow → Shared → Prop} (h : Q .next s) : wpP (model prog w) A (execs [] env) Q Nev s := P_any (wpAny_execs_nil h)
theorem P_Return {e : Expr} {pos : Pos} {Q : Flow → Shared → Prop} (h : wpP (model prog w) A (eval e env) (fun v => Q (.ret v)) Nev s) : wpP (model prog w) A (exec (.Return (some e) pos) env) Q Nev s := by
  rw [exec_Return_some]
  exact P_step (wpAny_standAt (P_bind (P_mono h (fun v s' hv => P_pure hv) fun _ _ e => e)))
theorem P_If {test : Expr} {body orelse : List Stmt} {pos : Pos} {Q : Flow → Shared → Prop}
    (h : wpAny (model prog w) A (isTrue test env (eval test env)) (fun b s₂ => if b = true then wpP (model prog w) A (execs body env) Q Nev s₂ else wpP (model prog w) A (execs orelse env) Q Nev s₂) Nev s) :
    wpP (model prog w) A (exec (.If test body orelse pos) env) Q Nev s := by
  rw [exec_If]
  refine P_step (wpAny_standAt (P_step (wpAny_mono h (fun b s₂ h₂ => ?_) fun _ _ e => e)))
  cases b with
  | true => simpa using h₂
  | false => simpa using h₂

theorem P_Compare1 {l r : Expr} {op : CmpOp} {pos : Pos} {Q : Value → Shared → Prop}
    (h : wpP (model prog w) A (eval l env) (fun a s₁ => wpP (model prog w) A (eval r env) (fun b s₂ => wpAny (model prog w) A (compareOp op a b) Q Nev s₂) Nev s₁) Nev s)
    (hm : behindInMarks op r = false) : wpP (model prog w) A (eval (.Compare l [op] [r] pos) env) Q Nev s := by
  rw [eval_Compare1, markedBehindIn_of_false hm]
  refine P_bind (P_mono h (fun a s₁ h₁ => P_bind (P_holding (P_mono h₁ (fun b s₂ h₂ => P_step (wpAny_standAt (P_any ?_))) fun _ _ e => e))) fun _ _ e => e)
  exact wpAny_operating h₂
theorem P_Assign_Name {x : Str} {pos' pos : Pos} {value : Expr} {Q : Flow → Shared → Prop}
    (h : wpP (model prog w) A (eval value env) (fun v s₁ => wpAny (model prog w) A (storeName env x v) (fun _ => Q .next) Nev s₁) Nev s)
    (hs : swapsWith value (some (.Name x pos')) pos.line env = pure false) : wpP (model prog w) A (exec (.Assign [.Name x pos'] value pos) env) Q Nev s := by
  rw [exec_Assign_Name _ _ _ _ _ hs]
  refine P_step (wpAny_standAt (P_bind (P_mono h (fun v s₁ h₁ => P_step (wpAny_standAt (P_step ?_))) fun _ _ e => e)))
  exact wpAny_bindName (wpAny_mono h₁ (fun _ s' q => P_pure q) fun _ _ e => e)

/-- a call of a def by its name, the arguments walked -/
theorem P_callWith {pos : Pos} {a : Addr} {o : Obj} {fd : FuncData} {e : Expr} {rest : List Expr} {Q : Value → Shared → Prop} (hdat : o.data = .func fd)
    (h : wpAny (model prog w) A (spliced (backTo pos (starEach (e :: rest) env))) (fun vs s₁ => s₁.heap.get? a = some o ∧ wpP (model prog w) A (call (.ref a) vs) Q Nev s₁) Nev s)
    (he : starEach (e :: rest) env = (false, eval e env) :: starEach rest env) :
    wpP (model prog w) A (callWith pos (.ref a) [] (backTo pos (starEach (e :: rest) env)) []) Q Nev s := by
  rw [he] at h ⊢
  unfold callWith
  refine P_step (wpAny_holding (Calls.evalArgs_plain (wpAny_mono h (fun vs s₁ h₁ => ?_) fun _ _ x => x)))
  refine P_step (wpAny_standAt ?_)
  have tail : ∀ {t : Sem Value}, wpP (model prog w) A t Q Nev s₁ → wpP (model prog w) A (t >>= fun r => holding [r] point >>= fun _ => pure r) Q Nev s₁ :=
    fun ht => P_bind (P_mono ht (fun r s₂ hr => P_step (wpAny_holding (wpAny_point (P_pure hr)))) fun _ _ x => x)
  have marked : ∀ mk, wpP (model prog w) A (callMarked mk (.ref a) ([] ++ vs) []) Q Nev s₁ := fun mk => by unfold callMarked; exact P_keep h₁.2
  refine P_step (m := keeperOf (.ref a)) ?_
  unfold keeperOf
  refine wpAny_bind (wpAny_load h₁.1 ?_)
  rw [hdat]
  refine wpAny_pure ?_
  dsimp only
  cases hs : ((backTo pos ((false, eval e env) :: starEach rest env)).any (·.1) || ([] : List (Option Str × Sem Value)).any (·.1.isNone)) <;> dsimp only
  · refine P_ite ?_
    split
    · exact tail h₁.2
    · exact tail (marked _)
  · exact tail (marked _)
theorem P_Call {f : Expr} {args : List Expr} {pos : Pos} {Q : Value → Shared → Prop}
    (h : wpAny (model prog w) A (eval f env) (fun fv s₁ => wpP (model prog w) A (callWith pos fv [] (backTo pos (starEach args env)) []) Q Nev s₁) Nev s)
    (he : eval (.Call f args [] pos) env = (do callWith pos (← eval f env) [] (backTo pos (starEach args env)) (backToKw pos (keywordEach [] env)))) :
    wpP (model prog w) A (eval (.Call f args [] pos) env) Q Nev s := by
  rw [he]
  exact P_step h

theorem P_runOwn {c : Code} {Q : Flow → Shared → Prop} (hcl : cleanC c = true) (h : codeP (model prog w) A c (fun r s' => match r with | .ok f => Q f s' | .error _ => False) s) :
    wpP (model prog w) A (runOwn c env none) Q Nev s := by
  unfold runOwn
  refine P_onRaise (P_run hcl (codeP_mono h fun r s' hr => ?_))
  cases r with
  | ok f => exact hr
  | error e => exact hr.elim
theorem P_For {target iter : Expr} {body : List Stmt} {pos : Pos} {Q : Flow → Shared → Prop}
    (h : wpAny (model prog w) A (eval iter env) (fun x s₁ => wpAny (model prog w) A (pyIter x) (fun it s₂ => codeP (model prog w) A (.forLoop target it body [] env) (fun r s' => match r with | .ok f => Q f s' | .error _ => False) s₂) Nev s₁) Nev s)
    (hs : ∀ x, foldedSetIterable iter env x = pure x) : wpP (model prog w) A (exec (.For target iter body [] pos) env) Q Nev s := by
  rw [exec_For]
  refine P_step (wpAny_standAt (P_step (wpAny_mono h (fun x s₁ h₁ => ?_) fun _ _ e => e)))
  refine P_step (wpAny_of_eq (hs x) (P_step (wpAny_standAt (P_step (wpAny_holding (wpAny_mono h₁ (fun it s₂ h₂ => P_runOwn rfl h₂) fun _ _ e => e))))))
theorem codeP_for {target : Expr} {it : Value} {body : List Stmt} {R : Result → Shared → Prop} (I : Nat → Shared → Prop)
    (turn : ∀ n s, I n s → wpAny (model prog w) A (pyNext it) (fun r s₁ => match r with
      | none => R (.ok .next) s₁
      | some v => wpAny (model prog w) A (letOwnedTupleGo target it v) (fun _ s₁' => wpAny (model prog w) A (assign target env v) (fun _ s₂ => wpP (model prog w) A (execs body env) (fun f s₃ => match f with
          | .next | .cont => ∃ m, m < n ∧ I m s₃
          | .brk => R (.ok .next) s₃
          | .ret v => R (.ok (.ret v)) s₃) Nev s₂) Nev s₁') Nev s₁) Nev s)
    (n : Nat) (h : I n s) : codeP (model prog w) A (.forLoop target it body [] env) R s := by
  induction n using Nat.strongRecOn generalizing s with
  | ind n ih =>
    refine codeP_tree ?_
    show wpP _ A ((forTurn target it body [] env).onRaise (fun x => do noteFrame x env; theTreesLotGoes x)) _ _ s
    refine P_onRaise ?_
    simp only [forTurn]
    refine P_step (wpAny_standAt (P_bind (P_onRaise (P_mono (P_any (turn n s h)) (fun r s₁ h₁ => ?_) fun _ _ x => x.elim))))
    cases r with
    | none =>
      refine P_pure ⟨rfl, rfl, codeP_any (codeAny_block (wpAny_execs_nil h₁))⟩
    | some v =>
      refine P_step (wpAny_mono h₁ (fun _ s₁' h₁' => P_step (wpAny_mono h₁' (fun _ s₂ h₂ => P_bind (P_mono h₂ (fun f s₃ h₃ => ?_) fun _ _ x => x)) fun _ _ x => x)) fun _ _ x => x)
      cases f with
      | next => obtain ⟨m, hm, hI⟩ := h₃; exact P_pure ⟨rfl, rfl, ih m hm hI⟩
      | cont => obtain ⟨m, hm, hI⟩ := h₃; exact P_pure ⟨rfl, rfl, ih m hm hI⟩
      | brk => exact P_pure h₃
      | ret v => exact P_pure h₃

theorem codeP_func {body : List Stmt} {R : Result → Shared → Prop} (h : wpP (model prog w) (A.deeper env) (execs body env) (fun f s' => R (.ok (.ret (match f with | .ret v => v | _ => .none))) s') Nev s) :
    codeP (model prog w) A (.func body env) R s := by
  refine codeP_tree ?_
  show wpP _ (A.deeper env) (do point; match ← (execs body env).onRaise (leaving env) with | .ret v => ret v | _ => ret .none) _ _ s
  refine P_step (wpAny_point (P_bind (P_onRaise (P_mono h (fun f s' h' => ?_) fun _ _ e => e))))
  cases f <;> exact P_pure h'
theorem codeP_call {a : Addr} {args : Args} {o : Obj} {fd : FuncData} {body : List Stmt} {R : Result → Shared → Prop} (hroom : A.depth < recursionLimit) (ho : s.heap.get? a = some o)
    (hd' : o.data = .func fd) (hco : fd.scope.isCoroutine = false) (hgen : fd.scope.isGenerator = false) (hbody : fd.body = .stmts body) (hcd : s.heap.CodeRec fd.code fd.qualname)
    (h : wpAny (model prog w) A.in1 (bindArgs fd args) (fun binds s₁ =>
      wpAny (model prog w) A.in1 (newFunctionEnv fd.scope fd.globals fd.closure binds (fd.qualname ++ ".<locals>.") (some a) fd.code none fd.builtins)
        (fun env s₂ => s₂.heap.NoLimit ∧ codeP (model prog w) A (.func body env) R s₂) Nev s₁) Nev s) :
    codeP (model prog w) A (.call (.ref a) args) R s := by
  refine codeP_tree ?_
  show wpP _ A.in1 (callAny (.ref a) args) _ _ s
  simp only [callAny]
  refine P_step (wpAny_load ho ?_)
  obtain ⟨c, oc, vs, tq, hc, hoc, hdc, hq⟩ := hcd
  simp only [hd', callFunction, hco, hgen, hbody, hc]
  rw [hc] at h
  refine P_nev ?_
  refine P_step (m := field (.ref c) 1) (wpAny_field hoc hdc hq (P_bind (P_pure ?_)))
  refine P_step (wpAny_mono h (fun binds s₁ h₁ => P_step (wpAny_mono h₁ (fun env s₂ h₂ => P_step (wpAny_enterFrame h₂.1 hroom (P_pure ⟨rfl, rfl, h₂.2⟩))) fun _ _ x => x)) fun _ _ x => x)
end
end Zn
end
section
open PySem PySem.W PyProof.Rows PySem.Calls
set_option maxRecDepth 100000
namespace Zn
theorem caller_clean : Clean (⟨.builtin "claim.caller" {}, none, none, [], none⟩ : Ctx) := ⟨by decide +kernel, fun x hx => nomatch hx⟩
/-- a thread that is shown on a clean stack alone comes to its end -/
theorem P_thread {prog : Program} {w : World} {t : Sem Fin} {s : Shared} {R : Result → Shared → Prop} (hreg : s.asleep)
    (h : wpP (model prog w) callerA t (fun fin s' => ∃ f, fin = .done f ∧ R (.ok f) s' ∧ leftWithCleanup s'.gens = false) Nev s) :
    ∃ n r s' s'', runN (denote table) prog w n s ⟨t, .builtin "claim.caller" {}, default, []⟩ = .halted (outcomeOf r) s' ∧
      schedN (denote table) prog w n (.single s ⟨t, .builtin "claim.caller" {}, default, []⟩) = .halted (outcomeOf r) s' ∧ s'.forget = s''.forget ∧ R r s'' := by
  have hw : Sem.wp (model prog w) ⟨.builtin "claim.caller" {}, none, none, [], none⟩ t (Sem.finPost (model prog w) ⟨.builtin "claim.caller" {}, none, none, [], none⟩ fun r s' => R r s' ∧ leftWithCleanup s'.gens = false)
      (fun e _ s' => R (.error e) s' ∧ leftWithCleanup s'.gens = false) default s := by
    refine Sem.wp_mono _ _ t (fun fin p' s' h' => ?_) (fun _ _ _ h' => h'.elim) _ s (h _ default caller_in caller_clean)
    refine by_no fun hG9 => ?_
    obtain ⟨f, rfl, hf⟩ := h'
    refine hG9 ?_
    clear hG9
    exact hf
  refine by_no fun hG9 => ?_
  obtain ⟨n, r, s₁, s₂, hs, hn, hfo, hR⟩ := wp_halts_full (M := model prog w) (R := R) hreg hw
  refine hG9 ?_
  clear hG9
  exact ⟨n, r, s₂, s₁, hn, hs, hfo, hR⟩
theorem P_from {c : ClaimW} {tree : List Value → Sem Fin} {w : World} {s : Shared} {free : Addr → Prop} {gens : Prop} {kept : Heap → Prop} (hz : s.asleep) (hgens : s.gens = #[])
    (hspec : ∀ args, c.pre args = true → WData.layableAll args = true → ∀ ord : List DictEntry → List DictEntry, (∀ l, (ord l).Perm l) →
      ∃ vs s₁, layAllW c.records (classAt s.heap) w.params ord args s = some (vs, s₁) ∧
        wpP (model c.prog w) callerA (tree vs) (fun fin s' => ∃ f, fin = .done f ∧ c.Ends s args vs s₁ (.ok f) s' ∧ s'.os = s.os ∧ AllBare s'.gens ∧ kept s'.heap) Nev s₁) :
    c.CallFrom (fun vs => ⟨tree vs, .builtin "claim.caller" {}, default, []⟩) w free gens kept s := by
  intro args hpre hlay ord hord
  refine by_no fun hG9 => ?_
  obtain ⟨vs, s₁, hlaid, hcode⟩ := hspec args hpre hlay ord hord
  obtain ⟨al1, al2, al3, al4⟩ := layAllW_rest _ _ _ hlaid
  refine hG9 ?_
  clear hG9
  have hcode' : wpP (model c.prog w) callerA (tree vs) (fun fin s' => ∃ f, fin = .done f ∧ (c.Ends s args vs s₁ (.ok f) s' ∧ s'.os = s.os ∧ kept s'.heap) ∧ leftWithCleanup s'.gens = false) Nev s₁ :=
    P_mono hcode (fun fin s' hx => by
      refine by_no fun hG9 => ?_
      obtain ⟨f, e, h1, h2, h3, h4⟩ := hx
      refine hG9 ?_
      clear hG9
      exact ⟨f, e, ⟨h1, h2, h4⟩, leftWithCleanup_false_of_bare h3⟩) fun _ _ x => x
  refine by_no fun hG9 => ?_
  obtain ⟨k, r, s', s'', hrun, hsched, hfo, hcase, hos, hkp⟩ := P_thread (R := fun r s' => c.Ends s args vs s₁ r s' ∧ s'.os = s.os ∧ kept s'.heap) (Shared.asleep_of_life al4 hz) hcode'
  obtain ⟨eh, _, _, eo, _⟩ := Shared.forget_eq hfo
  refine hG9 ?_
  clear hG9
  have hcase := hcase.congr eh
  have hlife : s'.heap.life = s.heap.life := (runN_life _ _ _ hrun).trans al4
  refine ⟨vs, s₁, hlaid, k, _, s', hsched, ?_, fun _ i x hx => ?_, ?_, congrArg Life.seen hlife, Shared.rest_eq (eo.trans hos)⟩
  · rcases hcase with ⟨v, rfl, d1, d2, d3, d4, d5⟩ | ⟨e, ob, cls, rfl, d1, d2, d3, d4, d5⟩
    · exact .inl ⟨v, rfl, d1, d2, d3, fun b o y _ => d4 b o y, d5⟩
    · exact .inr ⟨e, ob, cls, rfl, d1, d2, d3, d4, fun b o y _ => d5 b o y⟩
  · rw [hgens] at hx; simp at hx
  · rw [eh]; exact hkp
/-- what is asked of the walk: on a clean stack, and nothing raised -/
noncomputable abbrev WalkP (q : Program) (loose : List Str) (XP : (Str → Option Value) → Heap → Prop) (YP : World → Heap → Prop) (r : RowW) (d : DefRec) (kwd : List (Str × Expr)) : Prop :=
  ∀ (w : World) (s₀ s₁ : Shared) (mg mb : Str → Option Value), Ground q loose r.records XP w s₀ mg mb s₁.heap → YP w s₁.heap → ∀ (a : Addr) (o : Obj) (pm cd doc dV kV : Value), s₁.heap.get? a = some o →
    o.data = .func { docDef d.name d.params d.body d.scope pm cd doc with defaults := dV, kwdefaults := kV } → s₁.heap.CodeRec cd d.name → Dflts mg s₁.heap d.params kwd dV kV → mg d.name = some (.ref a) → s₁.gens = #[] →
    ∀ (args : List WData) (vals : List Value) (as : List Addr), r.claim.pre args = true → WData.layableAll args = true → ReadsAllW r.records (classAt s₀.heap) s₁.heap vals args as → WellAll w.params s₁.heap vals args → (∀ a ∈ as, (a == sysModules) = false) →
      wpP (model r.prog w) callerA (PySem.call (.ref a) vals) (fun v s' => GoodWG r.claim (classAt s₀.heap) (ExcName.means s₀.heap) args s₁ (.ok (.ret v)) s') Nev s₁
/-- the head of a row whose walk stands on a clean stack -/
theorem PySem.W.holds_open {r : OpenRow} {q : Program} {loose : List Str} {Xt : Shared → Bool} {XP : (Str → Option Value) → Heap → Prop} {α : Type} {Yf : Shared → α} {Ya : World → α} {YP : World → Heap → Prop} {d : DefRec} {kwd : List (Str × Expr)} {N : Nat}
    (left : LeftO r.prog q loose Xt Yf Ya N) (hY : ∀ w s, Yf s = Ya w → YP w s.heap) (hYk : ∀ w h h', YP w h → (∀ b o, h.get? b = some o → h'.get? b = some o) → YP w h')
    (hX : ∀ s, Xt s = true → XP (s.heap.nsMap mainGlobals) s.heap) (hXk : ∀ mg h h', XP mg h → (∀ b o, h.get? b = some o → h'.get? b = some o) → XP mg h')
    (hdef : defOf q r.name = some (d, kwd)) (hp : r.prog.theDef r.name = some (d.params, d.body, d.scope)) (hk : kwWritten? d.params.kwonlyargs d.params.kw_defaults = some kwd) (hRf : ∀ s, Xt s = true → RecFacts r.records s.heap) (hwr : (!r.writes || r.records.isEmpty) = true)
    (k1 : r.wellSaid = true) (ok : (chainsOk q && opensWell r.prog && (frees r.toRowW && r.within.isEmpty)) = true) (hb : r.prog.bare) (hw : r.toRowW.promised)
    (walk : WalkP q loose XP YP r.toRowW d kwd) : r.Holds := by
  refine by_no fun hG9 => ?_
  obtain ⟨ok', kf⟩ := Bool.and_eq_true_iff.mp ok
  obtain ⟨hch, hopens⟩ := Bool.and_eq_true_iff.mp ok'
  obtain ⟨hfree, hwithin⟩ := Bool.and_eq_true_iff.mp kf
  obtain ⟨hsame, hu, ha, hap, hm⟩ := frees_parts hfree
  refine hG9 ?_
  clear hG9
  have ends := fun w => left.behind (XP := fun mg h => XP mg h ∧ RecFacts r.records h) (fun s hs => ⟨hX s hs, hRf s hs⟩) hch w
  refine ⟨k1, hw, ⟨hb, hopens, by show r.makers.map _ = []; rw [hm]; rfl⟩, hw.witness, fun w => ⟨(ends w).1, fun s' hs' => ?_⟩⟩
  refine by_no fun hG9 => ?_
  obtain ⟨s₀, hf, hg0, s, hT, hz, hgens, hg, G₀, y⟩ := (ends w).2 s' hs'
  refine hG9 ?_
  clear hG9
  have RF := G₀.X.2
  have G1 : Ground q loose [] XP w s (s.heap.nsMap mainGlobals) (s.heap.nsMap builtinsNs) s.heap := ⟨G₀.T, G₀.B, G₀.D, G₀.TE, G₀.TD, G₀.W, G₀.X.1, G₀.cls, G₀.has, G₀.apart, G₀.once, G₀.K⟩
  have G : Ground q loose r.records XP w s _ _ s.heap := RF.ground G1
  have hgens : s.gens = #[] := Array.eq_empty_of_size_eq_zero (beq_iff_eq.mp hgens)
  refine ⟨s₀, hf, hg0, s, hT, fun n hn => ?_, RF.1, RF.2.1, P_from (c := r.toRowW.claim) (tree := fun vs => do match ← nsGet mainNs r.name with
      | some f => do ret (← PySem.call f vs)
      | none => unsupported "claim.caller:no-such-global") hz hgens fun args hpre hlay ord hord => ?_⟩
  · obtain rfl : n = r.name := by split at hn <;> simp_all
    exact pinned_of_view hg G1 hdef hp hk
  refine by_no fun hG9 => ?_
  obtain ⟨⟨vs, s₁⟩, hlaid⟩ := Option.isSome_iff_exists.mp (layAllW_isSome (P := w.params) (ord := ord) G.has args r.args s (pre_splitW hpre).1)
  refine hG9 ?_
  clear hG9
  have keeps := layAllW_keeps _ _ _ hlaid
  have hal := layAllW_rest _ _ _ hlaid
  refine by_no fun hG9 => ?_
  obtain ⟨as, hrd, hin, hold⟩ := reads_layAllW hord _ _ _ hlaid hlay s₁.heap (fun _ _ e => e)
  refine hG9 ?_
  clear hG9
  have L : Laid r.records w s s₁ args vs as := ⟨⟨ord, hord, hlaid⟩, hrd, hin, hold, keeps, hal.1.trans hgens, hal.2.2.1⟩
  have G₁ := G.keeps hXk keeps
  have hident := ident_freeW hu ha hap
  have hwi : r.toRowW.claim.within = [] := List.isEmpty_iff.mp hwithin
  refine by_no fun hG9 => ?_
  obtain ⟨a, o, pm, cd, doc, dV, kV, h1, h2, h3, h4, h5⟩ := G₁.fn hdef
  refine hG9 ?_
  clear hG9
  have W := walk w s s₁ _ _ G₁ (hYk _ _ _ (hY w s y) keeps) a o pm cd doc dV kV h2 h3 h4 h5 (defOf_name hdef ▸ h1) L.gens args vs as hpre hlay L.reads L.well (L.low G.low)
  refine ⟨vs, s₁, hlaid, P_step (wpAny_nsGet G₁.T.g ?_)⟩
  rw [h1]
  refine P_bind (P_mono W (fun v s' g => P_pure ?_) fun _ _ x => x)
  have z := g.laid (c := r.toRowW.claim) hsame hwi hident L
  exact ⟨_, rfl, z.1, z.2.1, z.2.2, fun q => ⟨namesKept_of hT hg r.keeps keeps g.2.1.old, noTable hwr q⟩⟩
end Zn
end
section
open PySem PySem.W PyProof.Rows
namespace Zn
set_option maxRecDepth 100000 in
set_option maxHeartbeats 8000000 in
open_top hd for PySem.Challenge.rw_zn0007_01
end Zn
end
section
open PySem PySem.W PyProof.Rows
namespace Zn

/-- a text from its signs' numbers -/
noncomputable def S (l : List Nat) : Str := ⟨l.toArray⟩
theorem S_cps (l : List Nat) : (S l).cps.toList = l := by simp [S]
theorem S_len (l : List Nat) : (S l).length = l.length := by simp [S, Str.length]
theorem S_of (x : Str) : S x.cps.toList = x := by cases x; simp [S]
theorem S_app (a b : List Nat) : S a ++ S b = S (a ++ b) := Str.ext' (by simp [Str.cps_append, S])
theorem S_inj {a b : List Nat} (h : S a = S b) : a = b := by rw [← S_cps a, h, S_cps]
theorem S_one (c : Nat) : (⟨#[c]⟩ : Str) = S [c] := rfl

/-- every sign c becomes r -/
noncomputable def rep (c : Nat) (r l : List Nat) : List Nat := l.flatMap fun d => if d = c then r else [d]
theorem rep_nil (c : Nat) (r : List Nat) : rep c r [] = [] := rfl
theorem rep_app (c : Nat) (r a b : List Nat) : rep c r (a ++ b) = rep c r a ++ rep c r b := by simp [rep]
theorem rep_free (c : Nat) (r : List Nat) : ∀ l : List Nat, c ∉ l → rep c r l = l
  | [], _ => rfl
  | d :: l, h => by
    have h1 : ¬ d = c := fun e => h (e ▸ List.mem_cons_self ..)
    have ih := rep_free c r l fun m => h (List.mem_cons_of_mem _ m)
    unfold rep at ih ⊢
    rw [List.flatMap_cons, if_neg h1, ih]; rfl
theorem rep_one (c : Nat) (r : List Nat) : rep c r [c] = r := by simp [rep]

theorem rep_join (c : Nat) (r : List Nat) : ∀ parts : List Str, (∀ p ∈ parts, c ∉ p.cps.toList) → rep c r (Str.join (S [c]) parts).cps.toList = (Str.join (S r) parts).cps.toList
  | [], _ => rfl
  | [p], h => rep_free c r _ (h p (List.mem_singleton.mpr rfl))
  | p :: q :: t, h => by
    have ih := rep_join c r (q :: t) fun a ha => h a (List.mem_cons_of_mem _ ha)
    show rep c r (p ++ S [c] ++ Str.join (S [c]) (q :: t)).cps.toList = (p ++ S r ++ Str.join (S r) (q :: t)).cps.toList
    simp only [Str.cps_append, Array.toList_append, rep_app, S_cps]
    rw [ih, rep_free c r _ (h p (List.mem_cons_self ..)), rep_one]
theorem replace_rep (l r : List Nat) (c : Nat) : Txt.replace (S l) (S [c]) (S r) = S (rep c r l) := by
  have h1 : Txt.replace (S l) (S [c]) (S r) = Str.join (S r) (Txt.split (S l) (S [c])) := StrLaws.replace_one (S l) (S r) c
  have h2 := rep_join c r (Txt.split (S l) (S [c])) (StrLaws.split_free (S l) c)
  rw [StrLaws.join_split, S_cps] at h2
  rw [h1, ← S_of (Str.join _ _), ← h2]
theorem found_c (l : List Nat) (c : Nat) : (!(Builtin.Str.occurrences (S l) (S [c]) 0 (S l).length 1).isEmpty) = decide (c ∈ l) := by
  have h := StrLaws.found_one (S l) c
  rw [S_cps] at h
  exact h
theorem rep_len (c : Nat) (r : List Nat) (k : Nat) (hr : r.length ≤ k) (h1 : 1 ≤ k) : ∀ l : List Nat, (rep c r l).length ≤ k * l.length
  | [] => by simp [rep]
  | d :: l => by
    have ih := rep_len c r k hr h1 l
    unfold rep at ih ⊢
    rw [List.flatMap_cons, List.length_append, List.length_cons, Nat.mul_add, Nat.mul_one]
    have : (if d = c then r else [d]).length ≤ k := by
      split
      · exact hr
      · exact h1
    omega
end Zn
end
section
open PySem PySem.W PyProof.Rows
set_option maxRecDepth 100000
namespace Zn
section
variable {prog : Program} {w : World} {A : Around} {E : Value → Shared → Prop} {s : Shared} {name : Str} {scope : Scope} {L a : Addr} {cd : Value} {h₀ : Heap} {m : Str → Option Value} {news : List (Addr × Obj)}

theorem if_rep {l r : List Nat} {c : Nat} {t : Tok} {y z : Str} {k1 k2 k3 : Nat} {p1 p2 p3 p4 p5 p6 p7 p8 p9 p10 p11 : Pos} {Q : Flow → Shared → Prop}
    (F : Fr h₀ L s.heap m) (N : News h₀ L s.heap news) (ht : 1 ≤ s.toks) (hx : m "text" = some (.str (S l) t))
    (hy : y = S [c]) (hz : z = S r) (hne : [c] ≠ r) (hr : r.length ≤ 7) (hl : l.length ≤ 2000000)
    (he : eval (.Call (.Attribute (.Name "text" p5) "replace" p6) [.Constant (.str y) k2 p7, .Constant (.str z) k3 p8] [] p9) (envOf name scope L a cd) = (do
      let ov ← eval (.Name "text" p5) (envOf name scope L a cd)
      standAt p6.atName
      let (f, first) ← holding [ov] (getMethod ov "replace" (do return (← importBound (.Name "text" p5) (envOf name scope L a cd)).getD true))
      callWith p9 f first (backTo p9 (starEach [.Constant (.str y) k2 p7, .Constant (.str z) k3 p8] (envOf name scope L a cd))) []))
    (hk : scope.kind = .function) (hloc : (envOf name scope L a cd).kindOf "text" = some .local)
    (h : ∀ t' h' tk', 1 ≤ tk' → Fr h₀ L h' (fun y => if y = "text" then some (.str (S (rep c r l)) t') else m y) → News h₀ L h' news → Q .next { s with heap := h', toks := tk' }) :
    wpAny (model prog w) A (exec (.If (.Compare (.Constant (.str y) k1 p1) [.In] [.Name "text" p2] p3)
      [.Assign [.Name "text" p4] (.Call (.Attribute (.Name "text" p5) "replace" p6) [.Constant (.str y) k2 p7, .Constant (.str z) k3 p8] [] p9) p10] [] p11) (envOf name scope L a cd)) Q E s := by
  subst hy hz
  refine wpAny_If (wpAny_isTrue_Compare1 (Calls.Constant_str (ld (s := { s with toks := s.toks + 1 }) F hx (PyProof.Rows.in_str ?_) hk hloc (by decide))))
  rw [found_c]
  refine wpAny_truthy_bool ?_
  by_cases hc : c ∈ l
  · simp only [hc, decide_true, if_true]
    refine wpAny_execs_cons (wpAny_Assign_Name (MethodCall_ (pl := (do return (← importBound (.Name "text" p5) (envOf name scope L a cd)).getD true)) (ld (s := { s with toks := s.toks + 1 }) F hx (GM.replace (callWith_method1 (Calls.spliced_cons (Calls.Constant_str (k := k2) (pos := p7) (Calls.spliced_cons (Calls.Constant_str (k := k3) (pos := p8) (Calls.spliced_nil ?_)))))) ) hk hloc (by decide)) he))
    have h7 : (l.length + 1) * r.length ≤ (l.length + 1) * 7 := Nat.mul_le_mul_left _ hr
    refine wpAny_with_toks (n := 1) (by show 1 ≤ _; dsimp only; omega) (SC.replace (fun e => absurd (show s.toks + 1 = 0 from e) (by omega)) (fun e => absurd (show s.toks + 1 + 1 = 0 from e) (by omega)) (fun e => absurd (show s.toks + 1 = s.toks + 1 + 1 from e) (by omega)) ?_ ?_ ?_)
    · rw [beq_eq_false_iff_ne]
      exact fun e => hne (S_inj e)
    · rw [S_len, S_len]; omega
    · intro t' k hk1
      rw [replace_rep]
      refine stN (s := { s with toks := k }) F N (fun h' F' N' => ?_) hk hloc
      exact wpAny_execs_nil (h t' h' _ (Nat.le_succ_of_le hk1) F' N')
  · simp only [hc, decide_false, Bool.false_eq_true, if_false]
    refine wpAny_execs_nil (h t s.heap _ (Nat.le_succ_of_le ht) ?_ N)
    have e : (fun (y : Str) => if y = "text" then some (Value.str (S (rep c r l)) t) else m y) = m := by
      funext y
      split
      · rename_i e; rw [e, hx, rep_free c r l hc]
      · rfl
    rw [e]; exact F
end
end Zn
end
section
open PySem PySem.W PyProof.Rows
set_option maxRecDepth 100000
namespace Zn
/-- what a call of the def at f does, whatever the caller's frame: d frames and u units of room are asked, R tells the answer -/
noncomputable def Ctr (w : World) (mean : ExcName → Option Value) (mg mb : Str → Option Value) (f : Addr) (d u tm : Nat) (news : List (Addr × Obj)) (vs : List Value) (R : Value → Prop) : Prop :=
  ∀ (dp un : Nat) (gd : Option (List Code)) (cn : Str) (cs : Scope) (a : Addr) (ccd : Value) (cl : List (Str × Addr)) (outer : List Env) (A₀ : Around) (base h₀ : Heap) (L : Addr) (m : Str → Option Value) (s : Shared) (Q E : Value → Shared → Prop),
    Below A₀ base outer h₀ → Fr h₀ L s.heap m → (Zn.hd.heap_39 w.params).In h₀ → News h₀ L s.heap news → Top Zn.hd.view_39 (looseW Zn.hd.view_39 []) mean mg mb h₀ → cs.kind = .function →
    dp + d < recursionLimit → un + u < cLine → tm ≤ s.toks →
    (∀ v h' tk', R v → Fr h₀ L h' m → News h₀ L h' news → Q v { s with heap := h', toks := tk' }) →
      wpAny (model PySem.Challenge.rw_zn0007_01.row.prog w) (ktrTop dp un gd cn cs L a ccd cl outer) (call (.ref f) vs) Q E s

theorem toks_gen {M : Model} {A : Around} {α : Type} {t : Sem α} {Q : α → Shared → Prop} {E : Value → Shared → Prop} {h : Heap} {g : Array GenState} {dr : Drawn} {os : OsState} {n : Nat} (hn : 1 ≤ n)
    (hh : ∀ tk, 1 ≤ tk → wpAny M A t Q E ⟨h, g, dr, tk, os⟩) : wpAny M A t Q E ⟨h, g, dr, n, os⟩ := hh n hn
end Zn
namespace Zn
theorem call_ctr {w : World} {mean : ExcName → Option Value} {mg mb : Str → Option Value} {f : Addr} {d u tm : Nat} {news : List (Addr × Obj)} {vs : List Value} {R : Value → Prop} (C : Ctr w mean mg mb f d u tm news vs R)
    {dp un : Nat} {gd : Option (List Code)} {cn : Str} {cs : Scope} {a : Addr} {ccd : Value} {cl : List (Str × Addr)} {outer : List Env} {A₀ : Around} {base h₀ : Heap} {L : Addr} {m : Str → Option Value} {s : Shared} {Q E : Value → Shared → Prop}
    (B : Below A₀ base outer h₀) (F : Fr h₀ L s.heap m) (X : (Zn.hd.heap_39 w.params).In h₀) (N : News h₀ L s.heap news) (T : Top Zn.hd.view_39 (looseW Zn.hd.view_39 []) mean mg mb h₀) (hk : cs.kind = .function)
    (hd : dp + d < recursionLimit) (hu : un + u < cLine) (ht : tm ≤ s.toks) (ret : ∀ v h' tk', R v → Fr h₀ L h' m → News h₀ L h' news → Q v { s with heap := h', toks := tk' }) :
    wpAny (model PySem.Challenge.rw_zn0007_01.row.prog w) (ktrTop dp un gd cn cs L a ccd cl outer) (call (.ref f) vs) Q E s := C _ _ _ _ _ _ _ _ _ _ _ _ _ _ _ _ _ B F X N T hk hd hu ht ret
theorem drop1 {h₀ h : Heap} {L : Addr} {p : Addr × Obj} {r : List (Addr × Obj)} (N : News h₀ L h (p :: r)) : News h₀ L h r := fun q hq => N q (.tail _ hq)
theorem drop2 {h₀ h : Heap} {L : Addr} {p q : Addr × Obj} {r : List (Addr × Obj)} (N : News h₀ L h (p :: q :: r)) : News h₀ L h r := fun a ha => N a (.tail _ (.tail _ ha))
theorem drop3 {h₀ h : Heap} {L : Addr} {p q o : Addr × Obj} {r : List (Addr × Obj)} (N : News h₀ L h (p :: q :: o :: r)) : News h₀ L h r := fun a ha => N a (.tail _ (.tail _ (.tail _ ha)))
theorem ex_str {x y : Str} {t : Tok} (h : x = y) : ∃ t', Value.str x t = Value.str y t' := ⟨t, by rw [h]⟩
end Zn
end
section
theorem Zn.fresh_ZHide (M : PySem.Model) (A : PySem.Around) (env : PySem.Env) (E : PySem.Value → PySem.Shared → Prop) (s : PySem.Shared) : PySem.wpAny M A (PySem.execs [] env) (fun _ _ => True) E s := by
  w_top off
  k_with_none
  walk1
  trivial
open PySem PySem.W PyProof.Rows
namespace Zn
/-- the goal anew, without the marks that tactics leave upon it (k_fold sees a bare wpAny alone) -/
theorem bare {α : Type} {M : Model} {A : Around} {t : Sem α} {Q : α → Shared → Prop} {E : Value → Shared → Prop} {s : Shared} (H : wpAny M A t Q E s) : wpAny M A t Q E s := H
/-- the post-conditions and the rest of the state under short names: each step of a walk bears them, so a long one makes the proof's term huge -/
theorem hide {α : Type} {M : Model} {A : Around} {t : Sem α} {Q : α → Shared → Prop} {E : Value → Shared → Prop} {h : Heap} {g : _} {d : _} {k : Nat} {o : _}
    (H : ∀ Q' E' g' d' o', (∀ v h k, Q v ⟨h, g, d, k, o⟩ → Q' v ⟨h, g', d', k, o'⟩) → (∀ e h k, E e ⟨h, g, d, k, o⟩ → E' e ⟨h, g', d', k, o'⟩) → wpAny M A t Q' E' ⟨h, g', d', k, o'⟩) :
    wpAny M A t Q E ⟨h, g, d, k, o⟩ := H Q E g d o (fun _ _ _ x => x) (fun _ _ _ x => x)
end Zn
end
section
theorem Zn.fresh_ZAr (M : PySem.Model) (A : PySem.Around) (env : PySem.Env) (E : PySem.Value → PySem.Shared → Prop) (s : PySem.Shared) : PySem.wpAny M A (PySem.execs [] env) (fun _ _ => True) E s := by
  w_top off
  k_with_none
  walk1
  trivial
open PySem PySem.W PyProof.Rows
namespace Zn
-- small steps of reckoning, each proved once: omega in a walk's big context writes a thousand terms a call
theorem up1 (a : Nat) : a ≠ a + 1 := by omega
theorem up2 (a : Nat) : a ≠ a + 1 + 1 := by omega
theorem up3 (a : Nat) : a ≠ a + 1 + 1 + 1 := by omega
theorem up4 (a : Nat) : a ≠ a + 1 + 1 + 1 + 1 := by omega
theorem le1 (a : Nat) : a ≤ a + 1 := by omega
theorem le2 (a : Nat) : a ≤ a + 1 + 1 := by omega
theorem le3 (a : Nat) : a ≤ a + 1 + 1 + 1 := by omega
theorem le4 (a : Nat) : a ≤ a + 1 + 1 + 1 + 1 := by omega
theorem m0 {p : Addr × Obj} {l : List (Addr × Obj)} : p ∈ p :: l := .head _
theorem m1 {p q : Addr × Obj} {l : List (Addr × Obj)} (h : p ∈ l) : p ∈ q :: l := .tail _ h
theorem lt_ne {a d : Addr} {o : Obj} {l : List (Addr × Obj)} (h : AllLt d l) (hm : (a, o) ∈ l) : @Ne Nat a d := Nat.ne_of_lt (ktn_ltOf h (a, o) hm)
theorem off1_mem {d : Addr} : ∀ {l : List (Addr × Obj)}, LCg.Off1 d l → ∀ p ∈ l, @Ne Nat p.1 d
  | [], _, _, hp => nomatch hp
  | _ :: _, h, p, hp => by
    rcases List.mem_cons.mp hp with rfl | hp
    · exact h.1
    · exact off1_mem h.2 p hp
theorem off_ne {a d : Addr} {o : Obj} {l : List (Addr × Obj)} (h : LCg.Off1 d l) (hm : (a, o) ∈ l) : @Ne Nat a d := off1_mem h (a, o) hm
theorem all_ne1 {a d : Addr} {o : Obj} {l : List (Addr × Obj)} (h : ∀ p ∈ l, p.1 ≠ d) (hm : (a, o) ∈ l) : @Ne Nat a d := h (a, o) hm
theorem lt_le {d c : Addr} {l : List (Addr × Obj)} (h : AllLt d l) (e : @LE.le Nat _ d c) : ∀ p ∈ l, p.1 ≠ c := fun p hp q => by
  have h1 : @LT.lt Nat _ p.1 d := ktn_ltOf h p hp
  have q' : @Eq Nat p.1 c := q
  omega
theorem lt_ne_le {a d c : Addr} {o : Obj} {l : List (Addr × Obj)} (h : AllLt d l) (e : @LE.le Nat _ d c) (hm : (a, o) ∈ l) : @Ne Nat a c := lt_le h e (a, o) hm
theorem lt_all {d : Addr} {l : List (Addr × Obj)} (h : AllLt d l) : ∀ p ∈ l, p.1 ≠ d := lt_le h (Nat.le_refl _)
theorem off_all {d : Addr} {l : List (Addr × Obj)} (h : LCg.Off1 d l) : ∀ p ∈ l, p.1 ≠ d := off1_mem h
theorem lt_suf {d : Addr} {l r : List (Addr × Obj)} (h : AllLt d l) (s : ∀ p ∈ r, p ∈ l) : ∀ p ∈ r, p.1 ≠ d := fun p hp => lt_all h p (s p hp)
theorem off_suf {d : Addr} {l r : List (Addr × Obj)} (h : LCg.Off1 d l) (s : ∀ p ∈ r, p ∈ l) : ∀ p ∈ r, p.1 ≠ d := fun p hp => off1_mem h p (s p hp)
theorem room {a b c k : Nat} (h : a + k < c) (e : b ≤ k) : a + b < c := by omega
theorem mil {a n k : Nat} (h : a ≤ n) (h7 : n ≤ k) (e : k ≤ 1000000) : a ≤ 1000000 := by omega
theorem milS {a n k : Nat} (h : a ≤ n) (h7 : n ≤ k) (e : k ≤ 1000000) : a ≤ sizeLine := by rw [sizeLine_eq]; omega
theorem mil_lt {a n k : Nat} (h : a < n) (h7 : n ≤ k) (e : k ≤ 1000000) : a ≤ 1000000 := by omega
theorem milS_lt {a n k : Nat} (h : a < n) (h7 : n ≤ k) (e : k ≤ 1000000) : a ≤ sizeLine := by rw [sizeLine_eq]; omega
theorem mil_sum {a b x y : Nat} (h : a ≤ x) (h' : b ≤ y) (e : x + y ≤ 1000000) : a + b ≤ 1000000 := by omega
theorem lt_sub {i n b : Nat} (h : i < n - b) : b + i < n := by omega
theorem cast_add (a b : Nat) : (a : Int) + (b : Int) = ((a + b : Nat) : Int) := rfl
theorem cast_add1 (a b : Nat) : (a : Int) + 1 + (b : Int) = ((a + 1 + b : Nat) : Int) := rfl
theorem cast_way {a i : Nat} (h : (a : Int) = 0 + (i : Int) * 1) : a = i := by omega
theorem cast_nway {a i : Nat} (h : ¬ (a : Int) = 0 + (i : Int) * 1) : ¬ a = i := by omega
/-- some of a list, by their places -/
noncomputable def pk {α : Type} : List α → Nat → List α
  | [], _ => []
  | x :: _, 0 => [x]
  | _ :: t, n + 1 => pk t n
noncomputable def pks {α : Type} (l : List α) : List Nat → List α
  | [] => []
  | n :: t => pk l n ++ pks l t
theorem pk_sub {α : Type} {q : α} : ∀ (l : List α) (n : Nat), q ∈ pk l n → q ∈ l
  | _ :: _, 0, h => by rw [List.mem_singleton.mp h]; exact .head _
  | _ :: t, n + 1, h => .tail _ (pk_sub t n h)
theorem pks_sub {α : Type} {q : α} (l : List α) : ∀ is, q ∈ pks l is → q ∈ l
  | n :: t, h => (List.mem_append.mp h).elim (pk_sub l n) (pks_sub l t)
theorem news_pick {h₀ h : Heap} {L : Addr} {big small : List (Addr × Obj)} (is : List Nat) (k : Nat) (N : News h₀ L h big) (e : pks big is ++ big.drop k = small) : News h₀ L h small := fun q hq => N q (by
  rw [← e] at hq
  exact (List.mem_append.mp hq).elim (pks_sub big is) List.mem_of_mem_drop)
/-- the same around a list of unknown length -/
theorem news_pick2 {h₀ h : Heap} {L : Addr} {p : Addr × Obj} {tups mid dat small : List (Addr × Obj)} (is : List Nat) (N : News h₀ L h (p :: (tups ++ (mid ++ dat)))) (e : pks (p :: mid) is ++ (tups ++ dat) = small) : News h₀ L h small := fun q hq => N q (by
  rw [← e] at hq
  rcases List.mem_append.mp hq with h1 | h1
  · rcases List.mem_cons.mp (pks_sub _ is h1) with h2 | h2
    · rw [h2]; exact .head _
    · exact .tail _ (List.mem_append.mpr (.inr (List.mem_append.mpr (.inl h2))))
  · rcases List.mem_append.mp h1 with h2 | h2
    · exact .tail _ (List.mem_append.mpr (.inl h2))
    · exact .tail _ (List.mem_append.mpr (.inr (List.mem_append.mpr (.inr h2)))))
noncomputable def Halt (p : Prop) : Prop := p
theorem Halt.go {p : Prop} (h : Halt p) : p := h
end Zn
end
section
theorem Zn.fresh_ZBa0 (M : PySem.Model) (A : PySem.Around) (env : PySem.Env) (E : PySem.Value → PySem.Shared → Prop) (s : PySem.Shared) : PySem.wpAny M A (PySem.execs [] env) (fun _ _ => True) E s := by
  w_top off
  k_with_none
  walk1
  trivial
open PySem PySem.W PyProof.Rows
set_option maxRecDepth 100000
namespace Zn
section
variable {prog : Program} {w : World} {A : Around} {s : Shared}
theorem codeP_builtin {id : String} {args : Args} {b : Builtin} {R : Result → Shared → Prop} (hb : entryFor table id = some b)
    (h : wpP (model prog w) (A.under (.builtin id args)) (b args) (fun fin s' => match fin with | .done f => R (.ok f) s' | .again c' => c'.quiet = true ∧ cleanC c' = true ∧ codeP (model prog w) A c' R s') (fun e s' => R (.error e) s') s) :
    codeP (model prog w) A (.builtin id args) R s := by
  refine codeP_tree ?_
  show wpP _ _ (match entryFor table id with | some b => b args | none => unsupported ((withoutEnding? id "#data").getD id)) _ _ s
  rw [hb]; exact h
theorem ba_mro : mroOf (.type "bytearray") = pure [.type "bytearray", .type "object"] := by rw [mroOf_type]; kernel_rfl
theorem ba_lookup_new : typeLookup (.type "bytearray") "__new__" = pure (some (.builtin "bytearray.__new__")) := by rw [typeLookup_type, builtinLookup_eq_fast]; kernel_rfl
theorem ba_made : Bind.madeBy (.type "bytearray") = pure (some "bytearray.__new__") := madeBy_type ba_mro ba_lookup_new (by decide +kernel)
theorem ba_plain_new : plainId "bytearray.__new__" = true := by decide +kernel
theorem ba_plain_init : plainId "bytearray.__init__" = true := by decide +kernel
theorem ba_entry_new : entryFor table "bytearray.__new__" = some Builtin.«list.__new__» := by
  first
    | exact entryFor_alias (id' := "list.__new__") (by kernel_rfl) rfl (by decide +kernel) (by kernel_rfl)
    | exact entryFor_of_tree (by kernel_rfl)
theorem ba_entry_init : entryFor table "bytearray.__init__" = some Builtin.«bytearray.__init__» := by first | exact entryFor_of_fast (by kernel_rfl) | exact entryFor_of_tree (by kernel_rfl)
theorem ba_slot_init : Slot "bytearray" "__init__" "bytearray.__init__" :=
  .of (owner := "bytearray") (n := "__init__") (by rw [typeLookup_type, builtinLookup_eq_fast]; kernel_rfl) (by decide +kernel) (by decide +kernel) (by decide +kernel)
    (by first | exact .inl (by decide +kernel) | exact .inr (by decide +kernel)) (by rw [isSubtype_type]; kernel_rfl)
theorem ba_sub : isSubtype (.type "bytearray") (.type "bytearray") = pure true := by rw [isSubtype_type]; kernel_rfl
theorem ba_typeCall (a : Value) : checkTypeCall "bytearray" ⟨[a], []⟩ = pure () := by kernel_rfl
theorem ba_newCall (a : Value) : checkBuiltinCall "bytearray.__new__" ⟨[.type "bytearray", a], []⟩ = pure () := by kernel_rfl
theorem ba_initArgs (a b : Value) : argsOk "bytearray.__init__" ⟨[a, b], []⟩ := by unfold argsOk; kernel_rfl

theorem P_if_no {α : Type} {M : Model} {E : Value → Shared → Prop} {c : Bool} {a b : Sem α} {Q : α → Shared → Prop} (hc : c = false) (h : wpP M A b Q E s) : wpP M A (if c = true then a else b) Q E s := by
  subst hc
  exact h
theorem P_if_yes {α : Type} {M : Model} {E : Value → Shared → Prop} {c : Bool} {a b : Sem α} {Q : α → Shared → Prop} (hc : c = true) (h : wpP M A a Q E s) : wpP M A (if c = true then a else b) Q E s := by
  subst hc
  exact h
theorem ba_owner : ("bytearray.__new__".splitOn ".__new__").headD "" = "bytearray" := by simp +decide [String.splitOn, String.splitOnAux]
theorem ba_noDict : (typeHasDict (.type "bytearray")) = false := by decide +kernel
theorem ba_new {a : Value} {R : Result → Shared → Prop} (h : R (.ok (.ret (.ref s.heap.objs.size))) { s with heap := s.heap.push { cls := .type "bytearray", data := .bytearray #[] } }) :
    codeAny (model prog w) A (.call (.builtin "bytearray.__new__") ⟨[.type "bytearray", a], []⟩) R s := by
  refine codeAny_of_tree ?_
  show wpAny _ A.in1 (do checkBuiltinCall "bytearray.__new__" ⟨[.type "bytearray", a], []⟩; again (.builtin "bytearray.__new__" ⟨[.type "bytearray", a], []⟩)) _ _ s
  refine wpAny_bind (wpAny_of_eq (ba_newCall a) (wpAny_pure ⟨plainId_quiet ba_plain_new _, codeAny_builtin_stack ba_entry_new rfl fun p st => ?_⟩))
  rw [Around.under_plainId ba_plain_new _]
  have hsub := ba_sub
  have hown := ba_owner
  have hnd := ba_noDict
  obtain ⟨hp, g, d, tk, os⟩ := s
  simp only [hown]
  wp_walk
  exact h
end
end Zn
end
section
open PySem PySem.W PyProof.Rows
set_option maxRecDepth 100000
namespace Zn
section
variable {prog : Program} {w : World} {A : Around} {s : Shared}
/-- the first part of type.__call__: a new bytearray, then its __init__ -/
theorem P_typeCall {n : Int} {t : Tok} {Q : Value → Shared → Prop}
    (h : wpP (model prog w) A.in1 (call (.builtin "bytearray.__init__") [.ref s.heap.objs.size, .int n t]) (fun r s' => r = .none ∧ Q (.ref s.heap.objs.size) s') Nev { s with heap := s.heap.push { cls := .type "bytearray", data := .bytearray #[] } }) :
    wpP (model prog w) A (call (.type "bytearray") [.int n t]) Q Nev s := by
  refine P_call (codeP_tree ?_)
  show wpP _ _ (callAny (.type "bytearray") _) _ _ _
  refine P_pure ⟨Code.quiet_builtin _ (by decide +kernel), rfl, codeP_builtin F.entry_type_call ?_⟩
  rw [Around.under_plain (weight_type_call_type _ _ []) rfl]
  unfold Builtin.«type.__call__»
  dsimp only
  refine P_if_no (by decide) ?_
  refine P_if_no (by decide +kernel) ?_
  refine P_step (wpAny_of_eq (ba_typeCall _) ?_)
  refine P_step (wpAny_of_eq ba_mro ?_)
  refine P_if_no rfl ?_
  refine P_step (wpAny_of_eq ba_made ?_)
  dsimp only
  refine P_bind (P_pure ?_)
  refine P_step (wpAny_holding (wpAny_call (ba_new ?_)))
  dsimp only
  have hT : ({ s with heap := s.heap.push { cls := .type "bytearray", data := .bytearray #[] } } : Shared).TypeIs (.ref s.heap.objs.size) "bytearray" := ⟨_, Heap.get?_push_size _ rfl, rfl⟩
  refine P_step (wpAny_isInstance hT ba_sub ?_)
  refine P_if_no rfl ?_
  refine P_bind (P_holding ?_)
  simp only [callSpecial?]
  refine P_step (wpAny_specialOf hT ba_slot_init.lookup ?_)
  simp only [ba_slot_init.bind]
  refine P_holding (P_bind (P_pure (P_bind (P_mono (P_nev h) (fun r s' hr => ?_) fun _ _ e => e))))
  obtain ⟨rfl, hq⟩ := hr
  refine P_pure ?_
  dsimp only
  refine P_if_no rfl ?_
  exact P_pure hq
end
end Zn
end
section
theorem Zn.fresh_ZBa2 (M : PySem.Model) (A : PySem.Around) (env : PySem.Env) (E : PySem.Value → PySem.Shared → Prop) (s : PySem.Shared) : PySem.wpAny M A (PySem.execs [] env) (fun _ _ => True) E s := by
  w_top off
  k_with_none
  walk1
  trivial
open PySem PySem.W PyProof.Rows
set_option maxRecDepth 100000
namespace Zn
theorem ba_look_release : typeLookup (.type "bytearray") "__release_buffer__" = pure (some (.builtin "bytearray.__release_buffer__")) := by rw [typeLookup_type, builtinLookup_eq_fast]; kernel_rfl
theorem ba_bind (v : Value) : Builtin.Bytes.bindOptional "bytearray.__init__" "bytearray" ["source", "encoding", "errors"] [v] [] = pure [some v, none, none] := by kernel_rfl
theorem dite_no {β : Type} {P : β → Prop} {c : Prop} [d : Decidable c] {a : c → β} {b : ¬c → β} (h : ¬c) (hb : P (b h)) : P (dite c a b) := by rw [dif_neg h]; exact hb
theorem no_guard {id s : String} (h2 : guardIds.contains id = false) (hs : guardIds.contains s = true) : ¬ id = s := fun e => by
  rw [e, hs] at h2; cases h2
theorem exp_no (v : Value) (c : Code) (q : Pos) (h2 : c.isGuard = false) (h1 : cleanC c = true) :
    Builtin.Bytes.exported.match_1 (motive := fun _ => Bool) (c, q) (fun x _ _ _ => Builtin.Bytes.sameRef x v) (fun x _ _ _ => Builtin.Bytes.sameRef x v) (fun _ x _ _ _ => Builtin.Bytes.sameRef x v) (fun x _ _ _ => Builtin.Bytes.sameRef x v)
      (fun _ _ held _ _ => held.any (Builtin.Bytes.sameRef v)) (fun id x _ _ _ => Builtin.Bytes.sameRef x v && Builtin.Bytes.decodersThatHold.contains id) (fun _ => false) = false := by
  cases c
  case builtin id args =>
    obtain ⟨pos, kw⟩ := args
    delta Builtin.Bytes.exported.match_1 Builtin.Bytes.exported._sparseCasesOn_1
    refine dite_no (P := fun x => x = false) (no_guard (s := "bytearray.__contains__") h2 (by decide +kernel)) ?_
    refine dite_no (P := fun x => x = false) (no_guard (s := "bytearray.__mod__") h2 (by decide +kernel)) ?_
    refine dite_no (P := fun x => x = false) (no_guard (s := "bytearray.__rmod__") h2 (by decide +kernel)) ?_
    refine dite_no (P := fun x => x = false) (no_guard (s := "_struct.pack_into.held") h2 (by decide +kernel)) ?_
    refine dite_no (P := fun x => x = false) (no_guard (s := "bytearray.find.held") h2 (by decide +kernel)) ?_
    cases pos with
    | nil => rfl
    | cons x t =>
      have h3 : Builtin.Bytes.decodersThatHold.contains id = false := by
        cases e : Builtin.Bytes.decodersThatHold.contains id with
        | false => rfl
        | true => exact absurd h1 (by show ¬ (!_) = true; rw [e]; decide)
      show (_ && _) = false
      rw [h3, Bool.and_false]
  all_goals rfl
section
variable {prog : Program} {w : World} {A : Around} {E : Value → Shared → Prop} {s : Shared}
theorem ba_own {D : Addr} {Q : Bool → Shared → Prop} (hT : s.TypeIs (.ref D) "bytearray") (h : Q false s) : wpAny (model prog w) A (Builtin.Bytes.ownRelease (.ref D)) Q E s := by
  unfold Builtin.Bytes.ownRelease Builtin.Bytes.slotIsOwn
  refine wpAny_bind (wpAny_bind (wpAny_specialOf hT ba_look_release ?_))
  dsimp only
  refine bm_if_false (by decide +kernel) ?_
  have e : ("bytearray.__release_buffer__".dropRight ("__release_buffer__".length + 1)) = "bytearray" := by decide +kernel
  rw [e]
  refine wpAny_isInstance (T := "bytearray") (b := true) hT ba_sub ?_
  exact wpAny_pure h
/-- on a clean stack nothing exports -/
theorem P_exported {v : Value} {Q : Bool → Shared → Prop} (hg : A.guards = some []) (h : Q false s) : wpP (model prog w) A (Builtin.Bytes.exported v) Q Nev s := by
  intro Γ p hΓ hC
  unfold Builtin.Bytes.exported
  have hgs : guardsOf ((Γ.code, p) :: Γ.below) = [] := by rw [guardsOf_cons]; exact hΓ.2.2.2.1 [] hg
  have hcl : ∀ x ∈ (Γ.code, p) :: Γ.below, cleanC x.1 = true := fun x hx => by
    rcases List.mem_cons.mp hx with rfl | hx
    · exact hC.1
    · exact hC.2 x hx
  have hng : ∀ x ∈ (Γ.code, p) :: Γ.below, x.1.isGuard = false := fun x hx => by
    cases e : x.1.isGuard with
    | false => rfl
    | true =>
      have : x.1 ∈ guardsOf ((Γ.code, p) :: Γ.below) := by
        unfold guardsOf
        exact List.mem_filter.mpr ⟨List.mem_map.mpr ⟨x, hx, rfl⟩, e⟩
      rw [hgs] at this
      cases this
  show Q (((Γ.code, p) :: Γ.below).any _) s
  rw [List.any_eq_false.mpr]
  · exact h
  · intro x hx
    obtain ⟨c, q⟩ := x
    exact ne_true_of_eq_false (exp_no v c q (hng _ hx) (hcl _ hx))
end
end Zn
end
section
open PySem PySem.W PyProof.Rows
set_option maxRecDepth 100000
namespace Zn
noncomputable abbrev baObj (b : Array UInt8) : Obj := { cls := .type "bytearray", data := .bytearray b }
section
variable {prog : Program} {w : World} {A : Around} {E : Value → Shared → Prop} {s : Shared}
theorem ba_write {D : Addr} {b : Array UInt8} {f : Array UInt8 → Array UInt8} {Q : Unit → Shared → Prop} (hD : s.heap.get? D = some (baObj b)) (hz : (f b).size ≤ 16777216)
    (h : ∀ h', h'.get? D = some (baObj (f b)) → Heap.SameBut D s.heap h' → Q () { s with heap := h' }) : wpAny (model prog w) A (Builtin.Bytes.write (.ref D) f) Q E s := by
  show wpAny _ _ (updateBytearray D f) _ _ _
  unfold updateBytearray
  refine wpAny_bind (wpAny_load hD ?_)
  show wpAny _ _ (update D (Obj.mapBytearray f) >>= fun _ => lookBehind D) _ _ _
  refine wpAny_bind (wpAny_update hD ?_)
  have h₂ : (s.heap.update D (Obj.mapBytearray f)).get? D = some (baObj (f b)) := Heap.get?_update_self (Obj.mapBytearray f) hD rfl
  refine wpAny_lookBehind h₂ ?_ (h _ h₂ (Heap.SameBut.update ..))
  show (if (f b).size > sizeLine then some "bytearray:memory" else none) = none
  rw [if_neg]
  rw [sizeLine_eq]; omega
theorem P_init {D : Addr} {n : Int} {t : Tok} {Q : Value → Shared → Prop} (h0 : 0 ≤ n) (hn : n ≤ 16777216) (hg : A.guards = some []) (hD : s.heap.get? D = some (baObj #[]))
    (h : ∀ h', h'.get? D = some (baObj (Array.replicate n.toNat 0)) → (∀ b o, b ≠ D → s.heap.get? b = some o → h'.get? b = some o) → Q .none { s with heap := h' }) :
    wpP (model prog w) A (call (.builtin "bytearray.__init__") [.ref D, .int n t]) Q Nev s := by
  have hT : s.TypeIs (.ref D) "bytearray" := ⟨_, hD, rfl⟩
  refine P_call (codeP_tree ?_)
  show wpP _ A.in1 (do checkBuiltinCall "bytearray.__init__" ⟨[.ref D, .int n t], []⟩; again (.builtin "bytearray.__init__" ⟨[.ref D, .int n t], []⟩)) _ _ s
  refine P_step (ba_slot_init.check _ _ _ _ _ _ _ _ hT (ba_initArgs _ _) (P_pure ⟨plainId_quiet ba_plain_init _, rfl, codeP_builtin ba_entry_init ?_⟩))
  rw [Around.under_plainId ba_plain_init _]
  unfold Builtin.«bytearray.__init__»
  dsimp only
  refine P_step (ba_own hT ?_)
  refine P_if_no rfl ?_
  refine P_step (wpAny_of_eq (ba_bind _) ?_)
  dsimp only
  refine P_step (wpAny_of_eq (a := ()) rfl ?_)
  refine P_step (wpAny_of_eq (a := ()) rfl ?_)
  refine P_bind (P_bind (P_exported (by exact hg) ?_))
  show wpP _ _ (do let k ← Builtin.Bytes.exportsOf (Value.ref D); pure (decide (k > 0))) _ _ _
  unfold Builtin.Bytes.exportsOf
  refine P_step (wpAny_bind (wpAny_load hD (wpAny_pure ?_)))
  refine P_pure ?_
  refine P_if_no rfl ?_
  refine P_step (ba_write hD (by simp) fun h₁ hD₁ hs₁ => ?_)
  refine P_step (wpAny_of_eq (a := none) rfl ?_)
  refine P_if_no rfl ?_
  refine P_step (wpAny_of_eq (a := ()) rfl ?_)
  refine P_step (wpAny_specialOf (T := "int") (typeIs_int _ _ _) int_index ?_)
  refine P_if_yes rfl ?_
  refine P_step (wpAny_of_eq (a := Except.ok n) rfl ?_)
  dsimp only
  refine P_if_no (by simp only [Builtin.Bytes.fitsIndex, Bool.not_eq_false', Bool.and_eq_true, decide_eq_true_eq]; omega) ?_
  refine P_ite ?_
  rw [if_neg (by omega)]
  refine P_if_no (by rw [beq_eq_false_iff_ne]; omega) ?_
  refine P_if_no (by simp only [Builtin.Bytes.tooLong, decide_eq_false_iff_not]; rw [sizeLine_eq]; omega) ?_
  refine P_step (wpAny_rule ?_)
  refine P_ite ?_
  split
  · refine P_step (ba_write hD₁ (by rw [Array.size_replicate]; omega) fun h₂ hD₂ hs₂ => ?_)
    refine P_pure (h h₂ hD₂ fun b o hb e => ?_)
    exact hs₂.extBut b o hb (hs₁.extBut b o hb e)
  · refine P_pure (h h₁ ?_ fun b o hb e => hs₁.extBut b o hb e)
    have e : n.toNat = 0 := by omega
    rw [e]
    exact hD₁
/-- bytearray(n) -/
theorem P_bytearray {n : Int} {t : Tok} {Q : Value → Shared → Prop} (h0 : 0 ≤ n) (hn : n ≤ 16777216) (hg : A.guards = some [])
    (h : ∀ h', h'.get? s.heap.objs.size = some (baObj (Array.replicate n.toNat 0)) → (∀ b o, s.heap.get? b = some o → h'.get? b = some o) → Q (.ref s.heap.objs.size) { s with heap := h' }) :
    wpP (model prog w) A (call (.type "bytearray") [.int n t]) Q Nev s := by
  refine P_typeCall (P_init h0 hn hg (Heap.get?_push_size _ rfl) fun h' hD hk => ⟨rfl, h h' hD fun b o e => hk b o (Nat.ne_of_lt (Heap.lt_size e)) (Heap.get?_push_of_some _ e)⟩)
end
end Zn
end
section
open PySem PySem.W PyProof.Rows
set_option maxRecDepth 100000
namespace Zn
theorem ba_slot_set : Slot "bytearray" "__setitem__" "bytearray.__setitem__" :=
  .of (owner := "bytearray") (n := "__setitem__") (by rw [typeLookup_type, builtinLookup_eq_fast]; kernel_rfl) (by decide +kernel) (by decide +kernel) (by decide +kernel)
    (by first | exact .inl (by decide +kernel) | exact .inr (by decide +kernel)) (by rw [isSubtype_type]; kernel_rfl)
theorem ba_entry_set : entryFor table "bytearray.__setitem__" = some Builtin.«bytearray.__setitem__» := by first | exact entryFor_of_fast (by kernel_rfl) | exact entryFor_of_tree (by kernel_rfl)
theorem ba_args_set (a b c : Value) : argsOk "bytearray.__setitem__" ⟨[a, b, c], []⟩ := by unfold argsOk; kernel_rfl
section
variable {prog : Program} {w : World} {A : Around} {E : Value → Shared → Prop} {s : Shared}
theorem ba_setItem {D : Addr} {b : Array UInt8} {k x : Int} {t u : Tok} {Q : Unit → Shared → Prop} (hD : s.heap.get? D = some (baObj b)) (h0 : 0 ≤ k) (hk : k < b.size) (hz : b.size ≤ 16777216) (x0 : 0 ≤ x) (x1 : x < 256)
    (h : ∀ h', h'.get? D = some (baObj (b.setIfInBounds k.toNat x.toNat.toUInt8)) → Heap.SameBut D s.heap h' → Q () { s with heap := h' }) : wpAny (model prog w) A (setItem (.ref D) (.int k t) (.int x u)) Q E s := by
  have hT : s.TypeIs (.ref D) "bytearray" := ⟨_, hD, rfl⟩
  unfold setItem
  try with_reducible refine wpAny_holding ?_
  refine wpAny_bind (wpAny_sequenceKey hT (by decide) ?_)
  refine wpAny_bind (wpAny_callSpecial?_slot (name := Str.ofString "__setitem__") hT ba_slot_set
    (wpAny_call_entry ba_slot_set hT ba_entry_set ?_ (ba_args_set _ _ _)))
  unfold Builtin.«bytearray.__setitem__»
  dsimp only
  refine bm_if_false rfl ?_
  unfold Builtin.Bytes.subscript? Builtin.Bytes.byteValue Builtin.Bytes.payload Builtin.Bytes.payload?
  refine wpAny_bind (wpAny_bind (wpAny_specialOf (T := "int") (typeIs_int _ _ _) int_index ?_))
  refine bm_if_false rfl ?_
  refine wpAny_bind (wpAny_of_eq (a := k) rfl ?_)
  refine bm_if_false (by simp only [Builtin.Bytes.fitsIndex, Bool.not_eq_false', Bool.and_eq_true, decide_eq_true_eq]; omega) ?_
  refine wpAny_pure ?_
  dsimp only
  refine wpAny_bind (wpAny_bind (wpAny_of_eq (a := x) rfl ?_))
  refine bm_if_false (by simp only [Bool.or_eq_false_iff, decide_eq_false_iff_not]; omega) ?_
  refine wpAny_pure ?_
  refine wpAny_bind (wpAny_bind (wpAny_bind (wpAny_load hD ?_)))
  refine wpAny_pure (wpAny_pure ?_)
  have hs : seqIndex? k b.size = some k.toNat := by
    unfold seqIndex?
    dsimp only
    rw [if_neg (by omega : ¬ k < 0)]
    exact if_pos (by simp [h0, hk])
  rw [hs]
  dsimp only
  refine wpAny_bind (ba_write hD (by simpa using hz) fun h₁ hD₁ hs₁ => ?_)
  first
    | exact wpAny_bind (wpAny_pure (wpAny_pure ⟨.none, rfl, wpAny_pure (h h₁ hD₁ hs₁)⟩))
    | exact wpAny_pure ⟨.none, rfl, wpAny_pure (h h₁ hD₁ hs₁)⟩
theorem ba_get_bytes : typeLookup (.type "bytearray") "__bytes__" = pure none := by rw [typeLookup_type, builtinLookup_eq_fast]; kernel_rfl
theorem ba_get_index : typeLookup (.type "bytearray") "__index__" = pure none := by rw [typeLookup_type, builtinLookup_eq_fast]; kernel_rfl
theorem ba_get_buffer : typeLookup (.type "bytearray") "__buffer__" = pure (some (.builtin "bytearray.__buffer__")) := by rw [typeLookup_type, builtinLookup_eq_fast]; kernel_rfl
theorem ba_bytes_new {D : Addr} {b : Array UInt8} {Q : Value → Shared → Prop} (hD : s.heap.get? D = some (baObj b)) (hz : b.size ≤ 16777216) (hQ : ∀ t k, Q (.bytes b t) { s with toks := k }) :
    codeAny (model prog w) A (.call (.builtin "bytes.__new__") ⟨[.type "bytes", .ref D], []⟩) (wants Q E) s := by
  refine codeAny_of_tree ?_
  show wpAny _ A.in1 (do checkBuiltinCall "bytes.__new__" ⟨[.type "bytes", .ref D], []⟩; again (.builtin "bytes.__new__" ⟨[.type "bytes", .ref D], []⟩)) _ _ s
  refine wpAny_bind (wpAny_of_eq (F.bm_newCall _) (wpAny_pure ⟨plainId_quiet F.bm_plain _, codeAny_builtin F.bm_entry ?_⟩))
  rw [Around.under_plainId F.bm_plain _]
  have hT : s.TypeIs (.ref D) "bytearray" := ⟨_, hD, rfl⟩
  unfold Builtin.«bytes.__new__»
  refine wpAny_bind (wpAny_of_eq (a := true) rfl ?_)
  refine bm_if_false rfl ?_
  refine wpAny_bind (wpAny_of_eq F.bm_sub ?_)
  refine bm_if_false rfl ?_
  refine wpAny_bind (wpAny_of_eq (F.bm_bind _) ?_)
  refine wpAny_bind (wpAny_of_eq (a := ()) rfl ?_)
  refine wpAny_bind (wpAny_of_eq (a := ()) rfl ?_)
  refine bm_if_false rfl ?_
  refine wpAny_bind (wpAny_specialOf hT ba_get_bytes ?_)
  refine wpAny_bind (wpAny_bind ?_)
  show wpAny _ _ (load D >>= _) _ _ _
  refine wpAny_bind (wpAny_load hD ?_)
  refine wpAny_pure (wpAny_pure ?_)
  refine bm_if_false rfl ?_
  refine wpAny_bind (wpAny_specialOf hT ba_get_index ?_)
  refine bm_if_true rfl ?_
  first
    | show wpAny _ _ (Builtin.Bytes.buffer? "bytes.__new__" (.ref D) true >>= _) _ _ _
    | (refine wpAny_bind ?_; show wpAny _ _ (Builtin.Bytes.buffer? "bytes.__new__" (.ref D) true >>= _) _ _ _)
  refine wpAny_bind ?_
  unfold Builtin.Bytes.buffer? Builtin.Bytes.slotIsOwn
  refine wpAny_bind (wpAny_specialOf hT ba_get_buffer ?_)
  dsimp only
  refine wpAny_bind (wpAny_bind (wpAny_specialOf hT ba_get_buffer ?_))
  dsimp only
  refine bm_if_false (by decide +kernel) ?_
  have e : ("bytearray.__buffer__".dropRight ("__buffer__".length + 1)) = "bytearray" := by decide +kernel
  rw [e]
  refine wpAny_isInstance (T := "bytearray") (b := true) hT ba_sub ?_
  refine bm_if_false rfl ?_
  refine wpAny_bind (wpAny_specialOf hT ba_get_buffer ?_)
  refine wpAny_bind (ba_own hT ?_)
  refine bm_if_false rfl ?_
  unfold Builtin.Bytes.payload Builtin.Bytes.payload?
  refine wpAny_bind (wpAny_bind (wpAny_bind (wpAny_load hD ?_)))
  refine wpAny_pure (wpAny_pure (wpAny_pure ?_))
  dsimp only
  refine wpAny_bind (wpAny_rule ?_)
  refine wpAny_bind (wpAny_mkBytes ?_ (by rw [sizeLine_eq]; omega))
  show wpAny _ _ (if (Value.type "bytes" == Value.type "bytes") = true then _ else _) _ _ _
  refine bm_if_true (by decide) ?_
  first
    | exact wpAny_pure (hQ _ _)
    | exact wpAny_bind (wpAny_pure (wpAny_pure (hQ _ _)))
theorem ba_bytes {D : Addr} {b : Array UInt8} {Q : Value → Shared → Prop} (hD : s.heap.get? D = some (baObj b)) (hz : b.size ≤ 16777216) (hQ : ∀ t k, Q (.bytes b t) { s with toks := k }) :
    wpAny (model prog w) A (call (.type "bytes") [.ref D]) Q E s := by
  refine callType_codes (Q₁ := fun obj s₁ => s₁.TypeIs obj "bytes" ∧ Q obj s₁) F.bm_called (F.bm_typeCall _) F.entry_object_init
    (ba_bytes_new hD hz fun t k => ⟨PySem.W.typeIs_bytes _ _ _, hQ t k⟩) fun obj s₁ h₁ => ?_
  exact ⟨h₁.1, F.args_object_init_2 obj _, object_init_meets F.bm_called.init.lookup F.bm_called.made (by decide) prog w A.in1 _ s₁ ⟨h₁.1, rfl, h₁.2⟩⟩
end
end Zn
end
section
open PySem PySem.W PyProof.Rows
set_option maxRecDepth 100000
namespace Zn
section
variable {prog : Program} {w : World} {A : Around} {E : Value → Shared → Prop} {s : Shared} {env : Env} {h₀ : Heap} {L : Addr}

/-- a turn's end: the frame, the ledger with the iterator ahead of it, and the word at the next place -/
noncomputable def TurnEnd (h₀ : Heap) (L : Addr) (I : Addr) (oI : Obj) (s : Shared) (news₀ : List (Addr × Obj)) (J : (Str → Option Value) → List (Addr × Obj) → Prop) (s₃ : Shared) : Prop :=
  ∃ h' tk' m' nx', s₃ = { s with heap := h', toks := tk' } ∧ Fr h₀ L h' m' ∧ News h₀ L h' ((I, oI) :: nx') ∧ (∀ p ∈ nx', p ∈ news₀ ∨ p.2.cls ≠ .type "list_iterator") ∧ J m' nx'
noncomputable def TurnQ (h₀ : Heap) (L : Addr) (I : Addr) (oI : Obj) (s : Shared) (news₀ : List (Addr × Obj)) (J : (Str → Option Value) → List (Addr × Obj) → Prop) (Q : Flow → Shared → Prop) (f : Flow) (s₃ : Shared) : Prop :=
  match f with
  | .next | .cont => TurnEnd h₀ L I oI s news₀ J s₃
  | .brk => Q .next s₃
  | .ret v => Q (.ret v) s₃

theorem iter_list {target : Expr} {body : List Stmt} {l : Addr} {vs : List Value} {m₀ : Str → Option Value} {news₀ : List (Addr × Obj)} {Q : Flow → Shared → Prop} (J : Nat → (Str → Option Value) → List (Addr × Obj) → Prop)
    (hh : A.handled = none) (F : Fr h₀ env.locals s.heap m₀) (N : News h₀ env.locals s.heap news₀)
    (hS : ∀ i m nx, J i m nx → LCg.SrcAt h₀ l vs.toArray nx) (h0 : J 0 m₀ news₀)
    (hgo : (∀ it v, letOwnedTupleGo target it v = pure ()) ∨ ((∃ elts x1 pos, target = .Tuple elts x1 pos) ∧ ∀ v ∈ vs, ∃ a, v = .ref a))
    (turn : ∀ i v I oI m nx h tk, vs[i]? = some v → J i m nx → 0 ≤ tk → Fr h₀ env.locals h m → News h₀ env.locals h ((I, oI) :: nx) → (∀ p ∈ nx, p ∈ news₀ ∨ p.2.cls ≠ .type "list_iterator") → (∀ p ∈ nx, p.1 ≠ I) →
      wpAny (model prog w) A (assign target env v) (fun _ s₂ => wpAny (model prog w) A (execs body env) (TurnQ h₀ env.locals I oI s news₀ (J (i + 1)) Q) (fun _ _ => False) s₂) (fun _ _ => False) { s with heap := h, toks := tk })
    (done : ∀ m nx h tk, J vs.length m nx → 0 ≤ tk → Fr h₀ env.locals h m → News h₀ env.locals h nx → Q .next { s with heap := h, toks := tk }) :
    wpAny (model prog w) A (pyIter (.ref l)) (fun it s₂ => codeAny (model prog w) A (.forLoop target it body [] env) (fun r s' => match r with | .ok f => Q f s' | .error e => cameBackBy (model prog w) A env E e s') s₂) E s := by
  have hl : s.heap.IsList l vs.toArray := (hS 0 m₀ news₀ h0).list F.keep N
  have hlt : l < s.heap.objs.size := by obtain ⟨_, e, _⟩ := hl; exact Heap.lt_size e
  refine wpAny_pyIter_list hl ?_
  generalize hI : s.heap.objs.size = I at *
  have up : ∀ b o, s.heap.get? b = some o → (s.heap.push { cls := .type "list_iterator", data := .fields #[.ref l, .int 0 0] }).get? b = some o := fun b o e => Heap.get?_push_of_some _ e
  have hLlt : env.locals < I := hI ▸ F.ns.lt
  have hI₀ : h₀.get? I = none := hI ▸ next_is_new F
  have hNlt : ∀ p ∈ news₀, p.1 < I := fun p hp => hI ▸ Heap.lt_size (N p hp).1
  have hlI : l ≠ I := Nat.ne_of_lt hlt
  have nev : ∀ {α : Type} {t : Sem α} {Q' : α → Shared → Prop} {s' : Shared}, wpAny (model prog w) A t Q' (fun _ _ => False) s' →
      wpAny (model prog w) A t Q' (notedBy (model prog w) A env (cameBackBy (model prog w) A env E)) s' := fun h => wpAny_mono h (fun _ _ x => x) fun _ _ x => x.elim
  -- the place of the iterator, wherever the turn stands
  have Off : ∀ {h : Heap} {oI : Obj} {nx : List (Addr × Obj)}, oI.cls = .type "list_iterator" → News h₀ env.locals h ((I, oI) :: nx) → (∀ p ∈ nx, p ∈ news₀ ∨ p.2.cls ≠ .type "list_iterator") → ∀ p ∈ nx, p.1 ≠ I := by
    intro h oI nx hc N' hx p hp
    rcases hx p hp with h1 | h1
    · exact Nat.ne_of_lt (hNlt p h1)
    · refine News.twoPlaces N' (List.mem_cons_of_mem _ hp) List.mem_cons_self fun e => h1 ?_
      have e' : p.2 = oI := e
      rw [e']; exact hc
  refine codeAny_forLoop_any
    (fun k s' => ∃ h' tk m' nx, ∃ i : Nat, s' = { s with heap := h', toks := tk } ∧ 0 ≤ tk ∧ (∃ oI, h'.get? I = some oI ∧ oI.cls = .type "list_iterator" ∧ oI.data = .fields #[.ref l, .int (i : Int) 0]) ∧ Fr h₀ env.locals h' m' ∧ News h₀ env.locals h' nx ∧ (∀ p ∈ nx, p.1 ≠ I) ∧ (∀ p ∈ nx, p ∈ news₀ ∨ p.2.cls ≠ .type "list_iterator") ∧ J i m' nx ∧ i ≤ vs.length ∧ k = vs.length + 1 - i) ?_ (vs.length + 1)
    ⟨_, s.toks, m₀, news₀, 0, rfl, Nat.zero_le _, ⟨_, hI ▸ Heap.get?_push_size _ rfl, rfl, rfl⟩, F.keeps up, N.grown up, fun p hp => Nat.ne_of_lt (hNlt p hp), fun p hp => .inl hp, h0, Nat.zero_le _, rfl⟩
  intro k s' hX29
  refine by_no fun hG9 => ?_
  obtain ⟨h', tk, m', nx, i, rfl, htk, ⟨oI, hoI, hcI, hdI⟩, F', N', hoff, hkind, hJ, hi, rfl⟩ := hX29
  refine hG9 ?_
  clear hG9
  have hit : h'.IsListIter I l i := ⟨oI, hoI, hcI, hdI⟩
  have hl' : h'.IsList l vs.toArray := (hS i m' nx hJ).list F'.keep N'
  by_cases hlt' : i < vs.length
  · have hv : vs[i]? = some vs[i] := List.getElem?_eq_getElem hlt'
    refine wpAny_pyNext_list_item hit hl' (x := vs[i]) (by simpa using hv) fun h₁ hit₁ hs₁ => ?_
    refine by_no fun hG9 => ?_
    obtain ⟨oI₁, hoI₁, hcI₁, hdI₁⟩ := id hit₁
    refine hG9 ?_
    clear hG9
    have k₁ : ∀ b o, b ∉ [I] → h'.get? b = some o → h₁.get? b = some o := fun b o hb e => hs₁.extBut b o (fun q => hb (by simp [q])) e
    have F₁ : Fr h₀ env.locals h₁ m' := LCg.fr_but F' k₁ (Nat.ne_of_lt hLlt) hI₀
    have N₁ : News h₀ env.locals h₁ nx := LCg.news_but N' k₁ hoff
    have N₂ : News h₀ env.locals h₁ ((I, oI₁) :: nx) := by
      intro p hp
      rcases List.mem_cons.mp hp with rfl | hp
      · exact ⟨hoI₁, Ne.symm (Nat.ne_of_lt hLlt), hI₀⟩
      · exact N₁ p hp
    have tb := turn i _ I oI₁ m' nx h₁ tk hv hJ htk F₁ N₂ hkind hoff
    have step : wpAny (model prog w) A (assign target env vs[i]) (fun _ s₂ => wpAny (model prog w) A (execs body env) (fun f s₃ => match f with
        | .next | .cont => ∃ k', k' < vs.length + 1 - i ∧ (∃ h' tk m' nx, ∃ i : Nat, s₃ = { s with heap := h', toks := tk } ∧ 0 ≤ tk ∧ (∃ oI, h'.get? I = some oI ∧ oI.cls = .type "list_iterator" ∧ oI.data = .fields #[.ref l, .int (i : Int) 0]) ∧ Fr h₀ env.locals h' m' ∧ News h₀ env.locals h' nx ∧ (∀ p ∈ nx, p.1 ≠ I) ∧ (∀ p ∈ nx, p ∈ news₀ ∨ p.2.cls ≠ .type "list_iterator") ∧ J i m' nx ∧ i ≤ vs.length ∧ k' = vs.length + 1 - i)
        | .brk => Q .next s₃
        | .ret v => Q (.ret v) s₃) (notedBy (model prog w) A env (cameBackBy (model prog w) A env E)) s₂) (notedBy (model prog w) A env (cameBackBy (model prog w) A env E)) { s with heap := h₁, toks := tk } := by
      refine nev (wpAny_mono (wpAny_toks_of (n := 0) htk tb) (fun _ s₂ h₂ => nev (wpAny_mono (wpAny_toks_of h₂.1 h₂.2) (fun f s₃ h₃ => ?_) fun _ _ x => x.2)) fun _ _ x => x.2)
      refine by_no fun hG9 => ?_
      obtain ⟨h3t, h3⟩ := h₃
      refine hG9 ?_
      clear hG9
      have fin : TurnEnd h₀ env.locals I oI₁ s news₀ (J (i + 1)) s₃ → ∃ k', k' < vs.length + 1 - i ∧ (∃ h' tk m' nx, ∃ i : Nat, s₃ = { s with heap := h', toks := tk } ∧ 0 ≤ tk ∧ (∃ oI, h'.get? I = some oI ∧ oI.cls = .type "list_iterator" ∧ oI.data = .fields #[.ref l, .int (i : Int) 0]) ∧ Fr h₀ env.locals h' m' ∧ News h₀ env.locals h' nx ∧ (∀ p ∈ nx, p.1 ≠ I) ∧ (∀ p ∈ nx, p ∈ news₀ ∨ p.2.cls ≠ .type "list_iterator") ∧ J i m' nx ∧ i ≤ vs.length ∧ k' = vs.length + 1 - i) := by
        intro hX09
        refine by_no fun hG9 => ?_
        obtain ⟨h₄, tk₄, m₄, nx₄, rfl, F₄, N₄, hx₄, hJ₄⟩ := hX09
        refine hG9 ?_
        clear hG9
        exact ⟨vs.length + 1 - (i + 1), by omega, h₄, tk₄, m₄, nx₄, i + 1, rfl, h3t, ⟨oI₁, (N₄ _ List.mem_cons_self).1, hcI₁, hdI₁⟩, F₄, fun p hp => N₄ p (List.mem_cons_of_mem _ hp), Off hcI₁ N₄ hx₄, hx₄, hJ₄, hlt', rfl⟩
      cases f with
      | next => exact fin h3
      | cont => exact fin h3
      | brk => exact h3
      | ret v => exact h3
    rcases hgo with hgo | ⟨⟨elts, x1, pos, rfl⟩, hgo⟩
    · dsimp only
      rw [hgo]
      exact wpAny_pure step
    · refine by_no fun hG9 => ?_
      obtain ⟨T, hT⟩ := hgo vs[i] (List.getElem_mem hlt')
      refine hG9 ?_
      clear hG9
      dsimp only
      rw [hT] at step ⊢
      exact wpAny_letOwnedTupleGo_listiter (s := { s with heap := h₁, toks := tk }) hit₁ step
  · obtain rfl : i = vs.length := Nat.le_antisymm hi (Nat.not_lt.mp hlt')
    refine wpAny_pyNext_list_end hh hit hl' (by simp) fun h₁ hs₁ => wpAny_execs_nil ?_
    have k₁ : ∀ b o, b ∉ [I] → h'.get? b = some o → h₁.get? b = some o := fun b o hb e => hs₁ b o (fun q => hb (by simp [q])) e
    exact done m' nx h₁ tk hJ htk (LCg.fr_but F' k₁ (Nat.ne_of_lt hLlt) hI₀) (LCg.news_but N' k₁ hoff)
end
end Zn
end
section
open PySem PySem.W PyProof.Rows
set_option maxRecDepth 100000
namespace Zn
section
variable {prog : Program} {w : World} {A : Around} {E : Value → Shared → Prop} {s : Shared} {env : Env} {h₀ : Heap} {L : Addr}
noncomputable def RTurnEnd (h₀ : Heap) (L : Addr) (I : Addr) (oI : Obj) (s : Shared) (news₀ : List (Addr × Obj)) (J : (Str → Option Value) → List (Addr × Obj) → Prop) (s₃ : Shared) : Prop :=
  ∃ h' tk' m' nx', s₃ = { s with heap := h', toks := tk' } ∧ Fr h₀ L h' m' ∧ News h₀ L h' ((I, oI) :: nx') ∧ (∀ p ∈ nx', (∃ q ∈ news₀, q.1 = p.1) ∨ p.2.cls ≠ .type "range_iterator") ∧ J m' nx'
noncomputable def RTurnQ (h₀ : Heap) (L : Addr) (I : Addr) (oI : Obj) (s : Shared) (news₀ : List (Addr × Obj)) (J : (Str → Option Value) → List (Addr × Obj) → Prop) (Q : Flow → Shared → Prop) (f : Flow) (s₃ : Shared) : Prop :=
  match f with
  | .next | .cont => RTurnEnd h₀ L I oI s news₀ J s₃
  | .brk => Q .next s₃
  | .ret v => Q (.ret v) s₃
theorem iter_range {target : Expr} {body : List Stmt} {l : Addr} {ra rb rc : Int} {t1 t2 t3 : Tok} {n : Nat} {m₀ : Str → Option Value} {news₀ : List (Addr × Obj)} {Q : Flow → Shared → Prop} (J : Nat → (Str → Option Value) → List (Addr × Obj) → Prop)
    (hh : A.handled = none) (F : Fr h₀ env.locals s.heap m₀) (N : News h₀ env.locals s.heap news₀)
    (hr : IsRange s.heap l ra rb rc t1 t2 t3) (hsm : Builtin.Range.small ra rb rc = true) (hn : Builtin.Range.rangeSize ra rb rc = ((n : Nat) : Int)) (h0 : J 0 m₀ news₀)
    (hgo : ∀ it v, letOwnedTupleGo target it v = pure ())
    (turn : ∀ i tv I oI m nx h tk, i < n → J i m nx → 0 ≤ tk → Fr h₀ env.locals h m → News h₀ env.locals h ((I, oI) :: nx) → (∀ p ∈ nx, (∃ q ∈ news₀, q.1 = p.1) ∨ p.2.cls ≠ .type "range_iterator") → (∀ p ∈ nx, p.1 ≠ I) →
      wpAny (model prog w) A (assign target env (.int (ra + (i : Int) * rc) tv)) (fun _ s₂ => wpAny (model prog w) A (execs body env) (RTurnQ h₀ env.locals I oI s news₀ (J (i + 1)) Q) (fun _ _ => False) s₂) (fun _ _ => False) { s with heap := h, toks := tk })
    (done : ∀ m nx h tk, J n m nx → 0 ≤ tk → Fr h₀ env.locals h m → News h₀ env.locals h nx → Q .next { s with heap := h, toks := tk }) :
    wpAny (model prog w) A (pyIter (.ref l)) (fun it s₂ => codeAny (model prog w) A (.forLoop target it body [] env) (fun r s' => match r with | .ok f => Q f s' | .error e => cameBackBy (model prog w) A env E e s') s₂) E s := by
  refine wpAny_pyIter_range hr hsm ?_
  rw [hn]
  generalize hI : s.heap.objs.size = I at *
  have up : ∀ b o, s.heap.get? b = some o → (s.heap.push { cls := .type "range_iterator", data := .fields #[rawInt ra, rawInt (n : Int), rawInt rc] }).get? b = some o := fun b o e => Heap.get?_push_of_some _ e
  have hLlt : env.locals < I := hI ▸ F.ns.lt
  have hI₀ : h₀.get? I = none := hI ▸ next_is_new F
  have hNlt : ∀ p ∈ news₀, p.1 < I := fun p hp => hI ▸ Heap.lt_size (N p hp).1
  have nev : ∀ {α : Type} {t : Sem α} {Q' : α → Shared → Prop} {s' : Shared}, wpAny (model prog w) A t Q' (fun _ _ => False) s' →
      wpAny (model prog w) A t Q' (notedBy (model prog w) A env (cameBackBy (model prog w) A env E)) s' := fun h => wpAny_mono h (fun _ _ x => x) fun _ _ x => x.elim
  -- the place of the iterator, wherever the turn stands
  have Off : ∀ {h : Heap} {oI : Obj} {nx : List (Addr × Obj)}, oI.cls = .type "range_iterator" → News h₀ env.locals h ((I, oI) :: nx) → (∀ p ∈ nx, (∃ q ∈ news₀, q.1 = p.1) ∨ p.2.cls ≠ .type "range_iterator") → ∀ p ∈ nx, p.1 ≠ I := by
    intro h oI nx hc N' hx p hp
    rcases hx p hp with h1 | h1
    · refine by_no fun hG9 => ?_
      obtain ⟨q, hq, e⟩ := h1
      refine hG9 ?_
      clear hG9
      exact e ▸ Nat.ne_of_lt (hNlt q hq)
    · refine News.twoPlaces N' (List.mem_cons_of_mem _ hp) List.mem_cons_self fun e => h1 ?_
      have e' : p.2 = oI := e
      rw [e']; exact hc
  refine codeAny_forLoop_any
    (fun k s' => ∃ h' tk m' nx, ∃ i : Nat, s' = { s with heap := h', toks := tk } ∧ 0 ≤ tk ∧ IsRangeIter h' I (ra + (i : Int) * rc) ((n : Int) - (i : Int)) rc ∧ Fr h₀ env.locals h' m' ∧ News h₀ env.locals h' nx ∧ (∀ p ∈ nx, p.1 ≠ I) ∧ (∀ p ∈ nx, (∃ q ∈ news₀, q.1 = p.1) ∨ p.2.cls ≠ .type "range_iterator") ∧ J i m' nx ∧ i ≤ n ∧ k = n + 1 - i) ?_ (n + 1)
    ⟨_, s.toks, m₀, news₀, 0, rfl, Nat.zero_le _, (by show IsRangeIter _ _ _ _ _; simpa [← hI] using Heap.get?_push_size _ rfl), F.keeps up, N.grown up, fun p hp => Nat.ne_of_lt (hNlt p hp), fun p hp => .inl ⟨p, hp, rfl⟩, h0, Nat.zero_le _, rfl⟩
  intro k s' hX29
  refine by_no fun hG9 => ?_
  obtain ⟨h', tk, m', nx, i, rfl, htk, hit, F', N', hoff, hkind, hJ, hi, rfl⟩ := hX29
  refine hG9 ?_
  clear hG9
  by_cases hlt' : i < n
  · refine wpAny_pyNext_range_item hit (by omega) fun h₁ hit₁ hs₁ => ?_
    have e1 : ra + ((i + 1 : Nat) : Int) * rc = ra + (i : Int) * rc + rc := by push_cast; rw [Int.add_mul, Int.one_mul, Int.add_assoc]
    have e2 : (n : Int) - ((i + 1 : Nat) : Int) = (n : Int) - (i : Int) - 1 := by push_cast; omega
    rw [← e1, ← e2] at hit₁
    generalize hoI₁ : ({ cls := .type "range_iterator", dict := none, data := .fields #[rawInt (ra + ((i + 1 : Nat) : Int) * rc), rawInt ((n : Int) - ((i + 1 : Nat) : Int)), rawInt rc], slots := #[] } : Obj) = oI₁
    have hit₂ : h₁.get? I = some oI₁ := hoI₁ ▸ hit₁
    have hcI₁ : oI₁.cls = .type "range_iterator" := by rw [← hoI₁]
    have htk' : 0 ≤ tk + 1 := Nat.zero_le _
    have k₁ : ∀ b o, b ∉ [I] → h'.get? b = some o → h₁.get? b = some o := fun b o hb e => hs₁.extBut b o (fun q => hb (by simp [q])) e
    have F₁ : Fr h₀ env.locals h₁ m' := LCg.fr_but F' k₁ (Nat.ne_of_lt hLlt) hI₀
    have N₁ : News h₀ env.locals h₁ nx := LCg.news_but N' k₁ hoff
    have N₂ : News h₀ env.locals h₁ ((I, oI₁) :: nx) := by
      intro p hp
      rcases List.mem_cons.mp hp with rfl | hp
      · exact ⟨hit₂, Ne.symm (Nat.ne_of_lt hLlt), hI₀⟩
      · exact N₁ p hp
    have tb := turn i tk I oI₁ m' nx h₁ (tk + 1) hlt' hJ htk' F₁ N₂ hkind hoff
    have step : wpAny (model prog w) A (assign target env (.int (ra + (i : Int) * rc) tk)) (fun _ s₂ => wpAny (model prog w) A (execs body env) (fun f s₃ => match f with
        | .next | .cont => ∃ k', k' < n + 1 - i ∧ (∃ h' tk m' nx, ∃ i : Nat, s₃ = { s with heap := h', toks := tk } ∧ 0 ≤ tk ∧ IsRangeIter h' I (ra + (i : Int) * rc) ((n : Int) - (i : Int)) rc ∧ Fr h₀ env.locals h' m' ∧ News h₀ env.locals h' nx ∧ (∀ p ∈ nx, p.1 ≠ I) ∧ (∀ p ∈ nx, (∃ q ∈ news₀, q.1 = p.1) ∨ p.2.cls ≠ .type "range_iterator") ∧ J i m' nx ∧ i ≤ n ∧ k' = n + 1 - i)
        | .brk => Q .next s₃
        | .ret v => Q (.ret v) s₃) (notedBy (model prog w) A env (cameBackBy (model prog w) A env E)) s₂) (notedBy (model prog w) A env (cameBackBy (model prog w) A env E)) { s with heap := h₁, toks := tk + 1 } := by
      refine nev (wpAny_mono (wpAny_toks_of (n := 0) htk' tb) (fun _ s₂ h₂ => nev (wpAny_mono (wpAny_toks_of h₂.1 h₂.2) (fun f s₃ h₃ => ?_) fun _ _ x => x.2)) fun _ _ x => x.2)
      refine by_no fun hG9 => ?_
      obtain ⟨h3t, h3⟩ := h₃
      refine hG9 ?_
      clear hG9
      have fin : RTurnEnd h₀ env.locals I oI₁ s news₀ (J (i + 1)) s₃ → ∃ k', k' < n + 1 - i ∧ (∃ h' tk m' nx, ∃ i : Nat, s₃ = { s with heap := h', toks := tk } ∧ 0 ≤ tk ∧ IsRangeIter h' I (ra + (i : Int) * rc) ((n : Int) - (i : Int)) rc ∧ Fr h₀ env.locals h' m' ∧ News h₀ env.locals h' nx ∧ (∀ p ∈ nx, p.1 ≠ I) ∧ (∀ p ∈ nx, (∃ q ∈ news₀, q.1 = p.1) ∨ p.2.cls ≠ .type "range_iterator") ∧ J i m' nx ∧ i ≤ n ∧ k' = n + 1 - i) := by
        intro hX09
        refine by_no fun hG9 => ?_
        obtain ⟨h₄, tk₄, m₄, nx₄, rfl, F₄, N₄, hx₄, hJ₄⟩ := hX09
        refine hG9 ?_
        clear hG9
        exact ⟨n + 1 - (i + 1), by omega, h₄, tk₄, m₄, nx₄, i + 1, rfl, h3t, (by show h₄.get? I = some _; rw [hoI₁]; exact (N₄ _ List.mem_cons_self).1), F₄, fun p hp => N₄ p (List.mem_cons_of_mem _ hp), Off hcI₁ N₄ hx₄, hx₄, hJ₄, hlt', rfl⟩
      cases f with
      | next => exact fin h3
      | cont => exact fin h3
      | brk => exact h3
      | ret v => exact h3
    dsimp only
    rw [hgo]
    exact wpAny_pure step
  · obtain rfl : i = n := Nat.le_antisymm hi (Nat.not_lt.mp hlt')
    refine wpAny_pyNext_range_end hh hit (by omega) fun h₁ hs₁ => wpAny_execs_nil ?_
    have k₁ : ∀ b o, b ∉ [I] → h'.get? b = some o → h₁.get? b = some o := fun b o hb e => hs₁ b o (fun q => hb (by simp [q])) e
    exact done m' nx h₁ tk hJ htk (LCg.fr_but F' k₁ (Nat.ne_of_lt hLlt) hI₀) (LCg.news_but N' k₁ hoff)
end
end Zn
end
section
theorem Zn.fresh_ZComp (M : PySem.Model) (A : PySem.Around) (env : PySem.Env) (E : PySem.Value → PySem.Shared → Prop) (s : PySem.Shared) : PySem.wpAny M A (PySem.execs [] env) (fun _ _ => True) E s := by
  w_top off
  k_with_none
  walk1
  trivial
open PySem PySem.W PyProof.Rows
set_option maxRecDepth 100000
namespace Zn
open LCg (NsObj lst Off3 Off1 CompEnd)
section
variable {prog : Program} {w : World} {A : Around} {E : Value → Shared → Prop} {s : Shared} {h₀ : Heap} {L : Addr} {m : Str → Option Value} {env : Env}

/-- the tests of a comprehension's clause -/
noncomputable def tests (ifs : List Expr) (cenv : Env) : Sem Bool := forIn ifs true fun c r => if r = true then do let ok ← isTrue c cenv (eval c cenv); pure (ForInStep.yield ok) else pure (ForInStep.yield r)
theorem tests_nil {cenv : Env} {Q : Bool → Shared → Prop} (h : Q true s) : wpAny (model prog w) A (tests [] cenv) Q E s := wpAny_pure h
theorem tests_one {c : Expr} {cenv : Env} {Q : Bool → Shared → Prop} (h : wpAny (model prog w) A (isTrue c cenv (eval c cenv)) Q E s) : wpAny (model prog w) A (tests [c] cenv) Q E s := by
  unfold tests
  rw [List.forIn_cons]
  simp only [if_true]
  refine wpAny_bind (wpAny_bind (wpAny_mono h (fun b s' hb => wpAny_pure ?_) fun _ _ e => e))
  exact wpAny_pure hb

/-- what a turn of a comprehension shows -/
noncomputable def CTurn (prog : Program) (w : World) (A : Around) (h₀ : Heap) (L : Addr) (m : Str → Option Value) (env : Env) (elt : Expr) (ifs : List Expr) (x : Str) (scope : Scope) (cl : List (Str × Addr)) (s : Shared) (P : Nat → Value → Prop) (J : Nat → List Value → List (Addr × Obj) → Prop) (n : Nat) : Prop :=
  ∀ i v I oI C oC D m₂ ys nx h tk (E' : Value → Shared → Prop), i < n → P i v → J i ys nx → NsObj oC m₂ → m₂ x = some v → Fr h₀ L h m → News h₀ L h ((I, oI) :: (C, oC) :: (D, lst ys) :: nx) → Off3 I C D nx → ((@Ne Nat I C) ∧ (@Ne Nat I D) ∧ (@Ne Nat C D)) →
    wpAny (model prog w) A (tests ifs (compEnvC scope cl C env)) (fun ok s₃ => if ok = true
      then wpAny (model prog w) A (eval elt (compEnvC scope cl C env)) (CompEnd h₀ L m { s with heap := h, toks := tk } I oI C oC D (lst ys) (fun _ => True) fun y nx' => J (i + 1) (ys ++ [y]) nx') E' s₃
      else CompEnd h₀ L m { s with heap := h, toks := tk } I oI C oC D (lst ys) (fun _ => True) (fun _ nx' => J (i + 1) ys nx') .none s₃) E' { s with heap := h, toks := tk }

theorem comp_block {elt iter : Expr} {ifs : List Expr} {x : Str} {px : Pos} {scope : Scope} {cl : List (Str × Addr)} {pos : Pos} {I : Addr} {fp : List Addr} {n : Nat} {P : Nat → Value → Prop} {St : Nat → Heap → Prop} {S : List (Addr × Obj) → Prop} {news : List (Addr × Obj)}
    {J : Nat → List Value → List (Addr × Obj) → Prop} {RR : Value → Addr → Result → Shared → Prop}
    (W : Walks prog w A I fp [I] n P St) (hsz : n ≤ sizeLine) (hIo : ∀ i h, St i h → ∃ o, h.get? I = some o)
    (hSt : ∀ i h h' o nw, St i h → h.get? I = some o → h'.get? I = some o → (∀ b o, h₀.get? b = some o → h'.get? b = some o) → News h₀ L h' nw → S nw → St i h')
    (hJS : ∀ i ys nx, J i ys nx → S nx)
    (hcell : ∀ y ∈ scope.names, y.2 ≠ .cell) (hkind : scope.kind = .function) (hx : scope.names.lookup x = some .local) (hst : St 0 s.heap) (hfp : ∀ b ∈ fp, b < s.heap.objs.size)
    (F : Fr h₀ L s.heap m) (N : News h₀ L s.heap news) (hIL : L ≠ I) (hI₀ : h₀.get? I = none) (off : ∀ p ∈ news, p.1 ≠ I) (h0 : J 0 [] news)
    (turn : CTurn prog w A h₀ L m env elt ifs x scope cl s P J n)
    (hRR : ∀ D C h tk m' ys nx, Fr h₀ L h m → News h₀ L h ((D, lst ys) :: nx) → Off1 D nx → h.Ns C m' → h₀.get? C = none → h₀.get? D = none → C ≠ L → D ≠ L → C ≠ D → (∀ p ∈ nx, p.1 ≠ C) → J n ys nx → RR (.ref D) C (.ok .next) { s with heap := h, toks := tk }) :
    wpAny (model prog w) A (newList []) (fun acc s₃ => wpAny (model prog w) A (newFunctionEnv scope env.globals cl [] env.qual none .none (some env)) (fun cenv s₄ =>
      codeAny (model prog w) A (.compStart (.ListComp elt [⟨.Name x px, iter, ifs, 0⟩] scope pos) 0 (.ref I) acc { cenv with scope := relabel scope env }) (RR acc cenv.locals) s₄) E s₃) E s := by
  refine wpAny_newObj_type (wpAny_newFunctionEnv hcell (by intro y hy; simp at hy) (fun h₁ hns₁ hsb₁ => ?_) hkind)
  dsimp only at hns₁ hsb₁ ⊢
  -- the two addresses made here
  generalize hD : s.heap.objs.size = D at *
  generalize hH : s.heap.push { cls := .type "list", dict := none, data := .seq ([] : List Value).toArray } = H at hns₁ hsb₁ ⊢
  have hCs : H.objs.size = D + 1 := by rw [← hH, Heap.size_push, hD]
  generalize hC : H.objs.size = C at *
  have hDC : @Ne Nat D C := by rw [hCs]; exact Nat.ne_of_lt (Nat.lt_succ_self _)
  have lo : ∀ b, b < D → b ≠ C ∧ b ≠ D := fun b hb => ⟨by rw [hCs]; exact Nat.ne_of_lt (Nat.lt_succ_of_lt hb), Nat.ne_of_lt hb⟩
  have size_lt : ∀ {b o}, s.heap.get? b = some o → b < D := fun e => hD ▸ Heap.lt_size e
  have old : ∀ b o, s.heap.get? b = some o → h₁.get? b = some o := fun b o e => hsb₁.extBut b o (lo b (size_lt e)).1 (Heap.get?_push_of_some _ (hH ▸ Heap.get?_push_of_some _ e))
  have hacc : h₁.get? D = some (lst []) := hsb₁.extBut _ _ hDC (Heap.get?_push_of_some _ (hH ▸ hD ▸ Heap.get?_push_size _ rfl))
  have none_of : ∀ a, D ≤ a → h₀.get? a = none := fun a ha => by
    cases e : h₀.get? a with
    | none => rfl
    | some o => exact absurd (size_lt (F.keep a o e)) (Nat.not_lt.mpr ha)
  have hD₀ : h₀.get? D = none := none_of _ (Nat.le_refl _)
  have hC₀ : h₀.get? C = none := none_of _ (by rw [hCs]; exact Nat.le_succ _)
  have hLlt : L < D := hD ▸ F.ns.lt
  have hDL : D ≠ L := Ne.symm (lo L hLlt).2
  have hCL : C ≠ L := Ne.symm (lo L hLlt).1
  have hIlt : I < D := hfp I (W.sub I (List.mem_singleton.mpr rfl))
  have hIC : @Ne Nat I C := (lo I hIlt).1
  have hID : @Ne Nat I D := (lo I hIlt).2
  have hDf : D ∉ fp := fun hm => Nat.lt_irrefl _ (hfp _ hm)
  have hCf : C ∉ fp := fun hm => by have := hfp _ hm; rw [hCs] at this; exact Nat.lt_irrefl _ (Nat.lt_of_succ_lt this)
  have off₀ : Off3 I C D news := Off3.of fun p hp => ⟨off p hp, (lo _ (size_lt (N p hp).1)).1, (lo _ (size_lt (N p hp).1)).2⟩
  have run : ∀ s₃ : Shared, s₃ = { s with heap := h₁, toks := s.toks + ([] : List (Str × Value)).length } →
      codeAny (model prog w) A (.compLoop (.ListComp elt [⟨.Name x px, iter, ifs, 0⟩] scope pos) 0 (.ref I) (.ref D) (compEnvC scope cl C env)) (RR (.ref D) C) s₃ := by
    rintro s₃ rfl
    refine codeAny_compLoop_tests
      (fun k s' => ∃ h' tk i ys m' nx, s' = { s with heap := h', toks := tk } ∧ i ≤ n ∧ k = n + 1 - i ∧ ys.length ≤ i ∧ St i h' ∧ Fr h₀ L h' m ∧ h'.Ns C m' ∧ News h₀ L h' ((D, lst ys) :: nx) ∧ Off3 I C D nx ∧ J i ys nx) ?_ (n + 1)
      ⟨h₁, _, 0, [], _, news, rfl, Nat.zero_le _, rfl, Nat.le_refl _, W.frame _ _ _ hst fun b _ o e => old b o e, F.keeps old, hns₁, fun p hp => ?_, off₀, h0⟩
    · intro k s' hX29
      refine by_no fun hG9 => ?_
      obtain ⟨h', tk, i, ys, m', nx, rfl, hi, rfl, hyl, hst', F', hn', N', off', hJ⟩ := hX29
      refine hG9 ?_
      clear hG9
      have off3 := off'.mem
      by_cases hlt : i < n
      · refine W.item i _ _ _ hlt hst' fun v h₂ tk₂ hPv hst₂ hk₂ => ?_
        refine wpAny_assign_Name (wpAny_storeName_local (lookup_relabel_local hx) (hn'.at' fun o e => hk₂ _ o (by simpa using Ne.symm hIC) e) (fun h₃ hn₃ hs₃ => ?_) (by simp [compEnvC, relabel, hkind]))
        have hst₃ : St (i + 1) h₃ := W.frame _ _ _ hst₂ fun b hb o e => hs₃.extBut b o (fun q => hCf (by have q' : b = C := q; rw [← q']; exact hb)) e
        refine by_no fun hG9 => ?_
        obtain ⟨oI, heI⟩ := hIo _ _ hst₃
        obtain ⟨oC, heC, hoC⟩ := LCg.ns_obj hn₃
        refine hG9 ?_
        clear hG9
        have F₃ : Fr h₀ L h₃ m := (LCg.fr_but F' hk₂ hIL hI₀).change hs₃ hCL hC₀
        have N₂ : News h₀ L h₂ ((D, lst ys) :: nx) := LCg.news_but N' hk₂ fun p hp => by
          rcases List.mem_cons.mp hp with rfl | hp
          · exact Ne.symm hID
          · exact (off3 p hp).1
        have N₃ : News h₀ L h₃ ((I, oI) :: (C, oC) :: (D, lst ys) :: nx) := fun p hp => by
          rcases List.mem_cons.mp hp with rfl | hp
          · exact ⟨heI, Ne.symm hIL, hI₀⟩
          · rcases List.mem_cons.mp hp with rfl | hp
            · exact ⟨heC, hCL, hC₀⟩
            · have z := N₂ p hp
              refine ⟨hs₃.extBut _ _ ?_ z.1, z.2⟩
              rcases List.mem_cons.mp hp with rfl | hp
              · exact hDC
              · exact (off3 p hp).2.1
        have tb := turn i v I oI C oC D _ ys nx h₃ (tk₂ + 1) (notedBy (model prog w) A (compEnvC scope cl C env) fun e s' => RR (.ref D) C (.error e) s') hlt hPv hJ hoC (by simp) F₃ N₃ off' ⟨hIC, hID, Ne.symm hDC⟩
        refine wpAny_mono tb (fun ok s₃ hok => ?_) fun _ _ e => e
        cases ok with
        | false =>
          simp only [Bool.false_eq_true, if_false] at hok ⊢
          refine by_no fun hG9 => ?_
          obtain ⟨h₄, tk₄, nx₄, rfl, F₄, N₄, off₄, _, hJ₄⟩ := hok
          refine hG9 ?_
          clear hG9
          have zI := (N₄ (I, oI) List.mem_cons_self).1
          have zC := (N₄ (C, oC) (List.mem_cons_of_mem _ List.mem_cons_self)).1
          have N₄' : News h₀ L h₄ nx₄ := fun p hp => N₄ p (List.mem_cons_of_mem _ (List.mem_cons_of_mem _ (List.mem_cons_of_mem _ hp)))
          exact ⟨n + 1 - (i + 1), by omega, h₄, tk₄, i + 1, ys, _, nx₄, rfl, hlt, rfl, Nat.le_succ_of_le hyl, hSt _ _ _ _ _ hst₃ heI zI F₄.keep N₄' (hJS _ _ _ hJ₄), F₄, hoC.ns zC,
            fun p hp => N₄ p (List.mem_cons_of_mem _ (List.mem_cons_of_mem _ hp)), off₄, hJ₄⟩
        | true =>
          simp only [if_true] at hok ⊢
          refine wpAny_mono hok (fun y s₄ h₄ => ?_) fun _ _ e => e
          refine by_no fun hG9 => ?_
          obtain ⟨h₄, tk₄, nx₄, rfl, F₄, N₄, off₄, _, hJ₄⟩ := h₄
          refine hG9 ?_
          clear hG9
          have zI := (N₄ (I, oI) List.mem_cons_self).1
          have zC := (N₄ (C, oC) (List.mem_cons_of_mem _ List.mem_cons_self)).1
          have zD := (N₄ (D, lst ys) (List.mem_cons_of_mem _ (List.mem_cons_of_mem _ List.mem_cons_self))).1
          have N₄' : News h₀ L h₄ nx₄ := fun p hp => N₄ p (List.mem_cons_of_mem _ (List.mem_cons_of_mem _ (List.mem_cons_of_mem _ hp)))
          have hst₄ : St (i + 1) h₄ := hSt _ _ _ _ _ hst₃ heI zI F₄.keep N₄' (hJS _ _ _ hJ₄)
          refine append_at (hsz := by show ys.toArray.size ≤ sizeLine; rw [List.size_toArray]; exact Nat.le_trans hyl (Nat.le_trans hi hsz)) zD fun h₅ hs₅ hD₅ => ?_
          have off4 := off₄.mem
          refine ⟨n + 1 - (i + 1), by omega, h₅, tk₄, i + 1, ys ++ [y], _, nx₄, rfl, hlt, rfl, by rw [List.length_append, List.length_singleton]; exact Nat.succ_le_succ hyl,
            W.frame _ _ _ hst₄ fun b hb o e => hs₅.extBut b o (fun q => hDf (q ▸ hb)) e, F₄.change hs₅ hDL hD₀, (hoC.ns zC).sameBut hs₅ (Ne.symm hDC), fun p hp => ?_, off₄, hJ₄⟩
          rcases List.mem_cons.mp hp with rfl | hp
          · exact ⟨hD₅.trans (congrArg some (LCg.lst_snoc ys y)), hDL, hD₀⟩
          · exact ⟨hs₅.extBut _ _ (off4 p hp).2.2 (N₄' p hp).1, (N₄' p hp).2⟩
      · obtain rfl : i = n := Nat.le_antisymm hi (Nat.not_lt.mp hlt)
        refine W.done _ _ _ hst' fun h₂ tk₂ hk₂ => ?_
        exact hRR _ _ h₂ tk₂ _ ys nx (LCg.fr_but F' hk₂ hIL hI₀) (LCg.news_but N' hk₂ fun p hp => by
          rcases List.mem_cons.mp hp with rfl | hp
          · exact Ne.symm hID
          · exact (off3 p hp).1) off'.one (hn'.at' fun o e => hk₂ _ o (by simpa using Ne.symm hIC) e) hC₀ hD₀ hCL hDL (Ne.symm hDC) (fun p hp => (off3 p hp).2.1) hJ
    · rcases List.mem_cons.mp hp with rfl | hp
      · exact ⟨hacc, hDL, hD₀⟩
      · exact ⟨old _ _ (N p hp).1, (N p hp).2⟩
  exact codeAny_compStart_list (run _ rfl) (W.self 0 _ _ _ (W.frame _ _ _ hst fun b _ o e => old b o e) (run _ rfl))

/-- what stands behind the iterator of a comprehension's source -/
noncomputable def CBlock (prog : Program) (w : World) (A : Around) (E : Value → Shared → Prop) (env : Env) (elt iter : Expr) (ifs : List Expr) (x : Str) (px : Pos) (scope : Scope) (cl : List (Str × Addr)) (pos : Pos) (RR : Value → Addr → Result → Shared → Prop) (it : Value) (s : Shared) : Prop :=
  wpAny (model prog w) A (newList []) (fun acc s₃ => wpAny (model prog w) A (newFunctionEnv scope env.globals cl [] env.qual none .none (some env)) (fun cenv s₄ =>
      codeAny (model prog w) A (.compStart (.ListComp elt [⟨.Name x px, iter, ifs, 0⟩] scope pos) 0 it acc { cenv with scope := relabel scope env }) (RR acc cenv.locals) s₄) E s₃) E s

/-- the answers: the list behind the comprehension, as a value, or stored -/
noncomputable def RRok (h₀ : Heap) (L : Addr) (m : Str → Option Value) (s : Shared) (Jn : List Value → List (Addr × Obj) → Prop) (RR : Value → Addr → Result → Shared → Prop) : Prop :=
  ∀ D C h tk m' ys nx, Fr h₀ L h m → News h₀ L h ((D, lst ys) :: nx) → Off1 D nx → h.Ns C m' → h₀.get? C = none → h₀.get? D = none → C ≠ L → D ≠ L → C ≠ D → (∀ p ∈ nx, p.1 ≠ C) → Jn ys nx → RR (.ref D) C (.ok .next) { s with heap := h, toks := tk }

section
variable {elt iter : Expr} {ifs : List Expr} {x : Str} {px : Pos} {scope : Scope} {cl : List (Str × Addr)} {pos : Pos} {news : List (Addr × Obj)} {J : Nat → List Value → List (Addr × Obj) → Prop} {RR : Value → Addr → Result → Shared → Prop}

theorem src_list {l : Addr} {vs : List Value} (hh : A.handled = none) (F : Fr h₀ L s.heap m) (N : News h₀ L s.heap news)
    (hS : ∀ i ys nx, J i ys nx → LCg.SrcAt h₀ l vs.toArray nx) (h0 : J 0 [] news) (hsz : vs.length ≤ sizeLine)
    (hcell : ∀ y ∈ scope.names, y.2 ≠ .cell) (hkind : scope.kind = .function) (hx : scope.names.lookup x = some .local)
    (turn : ∀ g, CTurn prog w A h₀ L m env elt ifs x scope cl { s with heap := g } (fun i v => vs[i]? = some v) J vs.length)
    (hRR : ∀ g, RRok h₀ L m { s with heap := g } (J vs.length) RR) :
    wpAny (model prog w) A (pyIter (.ref l)) (fun it s₂ => CBlock prog w A E env elt iter ifs x px scope cl pos RR it s₂) E s := by
  have hl : s.heap.IsList l vs.toArray := (hS 0 [] news h0).list F.keep N
  have hlt : l < s.heap.objs.size := by obtain ⟨_, e, _⟩ := hl; exact Heap.lt_size e
  refine wpAny_pyIter_list hl ?_
  have up : ∀ b o, s.heap.get? b = some o → (s.heap.push { cls := .type "list_iterator", data := .fields #[.ref l, .int 0 0] }).get? b = some o := fun b o e => Heap.get?_push_of_some _ e
  have W : Walks prog w A s.heap.objs.size [s.heap.objs.size, l] [s.heap.objs.size] vs.length (fun i v => vs[i]? = some v) (fun i h => h.IsListIter s.heap.objs.size l i ∧ h.IsList l vs.toArray) := by
    have := Walks.list (prog := prog) (w := w) hh s.heap.objs.size l (Nat.ne_of_lt hlt) vs.toArray
    simpa using this
  refine comp_block W hsz (fun i h st => by obtain ⟨o, e, _⟩ := st.1; exact ⟨o, e⟩) LCg.list_st hS hcell hkind hx ⟨⟨_, Heap.get?_push_size _ rfl, rfl, rfl⟩, hl.push _⟩ (fun b hb => ?_)
    (F.keeps up) (N.grown up) (Nat.ne_of_lt F.ns.lt) (next_is_new F) (fun p hp => Nat.ne_of_lt (Heap.lt_size (N p hp).1)) h0 (turn _) (hRR _)
  show b < (s.heap.push _).objs.size
  rw [Heap.size_push]
  rcases List.mem_cons.mp hb with rfl | hb
  · exact Nat.lt_succ_self _
  · rw [List.mem_singleton.mp hb]; exact Nat.lt_succ_of_lt hlt

theorem src_range {r : Addr} {a b : Int} {t u v : Tok} {n : Nat} (hh : A.handled = none) (F : Fr h₀ L s.heap m) (N : News h₀ L s.heap news)
    (hr : IsRange s.heap r a b 1 t u v) (hsm : Builtin.Range.small a b 1 = true) (hn : Builtin.Range.rangeSize a b 1 = ((n : Nat) : Int)) (h0 : J 0 [] news) (hsz : n ≤ sizeLine)
    (hcell : ∀ y ∈ scope.names, y.2 ≠ .cell) (hkind : scope.kind = .function) (hx : scope.names.lookup x = some .local)
    (turn : ∀ g, CTurn prog w A h₀ L m env elt ifs x scope cl { s with heap := g } (fun i v => ∃ t, v = .int (a + (i : Int)) t) J n)
    (hRR : ∀ g, RRok h₀ L m { s with heap := g } (J n) RR) :
    wpAny (model prog w) A (pyIter (.ref r)) (fun it s₂ => CBlock prog w A E env elt iter ifs x px scope cl pos RR it s₂) E s := by
  refine wpAny_pyIter_range hr hsm ?_
  refine comp_block (S := fun _ => True) (LCg.range_walks hh a n) hsz (fun i h st => ⟨_, st⟩) LCg.range_st (fun _ _ _ _ => trivial) hcell hkind hx (by show IsRangeIter _ _ _ _ _; rw [hn]; simpa using Heap.get?_push_size _ rfl) (fun b hb => ?_)
    (F.keeps fun _ _ e => Heap.get?_push_of_some _ e) (N.grown fun _ _ e => Heap.get?_push_of_some _ e) (Nat.ne_of_lt F.ns.lt) (next_is_new F) (fun p hp => Nat.ne_of_lt (Heap.lt_size (N p hp).1)) h0 (turn _) (hRR _)
  rw [List.mem_singleton.mp hb]
  show s.heap.objs.size < (s.heap.push _).objs.size
  rw [Heap.size_push]; exact Nat.lt_succ_self _

theorem src_str {z : Str} {tz : Tok} (hh : A.handled = none) (F : Fr h₀ L s.heap m) (N : News h₀ L s.heap news) (h0 : J 0 [] news) (hsz : z.cps.size ≤ sizeLine)
    (hcell : ∀ y ∈ scope.names, y.2 ≠ .cell) (hkind : scope.kind = .function) (hx : scope.names.lookup x = some .local)
    (turn : ∀ g, CTurn prog w A h₀ L m env elt ifs x scope cl { s with heap := g } (SignAt z) J z.cps.size)
    (hRR : ∀ g, RRok h₀ L m { s with heap := g } (J z.cps.size) RR) :
    wpAny (model prog w) A (pyIter (.str z tz)) (fun it s₂ => CBlock prog w A E env elt iter ifs x px scope cl pos RR it s₂) E s := by
  have side : ∀ b ∈ [s.heap.objs.size], ∀ o : Obj, b < (s.heap.push o).objs.size := fun b hb o => by
    rw [List.mem_singleton.mp hb, Heap.size_push]; exact Nat.lt_succ_self _
  have key : ∀ (T : String), (Walks prog w A s.heap.objs.size [s.heap.objs.size] [s.heap.objs.size] z.cps.size (SignAt z) (fun i h => h.IsStrIter s.heap.objs.size T z tz i)) →
      CBlock prog w A E env elt iter ifs x px scope cl pos RR (.ref s.heap.objs.size) { s with heap := s.heap.push { cls := .type T, data := .fields #[.str z tz, .int 0 0] } } := by
    intro T W
    refine comp_block (S := fun _ => True) W hsz (fun i h st => by obtain ⟨o, e, _⟩ := st; exact ⟨o, e⟩) (fun i h h' o nw st e e' _ _ _ => by obtain ⟨o', q, r⟩ := st; rw [e] at q; cases q; exact ⟨o, e', r⟩) (fun _ _ _ _ => trivial) hcell hkind hx
      ⟨_, Heap.get?_push_size _ rfl, rfl, rfl⟩ (fun b hb => side b hb _)
      (F.keeps fun _ _ e => Heap.get?_push_of_some _ e) (N.grown fun _ _ e => Heap.get?_push_of_some _ e) (Nat.ne_of_lt F.ns.lt) (next_is_new F) (fun p hp => Nat.ne_of_lt (Heap.lt_size (N p hp).1)) h0 (turn _) (hRR _)
  cases ha : z.cps.all (· < 128)
  · exact wpAny_pyIter_wide ha (key _ (Walks.strWide hh _ z tz))
  · exact wpAny_pyIter_ascii ha (key _ (Walks.strAscii hh _ z tz))

theorem src_bytes {b : Array UInt8} {tb : Tok} (hh : A.handled = none) (F : Fr h₀ L s.heap m) (N : News h₀ L s.heap news) (h0 : J 0 [] news) (hsz : b.size ≤ sizeLine)
    (hcell : ∀ y ∈ scope.names, y.2 ≠ .cell) (hkind : scope.kind = .function) (hx : scope.names.lookup x = some .local)
    (turn : ∀ g, CTurn prog w A h₀ L m env elt ifs x scope cl { s with heap := g } (fun i v => ∃ c u, b[i]? = some c ∧ v = .int (c.toNat : Int) u) J b.size)
    (hRR : ∀ g, RRok h₀ L m { s with heap := g } (J b.size) RR) :
    wpAny (model prog w) A (pyIter (.bytes b tb)) (fun it s₂ => CBlock prog w A E env elt iter ifs x px scope cl pos RR it s₂) E s := by
  refine KBw.pyIter_bytes ?_
  refine comp_block (S := fun _ => True) (KBw.walks hh _ b tb) hsz (fun i h st => by obtain ⟨o, e, _⟩ := st; exact ⟨o, e⟩) (fun i h h' o nw st e e' _ _ _ => by obtain ⟨o', q, r⟩ := st; rw [e] at q; cases q; exact ⟨o, e', r⟩) (fun _ _ _ _ => trivial) hcell hkind hx
    ⟨_, Heap.get?_push_size _ rfl, rfl, rfl⟩ (fun b hb => ?_)
    (F.keeps fun _ _ e => Heap.get?_push_of_some _ e) (N.grown fun _ _ e => Heap.get?_push_of_some _ e) (Nat.ne_of_lt F.ns.lt) (next_is_new F) (fun p hp => Nat.ne_of_lt (Heap.lt_size (N p hp).1)) h0 (turn _) (hRR _)
  rw [List.mem_singleton.mp hb]
  show s.heap.objs.size < (s.heap.push _).objs.size
  rw [Heap.size_push]; exact Nat.lt_succ_self _

theorem ListComp_Z {Q : Value → Shared → Prop} (hclos : closureFor scope env = pure cl) (hkind : scope.kind = .function)
    (hnames : ∀ y ∈ scope.names, y.2 = .local → scope.names.lookup y.1 = some .local)
    (h : wpAny (model prog w) A (eval iter env) (fun xv s₁ => wpAny (model prog w) A (pyIter xv) (fun it s₂ => CBlock prog w A E env elt iter ifs x px scope cl pos (compPost (model prog w) A E none Q) it s₂) E s₁) E s)
    (hs : ∀ x, foldedSetIterable iter env x = pure x) :
    wpAny (model prog w) A (eval (.ListComp elt [⟨.Name x px, iter, ifs, 0⟩] scope pos) env) Q E s := by
  rw [eval_ListComp]
  exact wpAny_comprehension_free (use := none) rfl hs hclos hkind hnames h
theorem rr_eval {Q : Value → Shared → Prop} {Jn : List Value → List (Addr × Obj) → Prop} (fin : ∀ ys nx, Jn ys nx → LCg.FinE h₀ L m s Q ys nx) : RRok h₀ L m s Jn (compPost (model prog w) A E none Q) := by
  intro D C h tk m' ys nx F' N' o1 hn hC₀ hD₀ hCL hDL hCD offC hJ
  refine ⟨m', hn, fun h'' hs'' => fin ys nx hJ D h'' tk (F'.change hs'' hCL hC₀) (fun p hp => ?_) o1⟩
  refine ⟨hs''.extBut _ _ ?_ (N' p hp).1, (N' p hp).2⟩
  rcases List.mem_cons.mp hp with rfl | hp
  · exact Ne.symm hCD
  · exact offC p hp

theorem Assign_ListComp_Z {y : Str} {py spos : Pos} {Q : Flow → Shared → Prop}
    (hsw : swapsWith (.ListComp elt [⟨.Name x px, iter, ifs, 0⟩] scope pos) (some (.Name y py)) spos.line env = pure true)
    (hclos : closureFor scope env = pure cl) (hkind : scope.kind = .function)
    (hnames : ∀ z ∈ scope.names, z.2 = .local → scope.names.lookup z.1 = some .local)
    (h : wpAny (model prog w) A (eval iter env) (fun xv s₁ => wpAny (model prog w) A (pyIter xv) (fun it s₂ => CBlock prog w A E env elt iter ifs x px scope cl pos (compPost (model prog w) A E (some (assign (.Name y py) env)) fun _ s' => Q .next s') it s₂) E s₁) E s)
    (hs : ∀ x, foldedSetIterable iter env x = pure x) :
    wpAny (model prog w) A (exec (.Assign [.Name y py] (.ListComp elt [⟨.Name x px, iter, ifs, 0⟩] scope pos) spos) env) Q E s := by
  rw [exec_Assign_Name_used _ _ _ _ hsw]
  refine wpAny_bind (wpAny_standAt (wpAny_bind ?_))
  show wpAny _ A (do let _ ← comprehension (.ListComp elt [⟨.Name x px, iter, ifs, 0⟩] scope pos) scope env _ (newList []) false (eval iter env) (some (assign (.Name y py) env))) _ _ s
  exact wpAny_bind (wpAny_mono (wpAny_comprehension_free (use := some (assign (.Name y py) env)) (Q := fun _ s' => Q .next s') rfl hs hclos hkind hnames h)
    (fun _ s' hq => wpAny_pure (wpAny_pure hq)) fun _ _ e => e)
theorem rr_assign {y : Str} {py : Pos} {Q : Flow → Shared → Prop} {Jn : List Value → List (Addr × Obj) → Prop} (hLe : env.locals = L) (hy : env.kindOf y = some .local)
    (hp : (env.scope.kind == .class || (env.scope.kind == .module && env.locals != env.globals)) = false)
    (fin : ∀ ys nx, Jn ys nx → LCg.FinA h₀ L m s y Q ys nx) : RRok h₀ L m s Jn (compPost (model prog w) A E (some (assign (.Name y py) env)) fun _ s' => Q .next s') := by
  subst hLe
  intro D C h tk m' ys nx F' N' o1 hn hC₀ hD₀ hCL hDL hCD offC hJ
  show wpAny _ A (assign (.Name y py) env (.ref D)) _ _ _
  refine wpAny_assign_Name (wpAny_storeName_local hy F'.ns (fun h₂ hn₂ hs₂ => ?_) hp)
  have hL₀ : h₀.get? env.locals = none := Heap.get?_none_of_le F'.above
  have F₂ : Fr h₀ env.locals h₂ (fun z => if z = y then some (.ref D) else m z) := ⟨hn₂, fun b o e => hs₂.extBut b o (fun q => by rw [q, hL₀] at e; cases e) (F'.keep b o e), F'.above⟩
  refine ⟨m', hn.sameBut hs₂ hCL, fun h'' hs'' => fin ys nx hJ D h'' _ (F₂.change hs'' hCL hC₀) (fun p hp => ?_) o1⟩
  have z : h₂.get? p.1 = some p.2 := hs₂.extBut _ _ (N' p hp).2.1 (N' p hp).1
  refine ⟨hs''.extBut _ _ ?_ z, (N' p hp).2⟩
  rcases List.mem_cons.mp hp with rfl | hp
  · exact Ne.symm hCD
  · exact offC p hp
end
end
end Zn
end
section
open PySem PySem.W PyProof.Rows PySem.Spec PySem.Calls
set_option maxRecDepth 100000
namespace Zn
section
variable {prog : Program} {w : World} {A₀ A : Around} {s : Shared} {base h₀ : Heap} {outer : List Env} {L : Addr} {m : Str → Option Value} {env : Env} {news : List (Addr × Obj)} {K : Frag} {p : Program} {loose : List Str} {mean : ExcName → Option Value} {mg mb : Str → Option Value}
  {R : Result → Shared → Prop} {name qual : Str} {params : Arguments} {body : List Stmt} {scope : Scope} {dV kV doc pm cdv ct oc : Value} {an od : Option Addr} {osl : Array (Option Value)} {f : Addr} {args : Args} {binds : List (Str × Value)}
theorem P_def (B : Below A₀ base outer h₀) (F : Fr h₀ L s.heap m) (X₀ : K.In h₀) (N : News h₀ L s.heap news) (T : Top p loose mean mg mb h₀) (hA : A.frames = some (env :: outer)) (hf : env.frame = some L) (hke : env.scope.kind = .function)
    (ho : K.lookup f = some ⟨oc, od, .func (fnOf name qual params body scope dV kV doc pm an cdv ct), osl⟩) (hcd : codeIn K cdv qual = true) (hroom : A.depth < recursionLimit)
    (hbind : BindsTo s (fnOf name qual params body scope dV kV doc pm an cdv ct) args binds) (hloc : ∀ y ∈ binds, scope.names.lookup y.1 = some .local)
    (h : ∀ g L' h₁, Fr h₀ L g m → Fr g L' h₁ (fun y => binds.reverse.lookup y) → News g L' h₁ news → Below A base (env :: outer) g → K.In g → Top p loose mean mg mb g →
      wpP (model prog w) (A.deeper (envOf qual scope L' f cdv)) (execs body (envOf qual scope L' f cdv))
        (fun fl s' => LeaveK h₀ L m g R (match fl with | .ret v => v | _ => .none) s') Nev
        { s with heap := h₁, toks := s.toks + binds.length })
    (hco : scope.isCoroutine = false) (hgen : scope.isGenerator = false) (hk : scope.kind = .function)
    (hcell : ∀ x ∈ scope.names, x.2 ≠ .cell) : codeP (model prog w) A (.call (.ref f) args) R s := by
  obtain ⟨FG, BG, st, lv⟩ := groundX (R := R) B F N hA hf hke
  refine codeP_call hroom ((X₀.keeps F.keep) _ _ ho) rfl hco hgen rfl (codeRec_of (X₀.keeps F.keep) hcd) (hbind _ _ _ _ ?_)
  refine wpAny_newFunctionEnv hcell hloc (fun h₁ hns₁ hsb₁ => ?_) hk
  refine ⟨(T.nolimit.keeps F.keep).fresh _ hsb₁, codeP_func ?_⟩
  have hk₁ : ∀ b o, s.heap.get? b = some o → h₁.get? b = some o := fun b o e => hsb₁.extBut b o (Nat.ne_of_lt (Heap.lt_size e)) (Heap.get?_push_of_some _ e)
  exact P_mono (h _ s.heap.objs.size h₁ FG ⟨hns₁, fun b o e => hk₁ b o (of_hideAll _ e), Nat.le_of_eq (hideAll_size _ _)⟩
    (fun p hp => ⟨hk₁ _ _ (N p hp).1, Nat.ne_of_lt (Heap.lt_size (N p hp).1), hideAll_none _ (List.mem_map_of_mem hp)⟩) BG (X₀.keeps st) (T.keeps st)) (fun fl s' hl => lv _ _ hl) fun _ _ y => y

theorem P_defC (B : Below A₀ base outer h₀) (F : Fr h₀ L s.heap m) (X₀ : K.In h₀) (N : News h₀ L s.heap news) (T : Top p loose mean mg mb h₀) (hA : A.frames = some (env :: outer)) (hf : env.frame = some L) (hke : env.scope.kind = .function)
    (ho : K.lookup f = some ⟨oc, od, .func (fnOf name qual params body scope dV kV doc pm an cdv ct), osl⟩) (hcd : codeIn K cdv qual = true) (hroom : A.depth < recursionLimit)
    (hbind : BindsTo s (fnOf name qual params body scope dV kV doc pm an cdv ct) args binds) (hkind : (binds.all fun y => scope.names.lookup y.1 == some .local || scope.names.lookup y.1 == some .cell) = true)
    (hnd : ((cellsFrom 0 scope.names []).map (·.1)).Nodup)
    (h : ∀ g L' h₁ tk cells, Fr h₀ L g m → Fr g L' h₁ (bindL (envOfC qual scope L' f cdv).kindOf binds fun _ => none) → News g L' h₁ (cells ++ news) →
      CellsAre (bindC (envOfC qual scope L' f cdv).kindOf binds fun _ => none) (cellsFrom (L' + 1) scope.names []) cells → Below A base (env :: outer) g → K.In g → Top p loose mean mg mb g → (∀ p ∈ news, p.1 < L') →
      wpP (model prog w) (A.deeper (envOfC qual scope L' f cdv)) (execs body (envOfC qual scope L' f cdv))
        (fun fl s' => LeaveK h₀ L m g R (match fl with | .ret v => v | _ => .none) s') Nev
        { s with heap := h₁, toks := tk })
    (hco : scope.isCoroutine = false) (hgen : scope.isGenerator = false) (hk : scope.kind = .function) : codeP (model prog w) A (.call (.ref f) args) R s := by
  obtain ⟨FG, BG, st, lv⟩ := groundX (R := R) B F N hA hf hke
  refine codeP_call hroom ((X₀.keeps F.keep) _ _ ho) rfl hco hgen rfl (codeRec_of (X₀.keeps F.keep) hcd) (hbind _ _ _ _ ?_)
  refine wpAny_newFunctionEnv_cells hk (kindsX hkind _) fun env' he s' x => ?_
  subst he
  refine ⟨(T.nolimit.keeps F.keep).keeps x.toInCall.keep, codeP_func ?_⟩
  obtain ⟨h₁, tk, rfl, _⟩ := x.done
  have hk₁ := x.toInCall.keep
  obtain ⟨cells, NC, Y⟩ := Cl.news (h₀ := s.heap) (Nat.le_refl _) fun n c hm => ⟨x.cell n c (lookup_of_mem_nodup (cellsFrom_names scope.names 0 (s.heap.objs.size + 1) [] [] rfl ▸ hnd) hm), x.above n c hm⟩
  refine P_mono (h _ s.heap.objs.size h₁ tk cells FG ⟨x.toInCall.ns, fun b o e => hk₁ b o (of_hideAll _ e), Nat.le_of_eq (hideAll_size _ _)⟩ (fun p hp => ?_) Y BG (X₀.keeps st) (T.keeps st) (fun p hp => Heap.lt_size (N p hp).1)) (fun fl s' hl => lv _ _ hl) fun _ _ y => y
  rcases List.mem_append.mp hp with hp | hp
  · refine ⟨(NC p hp).1, (NC p hp).2.1, ?_⟩
    cases q : (hideAll s.heap (news.map (·.1))).get? p.1 with
    | none => rfl
    | some o => have := of_hideAll _ q; rw [(NC p hp).2.2] at this; cases this
  · exact ⟨hk₁ _ _ (N p hp).1, Nat.ne_of_lt (Heap.lt_size (N p hp).1), hideAll_none _ (List.mem_map_of_mem hp)⟩
end

/-- the contract on a clean stack -/
noncomputable def CtrP (w : World) (mean : ExcName → Option Value) (mg mb : Str → Option Value) (f : Addr) (d u tm : Nat) (news : List (Addr × Obj)) (vs : List Value) (R : Value → Prop) : Prop :=
  ∀ (dp un : Nat) (cn : Str) (cs : Scope) (a : Addr) (ccd : Value) (cl : List (Str × Addr)) (outer : List Env) (A₀ : Around) (base h₀ : Heap) (L : Addr) (m : Str → Option Value) (s : Shared) (Q : Value → Shared → Prop),
    Below A₀ base outer h₀ → Fr h₀ L s.heap m → (Zn.hd.heap_39 w.params).In h₀ → News h₀ L s.heap news → Top Zn.hd.view_39 (looseW Zn.hd.view_39 []) mean mg mb h₀ → cs.kind = .function →
    dp + d < recursionLimit → un + u < cLine → tm ≤ s.toks →
    (∀ v h' tk', R v → Fr h₀ L h' m → News h₀ L h' news → Q v { s with heap := h', toks := tk' }) →
      wpP (model PySem.Challenge.rw_zn0007_01.row.prog w) (ktrTop dp un (some []) cn cs L a ccd cl outer) (call (.ref f) vs) Q Nev s
theorem call_ctrP {w : World} {mean : ExcName → Option Value} {mg mb : Str → Option Value} {f : Addr} {d u tm : Nat} {news : List (Addr × Obj)} {vs : List Value} {R : Value → Prop} (C : CtrP w mean mg mb f d u tm news vs R)
    {dp un : Nat} {cn : Str} {cs : Scope} {a : Addr} {ccd : Value} {cl : List (Str × Addr)} {outer : List Env} {A₀ : Around} {base h₀ : Heap} {L : Addr} {m : Str → Option Value} {s : Shared} {Q : Value → Shared → Prop}
    (B : Below A₀ base outer h₀) (F : Fr h₀ L s.heap m) (X : (Zn.hd.heap_39 w.params).In h₀) (N : News h₀ L s.heap news) (T : Top Zn.hd.view_39 (looseW Zn.hd.view_39 []) mean mg mb h₀) (hk : cs.kind = .function)
    (hd : dp + d < recursionLimit) (hu : un + u < cLine) (ht : tm ≤ s.toks) (ret : ∀ v h' tk', R v → Fr h₀ L h' m → News h₀ L h' news → Q v { s with heap := h', toks := tk' }) :
    wpP (model PySem.Challenge.rw_zn0007_01.row.prog w) (ktrTop dp un (some []) cn cs L a ccd cl outer) (call (.ref f) vs) Q Nev s := C _ _ _ _ _ _ _ _ _ _ _ _ _ _ _ B F X N T hk hd hu ht ret
end Zn
end
section
open PySem PySem.W PyProof.Rows
set_option maxRecDepth 100000
namespace Zn
open LCg (NsObj lst Off3 Off1 CompEnd)
section
variable {prog : Program} {w : World} {A : Around} {E : Value → Shared → Prop} {s : Shared} {h₀ : Heap} {L : Addr} {m : Str → Option Value} {env : Env} {RR : Value → Addr → Result → Shared → Prop}
/-- the list of a comprehension, stored in a cell -/
noncomputable def FinC (h₀ : Heap) (L : Addr) (m : Str → Option Value) (s : Shared) (c : Addr) (nx' : List (Addr × Obj)) (Q : Flow → Shared → Prop) (ys : List Value) : Prop :=
  ∀ D h tk o', o'.data = .cell (some (.ref D)) → Fr h₀ L h m → News h₀ L h ((c, o') :: (D, lst ys) :: nx') → (∀ p ∈ nx', p.1 ≠ D) → c ≠ D → Q .next { s with heap := h, toks := tk }
theorem rr_assignC {y : Str} {py : Pos} {Q : Flow → Shared → Prop} {Jn : List Value → List (Addr × Obj) → Prop} {c : Addr} {nx' : List (Addr × Obj)} (hk : env.scope.kind = .function) (hx : env.kindOf y = some .cell) (hc : env.cells.lookup y = some c)
    (hcell : ∀ ys nx, Jn ys nx → ∃ o v₀, (c, o) ∈ nx ∧ o.data = .cell v₀) (hsub : ∀ ys nx, Jn ys nx → ∀ p ∈ nx', p ∈ nx ∧ p.1 ≠ c)
    (fin : ∀ ys nx, Jn ys nx → FinC h₀ L m s c nx' Q ys) : RRok h₀ L m s Jn (compPost (model prog w) A E (some (assign (.Name y py) env)) fun _ s' => Q .next s') := by
  intro D C h tk m' ys nx F' N' o1 hn hC₀ hD₀ hCL hDL hCD offC hJ
  obtain ⟨o, v₀, hm, hd⟩ := hcell ys nx hJ
  have NC := N' (c, o) (.tail _ hm)
  have hcC : c ≠ C := offC (c, o) hm
  have offD : ∀ p ∈ nx, p.1 ≠ D := by
    have go : ∀ l, Off1 D l → ∀ p ∈ l, p.1 ≠ D := by
      intro l
      induction l with
      | nil => intro _ p hp; cases hp
      | cons a r ih =>
        intro ho p hp
        rcases List.mem_cons.mp hp with rfl | hp
        · exact ho.1
        · exact ih ho.2 p hp
    exact go nx o1
  have hcD : c ≠ D := offD (c, o) hm
  show wpAny _ A (assign (.Name y py) env (.ref D)) _ _ _
  refine wpAny_assign_Name (wpAny_storeName_cell hk hx hc ⟨o, NC.1, hd⟩ fun h₂ hv hs₂ => ?_)
  obtain ⟨o', ho', hd'⟩ := hv
  have F₂ : Fr h₀ L h₂ m := F'.change hs₂ NC.2.1 NC.2.2
  refine ⟨m', hn.sameBut hs₂ (Ne.symm hcC), fun h'' hs'' => fin ys nx hJ D h'' _ o' hd' (F₂.change hs'' hCL hC₀) (fun p hp => ?_) (fun p hp => offD p (hsub ys nx hJ p hp).1) hcD⟩
  rcases List.mem_cons.mp hp with rfl | hp
  · exact ⟨hs''.extBut _ _ hcC ho', NC.2⟩
  · rcases List.mem_cons.mp hp with rfl | hp
    · have z := N' (D, lst ys) (.head _)
      exact ⟨hs''.extBut _ _ (Ne.symm hCD) (hs₂.extBut _ _ (Ne.symm hcD) z.1), z.2⟩
    · obtain ⟨h1, h2⟩ := hsub ys nx hJ p hp
      have z := N' p (.tail _ h1)
      exact ⟨hs''.extBut _ _ (offC p h1) (hs₂.extBut _ _ h2 z.1), z.2⟩
section
variable {elt iter : Expr} {ifs : List Expr} {x : Str} {px : Pos} {scope : Scope} {cl : List (Str × Addr)} {pos : Pos} {news : List (Addr × Obj)} {J : Nat → List Value → Prop}
/-- the sources, where a turn leaves the ledger as it was -/
theorem keep_range {r : Addr} {a b : Int} {t u v : Tok} {n : Nat} (hh : A.handled = none) (F : Fr h₀ L s.heap m) (N : News h₀ L s.heap news)
    (hr : IsRange s.heap r a b 1 t u v) (hsm : Builtin.Range.small a b 1 = true) (hn : Builtin.Range.rangeSize a b 1 = ((n : Nat) : Int)) (h0 : J 0 []) (hsz : n ≤ sizeLine)
    (hcell : ∀ y ∈ scope.names, y.2 ≠ .cell) (hkind : scope.kind = .function) (hx : scope.names.lookup x = some .local)
    (turn : ∀ g, CTurn prog w A h₀ L m env elt ifs x scope cl { s with heap := g } (fun i v => ∃ t, v = .int (a + (i : Int)) t) (fun i ys nx => J i ys ∧ news = nx) n)
    (hRR : ∀ g, RRok h₀ L m { s with heap := g } (fun ys nx => J n ys ∧ news = nx) RR) :
    wpAny (model prog w) A (pyIter (.ref r)) (fun it s₂ => CBlock prog w A E env elt iter ifs x px scope cl pos RR it s₂) E s :=
  src_range (J := fun i ys nx => J i ys ∧ news = nx) hh F N hr hsm hn ⟨h0, rfl⟩ hsz hcell hkind hx turn hRR
theorem keep_list {l : Addr} {vs : List Value} (hh : A.handled = none) (F : Fr h₀ L s.heap m) (N : News h₀ L s.heap news) (hS : LCg.SrcAt h₀ l vs.toArray news) (h0 : J 0 []) (hsz : vs.length ≤ sizeLine)
    (hcell : ∀ y ∈ scope.names, y.2 ≠ .cell) (hkind : scope.kind = .function) (hx : scope.names.lookup x = some .local)
    (turn : ∀ g, CTurn prog w A h₀ L m env elt ifs x scope cl { s with heap := g } (fun i v => vs[i]? = some v) (fun i ys nx => J i ys ∧ news = nx) vs.length)
    (hRR : ∀ g, RRok h₀ L m { s with heap := g } (fun ys nx => J vs.length ys ∧ news = nx) RR) :
    wpAny (model prog w) A (pyIter (.ref l)) (fun it s₂ => CBlock prog w A E env elt iter ifs x px scope cl pos RR it s₂) E s :=
  src_list (J := fun i ys nx => J i ys ∧ news = nx) hh F N (fun i ys nx h => h.2 ▸ hS) ⟨h0, rfl⟩ hsz hcell hkind hx turn hRR
end
/-- the list of a comprehension, stored in a local name -/
noncomputable def FinB (h₀ : Heap) (L : Addr) (m : Str → Option Value) (s : Shared) (y : Str) (Q : Shared → Prop) (ys : List Value) (news : List (Addr × Obj)) : Prop :=
  ∀ D h tk, Fr h₀ L h (fun z => if z = y then some (.ref D) else m z) → News h₀ L h ((D, lst ys) :: news) → Off1 D news → Q { s with heap := h, toks := tk }
theorem rr_assignB {y : Str} {py : Pos} {Q : Shared → Prop} {Jn : List Value → List (Addr × Obj) → Prop} (hLe : env.locals = L) (hy : env.kindOf y = some .local)
    (hp : (env.scope.kind == .class || (env.scope.kind == .module && env.locals != env.globals)) = false)
    (fin : ∀ ys nx, Jn ys nx → FinB h₀ L m s y Q ys nx) : RRok h₀ L m s Jn (compPost (model prog w) A E (some (assign (.Name y py) env)) fun _ s' => Q s') :=
  rr_assign (Q := fun _ s' => Q s') hLe hy hp fin
/-- a free name within a block -/
theorem name_free {M : Model} {scope : Scope} {cl : List (Str × Addr)} {C c : Addr} {o : Obj} {x : Str} {pos : Pos} {v : Value} {news : List (Addr × Obj)} {Q : Value → Shared → Prop} (N : News h₀ L s.heap news) (hm : (c, o) ∈ news) (hd : o.data = .cell (some v)) (h : Q v s)
    (hk : (compEnvC scope cl C env).scope.kind = .function) (hx : (compEnvC scope cl C env).kindOf x = some .free) (hcl : (compEnvC scope cl C env).cells.lookup x = some c) (hb : (x == ("__debug__" : Str)) = false) (hn : (x == ("__classdict__" : Str)) = false) :
    wpAny M A (eval (.Name x pos) (compEnvC scope cl C env)) Q E s := wpAny_Name (wpAny_loadName_free hk hx hcl ⟨o, N.get hm, hd⟩ h hn) hb
theorem name_cellZ {M : Model} {scope : Scope} {cl : List (Str × Addr)} {C c : Addr} {o : Obj} {x : Str} {pos : Pos} {v : Value} {news : List (Addr × Obj)} {Q : Value → Shared → Prop} (N : News h₀ L s.heap news) (hm : (c, o) ∈ news) (hd : o.data = .cell (some v)) (h : Q v s)
    (hk : (compEnvC scope cl C env).scope.kind = .function) (hx : (compEnvC scope cl C env).kindOf x = some .cell) (hcl : (compEnvC scope cl C env).cells.lookup x = some c) (hb : (x == ("__debug__" : Str)) = false) :
    wpAny M A (eval (.Name x pos) (compEnvC scope cl C env)) Q E s := wpAny_Name (wpAny_loadName_cell hk hx hcl ⟨o, N.get hm, hd⟩ h) hb
end
end Zn
end
section
open PySem PySem.W PyProof.Rows
set_option maxRecDepth 100000
namespace Zn
section
variable {prog : Program} {w : World} {A : Around} {E : Value → Shared → Prop} {s : Shared} {h₀ : Heap} {L : Addr} {m : Str → Option Value} {news : List (Addr × Obj)}
theorem sum_Z {D : Addr} {vs : List Value} {ns : List Int} {lo hi st : Option Int} {k : Nat} {Q : Value → Shared → Prop} (hh : A.handled = none) (F : Fr h₀ L s.heap m) (N : News h₀ L s.heap news)
    (hm : (D, ({ cls := .type "list", data := .seq (slicePick vs.toArray lo hi st) k } : Obj)) ∈ news) (hi' : IntsAre vs ns)
    (h : ∀ z h' t k, Fr h₀ L h' m → News h₀ L h' news → Q (.int z t) { s with heap := h', toks := k }) : wpAny (model prog w) A (call (.builtin "sum") [.ref D]) Q E s := by
  have ha := (hi'.pick lo hi st).allInts
  rw [Array.toArray_toList] at ha
  obtain ⟨xs, hx⟩ := ha.items
  have hl : s.heap.IsList D (intItems xs) := ⟨_, (N _ hm).1, rfl, _, by rw [← hx]⟩
  exact sum_intListG hh hl fun h' tk t' hk => h _ h' t' tk (F.keeps hk) (N.grown hk)
end
end Zn
end
section
open PySem PySem.W PyProof.Rows PySem.Spec PySem.Calls
set_option maxRecDepth 100000
namespace Zn
section
variable {prog : Program} {w : World} {A : Around} {s : Shared} {env : Env}
theorem P_callWith_type {pos : Pos} {T : String} {e : Expr} {rest : List Expr} {Q : Value → Shared → Prop}
    (h : wpAny (model prog w) A (spliced (backTo pos (starEach (e :: rest) env))) (fun vs s₁ => wpP (model prog w) A (call (.type T) vs) Q Nev s₁) Nev s)
    (he : starEach (e :: rest) env = (false, eval e env) :: starEach rest env) (hst : ((backTo pos (starEach (e :: rest) env)).any (·.1)) = false) :
    wpP (model prog w) A (callWith pos (.type T) [] (backTo pos (starEach (e :: rest) env)) []) Q Nev s := by
  unfold callWith
  rw [hst]
  rw [he] at h ⊢
  refine P_step (wpAny_holding (Calls.evalArgs_plain (wpAny_mono h (fun vs s₁ h₁ => ?_) fun _ _ x => x)))
  refine P_step (wpAny_standAt ?_)
  refine P_step (m := keeperOf (.type T)) (wpAny_of_eq rfl ?_)
  exact P_bind (P_mono h₁ (fun r s₂ hr => P_step (wpAny_holding (wpAny_point (P_pure hr)))) fun _ _ x => x)
theorem P_ba {h₀ : Heap} {L : Addr} {m : Str → Option Value} {news : List (Addr × Obj)} {n : Int} {t : Tok} {Q : Value → Shared → Prop} (F : Fr h₀ L s.heap m) (N : News h₀ L s.heap news) (h0 : 0 ≤ n) (hn : n ≤ 16777216) (hg : A.guards = some [])
    (h : ∀ D h', (∀ p ∈ news, p.1 ≠ D) → Fr h₀ L h' m → News h₀ L h' ((D, baObj (Array.replicate n.toNat 0)) :: news) → Q (.ref D) { s with heap := h' }) : wpP (model prog w) A (call (.type "bytearray") [.int n t]) Q Nev s := by
  refine P_bytearray h0 hn hg fun h' hD hk => h _ h' (fun p hp => Nat.ne_of_lt (Heap.lt_size (N p hp).1)) (F.keeps hk) fun p hp => ?_
  rcases List.mem_cons.mp hp with rfl | hp
  · exact ⟨hD, Ne.symm (Nat.ne_of_lt F.ns.lt), next_is_new F⟩
  · exact N.grown hk p hp
/-- the frame stands, and so on -/
noncomputable def OnFr (h₀ : Heap) (L : Addr) (s : Shared) (P : Prop) : Prop := (∃ m, Fr h₀ L s.heap m) ∧ P
/-- a call of a def of the written part -/
theorem P_callDef {K : Frag} {h₀ : Heap} {L : Addr} {pos : Pos} {f : Addr} {oc : Value} {od : Option Addr} {osl : Array (Option Value)} {fd : FuncData} {e : Expr} {rest : List Expr} {Q : Value → Shared → Prop} (X : K.In h₀) (ho : K.lookup f = some ⟨oc, od, .func fd, osl⟩)
    (h : wpAny (model prog w) A (spliced (backTo pos (starEach (e :: rest) env))) (fun vs s₁ => OnFr h₀ L s₁ (wpP (model prog w) A (call (.ref f) vs) Q Nev s₁)) Nev s)
    (he : starEach (e :: rest) env = (false, eval e env) :: starEach rest env) :
    wpP (model prog w) A (callWith pos (.ref f) [] (backTo pos (starEach (e :: rest) env)) []) Q Nev s :=
  P_callWith (a := f) (o := ⟨oc, od, .func fd, osl⟩) (fd := fd) rfl (wpAny_mono h (fun vs s₁ h₁ => by
    obtain ⟨⟨m, F⟩, h₁⟩ := h₁
    exact ⟨(X.keeps F.keep) _ _ ho, h₁⟩) fun _ _ x => x) he
end
end Zn
end
section
theorem Zn.fresh_ZSwap (M : PySem.Model) (A : PySem.Around) (env : PySem.Env) (E : PySem.Value → PySem.Shared → Prop) (s : PySem.Shared) : PySem.wpAny M A (PySem.execs [] env) (fun _ _ => True) E s := by
  w_top off
  k_with_none
  walk1
  trivial
open PySem PySem.W PyProof.Rows PySem.Spec PySem.Calls
set_option maxRecDepth 100000
namespace Zn
theorem upd_eq {m m1 : Str → Option Value} {x : Str} {v : Value} (h : ∀ y, y ≠ x → m y = m1 y) : (fun y => if y = x then some v else m y) = (fun y => if y = x then some v else m1 y) := by
  funext y
  by_cases e : y = x
  · rw [if_pos e, if_pos e]
  · rw [if_neg e, if_neg e, h y e]
local macro_rules | `(tactic| walk_at $s:str) => `(tactic| k_extra $s)
theorem item_Z {prog : Program} {w : World} {A : Around} {E : Value → Shared → Prop} {s : Shared} {value slice : PySem.Expr} {b : Array UInt8} {t ui : Tok} {i : Int} {Q : Value → Shared → Prop} (hfit : b.size ≤ 1099511627776) (h0 : 0 ≤ i) (h1 : i < (b.size : Int))
    (h : ∀ t' k, Q (.int (((b.getD i.toNat 0).toNat : Nat) : Int) t') { s with toks := k })
    (hs : subscripted slice false (.bytes b t) (.int i ui) = operate [.bytes b t, .int i ui] (getItem (.bytes b t) (.int i ui)))
    (ht : ∀ r, letTemporaryGo value (.bytes b t) r = pure ()) : wpAny (model prog w) A (subscriptTail value slice (.bytes b t) (.int i ui)) Q E s := by
  refine KBw.item_K rfl (by rw [KBw.ints_length]; exact hfit) h0 (by rw [KBw.ints_length]; exact h1) (fun t' k _ _ => ?_) hs ht
  show Q (.int ((b.toList.map fun c => ((c.toNat : Nat) : Int)).getD i.toNat 0) t') _
  rw [← KBw.getD_ints]
  have e : b.toList.getD i.toNat 0 = b.getD i.toNat 0 := by simp [Array.getD, List.getD_eq_getElem?_getD]; split <;> simp_all
  rw [e]
  exact h t' k
theorem ba_set {prog : Program} {w : World} {A : Around} {E : Value → Shared → Prop} {s : Shared} {h₀ : Heap} {L : Addr} {m : Str → Option Value} {p q : Addr × Obj} {D : Addr} {b : Array UInt8} {rest : List (Addr × Obj)} {k x : Int} {t u : Tok} {Q : Unit → Shared → Prop}
    (F : Fr h₀ L s.heap m) (N : News h₀ L s.heap (p :: q :: (D, baObj b) :: rest)) (h0 : 0 ≤ k) (hk : k < b.size) (hz : b.size ≤ 16777216) (x0 : 0 ≤ x) (x1 : x < 256) (hn : p.1 ≠ D) (hq : q.1 ≠ D) (hr : ∀ z ∈ rest, z.1 ≠ D)
    (h : ∀ h', Fr h₀ L h' m → News h₀ L h' (p :: q :: (D, baObj (b.setIfInBounds k.toNat x.toNat.toUInt8)) :: rest) → Q () { s with heap := h' }) : wpAny (model prog w) A (setItem (.ref D) (.int k t) (.int x u)) Q E s := by
  have ND := N (D, baObj b) (.tail _ (.tail _ (.head _)))
  refine ba_setItem ND.1 h0 hk hz x0 x1 fun h' hD' hs => h h' (F.change hs ND.2.1 ND.2.2) fun z hz' => ?_
  rcases List.mem_cons.mp hz' with rfl | hz'
  · exact ⟨hs.extBut _ _ hn (N _ (.head _)).1, (N _ (.head _)).2⟩
  · rcases List.mem_cons.mp hz' with rfl | hz'
    · exact ⟨hs.extBut _ _ hq (N _ (.tail _ (.head _))).1, (N _ (.tail _ (.head _))).2⟩
    · rcases List.mem_cons.mp hz' with rfl | hz'
      · exact ⟨hD', ND.2⟩
      · have N' := N z (.tail _ (.tail _ (.tail _ hz')))
        exact ⟨hs.extBut _ _ (hr z hz') N'.1, N'.2⟩
theorem rs_one {n : Nat} (h : 1 ≤ n) : Builtin.Range.rangeSize 0 (n : Int) (n : Int) = ((1 : Nat) : Int) := by
  unfold Builtin.Range.rangeSize
  rw [if_pos (by omega), if_pos (by omega), Int.ediv_eq_zero_of_lt (by omega) (by omega)]
  rfl
theorem rs_n {n : Nat} : Builtin.Range.rangeSize 0 (n : Int) 1 = ((n : Nat) : Int) := by
  unfold Builtin.Range.rangeSize
  rw [if_pos (by omega), Int.ediv_one]
  split <;> omega
theorem rs_small {n : Nat} (h : 1 ≤ n) (h2 : n ≤ 16777216) : Builtin.Range.small 0 (n : Int) (n : Int) = true := by
  have e := rs_one h
  have f : ∀ x : Int, 0 ≤ x → x ≤ 100000000 → Builtin.Range.rangeFitsLong x = true := fun x h0 h1 => by
    unfold Builtin.Range.rangeFitsLong
    simp only [Bool.and_eq_true, decide_eq_true_eq]; omega
  unfold Builtin.Range.small
  rw [e, f 0 (by omega) (by omega), f n (by omega) (by omega), if_pos (by omega), f (n + (n - 1)) (by omega) (by omega)]
  decide
theorem rs_small1 {n : Nat} (h2 : n ≤ 16777216) : Builtin.Range.small 0 (n : Int) 1 = true := by
  have e := rs_n (n := n)
  have f : ∀ x : Int, 0 ≤ x → x ≤ 100000000 → Builtin.Range.rangeFitsLong x = true := fun x h0 h1 => by
    unfold Builtin.Range.rangeFitsLong
    simp only [Bool.and_eq_true, decide_eq_true_eq]; omega
  unfold Builtin.Range.small
  rw [e, f 0 (by omega) (by omega), f n (by omega) (by omega), f 1 (by omega) (by omega), if_pos (by omega), f (n + (1 - 1)) (by omega) (by omega)]
  simp
theorem fr_know {h₀ h : Heap} {L : Addr} {m : Str → Option Value} {x : Str} {v : Value} (hm : m x = some v) (F : Fr h₀ L h m) : Fr h₀ L h (fun y => if y = x then some v else m y) := by
  have e : (fun y => if y = x then some v else m y) = m := by
    funext y
    by_cases e : y = x
    · rw [if_pos e, e, hm]
    · rw [if_neg e]
  rw [e]; exact F
theorem ba_ne (b : Array UInt8) : (baObj b).cls ≠ .type "range_iterator" := show Value.type "bytearray" ≠ .type "range_iterator" by decide
noncomputable def mS (D : Addr) (b : Array UInt8) (t t' : Tok) : Str → Option Value := fun y => if y = Str.ofString "swapped_data" then some (Value.ref D) else List.lookup y [(Str.ofString "data", Value.bytes b t), (Str.ofString "width", Value.int ((b.size : Nat) : Int) t')].reverse
noncomputable def mS2 (D : Addr) (b : Array UInt8) (t t' tv : Tok) : Str → Option Value := fun y => if y = Str.ofString "i" then some (Value.int (0 + ((0 : Nat) : Int) * ((b.size : Nat) : Int)) tv) else mS D b t t' y
noncomputable def swp (b : Array UInt8) : Nat → Array UInt8
  | 0 => Array.replicate ((b.size : Nat) : Int).toNat 0
  | k + 1 => (swp b k).setIfInBounds (b.size - 1 - k) (b.getD k 0)
theorem swp_size (b : Array UInt8) (k : Nat) : (swp b k).size = b.size := by
  induction k with
  | zero => simp [swp]
  | succ k ih => simp [swp, ih]
theorem swp_at (b : Array UInt8) : ∀ k, k ≤ b.size → ∀ i, i < b.size → b.size - k ≤ i → (swp b k)[i]? = b[b.size - 1 - i]? := by
  intro k
  induction k with
  | zero => intro _ i hi h; omega
  | succ k ih =>
    intro hk i hi h
    unfold swp
    rw [Array.getElem?_setIfInBounds]
    by_cases e : b.size - 1 - k = i
    · rw [if_pos e, if_pos (by rw [swp_size]; omega)]
      have e2 : b.size - 1 - i = k := by omega
      rw [e2, Array.getD_eq_getD_getElem?, Array.getElem?_eq_getElem (by omega)]
      rfl
    · rw [if_neg e]
      exact ih (by omega) i hi (by omega)
theorem swp_rev (b : Array UInt8) : swp b b.size = b.reverse := by
  apply Array.ext_getElem?
  intro i
  by_cases hi : i < b.size
  · rw [swp_at b _ (Nat.le_refl _) i hi (by omega), Array.getElem?_reverse hi]
  · rw [Array.getElem?_eq_none (by rw [swp_size]; omega), Array.getElem?_eq_none (by rw [Array.size_reverse]; omega)]
local macro_rules | `(tactic| k_lt $h:ident) => `(tactic| replace $h := allLt_of $h)
local macro_rules | `(tactic| x_head) => `(tactic| k_extra "x_head")
local macro_rules | `(tactic| z_head) => `(tactic| k_extra "z_head")
local macro_rules | `(tactic| k_ne) => `(tactic| k_extra "k_ne")
local macro_rules | `(tactic| k_all) => `(tactic| k_extra "k_all")
set_option maxHeartbeats 8000000 in
theorem c_swap (w : World) (mean : ExcName → Option Value) (mg mb : Str → Option Value) (news : List (Addr × Obj)) (b : Array UInt8) (n : Nat) (t t' : Tok) (hb : b.size = n) (h1 : 1 ≤ n) (hn : n ≤ 2000000) :
   CtrP w mean mg mb 63 1 8 0 news [.bytes b t, .int (n : Int) t'] (fun v => ∃ t, v = .bytes b.reverse t) := by
  k_with_none
  k_with "x_head" => ((repeat (first | with_reducible exact m0 | with_reducible refine m1 ?_)))
  k_with "z_head" => (first | with_reducible assumption | exact up1 _ | exact up2 _ | exact up3 _ | (refine' lt_ne ?q1h ?q1m; (case q1h => with_reducible assumption); (case q1m => x_head)) | (refine' off_ne ?q1h ?q1m; (case q1h => with_reducible assumption); (case q1m => x_head)) | (refine' all_ne1 ?q1h ?q1m; (case q1h => with_reducible assumption); (case q1m => x_head)) | (refine' lt_ne_le ?q1h (le1 _) ?q1m; (case q1h => with_reducible assumption); (case q1m => x_head)) | (refine' lt_ne_le ?q1h (le2 _) ?q1m; (case q1h => with_reducible assumption); (case q1m => x_head)) | (refine' lt_ne_le ?q1h (le3 _) ?q1m; (case q1h => with_reducible assumption); (case q1m => x_head)) | (refine' lt_ne_le ?q1h (le4 _) ?q1m; (case q1h => with_reducible assumption); (case q1m => x_head)))
  k_with "k_ne" => ((refine neN ?_; (try dsimp only); first | z_head | (refine Ne.symm ?_; z_head) | assumption | (refine Ne.symm ?_; assumption)))
  k_with "k_all" => (first | with_reducible assumption | (refine' lt_suf ?q3h ?q3s; (case q3h => with_reducible assumption); (case q3s => (intro p hp; repeat (first | with_reducible exact hp | with_reducible refine m1 ?_)))) | (refine' off_suf ?q3h ?q3s; (case q3h => with_reducible assumption); (case q3s => (intro p hp; repeat (first | with_reducible exact hp | with_reducible refine m1 ?_)))) | (refine' lt_le ?q3h (le1 _); (case q3h => with_reducible assumption)) | (refine' lt_le ?q3h (le2 _); (case q3h => with_reducible assumption)) | (refine' lt_le ?q3h (le3 _); (case q3h => with_reducible assumption)) | (refine' lt_le ?q3h (le4 _); (case q3h => with_reducible assumption)) | (refine' List.forall_mem_cons.mpr ⟨?q3a, ?q3b⟩; (case q3a => k_ne); (case q3b => k_all)))
  k_with "exec For Name Call cons nil" => ((k_here; k_dflt (refine' wpAny_For ?_ (fun _ => rfl))))
  k_with "subscriptTail" => ((k_here; k_dflt (refine' item_Z ?q1f ?q1a ?q1b ?_ ?q1s ?q1g; (case q1f => omega); (case q1a => omega); (case q1b => omega); (case q1s => with_unfolding_all rfl); (case q1g => intro _; with_unfolding_all rfl)); intro t9 k9))
  unfold CtrP
  k_fill
  intro dp un cn cs a ccd cl outer A₀ base h₀ L m s Q hB hF hK hN hT hkind hd hu ht hret
  refine P_call ?_
  k_dflt (refine' P_def (binds := [(Str.ofString "data", .bytes b t), (Str.ofString "width", .int (n : Int) t')]) ?k1 ?k2 ?k3 ?k4 ?k5 ?kA ?kF ?kK ?k6 ?k7 ?k8 ?k9 ?kB ?_ ?c2 ?c3 ?c4 ?c5; (case kA => exact rfl); (case kF => exact rfl); (case kK => assumption); (case k1 => k_asm); (case k2 => k_asm); (case k3 => k_asm); (case k4 => k_asm); (case k5 => k_asm); (case k6 => k_is); (case k7 => k_is); (case k8 => ktr_room); (case k9 => exact BindsTo.of_eq rfl); (case c5 => decide); (case kB => exact locs rfl); (case c2 => exact rfl); (case c3 => exact rfl); (case c4 => exact rfl); k_whole; intro g' L' h' FG' F' N' B' X' T'; (try dsimp only); (try k_lift B'))
  refine P_execs_cons (P_Assign_Name (P_Call ?_ rfl) rfl)
  k_steps
  refine P_callWith_type ?_ rfl rfl
  k_steps
  refine P_ba (by k_asm) (by k_asm) (by omega) ?_ rfl ?_
  · subst hb; show ((b.size : Nat) : Int) ≤ _; omega
  intro D h9 hD9 F9 N9
  k_steps
  dsimp only
  refine P_any ?_
  k_steps
  subst hb
  refine iter_range (h₀ := g') (n := 1) (m₀ := mS D b t t') (news₀ := (D, baObj (swp b 0)) :: news) (ra := 0) (rb := (b.size : Int)) (rc := (b.size : Int))
    (fun i mm nx => (i = 0 → mm = mS D b t t' ∧ nx = (D, baObj (swp b 0)) :: news) ∧ (i = 1 → mm (Str.ofString "swapped_data") = some (.ref D) ∧ nx = (D, baObj (swp b b.size)) :: news)) rfl (by k_asm) (by k_asm) (by assumption) (rs_small h1 (by omega)) (rs_one h1) ⟨fun _ => ⟨rfl, rfl⟩, fun e => by cases e⟩ (fun _ _ => rfl) ?_ ?_
  · intro i tv I oI mm nx h tk hi hJ _ (F : Fr g' L' h mm) (N : News g' L' h _) hkd hoI
    obtain rfl : i = 0 := by omega
    refine by_no fun hG9 => ?_
    obtain ⟨rfl, rfl⟩ := hJ.1 rfl
    refine hG9 ?_
    clear hG9
    k_steps
    refine iter_range (h₀ := g') (n := b.size) (m₀ := mS2 D b t t' tv) (news₀ := (I, oI) :: (D, baObj (swp b 0)) :: news) (ra := 0) (rb := (b.size : Int)) (rc := 1)
      (fun k mm nx => (∀ y, y ≠ Str.ofString "j" → mm y = mS2 D b t t' tv y) ∧ nx = (I, oI) :: (D, baObj (swp b k)) :: news) rfl (by k_asm) (by k_asm) (by assumption) (rs_small1 (by omega)) rs_n ⟨fun _ _ => rfl, rfl⟩ (fun _ _ => rfl) ?_ ?_
    · intro j tj J oJ mm nx h2 tk2 hj hJ2 _ (F2 : Fr g' L' h2 mm) (N2 : News g' L' h2 _) hkd2 hoJ
      refine by_no fun hG9 => ?_
      obtain ⟨hm2, rfl⟩ := hJ2
      refine hG9 ?_
      clear hG9
      k_dflt (refine' wpAny_assign_Name (storeX_L (by k_asm) (by k_asm) ?_ rfl rfl))
      intro h3 F3 N3
      rw [upd_eq hm2] at F3
      clear F2 N2
      k_steps
      k_dflt (refine' ba_set ?F ?N ?a ?b ?c ?d ?e ?f ?g ?i ?_; (case F => k_asm); (case N => k_asm); (case a => omega); (case b => rw [swp_size]; omega); (case c => rw [swp_size]; omega); (case d => omega); (case e => exact Int.ofNat_lt.mpr (UInt8.toNat_lt _)); (case f => exact Ne.symm (hoJ (D, _) (.tail _ (.head _)))); (case g => exact Ne.symm (hoI (D, _) (.head _))); (case i => exact hD9))
      intro h4 F4 N4
      k_steps
      refine ⟨h4, _, _, _, rfl, F4, N4, fun p hp => ?_, fun y hy => if_neg hy, ?_⟩
      · rcases List.mem_cons.mp hp with rfl | hp
        · exact .inl ⟨_, .head _, rfl⟩
        · rcases List.mem_cons.mp hp with rfl | hp
          · exact .inr (ba_ne _)
          · exact .inl ⟨_, .tail _ (.tail _ hp), rfl⟩
      · have e1 : (0 + ((0 : Nat) : Int) * ((b.size : Nat) : Int) + ((b.size : Nat) : Int) - 1 - (0 + (j : Int) * 1)).toNat = b.size - 1 - j := by omega
        have e2 : (0 + ((0 : Nat) : Int) * ((b.size : Nat) : Int) + (0 + (j : Int) * 1)).toNat = j := by omega
        rw [e1, e2, Int.toNat_natCast, Nat.toUInt8, UInt8.ofNat_toNat]
        rfl
    · intro mm nx h2 tk2 hJ2 _ (F2 : Fr g' L' h2 mm) (N2 : News g' L' h2 _)
      refine by_no fun hG9 => ?_
      obtain ⟨hm2, rfl⟩ := hJ2
      refine hG9 ?_
      clear hG9
      k_steps
      refine ⟨h2, _, _, _, rfl, F2, N2, fun p hp => ?_, fun e => by omega, fun _ => ⟨(hm2 _ (by decide +kernel)).trans rfl, rfl⟩⟩
      rcases List.mem_cons.mp hp with rfl | hp
      · exact .inr (ba_ne _)
      · exact .inl ⟨_, .tail _ hp, rfl⟩
  · intro mm nx h2 tk2 hJ2 _ (F2 : Fr g' L' h2 mm) (N2 : News g' L' h2 _)
    refine by_no fun hG9 => ?_
    obtain ⟨hm2, rfl⟩ := hJ2.2 rfl
    refine hG9 ?_
    clear hG9
    dsimp only
    have F3 := fr_know hm2 F2
    clear F2
    k_steps
    refine ba_bytes (N2 _ (.head _)).1 (by rw [swp_size]; omega) fun t9 k9 => ?_
    k_steps
    exact hret _ _ _ ⟨_, by rw [swp_rev]⟩ (by k_asm) (drop1 (by k_asm))
end Zn
end
section
open PySem PySem.W PyProof.Rows
set_option maxRecDepth 100000
namespace Zn
theorem empty_is : Str.ofString "" = S [] := by decide +kernel
theorem join_S : ∀ xs : List (List Nat), Str.join (S []) (xs.map S) = S xs.flatten
  | [] => rfl
  | [x] => by
    show S x = _
    simp
  | x :: y :: r => by
    have ih := join_S (y :: r)
    show S x ++ S [] ++ Str.join (S []) ((y :: r).map S) = _
    rw [ih, S_app, S_app]
    simp
theorem sum_S (xs : List (List Nat)) : ((xs.map S).map (·.length)).sum = xs.flatten.length := by
  rw [List.length_flatten, List.map_map]
  congr 1
theorem strs_snoc {ys : List Value} {xs : List Str} (h : StrsAre ys xs) (x : Str) (t : Tok) : StrsAre (ys ++ [.str x t]) (xs ++ [x]) := by
  induction h with
  | nil => exact .cons x t .nil
  | cons k u _ ih => exact .cons k u ih
section
variable {prog : Program} {w : World} {A : Around} {E : Value → Shared → Prop} {s : Shared} {h₀ : Heap} {L : Addr} {news : List (Addr × Obj)} {t : Tok} {Q : Value → Shared → Prop}
theorem join_Z {D : Addr} {ys : List Value} {xs : List (List Nat)} {k : Nat} (N : News h₀ L s.heap news) (hm : (D, ({ cls := .type "list", data := .seq ys.toArray k } : Obj)) ∈ news) (hi : StrsAre ys (xs.map S)) (hok : xs.flatten.length ≤ 16777216)
    (h : ∀ t' k, Q (.str (S xs.flatten) t') { s with toks := k }) : wpAny (model prog w) A (call (.builtin "str.join") [.str (Str.ofString "") t, .ref D]) Q E s := by
  rw [empty_is]
  refine join_list (items := ys.toArray) (ys := xs.map S) ⟨_, (N _ hm).1, rfl, _, rfl⟩ (by simpa using hi) ?_ fun t' k => ?_
  · rw [sum_S, S_len]; simpa using hok
  · have e : Txt.join (S []) (xs.map S) = S xs.flatten := (StrLaws.glued_eq_join _ _).trans (join_S xs)
    rw [e]; exact h _ _
end
end Zn
end
section
theorem Zn.fresh_ZTurn (M : PySem.Model) (A : PySem.Around) (env : PySem.Env) (E : PySem.Value → PySem.Shared → Prop) (s : PySem.Shared) : PySem.wpAny M A (PySem.execs [] env) (fun _ _ => True) E s := by
  w_top off
  k_with_none
  walk1
  trivial
open PySem PySem.W PyProof.Rows PySem.Spec PySem.Calls
set_option maxRecDepth 100000
namespace Zn
local macro_rules | `(tactic| walk_at $s:str) => `(tactic| k_extra $s)
theorem ints_snoc {ys : List Value} {ns : List Int} (h : IntsAre ys ns) (n : Int) (t : Tok) : IntsAre (ys ++ [.int n t]) (ns ++ [n]) := by
  induction h with
  | nil => exact .cons n t .nil
  | cons k u _ ih => exact .cons k u ih
theorem chr_ok (c : UInt8) : (decide (((c.toNat : Nat) : Int) < 0) || decide (((c.toNat : Nat) : Int) > 0x10FFFF)) = false := by
  have := UInt8.toNat_lt c
  simp only [Bool.or_eq_false_iff, decide_eq_false_iff_not]; omega
theorem flat_one (l : List Nat) : (l.map fun c => [c]).flatten = l := by
  induction l with
  | nil => rfl
  | cons a r ih => simp [ih]
theorem bytes_Z {prog : Program} {w : World} {A : Around} {E : Value → Shared → Prop} {s : Shared} {h₀ : Heap} {L : Addr} {m : Str → Option Value} {news : List (Addr × Obj)} {D : Addr} {ys : List Value} {ns : List Int} {Q : Value → Shared → Prop}
    (F : Fr h₀ L s.heap m) (N : News h₀ L s.heap news) (hm : (D, LCg.lst ys) ∈ news) (hi : IntsAre ys ns) (hr : ∀ n ∈ ns, 0 ≤ n ∧ n < 256) (hz : ys.length ≤ sizeLine) (hh : A.handled = none)
    (h : ∀ h' t k, Fr h₀ L h' m → News h₀ L h' news → Q (.bytes (byteArr ns) t) { s with heap := h', toks := k }) : wpAny (model prog w) A (call (.type "bytes") [.ref D]) Q E s :=
  call_bytes_ints ⟨_, (N _ hm).1, rfl, _, rfl⟩ hi hr hz hh fun h' t k hk => h h' t k (F.keeps hk) (N.grown hk)
theorem len_Z {prog : Program} {w : World} {A : Around} {E : Value → Shared → Prop} {s : Shared} {l : List Nat} {t : Tok} {Q : Value → Shared → Prop} (hl : l.length ≤ 330000) (h : ∀ t' k, Q (.int (l.length : Int) t') { s with toks := k }) :
    wpAny (model prog w) A (call (.builtin "len") [.str (S l) t]) Q E s := len_str (by rw [S_len]; omega) (by rw [S_len]; exact h _ _)
theorem bb_at {l : List Nat} (hok : ∀ c ∈ l, c < 128) : ∀ (i : Nat) (c : UInt8), (byteArr (l.map Int.ofNat)).reverse[i]? = some c → l.reverse[i]? = some c.toNat := by
  intro i c h
  have hl : (byteArr (l.map Int.ofNat)).reverse = (l.reverse.map fun n => n.toUInt8).toArray := by
    unfold byteArr
    rw [List.map_map, List.reverse_toArray, ← List.map_reverse]
    rfl
  rw [hl] at h
  have h : (l.reverse.map fun n => n.toUInt8)[i]? = some c := by simpa using h
  rw [List.getElem?_map] at h
  cases e : l.reverse[i]? with
  | none => rw [e] at h; cases h
  | some n =>
    rw [e] at h
    have hn : n < 128 := hok n (List.mem_reverse.mp (List.mem_of_getElem? e))
    have : n.toUInt8 = c := Option.some.inj h
    rw [← this]
    show some n = some (UInt8.ofNat n).toNat
    rw [UInt8.toNat_ofNat_of_lt' (by show n < 256; omega)]
set_option maxHeartbeats 8000000 in
theorem c_turned (w : World) (mean : ExcName → Option Value) (mg mb : Str → Option Value) (news : List (Addr × Obj)) (l : List Nat) (t : Tok) (hl : l.length ≤ 330000) (hne : l ≠ []) (hok : ∀ c ∈ l, c < 128) :
   CtrP w mean mg mb 68 2 16 0 news [.str (S l) t] (fun v => ∃ t, v = .str (S l.reverse) t) := by
  k_with_none
  k_with "eval ListComp" => ((k_here; k_dflt (refine' ListComp_Z (cl := []) ?q0a ?q0b ?q0c ?_ ?q0e; (case q0a => exact rfl); (case q0b => exact rfl); (case q0c => decide); (case q0e => exact (fun _ => rfl)))))
  k_with "call builtin:len" => ((k_here; k_dflt (refine' len_Z ?q1a ?_; (case q1a => omega)); intro _ _))
  k_with "call builtin:chr" => ((k_here; k_dflt (refine' P.chr_of_int ?q2a ?_; (case q2a => exact chr_ok _))))
  k_with "call builtin:ord" => ((k_here; k_dflt (refine' P.ord_of_char ?_)))
  have hsz : (S l).length ≤ sizeLine := by rw [S_len, sizeLine_eq]; omega
  unfold CtrP
  k_fill
  intro dp un cn cs a ccd cl outer A₀ base h₀ L m s Q hB hF hK hN hT hkind hd hu ht hret
  refine P_call ?_
  k_dflt (refine' P_def (binds := [(Str.ofString "text", .str (S l) t)]) ?k1 ?k2 ?k3 ?k4 ?k5 ?kA ?kF ?kK ?k6 ?k7 ?k8 ?k9 ?kB ?_ ?c2 ?c3 ?c4 ?c5; (case kA => exact rfl); (case kF => exact rfl); (case kK => assumption); (case k1 => k_asm); (case k2 => k_asm); (case k3 => k_asm); (case k4 => k_asm); (case k5 => k_asm); (case k6 => k_is); (case k7 => k_is); (case k8 => ktr_room); (case k9 => exact BindsTo.of_eq rfl); (case c5 => decide); (case kB => exact locs rfl); (case c2 => exact rfl); (case c3 => exact rfl); (case c4 => exact rfl); k_whole; intro g' L' h' FG' F' N' B' X' T'; (try dsimp only); (try k_lift B'))
  refine P_execs_cons (P_Assign_Name (P_Call ?_ rfl) rfl)
  k_steps
  k_dflt (refine' P_callDef (L := L') ?X ?o ?_ ?he; (case X => exact X'); (case o => k_is); (case he => exact rfl))
  k_steps
  refine src_str (h₀ := g') (L := L') (J := fun i ys nx => IntsAre ys ((l.take i).map Int.ofNat) ∧ news = nx) rfl (by k_asm) (by k_asm) ⟨.nil, rfl⟩ (by exact hsz) (by decide) rfl rfl ?_ (fun g => rr_eval fun ys0 nx hJ => ?_)
  · intro g i v I oI C oC D m₂ ys nx h tk E' hi hP hJ hC hx F N off ne
    refine by_no fun hG9 => ?_
    obtain ⟨c, u, hc, rfl⟩ := hP
    obtain ⟨hy, rfl⟩ := hJ
    refine hG9 ?_
    clear hG9
    refine tests_nil ?_
    rw [if_pos rfl]
    k_steps
    refine ⟨h, _, news, rfl, F, N, off, trivial, ?_, rfl⟩
    rw [List.take_add_one, (by simpa [S] using hc : l[i]? = some c), List.map_append]
    exact ints_snoc hy _ _
  · refine by_no fun hG9 => ?_
    obtain ⟨hy, rfl⟩ := hJ
    refine hG9 ?_
    clear hG9
    unfold LCg.FinE
    intro D' h' tk' F' N' o1'
    k_steps
    have e1 : List.take (S l).cps.size l = l := List.take_of_length_le (by simp [S])
    refine bytes_Z (by k_asm) (by k_asm) (.head _) hy ?_ ?_ rfl ?_
    · intro n hn
      rw [e1] at hn
      refine by_no fun hG9 => ?_
      obtain ⟨c, hc, rfl⟩ := List.mem_map.mp hn
      refine hG9 ?_
      clear hG9
      have := hok c hc
      show 0 ≤ (c : Int) ∧ (c : Int) < 256
      omega
    · rw [hy.length, e1, List.length_map]; rw [S_len] at hsz; exact hsz
    intro h9 t9 k9 F9 N9
    k_steps
    refine ⟨⟨_, by k_asm⟩, ?_⟩
    k_dflt (refine' call_ctrP (c_swap w mean mg mb ((D', LCg.lst ys0) :: news) _ _ _ _ ?s1 ?s2 ?s3) ?B ?F ?X ?N ?T ?k ?d ?u ?t ?_; (case s1 => rw [byteArr_size, List.length_map, e1]); (case s2 => exact List.length_pos_iff.mpr hne); (case s3 => omega); (case B => k_asm); (case F => k_asm); (case X => k_asm); (case N => k_asm); (case T => k_asm); (case k => exact rfl); (case d => show dp + 1 + 1 < _; omega); (case u => show un + 3 + 8 < _; omega); (case t => exact Nat.zero_le _))
    intro v h10 k10 hX39 F10 N10
    refine by_no fun hG9 => ?_
    obtain ⟨t10, rfl⟩ := hX39
    refine hG9 ?_
    clear hG9
    k_steps
    dsimp only
    refine P_any ?_
    k_steps
    rw [e1]
    generalize hbb : (byteArr (l.map Int.ofNat)).reverse = bb at *
    have hbs : bb.size = l.length := by rw [← hbb, Array.size_reverse, byteArr_size, List.length_map]
    have hat : ∀ (i : Nat) (c : UInt8), bb[i]? = some c → l.reverse[i]? = some c.toNat := hbb ▸ bb_at hok
    refine src_bytes (h₀ := g') (L := L') (J := fun i ys nx => StrsAre ys (((l.reverse.take i).map fun c => [c]).map S) ∧ (D', LCg.lst ys0) :: news = nx) rfl (by k_asm) (by k_asm) ⟨.nil, rfl⟩ (by rw [hbs]; rw [S_len] at hsz; exact hsz) (by decide) rfl rfl ?_ (fun g => rr_eval fun ys nx hJ => ?_)
    · intro g i v I oI C oC D m₂ ys nx h tk E' hi hP hJ hC hx F N off ne
      refine by_no fun hG9 => ?_
      obtain ⟨c, u, hc, rfl⟩ := hP
      obtain ⟨hy, rfl⟩ := hJ
      refine hG9 ?_
      clear hG9
      refine tests_nil ?_
      rw [if_pos rfl]
      k_steps
      refine ⟨h, _, _, rfl, F, N, off, trivial, ?_, rfl⟩
      rw [List.take_add_one, hat i c hc, List.map_append, List.map_append]
      exact strs_snoc hy _ _
    · refine by_no fun hG9 => ?_
      obtain ⟨hy, rfl⟩ := hJ
      refine hG9 ?_
      clear hG9
      k_steps
      refine join_Z (N := by k_asm) (.head _) hy ?_ ?_
      · rw [hbs, List.take_of_length_le (by simp), flat_one, List.length_reverse]; omega
      intro t11 k11
      k_steps
      refine hret _ _ _ ⟨_, by rw [hbs, List.take_of_length_le (by simp), flat_one]⟩ (by k_asm) (drop2 (by k_asm))
end Zn
end
section
open PySem PySem.W PyProof.Rows
set_option maxRecDepth 100000
namespace Zn
section
variable {prog : Program} {w : World} {A : Around} {E : Value → Shared → Prop} {s : Shared} {env : Env} {h₀ : Heap} {L : Addr}
theorem P_toks_of {α : Type} {M : Model} {t : Sem α} {Q : α → Shared → Prop} {E : Value → Shared → Prop} {n : Nat} (hn : n ≤ s.toks) (h : wpP M A t Q E s) :
    wpP M A t (fun a s' => n ≤ s'.toks ∧ Q a s') (fun e s' => n ≤ s'.toks ∧ E e s') s :=
  fun Γ p hΓ hC => Sem.wp_toks M Γ n t _ _ p s hn (h Γ p hΓ hC)
theorem P_toks_gen {M : Model} {α : Type} {t : Sem α} {Q : α → Shared → Prop} {h : Heap} {g : Array GenState} {dr : Drawn} {os : OsState} {n : Nat} (hn : 1 ≤ n)
    (hh : ∀ tk, 1 ≤ tk → wpP M A t Q E ⟨h, g, dr, tk, os⟩) : wpP M A t Q E ⟨h, g, dr, n, os⟩ := hh n hn
theorem P_iter_list {target : Expr} {body : List Stmt} {l : Addr} {vs : List Value} {m₀ : Str → Option Value} {news₀ : List (Addr × Obj)} {Q : Flow → Shared → Prop} (J : Nat → (Str → Option Value) → List (Addr × Obj) → Prop)
    (hh : A.handled = none) (ht : 1 ≤ s.toks) (F : Fr h₀ env.locals s.heap m₀) (N : News h₀ env.locals s.heap news₀)
    (hS : ∀ i m nx, J i m nx → LCg.SrcAt h₀ l vs.toArray nx) (h0 : J 0 m₀ news₀)
    (hgo : (∀ it v, letOwnedTupleGo target it v = pure ()) ∨ ((∃ elts x1 pos, target = .Tuple elts x1 pos) ∧ ∀ v ∈ vs, ∃ a, v = .ref a))
    (turn : ∀ i v I oI m nx h tk, vs[i]? = some v → J i m nx → 1 ≤ tk → Fr h₀ env.locals h m → News h₀ env.locals h ((I, oI) :: nx) → (∀ p ∈ nx, p ∈ news₀ ∨ p.2.cls ≠ .type "list_iterator") → (∀ p ∈ nx, p.1 ≠ I) →
      wpAny (model prog w) A (assign target env v) (fun _ s₂ => wpP (model prog w) A (execs body env) (TurnQ h₀ env.locals I oI s news₀ (J (i + 1)) Q) Nev s₂) Nev { s with heap := h, toks := tk })
    (done : ∀ m nx h tk, J vs.length m nx → 1 ≤ tk → Fr h₀ env.locals h m → News h₀ env.locals h nx → Q .next { s with heap := h, toks := tk }) :
    wpAny (model prog w) A (pyIter (.ref l)) (fun it s₂ => codeP (model prog w) A (.forLoop target it body [] env) (fun r s' => match r with | .ok f => Q f s' | .error _ => False) s₂) Nev s := by
  have hl : s.heap.IsList l vs.toArray := (hS 0 m₀ news₀ h0).list F.keep N
  have hlt : l < s.heap.objs.size := by obtain ⟨_, e, _⟩ := hl; exact Heap.lt_size e
  refine wpAny_pyIter_list hl ?_
  generalize hI : s.heap.objs.size = I at *
  have up : ∀ b o, s.heap.get? b = some o → (s.heap.push { cls := .type "list_iterator", data := .fields #[.ref l, .int 0 0] }).get? b = some o := fun b o e => Heap.get?_push_of_some _ e
  have hLlt : env.locals < I := hI ▸ F.ns.lt
  have hI₀ : h₀.get? I = none := hI ▸ next_is_new F
  have hNlt : ∀ p ∈ news₀, p.1 < I := fun p hp => hI ▸ Heap.lt_size (N p hp).1
  have hlI : l ≠ I := Nat.ne_of_lt hlt
  -- the place of the iterator, wherever the turn stands
  have Off : ∀ {h : Heap} {oI : Obj} {nx : List (Addr × Obj)}, oI.cls = .type "list_iterator" → News h₀ env.locals h ((I, oI) :: nx) → (∀ p ∈ nx, p ∈ news₀ ∨ p.2.cls ≠ .type "list_iterator") → ∀ p ∈ nx, p.1 ≠ I := by
    intro h oI nx hc N' hx p hp
    rcases hx p hp with h1 | h1
    · exact Nat.ne_of_lt (hNlt p h1)
    · refine News.twoPlaces N' (List.mem_cons_of_mem _ hp) List.mem_cons_self fun e => h1 ?_
      have e' : p.2 = oI := e
      rw [e']; exact hc
  refine codeP_for
    (fun k s' => ∃ h' tk m' nx, ∃ i : Nat, s' = { s with heap := h', toks := tk } ∧ 1 ≤ tk ∧ (∃ oI, h'.get? I = some oI ∧ oI.cls = .type "list_iterator" ∧ oI.data = .fields #[.ref l, .int (i : Int) 0]) ∧ Fr h₀ env.locals h' m' ∧ News h₀ env.locals h' nx ∧ (∀ p ∈ nx, p.1 ≠ I) ∧ (∀ p ∈ nx, p ∈ news₀ ∨ p.2.cls ≠ .type "list_iterator") ∧ J i m' nx ∧ i ≤ vs.length ∧ k = vs.length + 1 - i) ?_ (vs.length + 1)
    ⟨_, s.toks, m₀, news₀, 0, rfl, ht, ⟨_, hI ▸ Heap.get?_push_size _ rfl, rfl, rfl⟩, F.keeps up, N.grown up, fun p hp => Nat.ne_of_lt (hNlt p hp), fun p hp => .inl hp, h0, Nat.zero_le _, rfl⟩
  intro k s' hX29
  refine by_no fun hG9 => ?_
  obtain ⟨h', tk, m', nx, i, rfl, htk, ⟨oI, hoI, hcI, hdI⟩, F', N', hoff, hkind, hJ, hi, rfl⟩ := hX29
  refine hG9 ?_
  clear hG9
  have hit : h'.IsListIter I l i := ⟨oI, hoI, hcI, hdI⟩
  have hl' : h'.IsList l vs.toArray := (hS i m' nx hJ).list F'.keep N'
  by_cases hlt' : i < vs.length
  · have hv : vs[i]? = some vs[i] := List.getElem?_eq_getElem hlt'
    refine wpAny_pyNext_list_item hit hl' (x := vs[i]) (by simpa using hv) fun h₁ hit₁ hs₁ => ?_
    refine by_no fun hG9 => ?_
    obtain ⟨oI₁, hoI₁, hcI₁, hdI₁⟩ := id hit₁
    refine hG9 ?_
    clear hG9
    have k₁ : ∀ b o, b ∉ [I] → h'.get? b = some o → h₁.get? b = some o := fun b o hb e => hs₁.extBut b o (fun q => hb (by simp [q])) e
    have F₁ : Fr h₀ env.locals h₁ m' := LCg.fr_but F' k₁ (Nat.ne_of_lt hLlt) hI₀
    have N₁ : News h₀ env.locals h₁ nx := LCg.news_but N' k₁ hoff
    have N₂ : News h₀ env.locals h₁ ((I, oI₁) :: nx) := by
      intro p hp
      rcases List.mem_cons.mp hp with rfl | hp
      · exact ⟨hoI₁, Ne.symm (Nat.ne_of_lt hLlt), hI₀⟩
      · exact N₁ p hp
    have tb := turn i _ I oI₁ m' nx h₁ tk hv hJ htk F₁ N₂ hkind hoff
    have step : wpAny (model prog w) A (assign target env vs[i]) (fun _ s₂ => wpP (model prog w) A (execs body env) (fun f s₃ => match f with
        | .next | .cont => ∃ m, m < vs.length + 1 - i ∧ (∃ h' tk m' nx, ∃ i : Nat, s₃ = { s with heap := h', toks := tk } ∧ 1 ≤ tk ∧ (∃ oI, h'.get? I = some oI ∧ oI.cls = .type "list_iterator" ∧ oI.data = .fields #[.ref l, .int (i : Int) 0]) ∧ Fr h₀ env.locals h' m' ∧ News h₀ env.locals h' nx ∧ (∀ p ∈ nx, p.1 ≠ I) ∧ (∀ p ∈ nx, p ∈ news₀ ∨ p.2.cls ≠ .type "list_iterator") ∧ J i m' nx ∧ i ≤ vs.length ∧ m = vs.length + 1 - i)
        | .brk => Q .next s₃
        | .ret v => Q (.ret v) s₃) Nev s₂) Nev { s with heap := h₁, toks := tk } := by
      refine wpAny_mono (wpAny_toks_of (n := 1) htk tb) (fun _ s₂ h₂ => P_mono (P_toks_of h₂.1 h₂.2) (fun f s₃ h₃ => ?_) fun _ _ x => x.2) fun _ _ x => x.2
      refine by_no fun hG9 => ?_
      obtain ⟨h3t, h3⟩ := h₃
      refine hG9 ?_
      clear hG9
      have fin : TurnEnd h₀ env.locals I oI₁ s news₀ (J (i + 1)) s₃ → ∃ m, m < vs.length + 1 - i ∧ (∃ h' tk m' nx, ∃ i : Nat, s₃ = { s with heap := h', toks := tk } ∧ 1 ≤ tk ∧ (∃ oI, h'.get? I = some oI ∧ oI.cls = .type "list_iterator" ∧ oI.data = .fields #[.ref l, .int (i : Int) 0]) ∧ Fr h₀ env.locals h' m' ∧ News h₀ env.locals h' nx ∧ (∀ p ∈ nx, p.1 ≠ I) ∧ (∀ p ∈ nx, p ∈ news₀ ∨ p.2.cls ≠ .type "list_iterator") ∧ J i m' nx ∧ i ≤ vs.length ∧ m = vs.length + 1 - i) := by
        intro hX09
        refine by_no fun hG9 => ?_
        obtain ⟨h₄, tk₄, m₄, nx₄, rfl, F₄, N₄, hx₄, hJ₄⟩ := hX09
        refine hG9 ?_
        clear hG9
        exact ⟨vs.length + 1 - (i + 1), by omega, h₄, tk₄, m₄, nx₄, i + 1, rfl, h3t, ⟨oI₁, (N₄ _ List.mem_cons_self).1, hcI₁, hdI₁⟩, F₄, fun p hp => N₄ p (List.mem_cons_of_mem _ hp), Off hcI₁ N₄ hx₄, hx₄, hJ₄, hlt', rfl⟩
      cases f with
      | next => exact fin h3
      | cont => exact fin h3
      | brk => exact h3
      | ret v => exact h3
    rcases hgo with hgo | ⟨⟨elts, x1, pos, rfl⟩, hgo⟩
    · dsimp only
      rw [hgo]
      exact wpAny_pure step
    · refine by_no fun hG9 => ?_
      obtain ⟨T, hT⟩ := hgo vs[i] (List.getElem_mem hlt')
      refine hG9 ?_
      clear hG9
      dsimp only
      rw [hT] at step ⊢
      exact wpAny_letOwnedTupleGo_listiter (s := { s with heap := h₁, toks := tk }) hit₁ step
  · obtain rfl : i = vs.length := Nat.le_antisymm hi (Nat.not_lt.mp hlt')
    refine wpAny_pyNext_list_end hh hit hl' (by simp) fun h₁ hs₁ => ?_
    have k₁ : ∀ b o, b ∉ [I] → h'.get? b = some o → h₁.get? b = some o := fun b o hb e => hs₁ b o (fun q => hb (by simp [q])) e
    exact done m' nx h₁ tk hJ htk (LCg.fr_but F' k₁ (Nat.ne_of_lt hLlt) hI₀) (LCg.news_but N' k₁ hoff)
end
end Zn
end
section
open PySem PySem.W PyProof.Rows
set_option maxRecDepth 100000
namespace Zn
section
variable {prog : Program} {w : World} {A : Around} {E : Value → Shared → Prop} {s : Shared} {h₀ : Heap} {L : Addr} {m : Str → Option Value} {news : List (Addr × Obj)}

theorem applied_two {sl : Addr} {u : Tok} {Q : Int × Int × Nat → Shared → Prop} (hs : s.heap.IsSliceOf sl .none (.int 2 u) .none) (h : Q (0, 1, 2) s) :
    wpAny (model prog w) A (Builtin.Slice.sliceApplied (.ref sl) (pure (((3 : Nat) : Int)))) Q E s := by
  obtain ⟨os, hos, hcs, hds⟩ := id hs
  unfold Builtin.Slice.sliceApplied Builtin.Slice.sliceFields
  refine wpAny_bind (wpAny_bind (wpAny_field hos hds (x := .none) rfl (wpAny_bind (wpAny_field hos hds (x := .int 2 u) rfl (wpAny_bind (wpAny_field hos hds (x := .none) rfl (wpAny_pure ?_)))))))
  refine wpAny_bind (slicePart_none ?_)
  show wpAny _ _ (if ((1 : Int) == 0) = true then _ else _) _ _ s
  rw [if_neg (by decide)]
  exact wpAny_bind (slicePart_none (wpAny_bind (slicePart_int (wpAny_bind (wpAny_pure (wpAny_pure h))))))

theorem getItem_two {t sl : Addr} {x y z : Value} {u : Tok} {Q : Value → Shared → Prop} (ht : IsTup s.heap t #[x, y, z]) (hs : s.heap.IsSliceOf sl .none (.int 2 u) .none)
    (h : Q (.ref s.heap.objs.size) { s with heap := s.heap.push { cls := .type "tuple", data := .seq [x, y].toArray } }) : wpAny (model prog w) A (getItem (.ref t) (.ref sl)) Q E s := by
  obtain ⟨os, hos, hcs, hds⟩ := id hs
  have hTs : s.TypeIs (.ref sl) "slice" := ⟨os, hos, hcs⟩
  unfold getItem
  try with_reducible refine wpAny_holding ?_
  first | refine wpAny_bind (wpAny_pure ?_) | skip
  refine wpAny_bind (wpAny_sequenceKey ht.typeIs (by decide) ?_)
  refine wpAny_bind (wpAny_callSpecial?_slot (name := Str.ofString "__getitem__") ht.typeIs slot_tuple_getitem
    (wpAny_call_entry slot_tuple_getitem ht.typeIs entry_tuple_getitem ?_ (args_tuple_getitem _ _)))
  show wpAny _ _ (Builtin.Tuple.tupleItemsOf (.ref t) >>= _) _ _ s
  refine wpAny_bind (tupleItemsOf_ ht ?_)
  refine wpAny_bind (wpAny_typeOf hTs ?_)
  rw [if_pos (by decide)]
  refine wpAny_bind (applied_two hs ?_)
  show wpAny _ _ (if ((0 : Int) == 0 && (1 : Int) == 1 && (2 : Nat) == 3) = true then _ else _) _ _ s
  rw [if_neg (by decide)]
  have hdrop : sizeOk (.seq [x, y].toArray) := by
    show ([x, y] : List Value).toArray.size ≤ sizeLine
    rw [sizeLine_eq]; simp
  first
    | exact wpAny_bind (m := Builtin.Tuple.tupleExact _) (wpAny_newObj_type (wpAny_pure ⟨_, rfl, wpAny_pure h⟩) hdrop)
    | exact wpAny_bind (m := Builtin.Tuple.tupleExact _) (wpAny_newObj_type (wpAny_bind (wpAny_pure (wpAny_pure ⟨_, rfl, wpAny_pure h⟩))) hdrop)
    | exact wpAny_bind (wpAny_bind (m := Builtin.Tuple.tupleExact _) (wpAny_newObj_type (wpAny_pure (wpAny_pure ⟨_, rfl, wpAny_pure h⟩)) hdrop))
    | exact wpAny_bind (wpAny_bind (m := Builtin.Tuple.tupleExact _) (wpAny_newObj_type (wpAny_pure ⟨_, rfl, wpAny_pure h⟩) hdrop))

theorem slice_two {value slice : Expr} {t : Addr} {x y z : Value} {u : Tok} {Q : Value → Shared → Prop}
    (F : Fr h₀ L s.heap m) (N : News h₀ L s.heap news) (ht : IsTup s.heap t #[x, y, z])
    (h : ∀ D h', Fr h₀ L h' m → News h₀ L h' ((D, { cls := .type "tuple", data := .seq [x, y].toArray }) :: news) → Q (.ref D) { s with heap := h' })
    (hs : subscripted slice false (.ref t) (.ref s.heap.objs.size) = operate [.ref s.heap.objs.size, .ref t] (getItem (.ref t) (.ref s.heap.objs.size)))
    (hg : ∀ r, letTemporaryGo value (.ref t) r = pure ()) :
    wpAny (model prog w) A (subscriptTail value slice (.ref t) (.ref s.heap.objs.size)) Q E { s with heap := s.heap.push { cls := .type "slice", data := .fields #[.none, .int 2 u, .none] } } := by
  have ht' : IsTup (s.heap.push { cls := .type "slice", data := .fields #[.none, .int 2 u, .none] }) t #[x, y, z] := ht.keeps fun _ _ e => Heap.get?_push_of_some _ e
  refine subscriptTail_ops (s := { s with heap := s.heap.push { cls := .type "slice", data := .fields #[.none, .int 2 u, .none] } }) ht'.typeIs slot_tuple_getitem.lookup
    (getItem_two ht' (Heap.IsSliceOf.new ..) ?_) hs hg
  have N1 := News.push (F.push { cls := .type "slice", data := .fields #[.none, .int 2 u, .none] }) (N.grown fun _ _ e => Heap.get?_push_of_some _ e) { cls := .type "tuple", data := .seq [x, y].toArray }
  exact h _ _ ((F.push _).push _) N1
end
end Zn
end
section
open PySem PySem.W PyProof.Rows
set_option maxRecDepth 100000
namespace Zn
section
variable {prog : Program} {w : World} {A : Around} {E : Value → Shared → Prop} {s : Shared} {h₀ : Heap} {L : Addr} {news : List (Addr × Obj)}
set_option maxHeartbeats 8000000 in
theorem mod_brace {y : Str} {t u : Tok} {Q : Value → Shared → Prop} (hy : y.length ≤ 1000000) (h : ∀ t' k, Q (.str (Str.ofString "{" ++ y ++ Str.ofString "}") t') { s with toks := k }) :
    wpAny (model prog w) A (binaryOp .Mod (.str (Str.ofString "{%s}") t) (.str y u)) Q E s := by
  refine KPc.mod_str (T := fun y => Str.ofString "{" ++ y ++ Str.ofString "}") (by kpc_eq) hy ?_ h
  kpc_run_s
set_option maxHeartbeats 8000000 in
theorem mod_std {x y : Str} {n : Int} {t t1 t2 t3 : Tok} {b : Addr} {k : Nat} {Q : Value → Shared → Prop} (N : News h₀ L s.heap news)
    (hb : (b, ({ cls := .type "tuple", data := .seq #[Value.str x t1, .int n t2, .str y t3] k } : Obj)) ∈ news)
    (hx : x.length ≤ 1000000) (hy : y.length ≤ 1000000) (hn0 : 0 ≤ n) (hn1 : n < 10 ^ 10)
    (h : ∀ t' k, Q (.str (x ++ Str.ofString ":" ++ Str.ofString (toString n) ++ Str.ofString "(" ++ y ++ Str.ofString ")") t') { s with toks := k }) :
    wpAny (model prog w) A (binaryOp .Mod (.str (Str.ofString "%s:%d(%s)") t) (.ref b)) Q E s := by
  refine KPt.mod_tuple (T := x ++ Str.ofString ":" ++ Str.ofString (toString n) ++ Str.ofString "(" ++ y ++ Str.ofString ")") N hb (by kpt_eq) ?_ h
  kpt_run
end
end Zn
end
section
namespace Zn
noncomputable def amp : List Nat := [38, 97, 109, 112, 59]
noncomputable def lt : List Nat := [38, 108, 116, 59]
noncomputable def gt : List Nat := [38, 103, 116, 59]
noncomputable def quot : List Nat := [38, 113, 117, 111, 116, 59]
noncomputable def x9 : List Nat := [38, 35, 120, 57, 59]
noncomputable def xA : List Nat := [38, 35, 120, 65, 59]
noncomputable def xD : List Nat := [38, 35, 120, 68, 59]
/-- the escapes, one behind the other -/
noncomputable def esc (ch : List (Nat × List Nat)) (l : List Nat) : List Nat := ch.foldl (fun l p => rep p.1 p.2 l) l
theorem rep_flat (c : Nat) (r : List Nat) (f : Nat → List Nat) : ∀ l : List Nat, rep c r (l.flatMap f) = l.flatMap fun d => rep c r (f d)
  | [] => rfl
  | d :: l => by rw [List.flatMap_cons, rep_app, rep_flat c r f l, List.flatMap_cons]
theorem esc_flatMap (f : Nat → List Nat) : ∀ (ch : List (Nat × List Nat)) (l : List Nat), esc ch (l.flatMap f) = l.flatMap fun d => esc ch (f d)
  | [], _ => rfl
  | p :: ch, l => by
    show esc ch (rep p.1 p.2 (l.flatMap f)) = l.flatMap fun d => esc ch (rep p.1 p.2 (f d))
    rw [rep_flat, esc_flatMap]
theorem esc_each (ch : List (Nat × List Nat)) (l : List Nat) : esc ch l = l.flatMap fun d => esc ch [d] := by
  have h := esc_flatMap (fun d => [d]) ch l
  rwa [List.flatMap_singleton'] at h
theorem esc_app (ch : List (Nat × List Nat)) (a b : List Nat) : esc ch (a ++ b) = esc ch a ++ esc ch b := by
  rw [esc_each ch (a ++ b), esc_each ch a, esc_each ch b, List.flatMap_append]
theorem esc_free : ∀ (ch : List (Nat × List Nat)) (l : List Nat), (∀ d ∈ l, d ∉ ch.map (·.1)) → esc ch l = l
  | [], _, _ => rfl
  | p :: ch, l, h => by
    show esc ch (rep p.1 p.2 l) = l
    rw [rep_free p.1 p.2 l fun m => h _ m (List.mem_map.mpr ⟨p, List.mem_cons_self .., rfl⟩)]
    exact esc_free ch l fun d m k => h d m (List.mem_cons_of_mem _ k)
theorem flat_len (f : Nat → List Nat) (k : Nat) (hf : ∀ d, (f d).length ≤ k) : ∀ l : List Nat, (l.flatMap f).length ≤ k * l.length
  | [] => by simp
  | d :: l => by
    have := flat_len f k hf l
    have := hf d
    rw [List.flatMap_cons, List.length_append, List.length_cons, Nat.mul_add, Nat.mul_one]
    omega
theorem esc_len (ch : List (Nat × List Nat)) (h : ∀ d ∈ ch.map (·.1), (esc ch [d]).length ≤ 6) (l : List Nat) : (esc ch l).length ≤ 6 * l.length := by
  rw [esc_each]
  refine flat_len _ 6 (fun d => ?_) l
  by_cases hd : d ∈ ch.map (·.1)
  · exact h d hd
  · rw [esc_free ch [d] (by intro e he; rw [List.mem_singleton.mp he]; exact hd)]; simp
noncomputable def chC : List (Nat × List Nat) := [(38, amp), (60, lt), (62, gt), (13, xD)]
noncomputable def chA : List (Nat × List Nat) := [(38, amp), (60, lt), (34, quot), (9, x9), (10, xA), (13, xD)]
noncomputable def chH : List (Nat × List Nat) := [(38, amp), (62, gt), (34, quot)]
end Zn
end
section
open PySem PySem.W PyProof.Rows Builtin Builtin.Str
namespace Zn
noncomputable def isW (d : Nat) : Bool := d == 32 || d == 9 || d == 10 || d == 13
noncomputable def okc (d : Nat) : Bool := (decide (32 ≤ d) && decide (d < 127)) || d == 9 || d == 10 || d == 13
theorem okc_lt {d : Nat} (h : okc d = true) : d < 128 := by
  unfold okc at h
  simp only [Bool.or_eq_true, Bool.and_eq_true, decide_eq_true_eq, beq_iff_eq] at h
  omega
theorem space_okc {d : Nat} (h : okc d = true) : Unicode.isSpace d = isW d := by
  have hd := okc_lt h
  have all : ∀ d : Fin 128, okc d.1 = true → Unicode.isSpace d.1 = isW d.1 := by decide +kernel
  exact all ⟨d, hd⟩ h
/-- rstrip -/
noncomputable def rst (l : List Nat) : List Nat := (l.reverse.dropWhile isW).reverse
theorem dropWhile_all {p : Nat → Bool} : ∀ (a b : List Nat), (∀ d ∈ a, p d = true) → (a ++ b).dropWhile p = b.dropWhile p
  | [], _, _ => rfl
  | d :: a, b, h => by
    rw [List.cons_append, List.dropWhile_cons_of_pos (h d (List.mem_cons_self ..))]
    exact dropWhile_all a b fun e m => h e (List.mem_cons_of_mem _ m)
theorem rst_cut {a b : List Nat} (hb : ∀ d ∈ b, isW d = true) (ha : a = [] ∨ ∃ c d, a = c ++ [d] ∧ isW d = false) : rst (a ++ b) = a := by
  unfold rst
  rw [List.reverse_append, dropWhile_all _ _ (by intro d hd; exact hb d (List.mem_reverse.mp hd))]
  rcases ha with rfl | ⟨c, d, rfl, hd⟩
  · rfl
  · rw [List.reverse_append]
    show (List.dropWhile isW (d :: c.reverse)).reverse = _
    rw [List.dropWhile_cons_of_neg (by rw [hd]; decide)]
    simp
theorem rstrip_S {l : List Nat} (hl : ∀ d ∈ l, okc d = true) : Txt.rstrip (S l) = S (rst l) := by
  obtain ⟨_, h0, h1, h2⟩ := hi_facts Unicode.isSpace (S l) 0 (Nat.zero_le _)
  have e0 : Txt.rstrip (S l) = strSub (S l) 0 (stripHi Unicode.isSpace true (S l) 0) := by unfold Txt.rstrip; rw [PyProof.Rows.stripBy_eq]; rfl
  rw [e0]
  generalize stripHi Unicode.isSpace true (S l) 0 = hi at *
  have e1 : strSub (S l) 0 hi = S (l.take hi) := by
    rw [← S_of (strSub (S l) 0 hi), StrLaws.strSub_toList, S_cps]; simp
  rw [e1]
  congr 1
  have hlen : (S l).length = l.length := S_len l
  have hget : ∀ k, k < l.length → (S l).cps.getD k 0 = l.getD k 0 := by intro k hk; simp [S]
  rw [hlen] at h0 h1
  have hsplit : l = l.take hi ++ l.drop hi := (List.take_append_drop hi l).symm
  conv => rhs; rw [hsplit]
  refine (rst_cut ?_ ?_).symm
  · intro d hd
    obtain ⟨i, hi', rfl⟩ := List.mem_iff_getElem.mp hd
    rw [List.length_drop] at hi'
    have hk : hi + i < l.length := by omega
    have := h1 (hi + i) (by omega) hk
    rw [hget _ hk] at this
    rw [List.getElem_drop]
    rw [List.getD_eq_getElem?_getD, List.getElem?_eq_getElem hk] at this
    rw [← space_okc (hl _ (List.getElem_mem hk))]
    exact this
  · by_cases hz : hi = 0
    · left; rw [hz]; rfl
    · right
      have hk : hi - 1 < l.length := by omega
      refine ⟨l.take (hi - 1), l[hi - 1], ?_, ?_⟩
      · have : hi = hi - 1 + 1 := by omega
        conv => lhs; rw [this]
        rw [List.take_add_one, List.getElem?_eq_getElem hk]; rfl
      · rcases h2 with h | h
        · exact absurd h hz
        · rw [hget _ hk, List.getD_eq_getElem?_getD, List.getElem?_eq_getElem hk] at h
          rw [← space_okc (hl _ (List.getElem_mem hk))]
          exact h
noncomputable def cmt (l : List Nat) : List Nat := if rst l = [] then [35] else [35, 32] ++ rst l
end Zn
end
section
open PySem PySem.W PyProof.Rows Builtin Builtin.Str
set_option maxRecDepth 100000
namespace Zn
noncomputable def digits (n : Nat) : List Nat := (toString (n : Int)).toList.map Char.toNat
theorem S_digits (n : Nat) : Str.ofString (toString (n : Int)) = S (digits n) := Str.ofString_eq_toList _
/-- func_std_string -/
noncomputable def std (home n : Nat) (l : List Nat) : List Nat :=
  if home = 126 ∧ n = 0 then (if l.head? = some 60 ∧ l.getLast? = some 62 then 123 :: (l.drop 1).dropLast ++ [125] else l)
  else home :: 58 :: digits n ++ 40 :: l ++ [41]
theorem starts_c (l : List Nat) (c : Nat) : Txt.startswith (S l) (S [c]) = decide (l.head? = some c) := by
  unfold Txt.startswith
  rw [Bool.eq_iff_iff, Bool.and_eq_true, decide_eq_true_eq, decide_eq_true_eq]
  have h := StrLaws.subAt_one (S l) c 0
  rw [S_cps] at h
  rw [List.head?_eq_getElem?]
  exact h
theorem ends_c (l : List Nat) (c : Nat) : Txt.endswith (S l) (S [c]) = decide (l.getLast? = some c) := by
  unfold Txt.endswith
  rw [Bool.eq_iff_iff, Bool.and_eq_true, decide_eq_true_eq, decide_eq_true_eq]
  have e1 : (S [c]).length = 1 := by rw [S_len]; rfl
  have e2 : (S l).length = l.length := S_len l
  rw [e1]
  by_cases hl : l.length = 0
  · have : l = [] := List.length_eq_zero_iff.mp hl
    subst this
    rw [e2]; simp
  · have h := StrLaws.subAt_one (S l) c ((S l).length - 1)
    rw [S_cps] at h
    have e3 : (⟨#[c]⟩ : Str) = S [c] := rfl
    rw [e3, e1, e2] at h
    rw [e2, List.getLast?_eq_getElem?]
    rw [← h]
    constructor
    · intro ⟨_, h2⟩; exact ⟨by omega, h2⟩
    · intro ⟨_, h2⟩; exact ⟨by omega, h2⟩
theorem slice_mid {l : List Nat} (h : 2 ≤ l.length) : Txt.slice (S l) (some 1) (some (-1)) = S ((l.drop 1).dropLast) := by
  have e2 : (S l).length = l.length := S_len l
  have e : strSliceIndices (some 1) (some (-1)) 1 (S l).length = strSliceIndices (some 1) (some ((l.length : Int) - 1)) 1 (S l).length := by
    unfold strSliceIndices
    rw [e2]
    have a1 : (-1 : Int) < 0 := by decide
    have a2 : ¬ ((l.length : Int) - 1 < 0) := by omega
    have a3 : (-1 : Int) + (l.length : Int) = (l.length : Int) - 1 := by omega
    simp only [a1, a2, a3, if_true, if_false]
  have e' : Txt.slice (S l) (some 1) (some (-1)) = Txt.slice (S l) (some 1) (some ((l.length : Int) - 1)) := by
    unfold Txt.slice
    rw [e]
  have := slice_closesL (x := S l) (i := 1) (j := (l.length : Int) - 1) (by omega) (by omega) (by rw [e2]; omega)
  rw [e', eq_of_beq this, S_cps]
  congr 2
  rw [List.dropLast_eq_take, List.length_drop]
  congr 1
  omega
theorem two_of_ends {l : List Nat} (h1 : l.head? = some 60) (h2 : l.getLast? = some 62) : 2 ≤ l.length := by
  match l, h1, h2 with
  | [], h1, _ => simp at h1
  | [a], h1, h2 => simp at h1 h2; omega
  | _ :: _ :: _, _, _ => simp
end Zn
end
section
open PySem PySem.W PyProof.Rows
set_option maxRecDepth 100000
namespace Zn
noncomputable abbrev Hand := Nat × Nat × Nat
noncomputable def HandOk (h : Hand) : Prop := h.1 < 6 ∧ (h.2.1 = 126 ∨ h.2.1 = 60) ∧ h.2.2 < 1000
/-- one hand's work -/
noncomputable def stepH (l : List Nat) (h : Hand) : List Nat :=
  if h.1 = 0 then l.reverse else if h.1 = 1 then esc chC l else if h.1 = 2 then esc chA l else if h.1 = 3 then esc chH l else if h.1 = 4 then cmt l else std h.2.1 h.2.2 l
noncomputable def isD (c : Nat) : Bool := decide (48 ≤ c) && decide (c ≤ 57)
noncomputable def digOk (n : Nat) : Bool := (digits n).all isD && decide ((digits n).length ≤ 3)
theorem dig_ok : ∀ n : Fin 1000, digOk n.1 = true := by decide +kernel
theorem digits_d {n : Nat} (h : n < 1000) : ∀ c ∈ digits n, isD c = true := by
  have := dig_ok ⟨n, h⟩
  unfold digOk at this
  rw [Bool.and_eq_true, List.all_eq_true] at this
  exact this.1
theorem digits_len {n : Nat} (h : n < 1000) : (digits n).length ≤ 3 := by
  have := dig_ok ⟨n, h⟩
  unfold digOk at this
  rw [Bool.and_eq_true, decide_eq_true_eq] at this
  exact this.2
noncomputable def GoodL (l : List Nat) : Prop := l ≠ [] ∧ ∀ c ∈ l, okc c = true
theorem rep_good {c : Nat} {r l : List Nat} (hr : GoodL r) (hl : GoodL l) : GoodL (rep c r l) := by
  refine ⟨fun e => ?_, fun d hd => ?_⟩
  · obtain ⟨a, t, rfl⟩ := List.exists_cons_of_ne_nil hl.1
    unfold rep at e
    rw [List.flatMap_cons] at e
    have := List.append_eq_nil_iff.mp e
    split at this
    · exact hr.1 this.1
    · exact absurd this.1 (by simp)
  · unfold rep at hd
    obtain ⟨x, hx, hd⟩ := List.mem_flatMap.mp hd
    split at hd
    · exact hr.2 d hd
    · rw [List.mem_singleton.mp hd]; exact hl.2 x hx
theorem esc_good : ∀ (ch : List (Nat × List Nat)) {l : List Nat}, (∀ p ∈ ch, GoodL p.2) → GoodL l → GoodL (esc ch l)
  | [], _, _, h => h
  | p :: r, l, hp, h => esc_good r (l := rep p.1 p.2 l) (fun q hq => hp q (.tail _ hq)) (rep_good (hp p (.head _)) h)
theorem rst_sub {l : List Nat} : ∀ c ∈ rst l, c ∈ l := fun c hc => by
  unfold rst at hc
  exact List.mem_reverse.mp ((List.dropWhile_sublist _).subset (List.mem_reverse.mp hc))
theorem rst_len (l : List Nat) : (rst l).length ≤ l.length := by
  unfold rst
  rw [List.length_reverse, ← List.length_reverse (as := l)]
  exact (List.dropWhile_sublist _).length_le
theorem cmt_good {l : List Nat} (h : GoodL l) : GoodL (cmt l) := by
  unfold cmt
  split
  · exact ⟨by simp, fun c hc => by rw [List.mem_singleton.mp hc]; decide⟩
  · refine ⟨by simp, fun c hc => ?_⟩
    rcases List.mem_append.mp hc with hc | hc
    · rcases List.mem_cons.mp hc with rfl | hc
      · decide
      · rw [List.mem_singleton.mp hc]; decide
    · exact h.2 c (rst_sub c hc)
theorem std_good {home n : Nat} {l : List Nat} (h : GoodL l) (hh : home = 126 ∨ home = 60) (hn : n < 1000) : GoodL (std home n l) := by
  unfold std
  have mid : ∀ c ∈ (l.drop 1).dropLast, okc c = true := fun c hc => h.2 c (List.mem_of_mem_drop (List.dropLast_subset _ hc))
  split
  · split
    · refine ⟨by simp, fun c hc => ?_⟩
      simp only [List.mem_append, List.mem_singleton, List.mem_cons, List.not_mem_nil, or_false] at hc
      rcases hc with (rfl | hc) | rfl
      all_goals first | decide | exact mid c hc
    · exact h
  · refine ⟨by simp, fun c hc => ?_⟩
    have hd : ∀ c ∈ digits n, okc c = true := fun c hc => by
      have := digits_d hn c hc
      unfold isD at this
      unfold okc
      rw [Bool.and_eq_true, decide_eq_true_eq, decide_eq_true_eq] at this
      simp only [Bool.or_eq_true, Bool.and_eq_true, decide_eq_true_eq]
      omega
    simp only [List.mem_append, List.mem_singleton, List.mem_cons, List.not_mem_nil, or_false] at hc
    have hho : okc home = true := by rcases hh with rfl | rfl <;> decide
    rcases hc with ((rfl | rfl | hc) | (rfl | hc)) | rfl
    all_goals first | assumption | decide | exact hd c hc | exact h.2 c hc
theorem step_good {l : List Nat} {h : Hand} (hl : GoodL l) (hh : HandOk h) : GoodL (stepH l h) := by
  unfold stepH
  split
  · exact ⟨fun e => hl.1 (List.reverse_eq_nil_iff.mp e), fun c hc => hl.2 c (List.mem_reverse.mp hc)⟩
  split
  · exact esc_good _ (by unfold GoodL; decide) hl
  split
  · exact esc_good _ (by unfold GoodL; decide) hl
  split
  · exact esc_good _ (by unfold GoodL; decide) hl
  split
  · exact cmt_good hl
  · exact std_good hl hh.2.1 hh.2.2
theorem step_len {l : List Nat} {h : Hand} (hh : HandOk h) : (stepH l h).length ≤ 6 * l.length + 8 := by
  unfold stepH
  split
  · rw [List.length_reverse]; omega
  split
  · have := esc_len chC (by decide) l; omega
  split
  · have := esc_len chA (by decide) l; omega
  split
  · have := esc_len chH (by decide) l; omega
  split
  · unfold cmt
    have := rst_len l
    split
    · simp
    · simp; omega
  · unfold std
    have := digits_len hh.2.2
    split
    · split
      · simp; omega
      · omega
    · simp; omega
noncomputable def worked (l : List Nat) (hs : List Hand) : List Nat := hs.foldl stepH l
/-- the bound of a text's length after i hands -/
noncomputable def bnd : Nat → Nat
  | 0 => 5
  | i + 1 => 6 * bnd i + 8
end Zn
end
section
theorem Zn.fresh_ZFn1 (M : PySem.Model) (A : PySem.Around) (env : PySem.Env) (E : PySem.Value → PySem.Shared → Prop) (s : PySem.Shared) : PySem.wpAny M A (PySem.execs [] env) (fun _ _ => True) E s := by
  w_top off
  k_with_none
  walk1
  trivial
open PySem PySem.W PyProof.Rows
set_option maxRecDepth 100000
namespace Zn
local macro_rules | `(tactic| walk_at $s:str) => `(tactic| k_extra $s)
/-- the rows of this text -/
theorem rows_fn1 : True := by
  k_with_none
  k_with "esc len" => ((first | exact Nat.le_trans (esc_len [(38, amp)] (by decide) _) (by omega) | exact Nat.le_trans (esc_len [(38, amp), (62, gt)] (by decide) _) (by omega) | exact Nat.le_trans (esc_len [(38, amp), (60, lt)] (by decide) _) (by omega) | exact Nat.le_trans (esc_len [(38, amp), (60, lt), (62, gt)] (by decide) _) (by omega) | exact Nat.le_trans (esc_len [(38, amp), (60, lt), (34, quot)] (by decide) _) (by omega) | exact Nat.le_trans (esc_len [(38, amp), (60, lt), (34, quot), (9, x9)] (by decide) _) (by omega) | exact Nat.le_trans (esc_len [(38, amp), (60, lt), (34, quot), (9, x9), (10, xA)] (by decide) _) (by omega)))
  k_with "exec If" => ((k_here; k_dflt (first
      | refine if_rep (c := 38) (r := amp) (by k_asm) (by k_asm) (by assumption) (by with_unfolding_all rfl) (by decide +kernel) (by decide +kernel) (by decide) (by decide) ?hl (by rfl) (by rfl) (by rfl) ?_
      | refine if_rep (c := 60) (r := lt) (by k_asm) (by k_asm) (by assumption) (by with_unfolding_all rfl) (by decide +kernel) (by decide +kernel) (by decide) (by decide) ?hl (by rfl) (by rfl) (by rfl) ?_
      | refine if_rep (c := 62) (r := gt) (by k_asm) (by k_asm) (by assumption) (by with_unfolding_all rfl) (by decide +kernel) (by decide +kernel) (by decide) (by decide) ?hl (by rfl) (by rfl) (by rfl) ?_
      | refine if_rep (c := 34) (r := quot) (by k_asm) (by k_asm) (by assumption) (by with_unfolding_all rfl) (by decide +kernel) (by decide +kernel) (by decide) (by decide) ?hl (by rfl) (by rfl) (by rfl) ?_
      | refine if_rep (c := 9) (r := x9) (by k_asm) (by k_asm) (by assumption) (by with_unfolding_all rfl) (by decide +kernel) (by decide +kernel) (by decide) (by decide) ?hl (by rfl) (by rfl) (by rfl) ?_
      | refine if_rep (c := 10) (r := xA) (by k_asm) (by k_asm) (by assumption) (by with_unfolding_all rfl) (by decide +kernel) (by decide +kernel) (by decide) (by decide) ?hl (by rfl) (by rfl) (by rfl) ?_
      | refine if_rep (c := 13) (r := xD) (by k_asm) (by k_asm) (by assumption) (by with_unfolding_all rfl) (by decide +kernel) (by decide +kernel) (by decide) (by decide) ?hl (by rfl) (by rfl) (by rfl) ?_); (case hl => k_dflt (first | omega | walk_at "esc len")); intro t9 h9 tk9 ht9 F9 N9; (try dsimp only)))
  trivial
set_option maxHeartbeats 8000000 in
theorem c_html (w : World) (mean : ExcName → Option Value) (mg mb : Str → Option Value) (news : List (Addr × Obj)) (l : List Nat) (t : Tok) (hl : l.length ≤ 330000) :
   Ctr w mean mg mb 28 1 8 1 news [.str (S l) t] (fun v => ∃ t, v = .str (S (esc chH l)) t) := by
  unfold Ctr
  k_fill
  intro dp un gd cn cs a ccd cl outer A₀ base h₀ L m s Q E hB hF hK hN hT hkind hd hu ht hret
  refine wpAny_call ?_
  k_dflt cell_enter
  refine toks_gen (by omega) ?_
  intro tk htk
  k_steps
  exact hret _ _ _ ⟨_, rfl⟩ (by k_asm) (by k_asm)
set_option maxHeartbeats 8000000 in
theorem c_cdata (w : World) (mean : ExcName → Option Value) (mg mb : Str → Option Value) (news : List (Addr × Obj)) (l : List Nat) (t : Tok) (hl : l.length ≤ 330000) :
   Ctr w mean mg mb 35 1 8 1 news [.str (S l) t] (fun v => ∃ t, v = .str (S (esc chC l)) t) := by
  unfold Ctr
  k_fill
  intro dp un gd cn cs a ccd cl outer A₀ base h₀ L m s Q E hB hF hK hN hT hkind hd hu ht hret
  refine wpAny_call ?_
  k_dflt cell_enter
  refine toks_gen (by omega) ?_
  intro tk htk
  k_steps
  exact hret _ _ _ ⟨_, rfl⟩ (by k_asm) (by k_asm)
set_option maxHeartbeats 8000000 in
theorem c_attr (w : World) (mean : ExcName → Option Value) (mg mb : Str → Option Value) (news : List (Addr × Obj)) (l : List Nat) (t : Tok) (hl : l.length ≤ 330000) :
   Ctr w mean mg mb 42 1 8 1 news [.str (S l) t] (fun v => ∃ t, v = .str (S (esc chA l)) t) := by
  unfold Ctr
  k_fill
  intro dp un gd cn cs a ccd cl outer A₀ base h₀ L m s Q E hB hF hK hN hT hkind hd hu ht hret
  refine wpAny_call ?_
  k_dflt cell_enter
  refine toks_gen (by omega) ?_
  intro tk htk
  k_steps
  exact hret _ _ _ ⟨_, rfl⟩ (by k_asm) (by k_asm)
end Zn
end
section
theorem Zn.fresh_ZFn2 (M : PySem.Model) (A : PySem.Around) (env : PySem.Env) (E : PySem.Value → PySem.Shared → Prop) (s : PySem.Shared) : PySem.wpAny M A (PySem.execs [] env) (fun _ _ => True) E s := by
  w_top off
  k_with_none
  walk1
  trivial
open PySem PySem.W PyProof.Rows
set_option maxRecDepth 100000
namespace Zn
theorem S_ne_nil {l : List Nat} (h : l ≠ []) : (S l).length ≠ 0 := by rw [S_len]; intro e; exact h (List.length_eq_zero_iff.mp e)
set_option maxHeartbeats 8000000 in
theorem c_comment (w : World) (mean : ExcName → Option Value) (mg mb : Str → Option Value) (news : List (Addr × Obj)) (l : List Nat) (t : Tok) (hl : l.length ≤ 2000000) (hok : ∀ d ∈ l, okc d = true) :
   Ctr w mean mg mb 49 1 8 1 news [.str (S l) t] (fun v => ∃ t, v = .str (S (cmt l)) t) := by
  have hsz : (S l).length ≤ sizeLine := by rw [S_len, sizeLine_eq]; omega
  have hs2 : (Txt.rstrip (S l)).length ≤ 2000000 := by have := PyProof.Rows.len_rstrip (S l); rw [S_len] at this; omega
  have er := rstrip_S hok
  unfold Ctr
  k_fill
  intro dp un gd cn cs a ccd cl outer A₀ base h₀ L m s Q E hB hF hK hN hT hkind hd hu ht hret
  refine wpAny_call ?_
  k_dflt cell_enter
  refine toks_gen (by omega) ?_
  intro tk htk
  k_steps
  · refine hret _ _ _ (ex_str ?_) (by k_asm) (by k_asm)
    rename_i hne _ _ _ _ _ _ _
    have hc : cmt l = [35, 32] ++ rst l := by
      unfold cmt
      rw [if_neg]
      intro e
      rw [er, e] at hne
      exact hne rfl
    rw [er, hc, ← S_app]
    rfl
  · refine hret _ _ _ (ex_str ?_) (by k_asm) (by k_asm)
    rename_i hne _ _ _ _
    have hc : cmt l = [35] := by
      unfold cmt
      rw [if_pos]
      rw [er, S_len] at hne
      exact List.length_eq_zero_iff.mp (by omega)
    rw [hc]
    rfl
end Zn
end
section
theorem Zn.fresh_ZFn3 (M : PySem.Model) (A : PySem.Around) (env : PySem.Env) (E : PySem.Value → PySem.Shared → Prop) (s : PySem.Shared) : PySem.wpAny M A (PySem.execs [] env) (fun _ _ => True) E s := by
  w_top off
  k_with_none
  walk1
  trivial
open PySem PySem.W PyProof.Rows
set_option maxRecDepth 100000
namespace Zn
theorem tilde_is : Str.ofString "~" = S [126] := by decide +kernel
theorem lt_is : Str.ofString "<" = S [60] := by decide +kernel
theorem gt_is : Str.ofString ">" = S [62] := by decide +kernel
local macro_rules | `(tactic| walk_at $s:str) => `(tactic| k_extra $s)
theorem std_n0 {n : Nat} (h : (S [126] == Str.ofString "~" && ((n : Int) == 0)) = true) : n = 0 := by
  rw [Bool.and_eq_true, beq_iff_eq (a := (n : Int))] at h
  omega
theorem std_n1 {n : Nat} (h : (S [126] == Str.ofString "~" && ((n : Int) == 0)) = false) : ¬ (126 = 126 ∧ n = 0) := by
  rintro ⟨_, rfl⟩
  exact absurd h (by decide +kernel)
theorem std_60 {n : Nat} : ¬ (S [60] == Str.ofString "~" && ((n : Int) == 0)) = true := by
  have e : (S [60] == Str.ofString "~") = false := by decide +kernel
  rw [e, Bool.false_and]; decide
theorem std_brace {n : Nat} {l : List Nat} (h0 : n = 0) (h1 : Txt.startswith (S l) (Str.ofString "<") = true) (h2 : Txt.endswith (S l) (Str.ofString ">") = true) :
    Str.ofString "{" ++ Txt.slice (S l) (some 1) (some (-1)) ++ Str.ofString "}" = S (std 126 n l) := by
  rw [lt_is, starts_c, decide_eq_true_eq] at h1
  rw [gt_is, ends_c, decide_eq_true_eq] at h2
  rw [slice_mid (two_of_ends h1 h2)]
  unfold std
  rw [if_pos ⟨rfl, h0⟩, if_pos ⟨h1, h2⟩]
  have e1 : Str.ofString "{" = S [123] := by decide +kernel
  have e2 : Str.ofString "}" = S [125] := by decide +kernel
  rw [e1, e2, S_app, S_app]
  rfl
theorem std_same {n : Nat} {l : List Nat} (h0 : n = 0) (h : Txt.startswith (S l) (Str.ofString "<") = false ∨ Txt.endswith (S l) (Str.ofString ">") = false) : S l = S (std 126 n l) := by
  rw [lt_is, starts_c, decide_eq_false_iff_not, gt_is, ends_c, decide_eq_false_iff_not] at h
  unfold std
  rw [if_pos ⟨rfl, h0⟩, if_neg]
  rintro ⟨a, b⟩
  rcases h with h | h
  · exact h a
  · exact h b
theorem std_long {home n : Nat} {l : List Nat} (h0 : ¬ (home = 126 ∧ n = 0)) :
    S [home] ++ Str.ofString ":" ++ Str.ofString (toString (n : Int)) ++ Str.ofString "(" ++ S l ++ Str.ofString ")" = S (std home n l) := by
  unfold std
  rw [if_neg h0]
  have e1 : Str.ofString ":" = S [58] := by decide +kernel
  have e2 : Str.ofString "(" = S [40] := by decide +kernel
  have e3 : Str.ofString ")" = S [41] := by decide +kernel
  rw [S_digits, e1, e2, e3]
  simp only [S_app]
  congr 1
  simp
set_option maxHeartbeats 8000000 in
theorem c_std (w : World) (mean : ExcName → Option Value) (mg mb : Str → Option Value) (news : List (Addr × Obj)) (l : List Nat) (home n : Nat) (t t1 t2 : Tok) (b : Addr) (k : Nat) (hl : l.length ≤ 330000) (hn : n < 1000) (hh : home = 126 ∨ home = 60) :
   Ctr w mean mg mb 56 1 100 1 ((b, ({ cls := .type "tuple", data := .seq [Value.str (S [home]) t1, .int n t2, .str (S l) t].toArray k } : Obj)) :: news) [.ref b] (fun v => ∃ t, v = .str (S (std home n l)) t) := by
  k_with_none
  k_with "subscriptTail" => ((k_here; k_dflt (refine' slice_two ?q0F ?q0N ?q0t ?_ ?q0s ?q0g; (case q0F => k_asm); (case q0N => k_asm); (case q0t => exact ⟨_, News.get (by k_asm) (by k_mem), rfl, _, rfl⟩); (case q0s => with_unfolding_all rfl); (case q0g => intro _; with_unfolding_all rfl)); intro D9 h9 F9 N9))
  k_with "binaryOp Mod str str" => ((k_here; k_dflt (refine' mod_brace ?q1y ?_; (case q1y => exact Nat.le_trans (Txt.slice_le _ _ _) (by rw [S_len]; omega))); intro t9 k9))
  k_with "binaryOp Mod str ref" => ((k_here; k_dflt (refine' mod_std ?q2N ?q2m ?q2x ?q2y ?q2a ?q2b ?_; (case q2N => k_asm); (case q2m => k_mem); (case q2x => decide); (case q2y => rw [S_len]; omega); (case q2a => omega); (case q2b => omega)); intro t9 k9))
  have hsz : (S l).length ≤ sizeLine := by rw [S_len, sizeLine_eq]; omega
  unfold Ctr
  k_fill
  intro dp un gd cn cs a ccd cl outer A₀ base h₀ L m s Q E hB hF hK hN hT hkind hd hu ht hret
  refine wpAny_call ?_
  k_dflt cell_enter
  refine toks_gen (by omega) ?_
  intro tk htk
  rcases hh with rfl | rfl
  all_goals k_steps
  all_goals refine hret _ _ _ (ex_str ?_) (by k_asm) (by first | k_asm | exact drop2 (by k_asm) | exact drop3 (by k_asm) | exact drop1 (by k_asm))
  all_goals with_reducible first
    | exact std_brace (std_n0 (by assumption)) (by assumption) (by assumption)
    | exact std_same (std_n0 (by assumption)) (Or.inl (by assumption))
    | exact std_same (std_n0 (by assumption)) (Or.inr (by assumption))
    | exact std_long (std_n1 (by assumption))
    | exact std_long (by omega)
    | exact absurd (by assumption) std_60
end Zn
end
section
theorem Zn.fresh_ZWork (M : PySem.Model) (A : PySem.Around) (env : PySem.Env) (E : PySem.Value → PySem.Shared → Prop) (s : PySem.Shared) : PySem.wpAny M A (PySem.execs [] env) (fun _ _ => True) E s := by
  w_top off
  k_with_none
  walk1
  trivial
open PySem PySem.W PyProof.Rows PySem.Spec PySem.Calls
set_option maxRecDepth 100000
namespace Zn
noncomputable abbrev lstK (vs : List Value) (k : Nat) : Obj := { cls := .type "list", data := .seq vs.toArray k }
noncomputable abbrev tupK (vs : List Value) (k : Nat) : Obj := { cls := .type "tuple", data := .seq vs.toArray k }
/-- a hand, as a tuple of the ledger -/
noncomputable def HandAt (news : List (Addr × Obj)) (v : Value) (h : Hand) : Prop :=
  ∃ a t1 t2 t3 k, v = .ref a ∧ (a, tupK [.int (h.1 : Int) t1, .str (S [h.2.1]) t2, .int (h.2.2 : Int) t3] k) ∈ news
noncomputable def HandsAt (news : List (Addr × Obj)) (l : Addr) (vs : List Value) (hs : List Hand) : Prop :=
  (∃ k, (l, lstK vs k) ∈ news) ∧ vs.length = hs.length ∧ ∀ (i : Nat) (v : Value) (h : Hand), vs[i]? = some v → hs[i]? = some h → HandAt news v h
theorem HandsAt.mono {news nx : List (Addr × Obj)} {l : Addr} {vs : List Value} {hs : List Hand} (H : HandsAt news l vs hs) (sub : ∀ p ∈ news, p ∈ nx) : HandsAt nx l vs hs := by
  obtain ⟨⟨k, hk⟩, hl, hh⟩ := H
  refine ⟨⟨k, sub _ hk⟩, hl, fun i v h e1 e2 => ?_⟩
  obtain ⟨a, t1, t2, t3, k', e, hm⟩ := hh i v h e1 e2
  exact ⟨a, t1, t2, t3, k', e, sub _ hm⟩
noncomputable def mW (l : List Nat) (t : Tok) (hl : Addr) : Str → Option Value := fun y => List.lookup y [(Str.ofString "text", Value.str (S l) t), (Str.ofString "hands", Value.ref hl)].reverse
theorem mW_upd {mm : Str → Option Value} {l : List Nat} {t : Tok} {hl : Addr} {a b c : Value} (hm : ∀ y, y ≠ Str.ofString "hand" → y ≠ Str.ofString "home" → y ≠ Str.ofString "number" → mm y = mW l t hl y) :
    (fun y => if y = Str.ofString "number" then some a else if y = Str.ofString "home" then some b else if y = Str.ofString "hand" then some c else mm y) =
      (fun y => if y = Str.ofString "number" then some a else if y = Str.ofString "home" then some b else if y = Str.ofString "hand" then some c else mW l t hl y) := by
  funext y
  by_cases e : y = Str.ofString "number"
  · rw [if_pos e, if_pos e]
  · rw [if_neg e, if_neg e]
    by_cases e' : y = Str.ofString "home"
    · rw [if_pos e', if_pos e']
    · rw [if_neg e', if_neg e']
      by_cases e'' : y = Str.ofString "hand"
      · rw [if_pos e'', if_pos e'']
      · rw [if_neg e'', if_neg e'', hm y e'' e' e]
theorem bnd_le : ∀ {i : Nat}, i ≤ 6 → bnd i ≤ 330000
  | 0, _ | 1, _ | 2, _ | 3, _ | 4, _ | 5, _ | 6, _ => by decide
  | _ + 7, h => by omega
theorem worked_snoc {l0 : List Nat} {hs : List Hand} {i : Nat} {h : Hand} (e : hs[i]? = some h) : worked l0 (hs.take (i + 1)) = stepH (worked l0 (hs.take i)) h := by
  unfold worked
  rw [List.take_add_one, e, List.foldl_append]
  rfl
theorem end_turn {g h : Heap} {L I : Addr} {oI : Obj} {s : Shared} {news : List (Addr × Obj)} {Q : Flow → Shared → Prop} {tk : Nat} {l l' l0 : List Nat} {t t' : Tok} {hl : Addr} {a b c : Value} {i : Nat} {hs : List Hand} {hnd : Hand}
    (hlw : l = worked l0 (hs.take i)) (e : hs[i]? = some hnd) (hgl : GoodL l) (hh : HandOk hnd) (hb : l.length ≤ bnd i) (hl' : l' = stepH l hnd)
    (F : Fr g L h (fun y => if y = Str.ofString "text" then some (.str (S l') t') else if y = Str.ofString "number" then some a else if y = Str.ofString "home" then some b else if y = Str.ofString "hand" then some c else mW l t hl y))
    (N : News g L h ((I, oI) :: news)) :
    TurnQ g L I oI s news (fun mm nx => ∃ l t, (∀ y, y ≠ Str.ofString "hand" → y ≠ Str.ofString "home" → y ≠ Str.ofString "number" → mm y = mW l t hl y) ∧ l = worked l0 (hs.take (i + 1)) ∧ GoodL l ∧ l.length ≤ bnd (i + 1) ∧ news = nx) Q .next { s with heap := h, toks := tk } := by
  refine ⟨h, _, _, news, rfl, F, N, fun p hp => .inl hp, l', t', fun y h1 h2 h3 => ?_, ?_, ?_, ?_, rfl⟩
  · dsimp only
    by_cases e : y = Str.ofString "text"
    · rw [if_pos e, e]; rfl
    · rw [if_neg e, if_neg h3, if_neg h2, if_neg h1]
      unfold mW
      have e1 : (y == Str.ofString "text") = false := beq_eq_false_iff_ne.mpr e
      simp [List.lookup, e1]
  · rw [worked_snoc e, hl', hlw]
  · rw [hl']; exact step_good hgl hh
  · rw [hl']
    have := step_len (l := l) hh
    show _ ≤ 6 * bnd i + 8
    omega
set_option maxHeartbeats 8000000 in
theorem c_worked (w : World) (mean : ExcName → Option Value) (mg mb : Str → Option Value) (news : List (Addr × Obj)) (l0 : List Nat) (t0 : Tok) (hl : Addr) (vs : List Value) (hs : List Hand) (h5 : l0.length ≤ 5) (hg : GoodL l0) (H : HandsAt news hl vs hs) (h7 : hs.length ≤ 7) (hok : ∀ h ∈ hs, HandOk h) :
   CtrP w mean mg mb 75 3 120 0 news [.str (S l0) t0, .ref hl] (fun v => ∃ t, v = .str (S (worked l0 hs)) t) := by
  unfold CtrP
  k_fill
  intro dp un cn cs a ccd cl outer A₀ base h₀ L m s Q hB hF hK hN hT hkind hd hu ht hret
  refine P_call ?_
  k_dflt (refine' P_def (binds := [(Str.ofString "text", .str (S l0) t0), (Str.ofString "hands", .ref hl)]) ?k1 ?k2 ?k3 ?k4 ?k5 ?kA ?kF ?kK ?k6 ?k7 ?k8 ?k9 ?kB ?_ ?c2 ?c3 ?c4 ?c5; (case kA => exact rfl); (case kF => exact rfl); (case kK => assumption); (case k1 => k_asm); (case k2 => k_asm); (case k3 => k_asm); (case k4 => k_asm); (case k5 => k_asm); (case k6 => k_is); (case k7 => k_is); (case k8 => ktr_room); (case k9 => exact BindsTo.of_eq rfl); (case c5 => decide); (case kB => exact locs rfl); (case c2 => exact rfl); (case c3 => exact rfl); (case c4 => exact rfl); k_whole; intro g' L' h' FG' F' N' B' X' T'; (try dsimp only); (try k_lift B'))
  refine P_execs_cons (P_For ?_ (fun _ => rfl))
  k_steps
  refine P_iter_list (h₀ := g') (m₀ := mW l0 t0 hl) (news₀ := news) (vs := vs)
    (fun i mm nx => ∃ l t, (∀ y, y ≠ Str.ofString "hand" → y ≠ Str.ofString "home" → y ≠ Str.ofString "number" → mm y = mW l t hl y) ∧ l = worked l0 (hs.take i) ∧ GoodL l ∧ l.length ≤ bnd i ∧ news = nx) rfl (Nat.succ_le_succ (Nat.zero_le _)) (by k_asm) (by k_asm) ?_ ?_ ?_ ?_ ?_
  · intro i mm nx hX39
    refine by_no fun hG9 => ?_
    obtain ⟨l, t, _, _, _, _, rfl⟩ := hX39
    obtain ⟨k, hk⟩ := H.1
    refine hG9 ?_
    clear hG9
    exact .inr ⟨_, hk, rfl, _, rfl⟩
  · exact ⟨l0, t0, fun _ _ _ _ => rfl, rfl, hg, h5, rfl⟩
  · refine .inr ⟨⟨_, _, _, rfl⟩, fun v hv => ?_⟩
    refine by_no fun hG9 => ?_
    obtain ⟨i, hi, rfl⟩ := List.mem_iff_getElem.mp hv
    obtain ⟨a, _, _, _, _, e, _⟩ := H.2.2 i _ (hs[i]'(H.2.1 ▸ hi)) (List.getElem?_eq_getElem hi) (List.getElem?_eq_getElem _)
    refine hG9 ?_
    clear hG9
    exact ⟨a, e⟩
  · intro i v I oI mm nx h tk hv hX99 htk (F : Fr g' L' h mm) (N : News g' L' h _) _ hoI
    refine by_no fun hG9 => ?_
    obtain ⟨l, t, hm, hlw, hgl, hb, rfl⟩ := hX99
    refine hG9 ?_
    clear hG9
    have hi : i < hs.length := H.2.1 ▸ (List.getElem?_eq_some_iff.mp hv).1
    refine by_no fun hG9 => ?_
    obtain ⟨a9, t1, t2, t3, k9, rfl, hmem⟩ := H.2.2 i v hs[i] hv (List.getElem?_eq_getElem hi)
    refine hG9 ?_
    clear hG9
    have hh := hok _ (List.getElem_mem hi)
    have he : hs[i]? = some hs[i] := List.getElem?_eq_getElem hi
    generalize hs[i] = hnd at *
    refine by_no fun hG9 => ?_
    obtain ⟨kk, ho, nn⟩ := hnd
    refine hG9 ?_
    clear hG9
    have hB9 : l.length ≤ 330000 := Nat.le_trans hb (bnd_le (by omega))
    have N2 : News g' L' h ((a9, tupK [.int (kk : Int) t1, .str (S [ho]) t2, .int (nn : Int) t3] k9) :: (I, oI) :: news) := fun p hp => by
      rcases List.mem_cons.mp hp with rfl | hp
      · exact N _ (.tail _ hmem)
      · exact N _ hp
    clear N
    k_steps
    change wpP _ _ _ _ _ ⟨_, s.gens, s.drawn, _, s.os⟩
    refine P_toks_gen (by omega) ?_
    intro tk9 htk9
    rename_i F9 N9
    rw [mW_upd hm] at F9
    skip
    refine P_execs_cons (P_If ?_)
    refine wpAny_with_toks (n := 1) (by first | assumption | exact Nat.succ_le_succ (Nat.zero_le _)) ?_
    k_steps
    · skip
      refine P_execs_cons (P_Assign_Name (P_Call ?_ rfl) rfl)
      refine wpAny_with_toks (n := 1) (by first | assumption | exact Nat.succ_le_succ (Nat.zero_le _)) ?_
      k_steps
      k_dflt (refine' P_callDef (L := L') ?X ?o ?_ ?he; (case X => exact X'); (case o => k_is); (case he => exact rfl))
      refine wpAny_with_toks (n := 1) (by first | assumption | exact Nat.succ_le_succ (Nat.zero_le _)) ?_
      k_steps
      refine ⟨⟨_, by k_asm⟩, ?_⟩
      k_dflt (refine' call_ctrP (c_turned w mean mg mb _ l t hB9 hgl.1 fun c hc => okc_lt (hgl.2 c hc)) ?B ?F ?X ?N ?T ?k ?d ?u ?t ?_; (case B => k_asm); (case F => k_asm); (case X => k_asm); (case N => k_asm); (case T => k_asm); (case k => exact rfl); (case d => show dp + 1 + 2 < _; omega); (case u => show un + 3 + 16 < _; omega); (case t => exact Nat.zero_le _))
      intro v h10 k10 hX39 F10 N10
      refine by_no fun hG9 => ?_
      obtain ⟨t10, rfl⟩ := hX39
      refine hG9 ?_
      clear hG9
      k_steps
      dsimp only
      repeat (refine P_execs_nil ?_)
      refine end_turn hlw he hgl hh hb ?_ (by k_asm) (drop1 (by k_asm))
      obtain rfl : kk = 0 := by omega
      rfl
    refine P_execs_cons (P_If ?_)
    refine wpAny_with_toks (n := 1) (by first | assumption | exact Nat.succ_le_succ (Nat.zero_le _)) ?_
    k_steps
    · skip
      refine P_execs_cons (P_Assign_Name (P_Call ?_ rfl) rfl)
      refine wpAny_with_toks (n := 1) (by first | assumption | exact Nat.succ_le_succ (Nat.zero_le _)) ?_
      k_steps
      k_dflt (refine' P_callDef (L := L') ?X ?o ?_ ?he; (case X => exact X'); (case o => k_is); (case he => exact rfl))
      refine wpAny_with_toks (n := 1) (by first | assumption | exact Nat.succ_le_succ (Nat.zero_le _)) ?_
      k_steps
      refine ⟨⟨_, by k_asm⟩, ?_⟩
      refine P_any ?_
      k_dflt (refine' call_ctr (c_cdata w mean mg mb _ l t hB9) ?B ?F ?X ?N ?T ?k ?d ?u ?t ?_; (case B => k_asm); (case F => k_asm); (case X => k_asm); (case N => k_asm); (case T => k_asm); (case k => exact rfl); (case d => show dp + 1 + 1 < _; omega); (case u => show un + 3 + 8 < _; omega); (case t => first | assumption | exact Nat.succ_le_succ (Nat.zero_le _)))
      intro v h10 k10 hX39 F10 N10
      refine by_no fun hG9 => ?_
      obtain ⟨t10, rfl⟩ := hX39
      refine hG9 ?_
      clear hG9
      k_steps
      dsimp only
      repeat (refine P_execs_nil ?_)
      refine end_turn hlw he hgl hh hb ?_ (by k_asm) (drop1 (by k_asm))
      obtain rfl : kk = 1 := by omega
      rfl
    refine P_execs_cons (P_If ?_)
    refine wpAny_with_toks (n := 1) (by first | assumption | exact Nat.succ_le_succ (Nat.zero_le _)) ?_
    k_steps
    · skip
      refine P_execs_cons (P_Assign_Name (P_Call ?_ rfl) rfl)
      refine wpAny_with_toks (n := 1) (by first | assumption | exact Nat.succ_le_succ (Nat.zero_le _)) ?_
      k_steps
      k_dflt (refine' P_callDef (L := L') ?X ?o ?_ ?he; (case X => exact X'); (case o => k_is); (case he => exact rfl))
      refine wpAny_with_toks (n := 1) (by first | assumption | exact Nat.succ_le_succ (Nat.zero_le _)) ?_
      k_steps
      refine ⟨⟨_, by k_asm⟩, ?_⟩
      refine P_any ?_
      k_dflt (refine' call_ctr (c_attr w mean mg mb _ l t hB9) ?B ?F ?X ?N ?T ?k ?d ?u ?t ?_; (case B => k_asm); (case F => k_asm); (case X => k_asm); (case N => k_asm); (case T => k_asm); (case k => exact rfl); (case d => show dp + 1 + 1 < _; omega); (case u => show un + 3 + 8 < _; omega); (case t => first | assumption | exact Nat.succ_le_succ (Nat.zero_le _)))
      intro v h10 k10 hX39 F10 N10
      refine by_no fun hG9 => ?_
      obtain ⟨t10, rfl⟩ := hX39
      refine hG9 ?_
      clear hG9
      k_steps
      dsimp only
      repeat (refine P_execs_nil ?_)
      refine end_turn hlw he hgl hh hb ?_ (by k_asm) (drop1 (by k_asm))
      obtain rfl : kk = 2 := by omega
      rfl
    refine P_execs_cons (P_If ?_)
    refine wpAny_with_toks (n := 1) (by first | assumption | exact Nat.succ_le_succ (Nat.zero_le _)) ?_
    k_steps
    · skip
      refine P_execs_cons (P_Assign_Name (P_Call ?_ rfl) rfl)
      refine wpAny_with_toks (n := 1) (by first | assumption | exact Nat.succ_le_succ (Nat.zero_le _)) ?_
      k_steps
      k_dflt (refine' P_callDef (L := L') ?X ?o ?_ ?he; (case X => exact X'); (case o => k_is); (case he => exact rfl))
      refine wpAny_with_toks (n := 1) (by first | assumption | exact Nat.succ_le_succ (Nat.zero_le _)) ?_
      k_steps
      refine ⟨⟨_, by k_asm⟩, ?_⟩
      refine P_any ?_
      k_dflt (refine' call_ctr (c_html w mean mg mb _ l t hB9) ?B ?F ?X ?N ?T ?k ?d ?u ?t ?_; (case B => k_asm); (case F => k_asm); (case X => k_asm); (case N => k_asm); (case T => k_asm); (case k => exact rfl); (case d => show dp + 1 + 1 < _; omega); (case u => show un + 3 + 8 < _; omega); (case t => first | assumption | exact Nat.succ_le_succ (Nat.zero_le _)))
      intro v h10 k10 hX39 F10 N10
      refine by_no fun hG9 => ?_
      obtain ⟨t10, rfl⟩ := hX39
      refine hG9 ?_
      clear hG9
      k_steps
      dsimp only
      repeat (refine P_execs_nil ?_)
      refine end_turn hlw he hgl hh hb ?_ (by k_asm) (drop1 (by k_asm))
      obtain rfl : kk = 3 := by omega
      rfl
    refine P_execs_cons (P_If ?_)
    refine wpAny_with_toks (n := 1) (by first | assumption | exact Nat.succ_le_succ (Nat.zero_le _)) ?_
    k_steps
    · skip
      refine P_execs_cons (P_Assign_Name (P_Call ?_ rfl) rfl)
      refine wpAny_with_toks (n := 1) (by first | assumption | exact Nat.succ_le_succ (Nat.zero_le _)) ?_
      k_steps
      k_dflt (refine' P_callDef (L := L') ?X ?o ?_ ?he; (case X => exact X'); (case o => k_is); (case he => exact rfl))
      refine wpAny_with_toks (n := 1) (by first | assumption | exact Nat.succ_le_succ (Nat.zero_le _)) ?_
      k_steps
      refine ⟨⟨_, by k_asm⟩, ?_⟩
      refine P_any ?_
      k_dflt (refine' call_ctr (c_comment w mean mg mb _ l t (Nat.le_trans hB9 (by decide)) hgl.2) ?B ?F ?X ?N ?T ?k ?d ?u ?t ?_; (case B => k_asm); (case F => k_asm); (case X => k_asm); (case N => k_asm); (case T => k_asm); (case k => exact rfl); (case d => show dp + 1 + 1 < _; omega); (case u => show un + 3 + 8 < _; omega); (case t => first | assumption | exact Nat.succ_le_succ (Nat.zero_le _)))
      intro v h10 k10 hX39 F10 N10
      refine by_no fun hG9 => ?_
      obtain ⟨t10, rfl⟩ := hX39
      refine hG9 ?_
      clear hG9
      k_steps
      dsimp only
      repeat (refine P_execs_nil ?_)
      refine end_turn hlw he hgl hh hb ?_ (by k_asm) (drop1 (by k_asm))
      obtain rfl : kk = 4 := by omega
      rfl
    skip
    refine P_execs_cons (P_Assign_Name (P_Call ?_ rfl) rfl)
    refine wpAny_with_toks (n := 1) (by first | assumption | exact Nat.succ_le_succ (Nat.zero_le _)) ?_
    k_steps
    k_dflt (refine' P_callDef (L := L') ?X ?o ?_ ?he; (case X => exact X'); (case o => k_is); (case he => exact rfl))
    refine wpAny_with_toks (n := 1) (by first | assumption | exact Nat.succ_le_succ (Nat.zero_le _)) ?_
    k_steps
    refine ⟨⟨_, by k_asm⟩, ?_⟩
    refine P_any ?_
    k_dflt (refine' call_ctr (c_std w mean mg mb _ l ho nn t t2 t3 _ _ hB9 hh.2.2 hh.2.1) ?B ?F ?X ?N ?T ?k ?d ?u ?t ?_; (case B => k_asm); (case F => k_asm); (case X => k_asm); (case N => k_asm); (case T => k_asm); (case k => exact rfl); (case d => show dp + 1 + 1 < _; omega); (case u => show un + 3 + 100 < _; omega); (case t => first | assumption | exact Nat.succ_le_succ (Nat.zero_le _)))
    intro v h10 k10 hX39 F10 N10
    refine by_no fun hG9 => ?_
    obtain ⟨t10, rfl⟩ := hX39
    refine hG9 ?_
    clear hG9
    k_steps
    dsimp only
    repeat (refine P_execs_nil ?_)
    refine end_turn hlw he hgl hh hb ?_ (by k_asm) (drop2 (by k_asm))
    obtain rfl : kk = 5 := by have := hh.1; omega
    rfl
  · intro mm nx h tk hX49 htk (F : Fr g' L' h mm) (N : News g' L' h _)
    refine by_no fun hG9 => ?_
    obtain ⟨l, t, hm, hlw, hgl, hb, rfl⟩ := hX49
    refine hG9 ?_
    clear hG9
    have ht9 : mm (Str.ofString "text") = some (.str (S l) t) := (hm _ (by decide +kernel) (by decide +kernel) (by decide +kernel)).trans rfl
    have F9 := fr_know ht9 F
    dsimp only
    refine P_any ?_
    k_steps
    refine hret _ _ _ ⟨t, ?_⟩ (by k_asm) (by k_asm)
    rw [hlw, H.2.1, List.take_length]
end Zn
end
section
open PySem PySem.W PyProof.Rows PySem.Spec PySem.Calls
set_option maxRecDepth 100000
namespace Zn
/-- how the hands loop of the law stands after i turns -/
noncomputable def HJ (m₀ : Str → Option Value) (Lh : Addr) (base : List (Addr × Obj)) (i : Nat) (mm : Str → Option Value) (nx : List (Addr × Obj)) : Prop :=
  (∀ y, y ≠ Str.ofString "z" → y ≠ Str.ofString "part" → mm y = m₀ y) ∧ ∃ (vsH : List Value) (hsH : List Hand) (tups : List (Addr × Obj)), nx = (Lh, LCg.lst vsH) :: (tups ++ base) ∧ vsH.length = i ∧ hsH.length = i ∧
    (∀ (j : Nat) (v : Value) (h : Hand), vsH[j]? = some v → hsH[j]? = some h → HandAt tups v h) ∧ (∀ h ∈ hsH, HandOk h) ∧ ∀ p ∈ tups, p.1 ≠ Lh ∧ p.2.cls = .type "tuple"
theorem end_hands {g h : Heap} {L I Lh T : Addr} {oI : Obj} {s : Shared} {base news₀ : List (Addr × Obj)} {Q : Flow → Shared → Prop} {tk i : Nat} {m₀ mf : Str → Option Value} {vsH : List Value} {hsH : List Hand} {tups : List (Addr × Obj)} {hnd : Hand} {v1 v2 v3 : Value} {k : Nat}
    (hm : ∀ y, y ≠ Str.ofString "z" → y ≠ Str.ofString "part" → mf y = m₀ y) (hl : vsH.length = i) (hl' : hsH.length = i) (hat : ∀ (j : Nat) (v : Value) (h : Hand), vsH[j]? = some v → hsH[j]? = some h → HandAt tups v h) (hok : ∀ h ∈ hsH, HandOk h) (htup : ∀ p ∈ tups, p.1 ≠ Lh ∧ p.2.cls = .type "tuple")
    (hnew : HandOk hnd) (e1 : ∃ t, v1 = .int (hnd.1 : Int) t) (e2 : ∃ t, v2 = .str (S [hnd.2.1]) t) (e3 : ∃ t, v3 = .int (hnd.2.2 : Int) t) (hT : T ≠ Lh) (hb : ∀ p ∈ base, p ∈ news₀)
    (F : Fr g L h mf) (N : News g L h ((T, tupK [v1, v2, v3] k) :: (I, oI) :: (Lh, LCg.lst (vsH ++ [.ref T])) :: (tups ++ base))) :
    TurnQ g L I oI s news₀ (HJ m₀ Lh base (i + 1)) Q .next { s with heap := h, toks := tk } := by
  refine ⟨h, tk, mf, (Lh, LCg.lst (vsH ++ [.ref T])) :: (((T, tupK [v1, v2, v3] k) :: tups) ++ base), rfl, F, fun p hp => N p ?_, fun p hp => ?_, hm, vsH ++ [.ref T], hsH ++ [hnd], (T, tupK [v1, v2, v3] k) :: tups, rfl, by simp [hl], by simp [hl'], ?_, ?_, ?_⟩
  · rcases List.mem_cons.mp hp with rfl | hp
    · exact .tail _ (.head _)
    · rcases List.mem_cons.mp hp with rfl | hp
      · exact .tail _ (.tail _ (.head _))
      · rcases List.mem_cons.mp hp with rfl | hp
        · exact .head _
        · exact .tail _ (.tail _ (.tail _ hp))
  · rcases List.mem_cons.mp hp with rfl | hp
    · exact .inr (show Value.type "list" ≠ .type "list_iterator" by decide)
    · rcases List.mem_append.mp hp with hp | hp
      · rcases List.mem_cons.mp hp with rfl | hp
        · exact .inr (show Value.type "tuple" ≠ .type "list_iterator" by decide)
        · exact .inr (by rw [(htup p hp).2]; decide)
      · exact .inl (hb p hp)
  · intro j v hh e e'
    by_cases hj : j < i
    · rw [List.getElem?_append_left (by omega)] at e e'
      obtain ⟨a, t1, t2, t3, k', q, hmem⟩ := hat j v hh e e'
      exact ⟨a, t1, t2, t3, k', q, .tail _ hmem⟩
    · rw [List.getElem?_append_right (by omega)] at e e'
      rw [hl] at e
      rw [hl'] at e'
      cases hji : j - i with
      | zero =>
        rw [hji] at e e'
        obtain rfl := Option.some.inj e
        obtain rfl := Option.some.inj e'
        obtain ⟨t1, rfl⟩ := e1
        obtain ⟨t2, rfl⟩ := e2
        obtain ⟨t3, rfl⟩ := e3
        exact ⟨T, t1, t2, t3, k, rfl, .head _⟩
      | succ n => rw [hji] at e; simp at e
  · intro hh hm'
    rcases List.mem_append.mp hm' with hm' | hm'
    · exact hok hh hm'
    · rw [List.mem_singleton.mp hm']; exact hnew
  · intro p hp
    rcases List.mem_cons.mp hp with rfl | hp
    · exact ⟨hT, rfl⟩
    · exact htup p hp
theorem HJ0 {m₀ : Str → Option Value} {Lh : Addr} {base : List (Addr × Obj)} : HJ m₀ Lh base 0 m₀ ((Lh, LCg.lst []) :: base) :=
  ⟨fun _ _ _ => rfl, [], [], [], rfl, rfl, rfl, fun j v h e => by simp at e, fun h hh => by simp at hh, fun p hp => by simp at hp⟩
theorem swap2 {h₀ h : Heap} {L : Addr} {p q : Addr × Obj} {r : List (Addr × Obj)} (N : News h₀ L h (p :: q :: r)) : News h₀ L h (q :: p :: r) := fun z hz => by
  rcases List.mem_cons.mp hz with rfl | hz
  · exact N _ (.tail _ (.head _))
  · rcases List.mem_cons.mp hz with rfl | hz
    · exact N _ (.head _)
    · exact N _ (.tail _ (.tail _ hz))
theorem hands_upd {mm m₀ : Str → Option Value} {a b : Value} (hm : ∀ y, y ≠ Str.ofString "z" → y ≠ Str.ofString "part" → mm y = m₀ y) :
    (fun y => if y = Str.ofString "part" then some a else if y = Str.ofString "z" then some b else mm y) = (fun y => if y = Str.ofString "part" then some a else if y = Str.ofString "z" then some b else m₀ y) := by
  funext y
  by_cases e : y = Str.ofString "part"
  · rw [if_pos e, if_pos e]
  · rw [if_neg e, if_neg e]
    by_cases e' : y = Str.ofString "z"
    · rw [if_pos e', if_pos e']
    · rw [if_neg e', if_neg e', hm y e' e]
noncomputable def NeAll (a : Addr) : List (Addr × Obj) → Prop
  | [] => True
  | p :: r => (@Ne Nat p.1 a) ∧ NeAll a r
theorem neAll_mem {a : Addr} : ∀ {l : List (Addr × Obj)}, NeAll a l → ∀ p ∈ l, p.1 ≠ a
  | [], _, _, h => nomatch h
  | _ :: _, x, p, h => by
    rcases List.mem_cons.mp h with rfl | h
    · exact x.1
    · exact neAll_mem x.2 p h
theorem base_ne {h₀ h : Heap} {L : Addr} {p q : Addr × Obj} {r : List (Addr × Obj)} (_N : News h₀ L h (p :: q :: r)) (x : NeAll q.1 (p :: r)) : ∀ z ∈ p :: r, z.1 ≠ q.1 := neAll_mem x
theorem handsAt_of {news tups : List (Addr × Obj)} {Lh : Addr} {vsH : List Value} {hsH : List Hand} {i : Nat} (hat : ∀ (j : Nat) (v : Value) (h : Hand), vsH[j]? = some v → hsH[j]? = some h → HandAt tups v h) (hl1 : vsH.length = i) (hl2 : hsH.length = i)
    (hm : (Lh, LCg.lst vsH) ∈ news) (sub : ∀ p ∈ tups, p ∈ news) : HandsAt news Lh vsH hsH :=
  ⟨⟨_, hm⟩, hl1.trans hl2.symm, fun j v h e e' => by
    obtain ⟨a, t1, t2, t3, k', q, hmem⟩ := hat j v h e e'
    exact ⟨a, t1, t2, t3, k', q, sub _ hmem⟩⟩
/-- the numbers of a hand -/
noncomputable def handOf (z : Int) (home : Nat) : Hand := ((z.fmod 6).toNat, home, ((z.fdiv 6).fmod 2 * (z.fdiv 6).fmod 1000).toNat)
theorem handOf_ok {z : Int} {home : Nat} (hh : home = 126 ∨ home = 60) : HandOk (handOf z home) := by
  have h1 := Int.fmod_nonneg_of_pos z (by decide : (0 : Int) < 6)
  have h2 := Int.fmod_lt_of_pos z (by decide : (0 : Int) < 6)
  have h3 := Int.fmod_nonneg_of_pos (z.fdiv 6) (by decide : (0 : Int) < 2)
  have h4 := Int.fmod_lt_of_pos (z.fdiv 6) (by decide : (0 : Int) < 2)
  have h5 := Int.fmod_nonneg_of_pos (z.fdiv 6) (by decide : (0 : Int) < 1000)
  have h6 := Int.fmod_lt_of_pos (z.fdiv 6) (by decide : (0 : Int) < 1000)
  refine ⟨by show (z.fmod 6).toNat < 6; omega, hh, ?_⟩
  show ((z.fdiv 6).fmod 2 * (z.fdiv 6).fmod 1000).toNat < 1000
  rcases (by omega : (z.fdiv 6).fmod 2 = 0 ∨ (z.fdiv 6).fmod 2 = 1) with e | e <;> rw [e] <;> omega
theorem handOf_1 (z : Int) (home : Nat) : z.fmod 6 = ((handOf z home).1 : Int) := by
  have h1 := Int.fmod_nonneg_of_pos z (by decide : (0 : Int) < 6)
  show _ = (((z.fmod 6).toNat : Nat) : Int)
  omega
theorem handOf_3 (z : Int) (home : Nat) : (z.fdiv 6).fmod 2 * (z.fdiv 6).fmod 1000 = ((handOf z home).2.2 : Int) := by
  have h3 := Int.fmod_nonneg_of_pos (z.fdiv 6) (by decide : (0 : Int) < 2)
  have h5 := Int.fmod_nonneg_of_pos (z.fdiv 6) (by decide : (0 : Int) < 1000)
  have := Int.mul_nonneg h3 h5
  show _ = ((((z.fdiv 6).fmod 2 * (z.fdiv 6).fmod 1000).toNat : Nat) : Int)
  omega
end Zn
end
section
open PySem PySem.W PyProof.Rows
set_option maxRecDepth 100000
namespace Zn
/-- the turns ahead of hand k, odd or even -/
noncomputable def ways (hs : List Hand) (k : Nat) : Nat := ((hs.take k).filter fun h => h.1 = 0).length % 2
/-- the signs that a kind of hand writes -/
noncomputable def sgn (k : Nat) : List Nat := if k = 1 then [38, 60, 62, 13] else if k = 2 then [38, 60, 34, 9, 10, 13] else if k = 3 then [38, 62, 34] else []
noncomputable abbrev Cell := Nat × Nat
/-- a cell as it shows at a time -/
noncomputable def shown (hs : List Hand) (now : Nat) (c : Cell) : Nat := if ((hs.drop c.2).take (now - c.2)).any (fun h => decide (c.1 ∈ sgn h.1)) = true then 38 else c.1
noncomputable def nameOf (c : Nat) : List Nat :=
  if c = 38 then [97, 109, 112, 59] else if c = 60 then [108, 116, 59] else if c = 62 then [103, 116, 59] else if c = 34 then [113, 117, 111, 116, 59]
  else if c = 9 then [35, 120, 57, 59] else if c = 10 then [35, 120, 65, 59] else if c = 13 then [35, 120, 68, 59] else []
noncomputable def kindAt (hs : List Hand) (k : Nat) : Nat := (hs.getD k (0, 0, 0)).1
noncomputable def met (hs : List Hand) (c : Cell) : List Nat := (List.range' c.2 (hs.length - c.2)).filter fun k => decide (c.1 ∈ sgn (kindAt hs k))
noncomputable def later (hs : List Hand) (k0 way : Nat) : List Nat := (List.range' (k0 + 1) (hs.length - (k0 + 1))).filter fun k => decide (kindAt hs k = 1 ∨ kindAt hs k = 2 ∨ kindAt hs k = 3) && decide (ways hs k = way)
noncomputable def arm (hs : List Hand) (c k0 way : Nat) : List Nat := (List.replicate (later hs k0 way).length [97, 109, 112, 59]).flatten ++ (if ways hs k0 = way then nameOf c else [])
noncomputable def writing (hs : List Hand) (c : Cell) : List Nat :=
  match met hs c with
  | [] => [c.1]
  | k0 :: _ => (arm hs c.1 k0 1).reverse ++ [38] ++ arm hs c.1 k0 0
/-- the cells at the end that show white fall -/
noncomputable def trim (hs : List Hand) (now : Nat) (row : List Cell) : List Cell := (row.reverse.dropWhile fun c => isW (shown hs now c)).reverse
noncomputable def dueRow (hs : List Hand) (now : Nat) (h : Hand) (row : List Cell) : List Cell :=
  if h.1 = 4 then (if trim hs now row = [] then [(35, now + 1)] else [(35, now + 1), (32, now + 1)] ++ trim hs now row)
  else if h.1 = 5 ∧ h.2.1 = 126 ∧ h.2.2 = 0 then
    (if (row.head?.map (shown hs now)) = some 60 ∧ (row.getLast?.map (shown hs now)) = some 62 then (123, now + 1) :: (row.drop 1).dropLast ++ [(125, now + 1)] else row)
  else if h.1 = 5 then (([h.2.1, 58] ++ digits h.2.2 ++ [40]).map fun c => (c, now + 1)) ++ row ++ [(41, now + 1)]
  else row
noncomputable def turned {α : Type} (w : Nat) (l : List α) : List α := if w = 1 then l.reverse else l
noncomputable def dueCells (hs : List Hand) (cs : List Nat) : Nat → List Cell
  | 0 => cs.map fun c => (c, 0)
  | n + 1 => turned (ways hs n) (dueRow hs n (hs.getD n (0, 0, 0)) (turned (ways hs n) (dueCells hs cs n)))
noncomputable def due (cs : List Nat) (hs : List Hand) : List Nat := turned (ways hs hs.length) ((dueCells hs cs hs.length).flatMap (writing hs))
end Zn
end
section
theorem Zn.fresh_ZSigns (M : PySem.Model) (A : PySem.Around) (env : PySem.Env) (E : PySem.Value → PySem.Shared → Prop) (s : PySem.Shared) : PySem.wpAny M A (PySem.execs [] env) (fun _ _ => True) E s := by
  w_top off
  k_with_none
  walk1
  trivial
open PySem PySem.W PyProof.Rows
set_option maxRecDepth 100000
namespace Zn
set_option maxHeartbeats 8000000 in
theorem c_signs (w : World) (mean : ExcName → Option Value) (mg mb : Str → Option Value) (news : List (Addr × Obj)) (k : Nat) (t : Tok) (hk : k < 6) :
   Ctr w mean mg mb 82 1 8 0 news [.int (k : Int) t] (fun v => ∃ t, v = .str (S (sgn k)) t) := by
  unfold Ctr
  k_fill
  intro dp un gd cn cs a ccd cl outer A₀ base h₀ L m s Q E hB hF hK hN hT hkind hd hu ht hret
  refine wpAny_call ?_
  rcases (by omega : k = 0 ∨ k = 1 ∨ k = 2 ∨ k = 3 ∨ k = 4 ∨ k = 5) with rfl | rfl | rfl | rfl | rfl | rfl
  all_goals (k_dflt cell_enter)
  all_goals k_steps
  all_goals exact hret _ _ _ ⟨_, congrArg (Value.str · _) (by decide +kernel)⟩ (by k_asm) (drop1 (by k_asm))
end Zn
end
section
theorem Zn.fresh_ZShown (M : PySem.Model) (A : PySem.Around) (env : PySem.Env) (E : PySem.Value → PySem.Shared → Prop) (s : PySem.Shared) : PySem.wpAny M A (PySem.execs [] env) (fun _ _ => True) E s := by
  w_top off
  k_with_none
  walk1
  trivial
open PySem PySem.W PyProof.Rows
set_option maxRecDepth 100000
namespace Zn
/-- a cell, as a tuple of the ledger -/
noncomputable def CellAt (news : List (Addr × Obj)) (v : Value) (c : Cell) : Prop := ∃ a t1 t2 k, v = .ref a ∧ (a, tupK [.str (S [c.1]) t1, .int (c.2 : Int) t2] k) ∈ news
theorem news_add {h₀ h : Heap} {L : Addr} {p : Addr × Obj} {news : List (Addr × Obj)} (N : News h₀ L h news) (hp : p ∈ news) : News h₀ L h (p :: news) := fun z hz => by
  rcases List.mem_cons.mp hz with rfl | hz
  · exact N _ hp
  · exact N _ hz
theorem pick_nat {vs : List Value} {a b : Nat} (ha : a ≤ b) (hb : b ≤ vs.length) : slicePick vs.toArray (some (a : Int)) (some (b : Int)) none = ((vs.drop a).take (b - a)).toArray := by
  refine kmk_pick_nat vs.toArray (a := a) (b := b) ?_
  have h1 : ¬ ((a : Int) < 0) := by omega
  have h2 : ¬ ((b : Int) < 0) := by omega
  have h3 : (1 : Int) > 0 := by decide
  simp only [sliceBounds, List.size_toArray, Option.getD_none, h1, h2, h3, if_true, if_false]
  have e1 : max 0 (min (a : Int) (vs.length : Int)) = a := by omega
  have e2 : max 0 (min (b : Int) (vs.length : Int)) = b := by omega
  rw [e1, e2]
theorem upd_hands {mm m₀ : Str → Option Value} {a b c : Value} (hm : ∀ y, y ≠ Str.ofString "hand" → y ≠ Str.ofString "home" → y ≠ Str.ofString "number" → mm y = m₀ y) :
    (fun y => if y = Str.ofString "number" then some a else if y = Str.ofString "home" then some b else if y = Str.ofString "hand" then some c else mm y) =
      (fun y => if y = Str.ofString "number" then some a else if y = Str.ofString "home" then some b else if y = Str.ofString "hand" then some c else m₀ y) := by
  funext y
  by_cases e : y = Str.ofString "number"
  · rw [if_pos e, if_pos e]
  · rw [if_neg e, if_neg e]
    by_cases e' : y = Str.ofString "home"
    · rw [if_pos e', if_pos e']
    · rw [if_neg e', if_neg e']
      by_cases e'' : y = Str.ofString "hand"
      · rw [if_pos e'', if_pos e'']
      · rw [if_neg e'', if_neg e'', hm y e'' e' e]
theorem shown_yes {hs : List Hand} {now sg birth i : Nat} {h : Hand} (hi : i < now - birth) (he : hs[birth + i]? = some h) (hin : sg ∈ sgn h.1) : shown hs now (sg, birth) = 38 := by
  unfold shown
  rw [if_pos]
  rw [List.any_eq_true]
  refine ⟨h, List.mem_of_getElem? (i := i) ?_, by simpa using hin⟩
  rw [List.getElem?_take_of_lt hi, List.getElem?_drop]
  exact he
theorem shown_no {hs : List Hand} {now sg birth : Nat} (hno : ∀ j, j < now - birth → ∀ h : Hand, hs[birth + j]? = some h → sg ∉ sgn h.1) : shown hs now (sg, birth) = sg := by
  unfold shown
  rw [if_neg]
  rw [List.any_eq_true]
  rintro ⟨h, hm, hd⟩
  obtain ⟨j, hj, e⟩ := List.mem_iff_getElem.mp hm
  rw [List.length_take] at hj
  have e' := List.getElem?_eq_getElem (l := (hs.drop birth).take (now - birth)) (i := j) (by rw [List.length_take]; exact hj)
  rw [e, List.getElem?_take_of_lt (by omega), List.getElem?_drop] at e'
  exact hno j (by omega) h e' (by simpa using hd)
/-- how the loop of _law_shown stands: no sign yet -/
noncomputable def SJ (m₀ : Str → Option Value) (hs : List Hand) (c : Cell) (news₀ : List (Addr × Obj)) (i : Nat) (mm : Str → Option Value) (nx : List (Addr × Obj)) : Prop :=
  (∀ y, y ≠ Str.ofString "hand" → y ≠ Str.ofString "home" → y ≠ Str.ofString "number" → mm y = m₀ y) ∧ (∀ j, j < i → ∀ h, hs[c.2 + j]? = some h → c.1 ∉ sgn h.1) ∧ news₀ = nx
local macro_rules | `(tactic| walk_at $s:str) => `(tactic| k_extra $s)
local macro_rules | `(tactic| k_lt $h:ident) => `(tactic| replace $h := allLt_of $h)
local macro_rules | `(tactic| x_head) => `(tactic| k_extra "x_head")
local macro_rules | `(tactic| z_head) => `(tactic| k_extra "z_head")
local macro_rules | `(tactic| k_ne) => `(tactic| k_extra "k_ne")
local macro_rules | `(tactic| k_all) => `(tactic| k_extra "k_all")
set_option maxHeartbeats 8000000 in
theorem c_shown (w : World) (mean : ExcName → Option Value) (mg mb : Str → Option Value) (news : List (Addr × Obj)) (cv : Value) (c : Cell) (hl : Addr) (vs : List Value) (hs : List Hand) (now : Nat) (t : Tok) (hc : CellAt news cv c) (H : HandsAt news hl vs hs) (hn : c.2 ≤ now) (hn' : now ≤ hs.length) (hok : ∀ h ∈ hs, HandOk h) (h7 : hs.length ≤ 7) :
   Ctr w mean mg mb 89 2 40 0 news [cv, .ref hl, .int (now : Int) t] (fun v => ∃ t, v = .str (S [shown hs now c]) t) := by
  k_with_none
  k_with "x_head" => ((repeat (first | with_reducible exact m0 | with_reducible refine m1 ?_)))
  k_with "z_head" => (first | with_reducible assumption | exact up1 _ | exact up2 _ | exact up3 _ | (refine' lt_ne ?q1h ?q1m; (case q1h => with_reducible assumption); (case q1m => x_head)) | (refine' off_ne ?q1h ?q1m; (case q1h => with_reducible assumption); (case q1m => x_head)) | (refine' all_ne1 ?q1h ?q1m; (case q1h => with_reducible assumption); (case q1m => x_head)) | (refine' lt_ne_le ?q1h (le1 _) ?q1m; (case q1h => with_reducible assumption); (case q1m => x_head)) | (refine' lt_ne_le ?q1h (le2 _) ?q1m; (case q1h => with_reducible assumption); (case q1m => x_head)) | (refine' lt_ne_le ?q1h (le3 _) ?q1m; (case q1h => with_reducible assumption); (case q1m => x_head)) | (refine' lt_ne_le ?q1h (le4 _) ?q1m; (case q1h => with_reducible assumption); (case q1m => x_head)))
  k_with "k_ne" => ((refine neN ?_; (try dsimp only); first | z_head | (refine Ne.symm ?_; z_head) | assumption | (refine Ne.symm ?_; assumption)))
  k_with "k_all" => (first | with_reducible assumption | (refine' lt_suf ?q3h ?q3s; (case q3h => with_reducible assumption); (case q3s => (intro p hp; repeat (first | with_reducible exact hp | with_reducible refine m1 ?_)))) | (refine' off_suf ?q3h ?q3s; (case q3h => with_reducible assumption); (case q3s => (intro p hp; repeat (first | with_reducible exact hp | with_reducible refine m1 ?_)))) | (refine' lt_le ?q3h (le1 _); (case q3h => with_reducible assumption)) | (refine' lt_le ?q3h (le2 _); (case q3h => with_reducible assumption)) | (refine' lt_le ?q3h (le3 _); (case q3h => with_reducible assumption)) | (refine' lt_le ?q3h (le4 _); (case q3h => with_reducible assumption)) | (refine' List.forall_mem_cons.mpr ⟨?q3a, ?q3b⟩; (case q3a => k_ne); (case q3b => k_all)))
  k_with "exec For Tuple Subscript cons nil" => ((k_here; k_dflt (refine' wpAny_For ?_ (fun _ => rfl))))
  refine by_no fun hG9 => ?_
  obtain ⟨a9, t1, t2, k9, rfl, hmem⟩ := hc
  obtain ⟨sg, birth⟩ := c
  obtain ⟨⟨kh, hkh⟩, hlen, hat⟩ := id H
  refine hG9 ?_
  clear hG9
  unfold Ctr
  k_fill
  intro dp un gd cn cs a ccd cl outer A₀ base h₀ L m s Q E hB hF hK hN hT hkind hd hu ht hret
  refine wpAny_call ?_
  have hN2 := news_add (news_add hN hkh) (.tail _ hmem)
  clear hN
  k_dflt cell_enter
  k_steps
  have hvl : ((vs.drop birth).take (now - birth)).length = now - birth := by rw [List.length_take, List.length_drop]; omega
  refine iter_list (vs := (vs.drop birth).take (now - birth)) (J := SJ _ hs (sg, birth) _) rfl (by k_asm) (by k_asm) ?_ ⟨fun _ _ _ _ => rfl, fun j hj => by omega, rfl⟩ ?_ ?_ ?_
  · intro i mm nx hX39
    refine by_no fun hG9 => ?_
    obtain ⟨_, _, rfl⟩ := hX39
    refine hG9 ?_
    clear hG9
    exact .inr ⟨_, .head _, rfl, _, congrArg (fun z => Data.seq z 0) (pick_nat hn (by omega))⟩
  · refine .inr ⟨⟨_, _, _, rfl⟩, fun v hv => ?_⟩
    refine by_no fun hG9 => ?_
    obtain ⟨i, hi, rfl⟩ := List.mem_iff_getElem.mp (List.mem_of_mem_drop (List.mem_of_mem_take hv))
    obtain ⟨a, _, _, _, _, e, _⟩ := hat i _ (hs[i]'(hlen ▸ hi)) (List.getElem?_eq_getElem hi) (List.getElem?_eq_getElem _)
    refine hG9 ?_
    clear hG9
    exact ⟨a, e⟩
  · intro i v I oI mm nx h tk hv hX99 htk F N _ hoI
    refine by_no fun hG9 => ?_
    obtain ⟨hm, hno, rfl⟩ := hX99
    refine hG9 ?_
    clear hG9
    have hi : i < now - birth := by rw [← hvl]; exact (List.getElem?_eq_some_iff.mp hv).1
    have hbi : birth + i < hs.length := by omega
    have hv' : vs[birth + i]? = some v := by rw [List.getElem?_take_of_lt (by omega), List.getElem?_drop] at hv; exact hv
    have he : hs[birth + i]? = some hs[birth + i] := List.getElem?_eq_getElem hbi
    refine by_no fun hG9 => ?_
    obtain ⟨a8, u1, u2, u3, k8, rfl, hmem8⟩ := hat (birth + i) v hs[birth + i] hv' he
    refine hG9 ?_
    clear hG9
    have hh := hok _ (List.getElem_mem hbi)
    generalize hs[birth + i] = hnd at *
    refine by_no fun hG9 => ?_
    obtain ⟨kk, ho, nn⟩ := hnd
    refine hG9 ?_
    clear hG9
    have N2 := news_add N (.tail _ (.tail _ (.tail _ (.tail _ hmem8))))
    clear N
    k_steps
    rename Fr _ _ _ _ => F6
    rw [upd_hands hm] at F6
    k_steps
    k_dflt (refine' call_ctr (c_signs w mean mg mb _ kk u1 hh.1) ?gB ?gF ?gX ?gN ?gT ?gk ?gd ?gu ?gt ?_; (case gB => k_asm); (case gF => k_asm); (case gX => k_asm); (case gN => k_asm); (case gT => k_asm); (case gk => exact rfl); (case gd => show dp + 1 + 1 < _; omega); (case gu => show un + 3 + 8 < _; omega); (case gt => exact Nat.zero_le _))
    intro v h10 k10 hX39 F10 N10
    refine by_no fun hG9 => ?_
    obtain ⟨t10, rfl⟩ := hX39
    refine hG9 ?_
    clear hG9
    k_steps
    · rename_i hf
      have hnot : sg ∉ sgn kk := by
        have e := found_c (sgn kk) sg
        rw [hf] at e
        exact of_decide_eq_false e.symm
      refine ⟨h10, _, _, _, rfl, by k_asm, drop1 (by k_asm), fun p hp => .inl hp, fun y e1 e2 e3 => (if_neg e3).trans ((if_neg e2).trans (if_neg e1)), fun j hj h' ee => ?_, rfl⟩
      by_cases ej : j = i
      · subst ej
        rw [he] at ee
        obtain rfl := Option.some.inj ee
        exact hnot
      · exact hno j (by omega) h' ee
    · rename_i hf
      have hin : sg ∈ sgn kk := by
        have e := found_c (sgn kk) sg
        rw [hf] at e
        exact of_decide_eq_true e.symm
      dsimp only
      k_steps
      unfold TurnQ
      dsimp only
      k_steps
      refine hret _ _ _ ⟨_, congrArg (Value.str · _) ?_⟩ (by k_asm) (drop3 (drop1 (drop1 (by k_asm))))
      have hs38 : shown hs now (sg, birth) = 38 := shown_yes hi he hin
      rw [hs38]
      decide +kernel
  · intro mm nx h tk hX49 htk F N
    refine by_no fun hG9 => ?_
    obtain ⟨hm, hno, rfl⟩ := hX49
    refine hG9 ?_
    clear hG9
    have ht9 := (hm (Str.ofString "sign") (by decide +kernel) (by decide +kernel) (by decide +kernel)).trans rfl
    have F9 := fr_know ht9 F
    clear F
    dsimp only
    k_steps
    refine hret _ _ _ ⟨_, congrArg (Value.str · _) ?_⟩ (by k_asm) (drop3 (by k_asm))
    rw [shown_no (fun j hj h' ee => hno j (by rw [hvl]; exact hj) h' ee)]
end Zn
end
section
open PySem PySem.W PyProof.Rows PySem.SeqAt
set_option maxRecDepth 100000
namespace Zn
section
variable {prog : Program} {w : World} {A : Around} {E : Value → Shared → Prop} {s : Shared}
/-- a list against the empty one -/
theorem eq_nilZ {a b : Addr} {ys : List Value} {Q : Value → Shared → Prop} (hl : s.heap.IsList a ys.toArray) (hb : s.heap.IsList b #[]) (hu : A.units < cLine) {r : Bool} (hr : r = ys.isEmpty) (h : Q (.bool r) s) :
    wpAny (model prog w) A (compareOp .Eq (.ref a) (.ref b)) Q E s := by
  subst hr
  cases ys with
  | nil => exact eq_listAt (e := fun _ => true) hl hb rfl hu (fun j h1 => absurd h1 (Nat.not_lt_zero _)) h
  | cons y t => exact eq_list_lengthsAt hl hb (by simp) hu h
theorem ne_nilZ {a b : Addr} {ys : List Value} {Q : Value → Shared → Prop} (hl : s.heap.IsList a ys.toArray) (hb : s.heap.IsList b #[]) (hu : A.units < cLine) {r : Bool} (hr : r = !ys.isEmpty) (h : Q (.bool r) s) :
    wpAny (model prog w) A (compareOp .NotEq (.ref a) (.ref b)) Q E s := by
  subst hr
  cases ys with
  | nil => exact RcNeAt.lists (e := fun _ => true) hl hb rfl hu (fun j h1 => absurd h1 (Nat.not_lt_zero _)) prog w E Q h
  | cons y t => exact RcNeAt.lists_lengths hl hb (by simp) hu prog w E Q h
end
end Zn
end
section
theorem Zn.fresh_ZTxt (M : PySem.Model) (A : PySem.Around) (env : PySem.Env) (E : PySem.Value → PySem.Shared → Prop) (s : PySem.Shared) : PySem.wpAny M A (PySem.execs [] env) (fun _ _ => True) E s := by
  w_top off
  k_with_none
  walk1
  trivial
open PySem PySem.W PyProof.Rows
set_option maxRecDepth 100000
namespace Zn
theorem amp_is : Str.ofString "&" = S [38] := by decide +kernel
theorem amp_mul {n : Nat} (h : n ≤ 7) : Txt.mul (Str.ofString "amp;") (n : Int) = S ((List.replicate n [97, 109, 112, 59]).flatten) :=
  (by decide +kernel : ∀ n : Fin 8, Txt.mul (Str.ofString "amp;") (n.1 : Int) = S ((List.replicate n.1 [97, 109, 112, 59]).flatten)) ⟨n, by omega⟩
section
variable {prog : Program} {w : World} {A : Around} {E : Value → Shared → Prop} {s : Shared}
theorem mul_amp {n : Nat} {t u : Tok} {Q : Value → Shared → Prop} (hn : n ≤ 7) (h : ∀ t' k, Q (.str (S ((List.replicate n [97, 109, 112, 59]).flatten)) t') { s with toks := k }) : wpAny (model prog w) A (binaryOp .Mult (.str (Str.ofString "amp;") t) (.int (n : Int) u)) Q E s :=
  SB.mul (mulOk_of 16 1048576 (by decide) (by omega) (by omega) (by decide) (by decide)) fun t' k => by rw [amp_mul hn]; exact h t' k
theorem add_S {a b : List Nat} {y : Str} {t u : Tok} {Q : Value → Shared → Prop} (hy : y = S b) (ha : a.length + b.length ≤ 1000000) (h : ∀ t' tk, Q (.str (S (a ++ b)) t') { s with toks := tk }) : wpAny (model prog w) A (binaryOp .Add (.str (S a) t) (.str y u)) Q E s := by
  subst hy
  refine add_str (fun t' tk => ?_) ?_
  · rw [S_app]; exact h t' tk
  · rw [S_len, S_len, sizeLine_eq]; omega
end
theorem rev_S (l : List Nat) (u : Tok) : Txt.sliceBy (S l) none none (-1, u) = S l.reverse := by
  rw [← S_of (Txt.sliceBy (S l) none none (-1, u)), step_rev_list, S_len]
  congr 1
  refine List.ext_getElem (by simp) fun i h1 h2 => ?_
  rw [List.length_map, List.length_range] at h1
  simp [S]
  rw [List.getElem?_eq_getElem (by omega)]
  rfl
section
variable {prog : Program} {w : World} {A : Around} {E : Value → Shared → Prop} {s : Shared} {value slice : Expr} {l : List Nat} {t : Tok} {h₀ : Heap} {L : Addr} {m : Str → Option Value} {news : List (Addr × Obj)} {Q : Value → Shared → Prop} {uk : Tok}
theorem rev_Z (hF : Fr h₀ L s.heap m) (hN : News h₀ L s.heap news) (hsz : l.length ≤ 1000000) (h : ∀ h' t' c, Fr h₀ L h' m → News h₀ L h' news → Q (.str (S l.reverse) t') { s with heap := h', toks := c })
    (hs : subscripted slice false (.str (S l) t) (.ref s.heap.objs.size) = operate [.ref s.heap.objs.size, .str (S l) t] (getItem (.str (S l) t) (.ref s.heap.objs.size)))
    (ht : ∀ r, letTemporaryGo value (.str (S l) t) r = pure ()) :
    wpAny (model prog w) A (subscriptTail value slice (.str (S l) t) (.ref s.heap.objs.size)) Q E { s with heap := s.heap.push { cls := .type "slice", data := .fields #[.none, .none, .int (-1) uk] } } :=
  slice_strK_nn hF hN (by decide) (fun h' t' c F N => by rw [rev_S]; exact h h' t' c F N) hs ht (by rw [S_len, sizeLine_eq]; omega)
end
end Zn
end
section
theorem Zn.fresh_ZWrite (M : PySem.Model) (A : PySem.Around) (env : PySem.Env) (E : PySem.Value → PySem.Shared → Prop) (s : PySem.Shared) : PySem.wpAny M A (PySem.execs [] env) (fun _ _ => True) E s := by
  w_top off
  k_with_none
  walk1
  trivial
open PySem PySem.W PyProof.Rows
set_option maxRecDepth 100000
namespace Zn
theorem all_ne {news : List (Addr × Obj)} {b c : Nat} (h : AllLt b news) (hb : b ≤ c) : ∀ p ∈ news, p.1 ≠ c := fun p hp e => by
  have h1 : @LT.lt Nat _ p.1 b := ktn_ltOf h p hp
  have e' : @Eq Nat p.1 c := e
  omega
section
variable {prog : Program} {w : World} {A : Around} {E : Value → Shared → Prop} {s : Shared} {h₀ : Heap} {L : Addr} {m : Str → Option Value} {news : List (Addr × Obj)}
theorem len_L {l : Addr} {vs : List Value} {k n : Nat} {Q : Value → Shared → Prop} (N : News h₀ L s.heap news) (hm : (l, lstK vs k) ∈ news) (e : vs.length = n) (hn : n ≤ 1000000) (h : ∀ t tk, Q (.int (n : Int) t) { s with toks := tk }) :
    wpAny (model prog w) A (call (.builtin "len") [.ref l]) Q E s := by
  have hl : s.heap.IsList l vs.toArray := News.isList N hm
  refine len_list hl (by rw [List.size_toArray]; omega) ?_
  rw [List.size_toArray, e]
  exact h _ _
theorem item_L {value slice : Expr} {l : Addr} {vs : List Value} {k : Nat} (n : Nat) {z : Int} {u : Tok} {x : Value} {Q : Value → Shared → Prop} (N : News h₀ L s.heap news) (hm : (l, lstK vs k) ∈ news) (hz : z = (n : Int)) (hn : n ≤ 1000000) (hx : vs[n]? = some x) (h : Q x s)
    (hs : subscripted slice false (.ref l) (.int z u) = operate [.ref l, .int z u] (getItem (.ref l) (.int z u)) := by with_unfolding_all rfl) (hg : ∀ r, letTemporaryGo value (.ref l) r = pure () := by intro _; with_unfolding_all rfl) :
    wpAny (model prog w) A (subscriptTail value slice (.ref l) (.int z u)) Q E s := by
  subst hz
  exact item_list (News.isList N hm) (Int.natCast_nonneg n) (by omega) (by simpa using hx) h hs hg
end
theorem rg_n {a b : Int} {n : Nat} (h : b - a = (n : Int)) : Builtin.Range.rangeSize a b 1 = ((n : Nat) : Int) := by
  rw [rangeSize_nat, h]; rfl
theorem rg_small {a b : Int} (h1 : 0 ≤ a) (h2 : a ≤ 1000) (h3 : 0 ≤ b) (h4 : b ≤ 1000) : Builtin.Range.small a b 1 = true := by
  obtain ⟨a, rfl⟩ := Int.eq_ofNat_of_zero_le h1
  obtain ⟨b, rfl⟩ := Int.eq_ofNat_of_zero_le h3
  have fits : ∀ i : Int, 0 ≤ i → i ≤ 10000 → Builtin.Range.rangeFitsLong i = true := by
    intro i h1 h2
    unfold Builtin.Range.rangeFitsLong
    simp only [Bool.and_eq_true, decide_eq_true_eq]
    exact ⟨by omega, by omega⟩
  unfold Builtin.Range.small
  rw [rangeSize_nat]
  rw [fits _ h1 (by omega), fits _ h3 (by omega), fits 1 (by decide) (by decide), fits _ (by omega) (by omega)]
  simp only [Bool.true_and]
  rw [if_pos (by decide), fits _ (by omega) (by omega), Bool.or_true]
theorem hand_of {news : List (Addr × Obj)} {vs : List Value} {hs : List Hand} (hlen : vs.length = hs.length) (hat : ∀ (i : Nat) (v : Value) (h : Hand), vs[i]? = some v → hs[i]? = some h → HandAt news v h) (hok : ∀ h ∈ hs, HandOk h) {n : Nat} (hn : n < hs.length) {G : Prop}
    (K : ∀ (a : Addr) (kk ho nn : Nat) (u1 u2 u3 : Tok) (k : Nat), vs[n]? = some (.ref a) → (a, tupK [.int (kk : Int) u1, .str (S [ho]) u2, .int (nn : Int) u3] k) ∈ news → HandOk (kk, ho, nn) → kindAt hs n = kk → hs[n]? = some (kk, ho, nn) → G) : G := by
  have hv : n < vs.length := by omega
  obtain ⟨a, t1, t2, t3, k, e, hm⟩ := hat n vs[n] hs[n] (List.getElem?_eq_getElem hv) (List.getElem?_eq_getElem hn)
  refine K a hs[n].1 hs[n].2.1 hs[n].2.2 t1 t2 t3 k ?_ hm (hok _ (List.getElem_mem hn)) ?_ (List.getElem?_eq_getElem hn)
  · rw [List.getElem?_eq_getElem hv, e]
  · unfold kindAt
    rw [List.getD_eq_getElem?_getD, List.getElem?_eq_getElem hn]; rfl
theorem news_sub {h₀ h : Heap} {L : Addr} {a b : List (Addr × Obj)} (N : News h₀ L h a) (hb : ∀ p ∈ b, p ∈ a) : News h₀ L h b := fun p hp => N p (hb p hp)
theorem name_len (c : Nat) : (nameOf c).length ≤ 5 := by
  unfold nameOf
  repeat (split; (try decide))
  decide
theorem amps_len {n : Nat} (h : n ≤ 7) : ((List.replicate n [97, 109, 112, 59]).flatten).length ≤ 28 :=
  (by decide : ∀ n : Fin 8, ((List.replicate n.1 [97, 109, 112, 59]).flatten).length ≤ 28) ⟨n, by omega⟩
theorem later_len (hs : List Hand) (k0 way : Nat) : (later hs k0 way).length ≤ hs.length := by
  unfold later
  refine Nat.le_trans (List.length_filter_le _ _) ?_
  rw [List.length_range']
  omega
theorem arm_len (hs : List Hand) (sg k0 way : Nat) (h7 : hs.length ≤ 7) : (arm hs sg k0 way).length ≤ 33 := by
  unfold arm
  have h1 := amps_len (n := (later hs k0 way).length) (Nat.le_trans (later_len hs k0 way) h7)
  have h2 := name_len sg
  rw [List.length_append]
  split
  · omega
  · rw [List.length_nil]; omega
/-- how the loop of _law_writing stands -/
noncomputable def WJ (hs : List Hand) (sg k0 : Nat) (m₀ : Str → Option Value) (Al cw : Addr) (base : List (Addr × Obj)) (i : Nat) (mm : Str → Option Value) (nx : List (Addr × Obj)) : Prop :=
  (∀ y, y ≠ Str.ofString "later" → mm y = m₀ y) ∧ ∃ (vals : List Value) (ow : Obj) (v₀ : Option Value), ow.data = .cell v₀ ∧ StrsAre vals ((List.range i).map fun w => S (arm hs sg k0 w)) ∧ nx = (Al, LCg.lst vals) :: (cw, ow) :: base
theorem WJ.parts {hs : List Hand} {sg k0 : Nat} {m₀ : Str → Option Value} {Al cw : Addr} {base : List (Addr × Obj)} {i : Nat} {mm : Str → Option Value} {nx : List (Addr × Obj)} {G : Prop} (H : WJ hs sg k0 m₀ Al cw base i mm nx)
    (K : (∀ y, y ≠ Str.ofString "later" → mm y = m₀ y) → ∀ (vals : List Value) (ow : Obj) (v₀ : Option Value), ow.data = .cell v₀ → StrsAre vals ((List.range i).map fun w => S (arm hs sg k0 w)) → nx = (Al, LCg.lst vals) :: (cw, ow) :: base → G) : G := by
  obtain ⟨a, b, c, d, e, f, g⟩ := H
  exact K a b c d e f g
theorem end_writing {hs : List Hand} {sg k0 i : Nat} {g h : Heap} {L I Al cw : Addr} {oI ow ow₀ : Obj} {v₀ : Option Value} {s : Shared} {m₀ mf : Str → Option Value} {base : List (Addr × Obj)} {x : Addr × Obj} {l₀ : Obj} {vals : List Value} {n : Nat} {l' : List Nat} {t : Tok} {tk : Nat} {Q : Flow → Shared → Prop}
    (hm : ∀ y, y ≠ Str.ofString "later" → mf y = m₀ y) (how : ow.data = .cell v₀) (hsv : StrsAre vals ((List.range i).map fun w => S (arm hs sg k0 w))) (hl : l' = arm hs sg k0 i) (hn : n = vals.length + 1) (F : Fr g L h mf)
    (N : News g L h (x :: (I, oI) :: (Al, W.listOf (vals.toArray.push (.str (S l') t)) n) :: (cw, ow) :: base)) : RTurnQ g L I oI s ((Al, l₀) :: (cw, ow₀) :: base) (WJ hs sg k0 m₀ Al cw base (i + 1)) Q .next { s with heap := h, toks := tk } := by
  subst hl hn
  refine ⟨h, tk, mf, (Al, LCg.lst (vals ++ [.str (S (arm hs sg k0 i)) t])) :: (cw, ow) :: base, rfl, F, fun p hp => ?_, fun p hp => .inl ?_, hm, _, ow, v₀, how, ?_, rfl⟩
  · rcases List.mem_cons.mp hp with rfl | hp
    · exact N _ (.tail _ (.head _))
    · rcases List.mem_cons.mp hp with rfl | hp
      · rw [← LCg.lst_snoc]
        exact N _ (.tail _ (.tail _ (.head _)))
      · exact N _ (.tail _ (.tail _ (.tail _ hp)))
  · rcases List.mem_cons.mp hp with rfl | hp
    · exact ⟨_, .head _, rfl⟩
    · rcases List.mem_cons.mp hp with rfl | hp
      · exact ⟨_, .tail _ (.head _), rfl⟩
      · exact ⟨_, .tail _ (.tail _ hp), rfl⟩
  · rw [List.range_succ, List.map_append]
    exact strs_snoc hsv _ _
theorem WJ0 {hs : List Hand} {sg k0 : Nat} {m₀ : Str → Option Value} {Al cw : Addr} {base : List (Addr × Obj)} {ow : Obj} {v₀ : Option Value} (h : ow.data = .cell v₀) : WJ hs sg k0 m₀ Al cw base 0 m₀ ((Al, LCg.lst []) :: (cw, ow) :: base) :=
  ⟨fun _ _ => rfl, [], ow, v₀, h, .nil, rfl⟩
theorem reord {h₀ h : Heap} {L : Addr} {p0 p1 p2 p3 c : Addr × Obj} {r : List (Addr × Obj)} (N : News h₀ L h (p0 :: p1 :: p2 :: p3 :: c :: r)) : News h₀ L h (p0 :: c :: p2 :: p3 :: r) := fun z hz => by
  simp only [List.mem_cons] at hz
  rcases hz with rfl | rfl | rfl | rfl | hz
  · exact N _ (.head _)
  · exact N _ (.tail _ (.tail _ (.tail _ (.tail _ (.head _)))))
  · exact N _ (.tail _ (.tail _ (.head _)))
  · exact N _ (.tail _ (.tail _ (.tail _ (.head _))))
  · exact N _ (.tail _ (.tail _ (.tail _ (.tail _ (.tail _ hz)))))
theorem fr_but1 {h₀ h : Heap} {L : Addr} {mm m₀ : Str → Option Value} {x : Str} (hm : ∀ y, y ≠ x → mm y = m₀ y) (F : Fr h₀ L h mm) : ∃ v, Fr h₀ L h (fun y => if y = x then v else m₀ y) := by
  refine ⟨mm x, ?_⟩
  have e : (fun y => if y = x then mm x else m₀ y) = mm := by
    funext y
    by_cases q : y = x
    · rw [if_pos q, q]
    · rw [if_neg q, hm y q]
  rw [e]; exact F
/-- the places, from b on, of n hands, whose kind writes sg -/
noncomputable def metN (hs : List Hand) (sg b n : Nat) : List Nat := (List.range' b n).filter fun k => decide (sg ∈ sgn (kindAt hs k))
theorem metN_succ (hs : List Hand) (sg b n : Nat) : metN hs sg b (n + 1) = metN hs sg b n ++ (if sg ∈ sgn (kindAt hs (b + n)) then [b + n] else []) := by
  unfold metN
  rw [List.range'_concat, List.filter_append, Nat.one_mul]
  by_cases h : sg ∈ sgn (kindAt hs (b + n)) <;> simp [h]
/-- the later escapes at which the text ran one way, among n hands behind k0 -/
noncomputable def laterN (hs : List Hand) (k0 way n : Nat) : List Nat := (List.range' (k0 + 1) n).filter fun k => decide (kindAt hs k = 1 ∨ kindAt hs k = 2 ∨ kindAt hs k = 3) && decide (ways hs k = way)
theorem laterN_succ (hs : List Hand) (k0 way n : Nat) : laterN hs k0 way (n + 1) = laterN hs k0 way n ++ (if (kindAt hs (k0 + 1 + n) = 1 ∨ kindAt hs (k0 + 1 + n) = 2 ∨ kindAt hs (k0 + 1 + n) = 3) ∧ ways hs (k0 + 1 + n) = way then [k0 + 1 + n] else []) := by
  unfold laterN
  rw [List.range'_concat, List.filter_append, Nat.one_mul]
  by_cases h1 : kindAt hs (k0 + 1 + n) = 1 ∨ kindAt hs (k0 + 1 + n) = 2 ∨ kindAt hs (k0 + 1 + n) = 3 <;> by_cases h2 : ways hs (k0 + 1 + n) = way <;> simp [h1, h2]
theorem met_lt {hs : List Hand} {k0 : Nat} {c : Cell} (h : k0 ∈ met hs c) : k0 < hs.length := by
  unfold met at h
  have := (List.mem_filter.mp h).1
  rw [List.mem_range'_1] at this
  omega
open PyProof.V in
theorem names_pack {prog : Program} {w : World} {K : Type} [DecidableEq K] {knd : KeyKind prog w K} {enc : K → PyData} {o : Obj} {kvs : List (K × Value)} {D : List (PyData × PyData)} (a : o.IsDictOf knd kvs) (b : FlatPairs enc kvs D) : ∃ kvs, o.IsDictOf knd kvs ∧ FlatPairs enc kvs D := ⟨kvs, a, b⟩
noncomputable def namesD : List (PyData × PyData) := [(.str (Str.ofString "&"), .str (Str.ofString "amp;")), (.str (Str.ofString "<"), .str (Str.ofString "lt;")), (.str (Str.ofString ">"), .str (Str.ofString "gt;")), (.str (Str.ofString "\""), .str (Str.ofString "quot;")), (.str (Str.ofString "\t"), .str (Str.ofString "#x9;")), (.str (Str.ofString "\n"), .str (Str.ofString "#xA;")), (.str (Str.ofString "\r"), .str (Str.ofString "#xD;"))]
theorem names_look {sg : Nat} (h : sg ∈ [38, 60, 62, 34, 9, 10, 13]) : PySem.Spec.lookup (PyData.str (S [sg])) namesD = some (.str (S (nameOf sg))) := by
  simp only [List.mem_cons, List.not_mem_nil, or_false] at h
  rcases h with rfl | rfl | rfl | rfl | rfl | rfl | rfl <;> rfl
theorem sgn_names {k sg : Nat} (h : sg ∈ sgn k) : sg ∈ [38, 60, 62, 34, 9, 10, 13] := by
  unfold sgn at h
  split at h
  · exact (by decide : ∀ d ∈ [38, 60, 62, 13], d ∈ [38, 60, 62, 34, 9, 10, 13]) sg h
  split at h
  · exact (by decide : ∀ d ∈ [38, 60, 34, 9, 10, 13], d ∈ [38, 60, 62, 34, 9, 10, 13]) sg h
  split at h
  · exact (by decide : ∀ d ∈ [38, 62, 34], d ∈ [38, 60, 62, 34, 9, 10, 13]) sg h
  · exact nomatch h
theorem met_names {hs : List Hand} {k0 sg b : Nat} (h : k0 ∈ met hs (sg, b)) : sg ∈ [38, 60, 62, 34, 9, 10, 13] := by
  unfold met at h
  exact sgn_names (of_decide_eq_true (List.mem_filter.mp h).2)
open PyProof.V in
theorem item_D {prog : Program} {w : World} {A : Around} {E : Value → Shared → Prop} {s : Shared} {value slice : Expr} {d : Addr} {D : List (PyData × PyData)} {k r : Str} {t : Tok} {Q : Value → Shared → Prop} (T : TabAt (PySem.strKind prog w) PyData.str s.heap d D) (hl : PySem.Spec.lookup (PyData.str k) D = some (.str r)) (h : ∀ t tk, Q (.str r t) { s with toks := tk })
    (hs : subscripted slice false (.ref d) (.str k t) = operate [.ref d, .str k t] (getItem (.ref d) (.str k t))) (hg : ∀ r, letTemporaryGo value (.ref d) r = pure ()) :
    wpAny (model prog w) A (subscriptTail value slice (.ref d) (.str k t)) Q E s :=
  item_tab PyProof.V.same_str (strKind_is _ _ _ _) T hl (fun v hv => by obtain ⟨t, rfl⟩ := hv.str_inv; exact h t _) hs hg
theorem cz {kk : Nat} (n : Nat) : kk = n ↔ ((n : Nat) : Int) = (kk : Int) := ⟨fun e => by rw [e], fun e => (Int.ofNat.inj e).symm⟩
theorem in123 {kk : Nat} {b : Bool} (h : (([1, 2, 3] : List Int).any fun x => x == (kk : Int)) = b) : decide (kk = 1 ∨ kk = 2 ∨ kk = 3) = b := by
  rw [← h, Bool.eq_iff_iff, decide_eq_true_eq]
  simp only [List.any_cons, List.any_nil, Bool.or_false, Bool.or_eq_true, beq_iff_eq]
  exact or_congr (cz 1) (or_congr (cz 2) (cz 3))
theorem ways_getD {hs : List Hand} {z : Int} {n : Nat} (hz : z = (n : Int)) (hn : n ≤ hs.length) : ((List.range (hs.length + 1)).map fun k => (ways hs k : Int)).getD z.toNat 0 = (ways hs n : Int) := by
  subst hz
  rw [Int.toNat_natCast, List.getD_eq_getElem?_getD, List.getElem?_map, List.getElem?_range (by omega)]
  rfl
theorem ints_at {vs : List Value} {ns : List Int} (h : IntsAre vs ns) : ∀ {i : Nat} {z : Int}, ns[i]? = some z → ∃ t, vs[i]? = some (.int z t) := by
  induction h with
  | nil => intro i z e; simp at e
  | cons n t r ih =>
    intro i z e
    cases i with
    | zero =>
      obtain rfl := Option.some.inj e
      exact ⟨t, rfl⟩
    | succ i => exact ih (i := i) (by simpa using e)
theorem ways_at {hs : List Hand} {ws : List Value} (h : IntsAre ws ((List.range (hs.length + 1)).map fun k => (ways hs k : Int))) {i : Nat} (hi : i ≤ hs.length) : ∃ t, ws[i]? = some (.int (ways hs i : Int) t) :=
  ints_at h (by rw [List.getElem?_map, List.getElem?_range (by omega)]; rfl)
theorem item_T {prog : Program} {w : World} {A : Around} {E : Value → Shared → Prop} {s : Shared} {h₀ : Heap} {L : Addr} {news : List (Addr × Obj)} {value slice : Expr} {l : Addr} {vs : List Value} {k : Nat} (n : Nat) {z : Int} {u : Tok} {x : Value} {Q : Value → Shared → Prop} (N : News h₀ L s.heap news) (hm : (l, tupK vs k) ∈ news) (hz : z = (n : Int)) (hn : n ≤ 1000000) (hx : vs[n]? = some x) (h : Q x s)
    (hs : subscripted slice false (.ref l) (.int z u) = operate [.ref l, .int z u] (getItem (.ref l) (.int z u))) (hg : ∀ r, letTemporaryGo value (.ref l) r = pure ()) :
    wpAny (model prog w) A (subscriptTail value slice (.ref l) (.int z u)) Q E s := by
  subst hz
  have hl : n < vs.length := (List.getElem?_eq_some_iff.mp hx).1
  exact item_tupleL (News.isTup N hm) (by omega) (by omega) (seqIndex_of (Int.natCast_nonneg n) (by omega)) (by simpa using hx) h hs hg
theorem rgA_small {b n : Nat} (h : b ≤ n) (h7 : n ≤ 7) : Builtin.Range.small (b : Int) (n : Int) 1 = true := rg_small (by omega) (by omega) (by omega) (by omega)
theorem rgA_n {b n : Nat} (h : b ≤ n) : Builtin.Range.rangeSize (b : Int) (n : Int) 1 = ((n - b : Nat) : Int) := rg_n (by omega)
theorem rgB_small {b n : Nat} (h : b < n) (h7 : n ≤ 7) : Builtin.Range.small ((b : Int) + 1) (n : Int) 1 = true := rg_small (by omega) (by omega) (by omega) (by omega)
theorem rgB_n {b n : Nat} (h : b < n) : Builtin.Range.rangeSize ((b : Int) + 1) (n : Int) 1 = ((n - (b + 1) : Nat) : Int) := rg_n (by omega)
theorem rg_sz {b n : Nat} (h7 : n ≤ 7) : n - b ≤ sizeLine := by rw [sizeLine_eq]; omega
local macro_rules | `(tactic| k_lt $h:ident) => `(tactic| replace $h := allLt_of $h)
local macro_rules | `(tactic| walk_at $s:str) => `(tactic| k_extra $s)
local macro_rules | `(tactic| x_head) => `(tactic| k_extra "x_head")
local macro_rules | `(tactic| z_head) => `(tactic| k_extra "z_head")
local macro_rules | `(tactic| k_ne) => `(tactic| k_extra "k_ne")
local macro_rules | `(tactic| k_all) => `(tactic| k_extra "k_all")
/-- the ways, as a list of ints of the ledger -/
noncomputable def WaysAt (news : List (Addr × Obj)) (wl : Addr) (ns : List Int) : Prop := ∃ ws k, (wl, lstK ws k) ∈ news ∧ IntsAre ws ns
set_option maxHeartbeats 8000000 in
theorem c_writing (w : World) (mean : ExcName → Option Value) (mg mb : Str → Option Value) (news : List (Addr × Obj)) (cv : Value) (c : Cell) (hl wl : Addr) (vs : List Value) (hs : List Hand) (hc : CellAt news cv c) (H : HandsAt news hl vs hs) (hW : WaysAt news wl ((List.range (hs.length + 1)).map fun k => (ways hs k : Int))) (hb : c.2 ≤ hs.length) (hok : ∀ h ∈ hs, HandOk h) (h7 : hs.length ≤ 7) :
   Ctr w mean mg mb 94 2 60 0 news [cv, .ref hl, .ref wl] (fun v => ∃ t, v = .str (S (writing hs c)) t) := by
  k_with_none
  k_with "x_head" => ((repeat (first | with_reducible exact m0 | with_reducible refine m1 ?_)))
  k_with "z_head" => (first | with_reducible assumption | exact up1 _ | exact up2 _ | exact up3 _ | (refine' lt_ne ?q1h ?q1m; (case q1h => with_reducible assumption); (case q1m => x_head)) | (refine' off_ne ?q1h ?q1m; (case q1h => with_reducible assumption); (case q1m => x_head)) | (refine' all_ne1 ?q1h ?q1m; (case q1h => with_reducible assumption); (case q1m => x_head)) | (refine' lt_ne_le ?q1h (le1 _) ?q1m; (case q1h => with_reducible assumption); (case q1m => x_head)) | (refine' lt_ne_le ?q1h (le2 _) ?q1m; (case q1h => with_reducible assumption); (case q1m => x_head)) | (refine' lt_ne_le ?q1h (le3 _) ?q1m; (case q1h => with_reducible assumption); (case q1m => x_head)) | (refine' lt_ne_le ?q1h (le4 _) ?q1m; (case q1h => with_reducible assumption); (case q1m => x_head)))
  k_with "k_ne" => ((refine neN ?_; (try dsimp only); first | z_head | (refine Ne.symm ?_; z_head) | assumption | (refine Ne.symm ?_; assumption)))
  k_with "k_all" => (first | with_reducible assumption | (refine' lt_suf ?q3h ?q3s; (case q3h => with_reducible assumption); (case q3s => (intro p hp; repeat (first | with_reducible exact hp | with_reducible refine m1 ?_)))) | (refine' off_suf ?q3h ?q3s; (case q3h => with_reducible assumption); (case q3s => (intro p hp; repeat (first | with_reducible exact hp | with_reducible refine m1 ?_)))) | (refine' lt_le ?q3h (le1 _); (case q3h => with_reducible assumption)) | (refine' lt_le ?q3h (le2 _); (case q3h => with_reducible assumption)) | (refine' lt_le ?q3h (le3 _); (case q3h => with_reducible assumption)) | (refine' lt_le ?q3h (le4 _); (case q3h => with_reducible assumption)) | (refine' List.forall_mem_cons.mpr ⟨?q3a, ?q3b⟩; (case q3a => k_ne); (case q3b => k_all)))
  k_with "compareOp Eq ref ref" => ((k_here; refine Halt.go ?_))
  k_with "call builtin:list.append" => ((k_here; (with_reducible show wpAny _ _ (call (Value.builtin _) [Value.ref _, _]) _ _ _); k_dflt (refine' append_K ?q5k1 ?q5k2 ?q5k3 ?_ ?q5z; (case q5k1 => k_asm); (case q5k2 => k_asm); (case q5k3 => k_upd); (case q5z => first | assumption | (rw [List.size_toArray, sizeLine_eq]; omega)); k_whole); intro _ F9' N9'; (try k_sweep)))
  k_with "binaryOp Mult str int" => ((k_here; k_dflt (refine' mul_amp ?q6n ?_; (case q6n => first | assumption | omega)); intro _ _))
  k_with "binaryOp Add str str" => ((k_here; k_dflt (refine' add_S ?q7y ?q7n ?_; (case q7y => first | exact empty_is | exact amp_is | rfl); (case q7n => first | assumption | omega | (simp only [List.length_nil, List.length_cons, List.length_append, List.length_reverse]; omega))); intro _ _))
  k_with "subscriptTail" => ((k_here; (with_reducible show wpAny _ _ (subscriptTail _ (Expr.Slice none none (some _) _) _ _) _ _ _); (with_reducible show wpAny _ _ (subscriptTail _ _ (Value.str _ _) (Value.ref _)) _ _ _); k_dflt (refine' rev_Z (s := ⟨_, _, _, _, _⟩) ?q8F ?q8N ?q8n ?_ ?q8s ?q8g; (case q8F => k_asm); (case q8N => k_asm); (case q8n => first | assumption | omega); (case q8s => with_unfolding_all rfl); (case q8g => intro _; with_unfolding_all rfl)); intro _ _ _ F9' N9'))
  k_with "exec Assign cons ListComp" => ((k_here; k_dflt (refine' Assign_ListComp_Z ?q9s ?q9a ?q9b ?q9c ?_ ?q9e; (case q9s => with_unfolding_all rfl); (case q9a => exact rfl); (case q9b => exact rfl); (case q9c => decide); (case q9e => exact (fun _ => rfl)))))
  k_with "call builtin:len" => (k_here; (with_reducible show wpAny _ _ (call (Value.builtin "len") [Value.ref _]) _ _ _); k_dflt (refine' len_L ?N ?m ?e ?z ?_; (case N => k_asm); (case m => k_mem); (case e => first | assumption | rfl); (case z => first | assumption | omega); k_whole); intro _ _)
  k_with "subscriptTail Name Constant ref int" => (k_here; k_dflt (refine' item_L 0 ?N ?m ?z ?n ?x ?_ ?s ?g; (case N => k_asm); (case m => k_mem); (case z => rfl); (case n => exact Nat.zero_le _); (case x => exact rfl); (case s => with_unfolding_all rfl); (case g => intro _; with_unfolding_all rfl); k_whole))
  k_with "subscriptTail Subscript Constant ref int" => (k_here; k_dflt (refine' item_T 0 ?scN ?scm ?scz ?scn ?scx ?_ ?scs ?scg; (case scN => k_asm); (case scm => k_mem); (case scz => rfl); (case scn => exact Nat.zero_le _); (case scx => exact rfl); (case scs => with_unfolding_all rfl); (case scg => intro _; with_unfolding_all rfl); k_whole))
  k_with "subscriptTail Name Name ref int" => (k_here; k_dflt (refine' item_L _ ?nnN ?nnm ?nnz ?nnn ?nnx ?_ ?nns ?nng; (case nnN => k_asm); (case nnm => k_mem); (case nnx => assumption); (case nnz => first | exact cast_add _ _ | exact cast_add1 _ _ | rfl); (case nnn => assumption); (case nns => with_unfolding_all rfl); (case nng => intro _; with_unfolding_all rfl); k_whole))
  k_with "subscriptTail Name Subscript ref int" => (k_here; k_dflt (refine' item_L _ ?nsN ?nsm ?nsz ?nsn ?nsx ?_ ?nss ?nsg; (case nsN => k_asm); (case nsm => k_mem); (case nsx => assumption); (case nsz => first | exact cast_add _ _ | exact cast_add1 _ _ | rfl); (case nsn => assumption); (case nss => with_unfolding_all rfl); (case nsg => intro _; with_unfolding_all rfl); k_whole))
  k_with "subscriptTail Name Name ref str" => (k_here; k_dflt (refine' item_D (D := namesD) ?T ?l ?_ ?s ?g; (case T => exact TabAt.ofNews (by k_asm) (by k_mem) (by k_asm) (by k_asm) (by k_asm)); (case l => exact names_look (by assumption)); (case s => with_unfolding_all rfl); (case g => intro _; with_unfolding_all rfl)); intro _ _)
  refine by_no fun hG9 => ?_
  obtain ⟨a9, t1, t2, k9, rfl, hmem⟩ := hc
  obtain ⟨sg, birth⟩ := c
  obtain ⟨⟨kh, hkh⟩, hlen, hat⟩ := id H
  obtain ⟨ws, kw, hwm, hwi⟩ := hW
  refine hG9 ?_
  clear hG9
  unfold Ctr
  k_fill
  intro dp un gd cn cs a ccd cl outer A₀ base h₀ L m s Q E hB hF hK hN hT hkind hd hu ht hret
  refine wpAny_call ?_
  have hN2 := news_add (news_add (news_add hN hkh) (.tail _ hwm)) (.tail _ (.tail _ hmem))
  clear hN
  k_dflt (refine' code_defC (binds := [(Str.ofString "cell", .ref a9), (Str.ofString "hands", .ref hl), (Str.ofString "ways", .ref wl)]) ?k1 ?k2 ?k3 ?k4 ?k5 ?kA ?kF ?kK ?k6 ?k7 ?k8 ?k9 ?kB ?kD ?_ ?c2 ?c3 ?c4; (case kA => exact rfl); (case kF => exact rfl); (case kK => assumption); (case k1 => k_asm); (case k2 => k_asm); (case k3 => k_asm); (case k4 => k_asm); (case k5 => k_asm); (case k6 => k_is); (case k7 => k_is); (case k8 => ktr_room); (case k9 => exact BindsTo.of_eq rfl); (case kB => exact rfl); (case kD => decide +kernel); (case c2 => exact rfl); (case c3 => exact rfl); (case c4 => exact rfl); k_whole; intro g' L' h' tk' cells' FG' F' N' Y' B' X' T' l1; (try k_lt l1); k_cells Y'; (try simp only [List.cons_append, List.nil_append] at N'); (try dsimp only); (try k_lift B'); (try k_fold))
  have hall : AllLt L' news := l1.2.2.2
  try dsimp only at l1
  have hn7 : hs.length ≤ 1000000 := mil (Nat.le_refl _) h7 (by decide)
  try refine bare ?_
  try k_fold
  k_steps
  rename Obj.IsDictOf _ _ _ => hd9
  rename PyProof.V.FlatPairs _ _ _ => hf9
  refine by_no fun hG9 => ?_
  obtain ⟨kvs9, hd8, hf8⟩ := names_pack hd9 hf9
  refine hG9 ?_
  clear hG9
  clear hd9 hf9
  change wpAny _ _ _ _ _ ⟨_, s.gens, s.drawn, _, s.os⟩
  change PyProof.V.FlatPairs PyData.str kvs9 namesD at hf8
  refine keep_range (h₀ := g') (L := L') (n := hs.length - birth) (J := fun i ys => IntsAre ys ((metN hs sg birth i).map fun k => ((k : Nat) : Int))) rfl (by k_asm) (by k_asm) (by assumption) (rgA_small hb h7) (rgA_n hb) .nil (rg_sz h7) (by decide) rfl rfl ?_ (fun g => rr_assignB (by rfl) (by rfl) (by rfl) fun ys nx hJ => ?_)
  · intro g i v I oI C oC D m₂ ys nx h tk E' hi hP hJ hC hx F N off ne
    refine by_no fun hG9 => ?_
    obtain ⟨t9, rfl⟩ := hP
    obtain ⟨hz, rfl⟩ := hJ
    refine hG9 ?_
    clear hG9
    refine tests_one ?_
    have hbi : birth + i < hs.length := lt_sub hi
    have hb6 : birth + i ≤ 1000000 := mil_lt hbi h7 (by decide)
    refine hand_of hlen hat hok hbi fun a8 kk ho nn u1 u2 u3 k8 hv hmem8 hh hki he => ?_
    have N2 := news_add N (.tail _ (.tail _ (.tail _ (.tail _ (.tail _ (.tail _ (.tail _ (.tail _ (.tail _ (.tail _ (.tail _ hmem8)))))))))))
    clear N
    try refine bare ?_
    try k_fold
    k_steps
    k_dflt (refine' call_ctr (c_signs w mean mg mb _ kk u1 hh.1) ?gB ?gF ?gX ?gN ?gT ?gk ?gd ?gu ?gt ?_; (case gB => k_asm); (case gF => k_asm); (case gX => k_asm); (case gN => k_asm); (case gT => k_asm); (case gk => exact rfl); (case gd => exact room (b := 2) hd (by decide)); (case gu => exact room (b := 11) hu (by decide)); (case gt => exact Nat.zero_le _))
    intro v h10 k10 hX39 F10 N10
    refine by_no fun hG9 => ?_
    obtain ⟨t10, rfl⟩ := hX39
    refine hG9 ?_
    clear hG9
    try refine bare ?_
    try k_fold
    k_steps
    · rename_i hf
      have hnot : sg ∉ sgn kk := by
        have e := found_c (sgn kk) sg
        rw [hf] at e
        exact of_decide_eq_false e.symm
      refine ⟨_, _, _, rfl, by k_asm, drop1 (by k_asm), off, trivial, ?_, rfl⟩
      rw [metN_succ, hki, if_neg hnot, List.append_nil]
      exact hz
    · rename_i hf
      have hin : sg ∈ sgn kk := by
        have e := found_c (sgn kk) sg
        rw [hf] at e
        exact of_decide_eq_true e.symm
      refine ⟨_, _, _, rfl, by k_asm, drop1 (by k_asm), off, trivial, ?_, rfl⟩
      rw [metN_succ, hki, if_pos hin, List.map_append]
      exact ints_snoc hz _ _
  · refine by_no fun hG9 => ?_
    obtain ⟨hz, rfl⟩ := hJ
    refine hG9 ?_
    clear hG9
    unfold FinB
    intro D7 hp7 k7 F7 N7 o7
    try refine bare ?_
    try k_fold
    k_steps
    change IntsAre ys ((met hs (sg, birth)).map fun k => ((k : Nat) : Int)) at hz
    unfold Halt
    cases hm : met hs (sg, birth) with
    | nil =>
      rw [hm] at hz
      obtain rfl : ys = [] := by cases hz; rfl
      k_dflt (refine' eq_nilZ ?n1 ?n2 ?n3 (ys := []) (r := true) rfl ?_; (case n1 => exact News.isList (by k_asm) (by k_mem)); (case n2 => exact News.isList (by k_asm) (by k_mem)); (case n3 => exact room (b := 3) hu (by decide)))
      try refine bare ?_
      try k_fold
      k_steps
      refine hret _ _ _ ⟨_, congrArg (Value.str · _) ?_⟩ (by k_asm) (news_sub (b := news) (by k_asm) (fun p hp => (.tail _ (.tail _ (.tail _ (.tail _ (.tail _ (.tail _ (.tail _ (.tail _ (.tail _ (.tail _ hp))))))))))))
      unfold writing
      rw [hm]
    | cons k0 mr =>
      rw [hm] at hz
      refine by_no fun hG9 => ?_
      obtain ⟨tq, ys', rfl, hz'⟩ : ∃ tq ys', ys = .int (k0 : Int) tq :: ys' ∧ IntsAre ys' (mr.map fun k => ((k : Nat) : Int)) := by cases hz with | cons _ t r => exact ⟨t, _, rfl, r⟩
      refine hG9 ?_
      clear hG9
      k_dflt (refine' eq_nilZ ?p1 ?p2 ?p3 (ys := .int (k0 : Int) tq :: ys') (r := false) rfl ?_; (case p1 => exact News.isList (by k_asm) (by k_mem)); (case p2 => exact News.isList (by k_asm) (by k_mem)); (case p3 => exact room (b := 3) hu (by decide)))
      try refine bare ?_
      try k_fold
      k_steps
      refine wpAny_For ?_ (fun _ => rfl)
      try refine bare ?_
      try k_fold
      k_steps
      refine iter_range (h₀ := g') (n := 2) (J := WJ hs sg k0 _ _ _ _) rfl (by k_asm) (reord (by k_asm)) (by assumption) (by decide) rfl (WJ0 (by k_asm)) (fun _ _ => rfl) ?_ ?_
      · intro i tv I oI mm nx h tk hi hX99 htk (F : Fr g' L' h mm) (N : News g' L' h _) hkd hoI
        refine WJ.parts hX99 fun hm' vals ow v₀ how hsv e9 => ?_
        clear hX99
        subst e9
        refine by_no fun hG9 => ?_
        obtain ⟨v9, F9⟩ := fr_but1 hm' F
        refine hG9 ?_
        clear hG9
        clear F
        have q1 := neN (hoI _ (.head _))
        have q2 := neN (hoI _ (.tail _ (.head _)))
        dsimp only at q1 q2
        try refine bare ?_
        try k_fold
        k_steps
        have hk0 : k0 < hs.length := met_lt (by rw [hm]; exact .head _)
        have hsg := met_names (show k0 ∈ met hs (sg, birth) by rw [hm]; exact .head _)
        have hvl : vals.length = i := by have := hsv.len_eq; simpa using this
        refine keep_range (h₀ := g') (L := L') (n := hs.length - (k0 + 1)) (J := fun j ys => IntsAre ys ((laterN hs k0 i j).map fun k => ((k : Nat) : Int))) rfl (by k_asm) (by k_asm) (by assumption) (rgB_small hk0 h7) (rgB_n hk0) .nil (rg_sz h7) (by decide) rfl rfl ?_ (fun g => rr_assignB (by rfl) (by rfl) (by rfl) fun zs nx hJ => ?_)
        · intro g j v J oJ C oC D m₂ zs nx h tk E' hj hP hJ hC hx F N off ne
          refine by_no fun hG9 => ?_
          obtain ⟨t9, rfl⟩ := hP
          obtain ⟨hz, rfl⟩ := hJ
          refine hG9 ?_
          clear hG9
          refine tests_one ?_
          have hbi : k0 + 1 + j < hs.length := lt_sub hj
          have hb6 : k0 + 1 + j ≤ 1000000 := mil_lt hbi h7 (by decide)
          refine by_no fun hG9 => ?_
          obtain ⟨t5, hw5⟩ := ways_at hwi (Nat.le_of_lt hbi)
          refine hG9 ?_
          clear hG9
          refine hand_of hlen hat hok hbi fun a8 kk ho nn u1 u2 u3 k8 hv hmem8 hh hki he => ?_
          have N2 := news_add N (.tail _ (.tail _ (.tail _ (.tail _ (.tail _ (.tail _ (.tail _ (.tail _ (.tail _ (.tail _ (.tail _ (.tail _ (.tail _ (.tail _ hmem8))))))))))))))
          clear N
          try refine bare ?_
          try k_fold
          k_steps
          · rename List.any _ _ = _ => hA
            rename ((ways hs (k0 + 1 + j) : Nat) : Int) = _ => hB9
            have hA' := in123 hA
            refine ⟨_, _, _, rfl, by k_asm, drop2 (by k_asm), off, trivial, ?_, rfl⟩
            rw [laterN_succ, hki, if_pos ⟨of_decide_eq_true hA', cast_way hB9⟩, List.map_append]
            exact ints_snoc hz _ _
          · rename ((ways hs (k0 + 1 + j) : Nat) : Int) ≠ _ => hB9
            refine ⟨_, _, _, rfl, by k_asm, drop2 (by k_asm), off, trivial, ?_, rfl⟩
            rw [laterN_succ, hki, if_neg (fun x => cast_nway hB9 x.2), List.append_nil]
            exact hz
          · rename List.any _ _ = _ => hA
            have hA' := in123 hA
            refine ⟨_, _, _, rfl, by k_asm, drop2 (by k_asm), off, trivial, ?_, rfl⟩
            rw [laterN_succ, hki, if_neg (fun x => of_decide_eq_false hA' x.1), List.append_nil]
            exact hz
        · refine by_no fun hG9 => ?_
          obtain ⟨hz, rfl⟩ := hJ
          refine hG9 ?_
          clear hG9
          change IntsAre zs ((later hs k0 i).map fun k => ((k : Nat) : Int)) at hz
          have hzl : zs.length = (later hs k0 i).length := by
            have := IntsAre.length hz
            simpa using this
          have hlb := later_len hs k0 i
          have hl7 : (later hs k0 i).length ≤ 7 := Nat.le_trans hlb h7
          have hlm : (later hs k0 i).length ≤ 1000000 := mil hlb h7 (by decide)
          have hfl := amps_len hl7
          have hs1 := mil_sum hfl (name_len sg) (by decide)
          have hs0 := mil_sum hfl (Nat.le_refl ([] : List Nat).length) (by decide)
          have hvz : vals.toArray.size ≤ sizeLine := milS_lt (n := 2) (k := 2) (by rw [List.size_toArray, hvl]; exact hi) (Nat.le_refl _) (by decide)
          refine by_no fun hG9 => ?_
          obtain ⟨t6, hw6⟩ := ways_at hwi (Nat.le_of_lt hk0)
          refine hG9 ?_
          clear hG9
          have hk6 : k0 ≤ 1000000 := mil_lt hk0 h7 (by decide)
          unfold FinB
          intro D8 h8 k8 F8 N8 o8
          try refine bare ?_
          try k_fold
          k_steps
          · rename ((ways hs k0 : Nat) : Int) = _ => hW9
            refine end_writing (fun y e => (if_neg e).trans (if_neg e)) (by k_asm) hsv ?_ (by rfl) (by k_asm) (by k_asm)
            unfold arm
            rw [if_pos (cast_way hW9)]
          · rename ((ways hs k0 : Nat) : Int) ≠ _ => hW9
            refine end_writing (fun y e => (if_neg e).trans (if_neg e)) (by k_asm) hsv ?_ (by rfl) (by k_asm) (by k_asm)
            unfold arm
            rw [if_neg (cast_nway hW9)]
      · intro mm nx h tk hX49 htk (F : Fr g' L' h mm) (N : News g' L' h _)
        refine WJ.parts hX49 fun hm' vals ow v₀ how hsv e9 => ?_
        clear hX49
        subst e9
        refine by_no fun hG9 => ?_
        obtain ⟨v9, F9⟩ := fr_but1 hm' F
        refine hG9 ?_
        clear hG9
        clear F
        obtain ⟨b0, b1, rfl⟩ : ∃ b0 b1, vals = [.str (S (arm hs sg k0 0)) b0, .str (S (arm hs sg k0 1)) b1] := by
          cases hsv with | cons _ t0 r => cases r with | cons _ t1 r => cases r; exact ⟨_, _, rfl⟩
        have har := arm_len hs sg k0 0 h7
        have har1 := arm_len hs sg k0 1 h7
        have hq0 : (arm hs sg k0 1).length ≤ 1000000 := mil har1 (Nat.le_refl _) (by decide)
        have hq1 : (arm hs sg k0 1).reverse.length + ([38] : List Nat).length ≤ 1000000 := by rw [List.length_reverse]; exact mil_sum har1 (Nat.le_refl 1) (by decide)
        have hq2 : ((arm hs sg k0 1).reverse ++ [38]).length + (arm hs sg k0 0).length ≤ 1000000 := by rw [List.length_append, List.length_reverse]; exact mil_sum (Nat.add_le_add har1 (Nat.le_refl 1)) har (by decide)
        dsimp only
        try refine bare ?_
        try k_fold
        k_steps
        refine hret _ _ _ ⟨_, congrArg (Value.str · _) ?_⟩ (by k_asm) (news_sub (b := news) (by k_asm) (fun p hp => (.tail _ (.tail _ (.tail _ (.tail _ (.tail _ (.tail _ (.tail _ (.tail _ (.tail _ (.tail _ hp))))))))))))
        unfold writing
        rw [hm]
end Zn
end
section
theorem Zn.fresh_ZCells (M : PySem.Model) (A : PySem.Around) (env : PySem.Env) (E : PySem.Value → PySem.Shared → Prop) (s : PySem.Shared) : PySem.wpAny M A (PySem.execs [] env) (fun _ _ => True) E s := by
  w_top off
  k_with_none
  walk1
  trivial
open PySem PySem.W PyProof.Rows
set_option maxRecDepth 100000
namespace Zn
-- cells upon the ledger
noncomputable def RowVals (nx : List (Addr × Obj)) : List Value → List Cell → Prop
  | [], [] => True
  | v :: vs, c :: cs => CellAt nx v c ∧ RowVals nx vs cs
  | _, _ => False
theorem RowVals.mono {nx ny : List (Addr × Obj)} (sub : ∀ p ∈ nx, p ∈ ny) : ∀ {vs : List Value} {cs : List Cell}, RowVals nx vs cs → RowVals ny vs cs
  | [], [], _ => trivial
  | _ :: _, _ :: _, ⟨⟨a, t1, t2, k, e, hm⟩, r⟩ => ⟨⟨a, t1, t2, k, e, sub _ hm⟩, r.mono sub⟩
  | [], _ :: _, h => h.elim
  | _ :: _, [], h => h.elim
theorem RowVals.len {nx : List (Addr × Obj)} : ∀ {vs : List Value} {cs : List Cell}, RowVals nx vs cs → vs.length = cs.length
  | [], [], _ => rfl
  | _ :: _, _ :: _, ⟨_, r⟩ => by rw [List.length_cons, List.length_cons, r.len]
  | [], _ :: _, h => h.elim
  | _ :: _, [], h => h.elim
theorem RowVals.app {nx : List (Addr × Obj)} {ws : List Value} {ds : List Cell} (h2 : RowVals nx ws ds) : ∀ {vs : List Value} {cs : List Cell}, RowVals nx vs cs → RowVals nx (vs ++ ws) (cs ++ ds)
  | [], [], _ => h2
  | _ :: _, _ :: _, ⟨a, r⟩ => ⟨a, RowVals.app h2 r⟩
  | [], _ :: _, h => h.elim
  | _ :: _, [], h => h.elim
theorem RowVals.one {nx : List (Addr × Obj)} {v : Value} {c : Cell} (h : CellAt nx v c) : RowVals nx [v] [c] := ⟨h, trivial⟩
theorem RowVals.rev {nx : List (Addr × Obj)} : ∀ {vs : List Value} {cs : List Cell}, RowVals nx vs cs → RowVals nx vs.reverse cs.reverse
  | [], [], _ => trivial
  | v :: vs, c :: cs, ⟨a, r⟩ => by
    rw [List.reverse_cons, List.reverse_cons]
    exact RowVals.app (.one a) r.rev
  | [], _ :: _, h => h.elim
  | _ :: _, [], h => h.elim
theorem RowVals.tail {nx : List (Addr × Obj)} : ∀ {vs : List Value} {cs : List Cell}, RowVals nx vs cs → RowVals nx (vs.drop 1) (cs.drop 1)
  | [], [], _ => trivial
  | _ :: _, _ :: _, ⟨_, r⟩ => r
  | [], _ :: _, h => h.elim
  | _ :: _, [], h => h.elim
theorem RowVals.init {nx : List (Addr × Obj)} {vs : List Value} {cs : List Cell} (h : RowVals nx vs cs) : RowVals nx vs.dropLast cs.dropLast := by
  have := h.rev.tail.rev
  rwa [List.drop_one, List.drop_one, List.tail_reverse, List.reverse_reverse, List.tail_reverse, List.reverse_reverse] at this
theorem RowVals.get {nx : List (Addr × Obj)} : ∀ {vs : List Value} {cs : List Cell}, RowVals nx vs cs → ∀ {i : Nat} {c : Cell}, cs[i]? = some c → ∃ v, vs[i]? = some v ∧ CellAt nx v c
  | [], [], _, i, c, e => by simp at e
  | v :: _, _ :: _, ⟨a, _⟩, 0, c, e => by
    obtain rfl := Option.some.inj e
    exact ⟨v, rfl, a⟩
  | _ :: _, _ :: _, ⟨_, r⟩, i + 1, c, e => by
    obtain ⟨v, h1, h2⟩ := r.get (i := i) (by simpa using e)
    exact ⟨v, by simpa using h1, h2⟩
  | [], _ :: _, h, _, _, _ => h.elim
  | _ :: _, [], h, _, _, _ => h.elim
theorem RowVals.nil_iff {nx : List (Addr × Obj)} {vs : List Value} {cs : List Cell} (h : RowVals nx vs cs) : vs.isEmpty = cs.isEmpty := by
  cases vs <;> cases cs <;> first | rfl | exact h.elim
-- objects that a turn makes
noncomputable def SeqObj (o : Obj) : Prop := (∃ a k, o.data = .seq a k) ∧ (o.cls = .type "tuple" ∨ o.cls = .type "list")
theorem seq_list (vs : Array Value) (k : Nat) : SeqObj ({ cls := .type "list", data := .seq vs k } : Obj) := ⟨⟨_, _, rfl⟩, .inr rfl⟩
theorem seq_tup (vs : Array Value) (k : Nat) : SeqObj ({ cls := .type "tuple", data := .seq vs k } : Obj) := ⟨⟨_, _, rfl⟩, .inl rfl⟩
noncomputable def DatOk (news dat : List (Addr × Obj)) : Prop := (∀ p ∈ dat, p ∈ news ∨ SeqObj p.2) ∧ ∀ p ∈ news, p ∈ dat
theorem DatOk.nil (news : List (Addr × Obj)) : DatOk news news := ⟨fun _ h => .inl h, fun _ h => h⟩
theorem DatOk.add {news dat : List (Addr × Obj)} (h : DatOk news dat) {p : Addr × Obj} (hp : SeqObj p.2) : DatOk news (p :: dat) := ⟨fun q hq => by
  rcases List.mem_cons.mp hq with rfl | hq
  · exact .inr hp
  · exact h.1 q hq, fun q hq => .tail _ (h.2 q hq)⟩
theorem DatOk.app {news dat tups : List (Addr × Obj)} (h : DatOk news dat) (ht : ∀ p ∈ tups, SeqObj p.2) : DatOk news (tups ++ dat) := ⟨fun q hq => by
  rcases List.mem_append.mp hq with hq | hq
  · exact .inr (ht q hq)
  · exact h.1 q hq, fun q hq => List.mem_append.mpr (.inr (h.2 q hq))⟩
theorem turn_mem {h₀ h : Heap} {L : Addr} {p a b p1 p2 p3 p4 : Addr × Obj} {news dat : List (Addr × Obj)} (N : News h₀ L h (a :: b :: p1 :: p2 :: p3 :: p4 :: dat)) (hd : DatOk news dat) (hm : p ∈ news) : News h₀ L h (p :: a :: b :: p1 :: p2 :: p3 :: p4 :: dat) := fun z hz => by
  rcases List.mem_cons.mp hz with rfl | hz
  · exact N _ (.tail _ (.tail _ (.tail _ (.tail _ (.tail _ (.tail _ (hd.2 _ hm)))))))
  · exact N _ hz
theorem dat_off {h₀ h : Heap} {L : Addr} {news dat nx : List (Addr × Obj)} {c : Addr} {o : Obj} {v : Option Value} (D : DatOk news dat) (N : News h₀ L h nx) (hc : (c, o) ∈ nx) (hd : o.data = .cell v) (sub : ∀ p ∈ dat, p ∈ nx) {b : Nat} (hall : AllLt b news) (hb : b ≤ c) : ∀ p ∈ dat, p.1 ≠ c := by
  intro p hp
  rcases D.1 p hp with h1 | ⟨⟨a, k, h1⟩, _⟩
  · exact Nat.ne_of_lt (Nat.lt_of_lt_of_le (ktn_ltOf hall p h1) hb)
  · refine News.twoPlaces N (sub p hp) hc fun e => ?_
    have e' : p.2 = o := e
    rw [e', hd] at h1
    cases h1
theorem dat_cls {news dat : List (Addr × Obj)} {T : String} (hT : T ≠ "tuple" ∧ T ≠ "list") (D : DatOk news dat) : ∀ p ∈ dat, p ∈ news ∨ p.2.cls ≠ .type T := fun p hp => by
  rcases D.1 p hp with h | ⟨_, h | h⟩
  · exact .inl h
  · refine .inr ?_
    rw [h]; intro e; injection e with e; exact hT.1 e.symm
  · refine .inr ?_
    rw [h]; intro e; injection e with e; exact hT.2 e.symm
-- cuts of a list
theorem pick_up {vs : List Value} {z : Int} (h0 : 0 ≤ z) (h1 : z ≤ vs.length) : (slicePick vs.toArray none (some z) none).toList = vs.take z.toNat := by
  have e : sliceBounds none (some z) none vs.toArray.size = (((0 : Nat) : Int), ((z.toNat : Nat) : Int), 1) := by
    have h2 : ¬ z < 0 := by omega
    have h3 : (1 : Int) > 0 := by decide
    simp only [sliceBounds, List.size_toArray, Option.getD_none, h2, h3, if_true, if_false]
    have e1 : max 0 (min z (vs.length : Int)) = (z.toNat : Int) := by omega
    rw [e1]
    rfl
  rw [kmk_pick_nat _ e]
  simp
theorem pick_neg {vs : List Value} (a : Option Int) (n : Nat) (ha : a = none ∧ n = 0 ∨ a = some 1 ∧ n = 1) (h1 : 1 ≤ vs.length) : (slicePick vs.toArray a (some (-1)) none).toList = (vs.drop n).dropLast := by
  have e : sliceBounds a (some (-1)) none vs.toArray.size = (((n : Nat) : Int), ((vs.length - 1 : Nat) : Int), 1) := by
    have h2 : (-1 : Int) < 0 := by decide
    have h3 : (1 : Int) > 0 := by decide
    have h4 : ¬ (1 : Int) < 0 := by decide
    rcases ha with ⟨rfl, rfl⟩ | ⟨rfl, rfl⟩
    · simp only [sliceBounds, List.size_toArray, Option.getD_none, h2, h3, if_true]
      have e1 : max 0 (min (-1 + (vs.length : Int)) (vs.length : Int)) = ((vs.length - 1 : Nat) : Int) := by omega
      first | (rw [e1]; rfl) | (simp; omega)
    · simp only [sliceBounds, List.size_toArray, Option.getD_none, h2, h3, h4, if_true, if_false]
      have e1 : max 0 (min (-1 + (vs.length : Int)) (vs.length : Int)) = ((vs.length - 1 : Nat) : Int) := by omega
      have e2 : max 0 (min (1 : Int) (vs.length : Int)) = 1 := by omega
      first | (rw [e1, e2]; rfl) | (simp; omega)
  rw [kmk_pick_nat _ e, List.toList_toArray]
  show (vs.drop n).take (vs.length - 1 - n) = _
  rw [List.dropLast_eq_take, List.length_drop]
  congr 1
  omega
-- a statement by itself
theorem cut_stmt {prog : Program} {w : World} {A : Around} {s : Shared} {env : Env} {st : Stmt} {rest : List Stmt} {Q : Flow → Shared → Prop} {E : Value → Shared → Prop} (Mid : Shared → Prop)
    (h1 : wpAny (model prog w) A (exec st env) (fun f s' => f = .next ∧ Mid s') (fun _ _ => False) s) (h2 : ∀ s', Mid s' → wpAny (model prog w) A (execs rest env) Q E s') :
    wpAny (model prog w) A (execs (st :: rest) env) Q E s := by
  refine wpAny_execs_cons (wpAny_mono h1 (fun f s' hf => ?_) fun _ _ e => e.elim)
  obtain ⟨rfl, hM⟩ := hf
  exact h2 s' hM
/-- a statement's end: the data made by it ahead of what stands -/
noncomputable def CutPost (h₀ : Heap) (L : Addr) (s : Shared) (a b p1 p2 p3 p4 : Addr × Obj) (P : (Str → Option Value) → List (Addr × Obj) → Prop) (f : Flow) (s' : Shared) : Prop :=
  f = .next ∧ ∃ h tk m' dat', s' = { s with heap := h, toks := tk } ∧ Fr h₀ L h m' ∧ News h₀ L h (a :: b :: p1 :: p2 :: p3 :: p4 :: dat') ∧ P m' dat'
theorem cut_fin {h₀ h : Heap} {L : Addr} {s : Shared} {tk : Nat} {m' : Str → Option Value} {a b p1 p2 p3 p4 : Addr × Obj} {dat' : List (Addr × Obj)} {P : (Str → Option Value) → List (Addr × Obj) → Prop}
    (F : Fr h₀ L h m') (N : News h₀ L h (a :: b :: p1 :: p2 :: p3 :: p4 :: dat')) (hP : P m' dat') : CutPost h₀ L s a b p1 p2 p3 p4 P .next { s with heap := h, toks := tk } := ⟨rfl, h, tk, m', dat', rfl, F, N, hP⟩
theorem cut_data {prog : Program} {w : World} {A : Around} {s : Shared} {env : Env} {st : Stmt} {rest : List Stmt} {Q : Flow → Shared → Prop} {E : Value → Shared → Prop} {h₀ : Heap} {L : Addr} {m : Str → Option Value} {a b p1 p2 p3 p4 : Addr × Obj} {dat : List (Addr × Obj)} (P : (Str → Option Value) → List (Addr × Obj) → Prop)
    (_F : Fr h₀ L s.heap m) (_N : News h₀ L s.heap (a :: b :: p1 :: p2 :: p3 :: p4 :: dat))
    (h1 : wpAny (model prog w) A (exec st env) (CutPost h₀ L s a b p1 p2 p3 p4 P) (fun _ _ => False) s)
    (h2 : ∀ h tk m' dat', Fr h₀ L h m' → News h₀ L h (a :: b :: p1 :: p2 :: p3 :: p4 :: dat') → P m' dat' → wpAny (model prog w) A (execs rest env) Q E { s with heap := h, toks := tk }) :
    wpAny (model prog w) A (execs (st :: rest) env) Q E s :=
  cut_stmt (fun s' => ∃ h tk m' dat', s' = { s with heap := h, toks := tk } ∧ Fr h₀ L h m' ∧ News h₀ L h (a :: b :: p1 :: p2 :: p3 :: p4 :: dat') ∧ P m' dat') h1 fun _ ⟨h, tk, m', dat', e, F', N', hp⟩ => e ▸ h2 h tk m' dat' F' N' hp
/-- a statement by itself, whatever follows -/
theorem cut_exec {prog : Program} {w : World} {A : Around} {s : Shared} {env : Env} {st : Stmt} {Q : Flow → Shared → Prop} {E : Value → Shared → Prop} {h₀ : Heap} {L : Addr} {m : Str → Option Value} {a b p1 p2 p3 p4 : Addr × Obj} {dat : List (Addr × Obj)} (P : (Str → Option Value) → List (Addr × Obj) → Prop)
    (_F : Fr h₀ L s.heap m) (_N : News h₀ L s.heap (a :: b :: p1 :: p2 :: p3 :: p4 :: dat))
    (h1 : wpAny (model prog w) A (exec st env) (CutPost h₀ L s a b p1 p2 p3 p4 P) (fun _ _ => False) s)
    (h2 : ∀ h tk m' dat', Fr h₀ L h m' → News h₀ L h (a :: b :: p1 :: p2 :: p3 :: p4 :: dat') → P m' dat' → Q .next { s with heap := h, toks := tk }) :
    wpAny (model prog w) A (exec st env) Q E s :=
  wpAny_mono h1 (fun _ _ ⟨e, h, tk, m', dat', e', F', N', hp⟩ => e ▸ e' ▸ h2 h tk m' dat' F' N' hp) fun _ _ x => x.elim
/-- the row of cells that a name holds -/
noncomputable def RowIs (news : List (Addr × Obj)) (x : Str) (row : List Cell) (m : Str → Option Value) (dat : List (Addr × Obj)) : Prop :=
  ∃ (rl : Addr) (rv : List Value) (k : Nat), m x = some (.ref rl) ∧ (rl, lstK rv k) ∈ dat ∧ RowVals dat rv row ∧ DatOk news dat
theorem cellAt_of {nx : List (Addr × Obj)} {a : Addr} {x : Str} {z : Int} {t1 t2 : Tok} {c b k : Nat} (hm : (a, tupK [.str x t1, .int z t2] k) ∈ nx) (e : x = S [c]) (hz : z = (b : Int)) : CellAt nx (.ref a) (c, b) := by
  subst e hz
  exact ⟨a, t1, t2, k, rfl, hm⟩
theorem comp_sort {h₀ h : Heap} {L : Addr} {D x a b p1 p2 p3 p4 : Addr × Obj} {tups dat : List (Addr × Obj)} (N : News h₀ L h (D :: (tups ++ x :: a :: b :: p1 :: p2 :: p3 :: p4 :: dat))) : News h₀ L h (D :: x :: a :: b :: p1 :: p2 :: p3 :: p4 :: (tups ++ dat)) :=
  news_pick2 (mid := [x, a, b, p1, p2, p3, p4]) [0, 1, 2, 3, 4, 5, 6, 7] N rfl
section
variable {prog : Program} {w : World} {A : Around} {E : Value → Shared → Prop} {s : Shared} {h₀ : Heap} {L : Addr} {m : Str → Option Value} {news : List (Addr × Obj)} {Q : Value → Shared → Prop}
theorem cat_Z {a b : Addr} {vs ws : List Value} {ka kb : Nat} (F : Fr h₀ L s.heap m) (N : News h₀ L s.heap news) (ha : (a, lstK vs ka) ∈ news) (hb : (b, lstK ws kb) ∈ news) (hz : vs.length + ws.length ≤ 1000000)
    (h : ∀ D h', Fr h₀ L h' m → News h₀ L h' ((D, lstK (vs ++ ws) 0) :: news) → (∀ p ∈ news, p.1 < D) → Q (.ref D) { s with heap := h' }) : wpAny (model prog w) A (binaryOp .Add (.ref a) (.ref b)) Q E s :=
  kmk_add_lit F N (News.isList N ha) (News.isList N hb) (by simp) h (by simp [sizeLine_eq]; omega)
theorem str_num {n : Nat} {t : Tok} (hn : n < 1000) (k : ∀ t tk, Q (.str (S (digits n)) t) { s with toks := tk }) : wpAny (model prog w) A (call (.type "str") [.int (n : Int) t]) Q E s := by
  refine str_of_int_fit (N := 1000) (by rw [if_neg (by omega)]; omega) (by decide) fun _ => ?_
  have e : Str.ofString (toString (n : Int)) = S (digits n) := S_digits n
  show Q (.str (Str.ofString (toString (n : Int))) s.toks) _
  rw [e]
  exact k _ _
end
section
variable {prog : Program} {w : World} {A : Around} {E : Value → Shared → Prop} {s : Shared} {h₀ : Heap} {L : Addr} {news : List (Addr × Obj)} {Q : Value → Shared → Prop}
theorem item_last {value slice : Expr} {l : Addr} {ws : List Value} {k : Nat} {u : Tok} {x : Value} (N : News h₀ L s.heap news) (hm : (l, lstK (ws ++ [x]) k) ∈ news) (h : Q x s)
    (hs : subscripted slice false (.ref l) (.int (-1) u) = operate [.ref l, .int (-1) u] (getItem (.ref l) (.int (-1) u))) (hg : ∀ r, letTemporaryGo value (.ref l) r = pure ()) :
    wpAny (model prog w) A (subscriptTail value slice (.ref l) (.int (-1) u)) Q E s :=
  subscriptTail_builtin (News.isList N hm).typeIs slot_list_getitem.lookup (wpAny_getItem_list_neg (News.isList N hm) (by decide) (by simp; omega) (by decide) (by
    have e : (-1 + ((ws ++ [x]).toArray.size : Int)).toNat = ws.length := by simp; omega
    rw [e]; simp) h) hs hg
theorem ne_nilE {a b : Addr} {ys : List Value} {k : Nat} {e : Bool} {Q : Value → Shared → Prop} (N : News h₀ L s.heap news) (ha : (a, lstK ys k) ∈ news) (hb : (b, W.listOf #[] 0) ∈ news) (he : ys.isEmpty = e) (hu : A.units < cLine) (h : Q (.bool (!e)) s) :
    wpAny (model prog w) A (compareOp .NotEq (.ref a) (.ref b)) Q E s := ne_nilZ (News.isList N ha) (News.isList N hb) hu (by rw [he]) h
end
theorem RowVals.snoc {nx : List (Addr × Obj)} {vs : List Value} {cs : List Cell} {c : Cell} (h : RowVals nx vs (cs ++ [c])) : ∃ ws v, vs = ws ++ [v] ∧ RowVals nx ws cs ∧ CellAt nx v c := by
  have hr := h.rev
  rw [List.reverse_append] at hr
  cases hv : vs.reverse with
  | nil => rw [hv] at hr; exact hr.elim
  | cons v t =>
    rw [hv] at hr
    refine ⟨t.reverse, v, ?_, ?_, hr.1⟩
    · rw [← List.reverse_reverse (as := vs), hv, List.reverse_cons]
    · have := RowVals.rev (nx := nx) (vs := t) (cs := cs.reverse) hr.2
      rwa [List.reverse_reverse] at this
theorem cellAt_mono {nx ny : List (Addr × Obj)} {v : Value} {c : Cell} (h : CellAt nx v c) (sub : ∀ p ∈ nx, p ∈ ny) : CellAt ny v c := by
  obtain ⟨a, t1, t2, k, e, hm⟩ := h
  exact ⟨a, t1, t2, k, e, sub _ hm⟩
theorem white_is : Str.ofString " \t\n\r" = S [32, 9, 10, 13] := by decide +kernel
theorem white_in (c : Nat) : decide (c ∈ [32, 9, 10, 13]) = isW c := by
  unfold isW
  rw [Bool.eq_iff_iff]
  simp only [decide_eq_true_eq, List.mem_cons, List.not_mem_nil, or_false, Bool.or_eq_true, beq_iff_eq, or_assoc]
theorem white_found {c : Nat} {x : Str} {b : Bool} (hx : x = S [32, 9, 10, 13]) (h : (!(Builtin.Str.occurrences x (S [c]) 0 x.length 1).isEmpty) = b) : isW c = b := by
  subst hx
  rw [← white_in, ← found_c, h]
theorem white_found' {c : Nat} {x : Str} {b : Bool} (hx : x = S [32, 9, 10, 13]) (h : (Builtin.Str.occurrences x (S [c]) 0 x.length 1).isEmpty = b) : isW c = !b := white_found hx (by rw [h])
theorem less_is : Str.ofString "<" = S [60] := by decide +kernel
theorem more_is : Str.ofString ">" = S [62] := by decide +kernel
theorem sign_eq {x y : Nat} {z : Str} {b : Bool} (hz : z = S [y]) (h : (S [x] == z) = b) : decide (x = y) = b := by
  rw [← h, hz, Bool.eq_iff_iff, decide_eq_true_eq, beq_iff_eq]
  exact ⟨fun e => by rw [e], fun e => by have := S_inj e; simpa using this⟩
theorem brace_row {hs : List Hand} {now : Nat} {row : List Cell} {c0 c1 : Cell} (h0 : row.head? = some c0) (h1 : row.getLast? = some c1) : dueRow hs now (5, 126, 0) row = if shown hs now c0 = 60 ∧ shown hs now c1 = 62 then (123, now + 1) :: (row.drop 1).dropLast ++ [(125, now + 1)] else row := by
  unfold dueRow
  rw [if_neg (by decide), if_pos ⟨rfl, rfl, rfl⟩, h0, h1]
  simp only [Option.map_some, Option.some.injEq]
theorem std_row {hs : List Hand} {now ho nn : Nat} {row : List Cell} (h : ¬ (ho = 126 ∧ nn = 0)) : dueRow hs now (5, ho, nn) row = (([ho, 58] ++ digits nn ++ [40]).map fun c => (c, now + 1)) ++ row ++ [(41, now + 1)] := by
  unfold dueRow
  rw [if_neg (show ¬ (5 : Nat) = 4 by decide), if_neg (fun x => h x.2), if_pos rfl]
theorem sharp1_is : Str.ofString "#" = S [35] := by decide +kernel
theorem sharp2_is : Str.ofString "# " = S [35, 32] := by decide +kernel
theorem colon_is : Str.ofString ":" = S [58] := by decide +kernel
theorem paren_is : Str.ofString "(" = S [40] := by decide +kernel
theorem close_is : Str.ofString ")" = S [41] := by decide +kernel
theorem end_std {h₀ h : Heap} {L D2 T : Addr} {s : Shared} {tk kt i : Nat} {m : Str → Option Value} {x1 x2 x3 x4 a b p1 p2 p3 p4 : Addr × Obj} {tups dat news : List (Addr × Obj)} {ys rv : List Value} {l1 row r : List Cell} {x : Str} {z : Int} {t1 t2 : Tok}
    (hm : m (Str.ofString "row") = some (.ref D2)) (hx : x = S [41]) (hz : z = ((i + 1 : Nat) : Int)) (hc : RowVals tups ys l1) (hr : RowVals dat rv row) (ht : ∀ p ∈ tups, SeqObj p.2) (hd : DatOk news dat) (hrow : r = l1 ++ row ++ [(41, i + 1)]) (F : Fr h₀ L h m)
    (N : News h₀ L h ((D2, lstK (ys ++ rv ++ [.ref T]) 0) :: x1 :: (T, tupK [.str x t1, .int z t2] kt) :: x2 :: x3 :: x4 :: a :: b :: p1 :: p2 :: p3 :: p4 :: (tups ++ dat))) :
    CutPost h₀ L s a b p1 p2 p3 p4 (RowIs news (Str.ofString "row") r) .next { s with heap := h, toks := tk } := by
  subst hrow
  refine cut_fin (dat' := (D2, lstK (ys ++ rv ++ [.ref T]) 0) :: (T, tupK [.str x t1, .int z t2] kt) :: (tups ++ dat)) F (news_pick [6, 7, 8, 9, 10, 11, 0, 2] 12 N rfl) ⟨D2, _, 0, hm, .head _, ?_, ((hd.app ht).add (seq_tup _ _)).add (seq_list _ _)⟩
  · refine RowVals.app (.one (cellAt_of (.tail _ (.head _)) hx hz)) (RowVals.app (hr.mono fun p hp => ?_) (hc.mono fun p hp => ?_))
    · exact .tail _ (.tail _ (List.mem_append.mpr (.inr hp)))
    · exact .tail _ (.tail _ (List.mem_append.mpr (.inl hp)))
theorem end_front {h₀ h : Heap} {L D2 : Addr} {s : Shared} {tk : Nat} {m : Str → Option Value} {x1 x2 a b p1 p2 p3 p4 : Addr × Obj} {tups dat news : List (Addr × Obj)} {ys rv : List Value} {l1 row r : List Cell}
    (hm : m (Str.ofString "row") = some (.ref D2)) (hc : RowVals tups ys l1) (hr : RowVals dat rv row) (ht : ∀ p ∈ tups, SeqObj p.2) (hd : DatOk news dat) (hrow : r = l1 ++ row) (F : Fr h₀ L h m)
    (N : News h₀ L h ((D2, lstK (ys ++ rv) 0) :: x1 :: x2 :: a :: b :: p1 :: p2 :: p3 :: p4 :: (tups ++ dat))) :
    CutPost h₀ L s a b p1 p2 p3 p4 (RowIs news (Str.ofString "row") r) .next { s with heap := h, toks := tk } := by
  subst hrow
  refine cut_fin (dat' := (D2, lstK (ys ++ rv) 0) :: (tups ++ dat)) F (news_pick [3, 4, 5, 6, 7, 8, 0] 9 N rfl) ⟨D2, _, 0, hm, .head _, ?_, (hd.app ht).add (seq_list _ _)⟩
  · refine RowVals.app (hr.mono fun p hp => ?_) (hc.mono fun p hp => ?_)
    · exact .tail _ (List.mem_append.mpr (.inr hp))
    · exact .tail _ (List.mem_append.mpr (.inl hp))
theorem end_brace {h₀ h : Heap} {L D2 T1 T2 : Addr} {s : Shared} {tk k1 k2 i : Nat} {m : Str → Option Value} {x1 x2 x3 x4 x5 a b p1 p2 p3 p4 : Addr × Obj} {dat news : List (Addr × Obj)} {rv : List Value} {row r : List Cell} {y1 y2 : Str} {z1 z2 : Int} {t1 t2 t3 t4 : Tok}
    (hm : m (Str.ofString "row") = some (.ref D2)) (hy1 : y1 = S [123]) (hy2 : y2 = S [125]) (hz1 : z1 = ((i + 1 : Nat) : Int)) (hz2 : z2 = ((i + 1 : Nat) : Int)) (hr : RowVals dat rv row) (hd : DatOk news dat) (hrow : r = (123, i + 1) :: row ++ [(125, i + 1)]) (F : Fr h₀ L h m)
    (N : News h₀ L h ((D2, lstK ([.ref T1] ++ rv ++ [.ref T2]) 0) :: x1 :: (T2, tupK [.str y2 t3, .int z2 t4] k2) :: x2 :: x3 :: x4 :: (T1, tupK [.str y1 t1, .int z1 t2] k1) :: x5 :: a :: b :: p1 :: p2 :: p3 :: p4 :: dat)) :
    CutPost h₀ L s a b p1 p2 p3 p4 (RowIs news (Str.ofString "row") r) .next { s with heap := h, toks := tk } := by
  subst hrow
  refine cut_fin (dat' := (D2, lstK ([.ref T1] ++ rv ++ [.ref T2]) 0) :: (T1, tupK [.str y1 t1, .int z1 t2] k1) :: (T2, tupK [.str y2 t3, .int z2 t4] k2) :: dat) F (news_pick [8, 9, 10, 11, 12, 13, 0, 6, 2] 14 N rfl) ⟨D2, _, 0, hm, .head _, ?_, ((hd.add (seq_tup _ _)).add (seq_tup _ _)).add (seq_list _ _)⟩
  · exact RowVals.app (.one (cellAt_of (.tail _ (.tail _ (.head _))) hy2 hz2)) (RowVals.app (hr.mono fun p hp => .tail _ (.tail _ (.tail _ hp))) (.one (cellAt_of (.tail _ (.head _)) hy1 hz1)))
theorem open_is : Str.ofString "{" = S [123] := by decide +kernel
theorem shut_is : Str.ofString "}" = S [125] := by decide +kernel
/-- an element's end: what it gives, the ledger as it was -/
noncomputable def EltPost (h₀ : Heap) (L : Addr) (m : Str → Option Value) (led : List (Addr × Obj)) (s : Shared) (R : Value → Prop) (v : Value) (s' : Shared) : Prop :=
  R v ∧ ∃ h tk, s' = { s with heap := h, toks := tk } ∧ Fr h₀ L h m ∧ News h₀ L h led
theorem cut_elt {prog : Program} {w : World} {A : Around} {s : Shared} {t : Sem Value} {Q E : Value → Shared → Prop} {h₀ : Heap} {L : Addr} {m : Str → Option Value} {led : List (Addr × Obj)} (R : Value → Prop) (_F : Fr h₀ L s.heap m) (_N : News h₀ L s.heap led)
    (h1 : wpAny (model prog w) A t (EltPost h₀ L m led s R) (fun _ _ => False) s) (h2 : ∀ v h tk, R v → Fr h₀ L h m → News h₀ L h led → Q v { s with heap := h, toks := tk }) : wpAny (model prog w) A t Q E s :=
  wpAny_mono h1 (fun v _ ⟨hr, h, tk, e, F, N⟩ => e ▸ h2 v h tk hr F N) fun _ _ x => x.elim
/-- a place at which the walk is to stand still -/
theorem fr_know4 {h₀ h : Heap} {L : Addr} {m : Str → Option Value} {a b c d : Str} {va vb vc vd : Value} (ha : m a = some va) (hb : m b = some vb) (hc : m c = some vc) (hd : m d = some vd) (F : Fr h₀ L h m) :
    Fr h₀ L h (fun y => if y = a then some va else if y = b then some vb else if y = c then some vc else if y = d then some vd else m y) := by
  have e : (fun y => if y = a then some va else if y = b then some vb else if y = c then some vc else if y = d then some vd else m y) = m := by
    funext y
    by_cases e1 : y = a
    · rw [if_pos e1, e1, ha]
    rw [if_neg e1]
    by_cases e2 : y = b
    · rw [if_pos e2, e2, hb]
    rw [if_neg e2]
    by_cases e3 : y = c
    · rw [if_pos e3, e3, hc]
    rw [if_neg e3]
    by_cases e4 : y = d
    · rw [if_pos e4, e4, hd]
    rw [if_neg e4]
  rw [e]; exact F
end Zn
end
section
open PySem PySem.W PyProof.Rows
set_option maxRecDepth 100000
namespace Zn
theorem snoc_cases {α : Type} (l : List α) : l = [] ∨ ∃ t x, l = t ++ [x] := by
  rcases List.eq_nil_or_concat l with h | ⟨t, x, h⟩
  · exact .inl h
  · exact .inr ⟨t, x, by rw [h, List.concat_eq_append]⟩
theorem ways_app (hs : List Hand) (h : Hand) {k : Nat} (hk : k ≤ hs.length) : ways (hs ++ [h]) k = ways hs k := by
  unfold ways; rw [List.take_append_of_le_length hk]
theorem ways_lt (hs : List Hand) (k : Nat) : ways hs k < 2 := Nat.mod_lt _ (by decide)
theorem ways_succ (hs : List Hand) (h : Hand) : ways (hs ++ [h]) (hs.length + 1) = if h.1 = 0 then 1 - ways hs hs.length else ways hs hs.length := by
  unfold ways
  have e : (hs ++ [h]).take (hs.length + 1) = hs ++ [h] := List.take_of_length_le (by simp)
  rw [e, List.take_length, List.filter_append, List.length_append]
  by_cases h0 : h.1 = 0
  · rw [if_pos h0]
    have : ([h].filter fun h => h.1 = 0).length = 1 := by simp [h0]
    rw [this]; omega
  · rw [if_neg h0]
    have : ([h].filter fun h => h.1 = 0).length = 0 := by simp [h0]
    rw [this]; omega
theorem kind_app (hs : List Hand) (h : Hand) {k : Nat} (hk : k < hs.length) : kindAt (hs ++ [h]) k = kindAt hs k := by
  unfold kindAt
  simp [List.getD_eq_getElem?_getD, List.getElem?_append_left hk]
theorem kind_last (hs : List Hand) (h : Hand) : kindAt (hs ++ [h]) hs.length = h.1 := by
  unfold kindAt
  simp [List.getD_eq_getElem?_getD]
theorem range_last {a n : Nat} (h : a ≤ n) : List.range' a (n + 1 - a) = List.range' a (n - a) ++ [n] := by
  have e : n + 1 - a = (n - a) + 1 := by omega
  rw [e, List.range'_concat]
  congr 2
  omega
theorem met_app (hs : List Hand) (h : Hand) (c : Cell) (hc : c.2 ≤ hs.length) : met (hs ++ [h]) c = met hs c ++ (if c.1 ∈ sgn h.1 then [hs.length] else []) := by
  unfold met
  rw [List.length_append, List.length_singleton, range_last hc, List.filter_append]
  congr 1
  · refine List.filter_congr fun k hk => ?_
    rw [List.mem_range'_1] at hk
    rw [kind_app hs h (by omega)]
  · rw [List.filter_cons, kind_last]
    by_cases hm : c.1 ∈ sgn h.1 <;> simp [hm]
theorem later_app (hs : List Hand) (h : Hand) {k0 : Nat} (way : Nat) (hk : k0 < hs.length) : later (hs ++ [h]) k0 way = later hs k0 way ++ (if (h.1 = 1 ∨ h.1 = 2 ∨ h.1 = 3) ∧ ways hs hs.length = way then [hs.length] else []) := by
  unfold later
  rw [List.length_append, List.length_singleton, range_last (Nat.succ_le_of_lt hk), List.filter_append]
  congr 1
  · refine List.filter_congr fun k hk => ?_
    rw [List.mem_range'_1] at hk
    rw [kind_app hs h (by omega), ways_app hs h (by omega)]
  · rw [List.filter_cons, kind_last, ways_app hs h (Nat.le_refl _)]
    by_cases h1 : h.1 = 1 ∨ h.1 = 2 ∨ h.1 = 3 <;> by_cases h2 : ways hs hs.length = way <;> simp [h1, h2]
theorem shown_app (hs : List Hand) (h : Hand) {now : Nat} (hn : now ≤ hs.length) (c : Cell) : shown (hs ++ [h]) now c = shown hs now c := by
  unfold shown
  by_cases hc : c.2 ≤ hs.length
  · rw [List.drop_append_of_le_length hc, List.take_append_of_le_length (by rw [List.length_drop]; omega)]
  · have e : now - c.2 = 0 := by omega
    rw [e]; rfl
theorem row_app (hs : List Hand) (h : Hand) {now : Nat} (hn : now ≤ hs.length) (k : Hand) (row : List Cell) : dueRow (hs ++ [h]) now k row = dueRow hs now k row := by
  have e : shown (hs ++ [h]) now = shown hs now := funext fun c => shown_app hs h hn c
  unfold dueRow trim
  rw [e]
theorem cells_app (hs : List Hand) (h : Hand) (cs : List Nat) : ∀ k, k ≤ hs.length → dueCells (hs ++ [h]) cs k = dueCells hs cs k
  | 0, _ => rfl
  | k + 1, hk => by
    show turned _ (dueRow _ _ _ (turned _ _)) = turned _ (dueRow _ _ _ (turned _ _))
    rw [cells_app hs h cs k (by omega), row_app hs h (by omega), ways_app hs h (by omega)]
    have : (hs ++ [h]).getD k (0, 0, 0) = hs.getD k (0, 0, 0) := by simp [List.getD_eq_getElem?_getD, List.getElem?_append_left (show k < hs.length by omega)]
    rw [this]
theorem turned_mem {α : Type} {w : Nat} {l : List α} {c : α} (h : c ∈ turned w l) : c ∈ l := by
  unfold turned at h
  split at h
  · exact List.mem_reverse.mp h
  · exact h
theorem turned_two {α : Type} (w : Nat) (l : List α) : turned w (turned w l) = l := by
  unfold turned
  split
  · rw [List.reverse_reverse]
  · rfl
theorem turned_flat {α β : Type} (w : Nat) (l : List α) (f : α → List β) : turned w (l.flatMap f) = (turned w l).flatMap fun c => turned w (f c) := by
  unfold turned
  split
  · rw [List.reverse_flatMap]; rfl
  · rfl
theorem trim_sub {hs : List Hand} {now : Nat} {row : List Cell} {c : Cell} (h : c ∈ trim hs now row) : c ∈ row := by
  unfold trim at h
  exact List.mem_reverse.mp ((List.dropWhile_sublist _).subset (List.mem_reverse.mp h))
theorem row_born {hs : List Hand} {now : Nat} {k : Hand} {row : List Cell} (hr : ∀ c ∈ row, c.2 ≤ now) : ∀ c ∈ dueRow hs now k row, c.2 ≤ now + 1 := by
  intro c hc
  unfold dueRow at hc
  split at hc
  · split at hc
    · rw [List.mem_singleton.mp hc]; exact Nat.le_refl _
    · rcases List.mem_append.mp hc with hc | hc
      · simp only [List.mem_cons, List.not_mem_nil, or_false] at hc
        rcases hc with rfl | rfl <;> exact Nat.le_refl _
      · exact Nat.le_succ_of_le (hr c (trim_sub hc))
  split at hc
  · split at hc
    · simp only [List.mem_append, List.mem_cons, List.not_mem_nil, or_false] at hc
      rcases hc with (rfl | hc) | rfl
      · exact Nat.le_refl _
      · exact Nat.le_succ_of_le (hr c (List.mem_of_mem_drop (List.dropLast_subset _ hc)))
      · exact Nat.le_refl _
    · exact Nat.le_succ_of_le (hr c hc)
  split at hc
  · rcases List.mem_append.mp hc with hc | hc
    · rcases List.mem_append.mp hc with hc | hc
      · obtain ⟨d, _, rfl⟩ := List.mem_map.mp hc
        exact Nat.le_refl _
      · exact Nat.le_succ_of_le (hr c hc)
    · rw [List.mem_singleton.mp hc]; exact Nat.le_refl _
  · exact Nat.le_succ_of_le (hr c hc)
theorem cells_born (hs : List Hand) (cs : List Nat) : ∀ k, ∀ c ∈ dueCells hs cs k, c.2 ≤ k
  | 0, c, hc => by
    obtain ⟨d, _, rfl⟩ := List.mem_map.mp hc
    exact Nat.le_refl _
  | k + 1, c, hc => row_born (fun d hd => cells_born hs cs k d (turned_mem hd)) c (turned_mem hc)
/-- a writing, as the text then runs -/
noncomputable def wr (hs : List Hand) (w : Nat) (c : Cell) : List Nat := turned w (writing hs c)
theorem wr_nil {hs : List Hand} {w : Nat} {c : Cell} (h : met hs c = []) : wr hs w c = [c.1] := by
  unfold wr writing turned
  rw [h]
  split <;> rfl
theorem wr_cons {hs : List Hand} {w k0 : Nat} {r : List Nat} {c : Cell} (hw : w < 2) (h : met hs c = k0 :: r) : wr hs w c = (arm hs c.1 k0 (1 - w)).reverse ++ 38 :: arm hs c.1 k0 w := by
  unfold wr writing turned
  rw [h]
  rcases (by omega : w = 0 ∨ w = 1) with rfl | rfl
  · simp
  · simp
theorem met_below {hs : List Hand} {k0 : Nat} {c : Cell} (h : k0 ∈ met hs c) : k0 < hs.length := by
  unfold met at h
  have := (List.mem_filter.mp h).1
  rw [List.mem_range'_1] at this
  omega
/-- the signs that stand in an arm -/
noncomputable def safe : List Nat := [97, 109, 112, 59, 108, 116, 103, 113, 117, 111, 35, 120, 57, 65, 68]
theorem name_safe (c : Nat) : ∀ d ∈ nameOf c, d ∈ safe := by
  unfold nameOf
  repeat (split; (try decide))
  decide
theorem arm_safe (hs : List Hand) (c k0 way : Nat) : ∀ d ∈ arm hs c k0 way, d ∈ safe := by
  intro d hd
  unfold arm at hd
  rcases List.mem_append.mp hd with hd | hd
  · obtain ⟨l, hl, hd⟩ := List.mem_flatten.mp hd
    rw [(List.mem_replicate.mp hl).2] at hd
    exact (by decide : ∀ d ∈ [97, 109, 112, 59], d ∈ safe) d hd
  · split at hd
    · exact name_safe c d hd
    · exact nomatch hd
/-- one sign escaped -/
noncomputable def escC (k d : Nat) : List Nat := if d ∈ sgn k then 38 :: nameOf d else [d]
theorem esc_escC {ch : List (Nat × List Nat)} {k : Nat} (h1 : ch.map (·.1) = sgn k ∨ ∀ d, d ∈ ch.map (·.1) ↔ d ∈ sgn k) (h2 : ∀ d ∈ ch.map (·.1), esc ch [d] = 38 :: nameOf d) (l : List Nat) : esc ch l = l.flatMap (escC k) := by
  have h3 : ∀ d, d ∈ ch.map (·.1) ↔ d ∈ sgn k := by
    rcases h1 with h | h
    · intro d; rw [h]
    · exact h
  rw [esc_each]
  congr 1
  funext d
  unfold escC
  by_cases hd : d ∈ ch.map (·.1)
  · rw [if_pos ((h3 d).mp hd)]; exact h2 d hd
  · rw [if_neg fun x => hd ((h3 d).mpr x), esc_free ch [d] (by intro e he; rw [List.mem_singleton.mp he]; exact hd)]
theorem esc_C (l : List Nat) : esc chC l = l.flatMap (escC 1) := esc_escC (.inl rfl) (by decide) l
theorem esc_A (l : List Nat) : esc chA l = l.flatMap (escC 2) := esc_escC (.inl rfl) (by decide) l
theorem esc_H (l : List Nat) : esc chH l = l.flatMap (escC 3) := esc_escC (.inl rfl) (by decide) l
theorem escC_safe {k : Nat} {l : List Nat} (h : ∀ d ∈ l, d ∈ safe) : l.flatMap (escC k) = l := by
  have h1 : ∀ d ∈ safe, escC k d = [d] := fun d hd => by
    have h9 : d ∉ sgn k := by
      unfold sgn
      split
      · exact (by decide : ∀ d ∈ safe, d ∉ [38, 60, 62, 13]) d hd
      split
      · exact (by decide : ∀ d ∈ safe, d ∉ [38, 60, 34, 9, 10, 13]) d hd
      split
      · exact (by decide : ∀ d ∈ safe, d ∉ [38, 62, 34]) d hd
      · exact fun x => nomatch x
    unfold escC
    rw [if_neg h9]
  induction l with
  | nil => rfl
  | cons d t ih => rw [List.flatMap_cons, h1 d (h d (.head _)), ih fun e he => h e (.tail _ he)]; rfl
theorem wr_esc (hs : List Hand) (h : Hand) (c : Cell) (hc : c.2 ≤ hs.length) (hk : h.1 = 1 ∨ h.1 = 2 ∨ h.1 = 3) :
    (wr hs (ways hs hs.length) c).flatMap (escC h.1) = wr (hs ++ [h]) (ways hs hs.length) c := by
  have hw := ways_lt hs hs.length
  generalize hww : ways hs hs.length = w at *
  have hM := met_app hs h c hc
  have h38 : escC h.1 38 = [38, 97, 109, 112, 59] := by rcases hk with e | e | e <;> rw [e] <;> rfl
  cases hm : met hs c with
  | nil =>
    rw [hm, List.nil_append] at hM
    rw [wr_nil hm]
    by_cases hin : c.1 ∈ sgn h.1
    · rw [if_pos hin] at hM
      rw [wr_cons hw hM]
      have e : ∀ way, arm (hs ++ [h]) c.1 hs.length way = if w = way then nameOf c.1 else [] := fun way => by
        unfold arm later
        rw [List.length_append, List.length_singleton, Nat.sub_self, ways_app hs h (Nat.le_refl _), hww]
        rfl
      rw [e, e, if_pos rfl, if_neg (by omega)]
      show escC h.1 c.1 ++ [] = _
      unfold escC
      rw [if_pos hin]
      simp
    · rw [if_neg hin] at hM
      rw [wr_nil hM]
      show escC h.1 c.1 ++ [] = _
      unfold escC
      rw [if_neg hin]
      rfl
  | cons k0 r =>
    rw [hm, List.cons_append] at hM
    have hk0 : k0 < hs.length := met_below (by rw [hm]; exact .head _)
    rw [wr_cons hw hm, wr_cons hw hM, List.flatMap_append, List.flatMap_cons, h38]
    rw [escC_safe fun d hd => arm_safe hs c.1 k0 w d hd, escC_safe fun d hd => arm_safe hs c.1 k0 (1 - w) d (List.mem_reverse.mp hd)]
    have ea : ∀ way, arm (hs ++ [h]) c.1 k0 way = (if w = way then [97, 109, 112, 59] else []) ++ arm hs c.1 k0 way := fun way => by
      unfold arm
      rw [later_app hs h way hk0, ways_app hs h (by omega), hww]
      by_cases e : w = way
      · rw [if_pos ⟨hk, e⟩, if_pos e, List.length_append, List.length_singleton, List.replicate_succ, List.flatten_cons, List.append_assoc]
      · rw [if_neg (fun x => e x.2), if_neg e, List.append_nil, List.nil_append]
    rw [ea, ea, if_pos rfl, if_neg (by omega)]
    simp
theorem wr_keep (hs : List Hand) (h : Hand) (c : Cell) (hc : c.2 ≤ hs.length) (hk : ¬ (h.1 = 1 ∨ h.1 = 2 ∨ h.1 = 3)) (w : Nat) : wr (hs ++ [h]) w c = wr hs w c := by
  have hM := met_app hs h c hc
  have hs0 : sgn h.1 = [] := by
    unfold sgn
    rw [if_neg (fun e => hk (.inl e)), if_neg (fun e => hk (.inr (.inl e))), if_neg (fun e => hk (.inr (.inr e)))]
  rw [if_neg (by rw [hs0]; exact fun x => nomatch x), List.append_nil] at hM
  unfold wr writing
  rw [hM]
  cases hm : met hs c with
  | nil => rfl
  | cons k0 r =>
    have hk0 : k0 < hs.length := met_below (by rw [hm]; exact .head _)
    have ea : ∀ way, arm (hs ++ [h]) c.1 k0 way = arm hs c.1 k0 way := fun way => by
      unfold arm
      rw [later_app hs h way hk0, ways_app hs h (by omega), if_neg (fun x => hk x.1), List.append_nil]
    dsimp only
    rw [ea, ea]
theorem wr_new (hs : List Hand) (h : Hand) (w s : Nat) : wr (hs ++ [h]) w (s, hs.length + 1) = [s] := by
  refine wr_nil ?_
  unfold met
  rw [List.length_append, List.length_singleton, Nat.sub_self]
  rfl
theorem shown_met {hs : List Hand} {c : Cell} (hc : c.2 ≤ hs.length) : shown hs hs.length c = if met hs c = [] then c.1 else 38 := by
  unfold shown met
  have e : (hs.drop c.2).take (hs.length - c.2) = hs.drop c.2 := List.take_of_length_le (by rw [List.length_drop]; exact Nat.le_refl _)
  rw [e]
  by_cases hm : (List.range' c.2 (hs.length - c.2)).filter (fun k => decide (c.1 ∈ sgn (kindAt hs k))) = []
  · rw [if_pos hm, if_neg]
    rw [List.any_eq_true]
    rintro ⟨x, hx, hd⟩
    obtain ⟨i, hi, rfl⟩ := List.mem_iff_getElem.mp hx
    rw [List.length_drop] at hi
    have := List.filter_eq_nil_iff.mp hm (c.2 + i) (by rw [List.mem_range'_1]; omega)
    refine this ?_
    have ek : kindAt hs (c.2 + i) = (hs.drop c.2)[i].1 := by
      unfold kindAt
      rw [List.getElem_drop, List.getD_eq_getElem?_getD, List.getElem?_eq_getElem (show c.2 + i < hs.length by omega)]
      rfl
    rw [ek]
    exact hd
  · rw [if_neg hm, if_pos]
    rw [List.any_eq_true]
    obtain ⟨k, t, e⟩ := List.exists_cons_of_ne_nil hm
    have hk := List.mem_filter.mp (by rw [e]; exact .head _ : k ∈ _)
    rw [List.mem_range'_1] at hk
    have hkl : k < hs.length := by omega
    refine ⟨hs[k], ?_, ?_⟩
    · rw [List.mem_iff_getElem]
      refine ⟨k - c.2, by rw [List.length_drop]; omega, ?_⟩
      rw [List.getElem_drop]
      congr 1
      omega
    · have := hk.2
      unfold kindAt at this
      rw [List.getD_eq_getElem?_getD, List.getElem?_eq_getElem hkl] at this
      exact this
/-- a writing against the sign that shows -/
theorem wr_shape (hs : List Hand) (w : Nat) (hw : w < 2) (c : Cell) (hc : c.2 ≤ hs.length) :
    (wr hs w c = [shown hs hs.length c]) ∨ (shown hs hs.length c = 38 ∧ ∃ a b, wr hs w c = a ++ 38 :: b ∧ (∀ d ∈ a, d ∈ safe) ∧ ∀ d ∈ b, d ∈ safe) := by
  have hs' := shown_met hc
  cases hm : met hs c with
  | nil => rw [if_pos hm] at hs'; left; rw [hs']; exact wr_nil hm
  | cons k0 r =>
    rw [if_neg (by rw [hm]; simp)] at hs'
    right
    exact ⟨hs', _, _, wr_cons hw hm, fun d hd => arm_safe hs c.1 k0 (1 - w) d (List.mem_reverse.mp hd), arm_safe hs c.1 k0 w⟩
theorem safe_not {d : Nat} (h : d ∈ safe) : isW d = false ∧ d ≠ 60 ∧ d ≠ 62 := (by decide : ∀ d ∈ safe, isW d = false ∧ d ≠ 60 ∧ d ≠ 62) d h
theorem wr_ne (hs : List Hand) (w : Nat) (hw : w < 2) (c : Cell) (hc : c.2 ≤ hs.length) : wr hs w c ≠ [] := by
  rcases wr_shape hs w hw c hc with e | ⟨_, a, b, e, _⟩ <;> rw [e] <;> simp
theorem wr_head (hs : List Hand) (w : Nat) (hw : w < 2) (c : Cell) (hc : c.2 ≤ hs.length) : (wr hs w c).head? = some 60 ↔ shown hs hs.length c = 60 := by
  rcases wr_shape hs w hw c hc with e | ⟨e0, a, b, e, ha, hb⟩
  · rw [e]; simp
  · rw [e, e0]
    cases a with
    | nil => simp
    | cons x a =>
      have := (safe_not (ha x (.head _))).2.1
      simp [this]
theorem wr_last (hs : List Hand) (w : Nat) (hw : w < 2) (c : Cell) (hc : c.2 ≤ hs.length) : (wr hs w c).getLast? = some 62 ↔ shown hs hs.length c = 62 := by
  rcases wr_shape hs w hw c hc with e | ⟨e0, a, b, e, ha, hb⟩
  · rw [e]; simp
  · rw [e, e0]
    rcases snoc_cases b with rfl | ⟨b', x, rfl⟩
    · simp
    · have := (safe_not (hb x (by simp))).2.2
      rw [show a ++ 38 :: (b' ++ [x]) = (a ++ 38 :: b') ++ [x] by simp, List.getLast?_append]
      simp [this]
theorem wr_60 (hs : List Hand) (w : Nat) (hw : w < 2) (c : Cell) (hc : c.2 ≤ hs.length) {d : Nat} (h : shown hs hs.length c = d) (hd : d ≠ 38) : wr hs w c = [d] := by
  rcases wr_shape hs w hw c hc with e | ⟨e0, _⟩
  · rw [e, h]
  · exact absurd (h.symm.trans e0) hd
theorem rst_white (l b : List Nat) (hb : ∀ d ∈ b, isW d = true) : rst (l ++ b) = rst l := by
  unfold rst
  rw [List.reverse_append, dropWhile_all _ _ (by intro d hd; exact hb d (List.mem_reverse.mp hd))]
theorem trim_flat (hs : List Hand) (w : Nat) (hw : w < 2) : ∀ row : List Cell, (∀ c ∈ row, c.2 ≤ hs.length) → rst (row.reverse.flatMap (wr hs w)) = (trim hs hs.length row.reverse).flatMap (wr hs w)
  | [], _ => rfl
  | c :: row, hr => by
    have ih := trim_flat hs w hw row fun d hd => hr d (.tail _ hd)
    have hc := hr c (.head _)
    rw [List.reverse_cons, List.flatMap_append]
    have ef : [c].flatMap (wr hs w) = wr hs w c := by simp
    rw [ef]
    cases hwh : isW (shown hs hs.length c) with
    | true =>
      have e38 : shown hs hs.length c ≠ 38 := fun e => by rw [e] at hwh; exact absurd hwh (by decide)
      rw [wr_60 hs w hw c hc rfl e38, rst_white _ _ (by intro d hd; rw [List.mem_singleton.mp hd]; exact hwh), ih]
      congr 1
      unfold trim
      rw [List.reverse_append, List.reverse_reverse]
      show _ = (List.dropWhile _ (c :: row)).reverse
      rw [List.dropWhile_cons_of_pos (p := fun c => isW (shown hs hs.length c)) hwh]
    | false =>
      have et : trim hs hs.length (row.reverse ++ [c]) = row.reverse ++ [c] := by
        unfold trim
        rw [List.reverse_append, List.reverse_reverse]
        show (List.dropWhile _ (c :: row)).reverse = _
        rw [List.dropWhile_cons_of_neg (p := fun c => isW (shown hs hs.length c)) (by rw [hwh]; decide), List.reverse_cons]
      rw [et, List.flatMap_append, ef]
      have last : ∃ a d, wr hs w c = a ++ [d] ∧ isW d = false := by
        rcases wr_shape hs w hw c hc with e | ⟨e0, a, b, e, ha, hb⟩
        · exact ⟨[], _, e, hwh⟩
        · rcases snoc_cases b with rfl | ⟨b', x, rfl⟩
          · exact ⟨a, 38, e, by decide⟩
          · exact ⟨a ++ 38 :: b', x, by rw [e]; simp, (safe_not (hb x (by simp))).1⟩
      obtain ⟨a, d, e, hd⟩ := last
      have := rst_cut (a := row.reverse.flatMap (wr hs w) ++ wr hs w c) (b := []) (fun d hd => nomatch hd) (.inr ⟨row.reverse.flatMap (wr hs w) ++ a, d, by rw [e, List.append_assoc], hd⟩)
      rwa [List.append_nil] at this
theorem flat_keep {hs : List Hand} {h : Hand} {row : List Cell} (hr : ∀ c ∈ row, c.2 ≤ hs.length) (hk : ¬ (h.1 = 1 ∨ h.1 = 2 ∨ h.1 = 3)) (w : Nat) : row.flatMap (wr (hs ++ [h]) w) = row.flatMap (wr hs w) := by
  induction row with
  | nil => rfl
  | cons c t ih => rw [List.flatMap_cons, List.flatMap_cons, wr_keep hs h c (hr c (.head _)) hk w, ih fun d hd => hr d (.tail _ hd)]
theorem flat_new (hs : List Hand) (h : Hand) (w : Nat) (l : List Nat) : (l.map fun c => (c, hs.length + 1)).flatMap (wr (hs ++ [h]) w) = l := by
  induction l with
  | nil => rfl
  | cons c t ih => rw [List.map_cons, List.flatMap_cons, wr_new, ih]; rfl
theorem flat_nil {hs : List Hand} {w : Nat} (hw : w < 2) {row : List Cell} (hr : ∀ c ∈ row, c.2 ≤ hs.length) : row.flatMap (wr hs w) = [] ↔ row = [] := by
  cases row with
  | nil => simp
  | cons c t =>
    have := wr_ne hs w hw c (hr c (.head _))
    rw [List.flatMap_cons]
    simp [this]
theorem flat_head {hs : List Hand} {w : Nat} (hw : w < 2) {row : List Cell} (hr : ∀ c ∈ row, c.2 ≤ hs.length) : (row.flatMap (wr hs w)).head? = some 60 ↔ row.head?.map (shown hs hs.length) = some 60 := by
  cases row with
  | nil => simp
  | cons c t =>
    have h1 := wr_ne hs w hw c (hr c (.head _))
    have h2 := wr_head hs w hw c (hr c (.head _))
    rw [List.flatMap_cons]
    obtain ⟨x, y, e⟩ := List.exists_cons_of_ne_nil h1
    rw [e] at h2 ⊢
    simp at h2
    simp [h2]
theorem flat_last {hs : List Hand} {w : Nat} (hw : w < 2) {row : List Cell} (hr : ∀ c ∈ row, c.2 ≤ hs.length) : (row.flatMap (wr hs w)).getLast? = some 62 ↔ row.getLast?.map (shown hs hs.length) = some 62 := by
  rcases snoc_cases row with rfl | ⟨t, c, rfl⟩
  · simp
  · have hc : c.2 ≤ hs.length := hr c (by simp)
    have h2 := wr_last hs w hw c hc
    have h1 := wr_ne hs w hw c hc
    rw [List.flatMap_append, show [c].flatMap (wr hs w) = wr hs w c by simp]
    rcases snoc_cases (wr hs w c) with e | ⟨b, x, e⟩
    · exact absurd e h1
    · rw [e] at h2 ⊢
      rw [← List.append_assoc, List.getLast?_append, List.getLast?_append]
      rw [List.getLast?_append] at h2
      simp at h2
      simp [h2]
theorem row_step (hs : List Hand) (h : Hand) (row : List Cell) (hr : ∀ c ∈ row, c.2 ≤ hs.length) (h0 : h.1 ≠ 0) (h6 : h.1 < 6) :
    (dueRow hs hs.length h row).flatMap (wr (hs ++ [h]) (ways hs hs.length)) = stepH (row.flatMap (wr hs (ways hs hs.length))) h := by
  have hw := ways_lt hs hs.length
  by_cases hk : h.1 = 1 ∨ h.1 = 2 ∨ h.1 = 3
  · have e1 : dueRow hs hs.length h row = row := by
      unfold dueRow
      rw [if_neg (by omega), if_neg (by omega), if_neg (by omega)]
    have e2 : stepH (row.flatMap (wr hs (ways hs hs.length))) h = (row.flatMap (wr hs (ways hs hs.length))).flatMap (escC h.1) := by
      unfold stepH
      rw [if_neg h0]
      rcases hk with e | e | e <;> rw [e]
      · exact esc_C _
      · exact esc_A _
      · exact esc_H _
    rw [e1, e2, List.flatMap_assoc]
    have go : ∀ row : List Cell, (∀ c ∈ row, c.2 ≤ hs.length) → row.flatMap (wr (hs ++ [h]) (ways hs hs.length)) = row.flatMap fun c => (wr hs (ways hs hs.length) c).flatMap (escC h.1) := by
      intro row
      induction row with
      | nil => intro _; rfl
      | cons c t ih =>
        intro hr
        rw [List.flatMap_cons, List.flatMap_cons, wr_esc hs h c (hr c (.head _)) hk, ih fun d hd => hr d (.tail _ hd)]
    exact go row hr
  · generalize ways hs hs.length = w at *
    have hkeep := fun (r : List Cell) (hr : ∀ c ∈ r, c.2 ≤ hs.length) => flat_keep (h := h) hr hk w
    rcases (by omega : h.1 = 4 ∨ h.1 = 5) with e4 | e5
    · have e2 : stepH (row.flatMap (wr hs w)) h = cmt (row.flatMap (wr hs w)) := by
        unfold stepH
        rw [e4]; rfl
      have et := trim_flat hs w hw row.reverse fun c hc => hr c (List.mem_reverse.mp hc)
      rw [List.reverse_reverse] at et
      have hb : ∀ c ∈ trim hs hs.length row, c.2 ≤ hs.length := fun c hc => hr c (trim_sub hc)
      rw [e2]
      unfold cmt dueRow
      rw [if_pos e4, et]
      by_cases en : trim hs hs.length row = []
      · rw [if_pos en, if_pos ((flat_nil hw hb).mpr en)]
        exact flat_new hs h w [35]
      · rw [if_neg en, if_neg (fun x => en ((flat_nil hw hb).mp x)), List.flatMap_append, hkeep _ hb]
        congr 1
        exact flat_new hs h w [35, 32]
    · have e2 : stepH (row.flatMap (wr hs w)) h = std h.2.1 h.2.2 (row.flatMap (wr hs w)) := by
        unfold stepH
        rw [e5]; rfl
      rw [e2]
      unfold std dueRow
      rw [if_neg (by omega)]
      by_cases hq : h.2.1 = 126 ∧ h.2.2 = 0
      · rw [if_pos ⟨e5, hq⟩, if_pos hq]
        by_cases hb : row.head?.map (shown hs hs.length) = some 60 ∧ row.getLast?.map (shown hs hs.length) = some 62
        · rw [if_pos hb, if_pos ⟨(flat_head hw hr).mpr hb.1, (flat_last hw hr).mpr hb.2⟩]
          cases row with
          | nil => exact absurd hb.1 (by simp)
          | cons c t =>
            rcases snoc_cases t with rfl | ⟨b, x, rfl⟩
            · have b1 := hb.1
              have b2 := hb.2
              simp at b1 b2
              omega
            · have b1 : shown hs hs.length c = 60 := by simpa using hb.1
              have b2 : shown hs hs.length x = 62 := by simpa [List.getLast?_cons] using hb.2
              have hx : x.2 ≤ hs.length := hr x (by simp)
              have hc : c.2 ≤ hs.length := hr c (.head _)
              have hbb : ∀ d ∈ b, d.2 ≤ hs.length := fun d hd => hr d (by simp [hd])
              have w1 := wr_60 hs w hw c hc b1 (by decide)
              have w2 := wr_60 hs w hw x hx b2 (by decide)
              have hw2 : [x].flatMap (wr hs w) = [62] := by simp [w2]
              have ex : ((c :: (b ++ [x])).drop 1).dropLast = b := by simp
              have e1 : [(123, hs.length + 1)].flatMap (wr (hs ++ [h]) w) = [123] := flat_new hs h w [123]
              have e2 : [(125, hs.length + 1)].flatMap (wr (hs ++ [h]) w) = [125] := flat_new hs h w [125]
              have e3 : (c :: (b ++ [x])).flatMap (wr hs w) = 60 :: (b.flatMap (wr hs w) ++ [62]) := by
                rw [List.flatMap_cons, w1, List.flatMap_append, hw2]; rfl
              have e4 : ((123, hs.length + 1) :: b ++ [(125, hs.length + 1)]) = [(123, hs.length + 1)] ++ (b ++ [(125, hs.length + 1)]) := rfl
              rw [ex, e3, e4, List.flatMap_append, List.flatMap_append, e1, e2, hkeep _ hbb]
              simp
        · rw [if_neg hb, if_neg fun x => hb ⟨(flat_head hw hr).mp x.1, (flat_last hw hr).mp x.2⟩, hkeep _ hr]
      · rw [if_neg (fun x => hq x.2), if_pos e5, if_neg hq, List.flatMap_append, List.flatMap_append, hkeep _ hr, flat_new]
        have : [(41, hs.length + 1)].flatMap (wr (hs ++ [h]) w) = [41] := flat_new hs h w [41]
        rw [this]
        simp
theorem due_wr (cs : List Nat) (hs : List Hand) : due cs hs = (turned (ways hs hs.length) (dueCells hs cs hs.length)).flatMap (wr hs (ways hs hs.length)) := by
  unfold due
  rw [turned_flat]
  rfl
theorem due_step (cs : List Nat) (hs : List Hand) (h : Hand) (h6 : h.1 < 6) : due cs (hs ++ [h]) = stepH (due cs hs) h := by
  have hw := ways_lt hs hs.length
  have hg : (hs ++ [h]).getD hs.length (0, 0, 0) = h := by simp [List.getD_eq_getElem?_getD]
  have hb : ∀ c ∈ turned (ways hs hs.length) (dueCells hs cs hs.length), c.2 ≤ hs.length := fun c hc => cells_born hs cs _ c (turned_mem hc)
  rw [due_wr, due_wr cs hs, List.length_append, List.length_singleton, ways_succ]
  show (turned _ (turned (ways (hs ++ [h]) hs.length) (dueRow (hs ++ [h]) hs.length ((hs ++ [h]).getD hs.length (0, 0, 0)) (turned (ways (hs ++ [h]) hs.length) (dueCells (hs ++ [h]) cs hs.length))))).flatMap _ = _
  rw [ways_app hs h (Nat.le_refl _), hg, cells_app hs h cs _ (Nat.le_refl _), row_app hs h (Nat.le_refl _)]
  by_cases h0 : h.1 = 0
  · rw [if_pos h0]
    have e1 : dueRow hs hs.length h (turned (ways hs hs.length) (dueCells hs cs hs.length)) = turned (ways hs hs.length) (dueCells hs cs hs.length) := by
      unfold dueRow
      rw [if_neg (by omega), if_neg (by omega), if_neg (by omega)]
    have e2 : stepH ((turned (ways hs hs.length) (dueCells hs cs hs.length)).flatMap (wr hs (ways hs hs.length))) h = ((turned (ways hs hs.length) (dueCells hs cs hs.length)).flatMap (wr hs (ways hs hs.length))).reverse := by
      unfold stepH
      rw [if_pos h0]
    have hb' : ∀ c ∈ turned (1 - ways hs hs.length) (dueCells hs cs hs.length), c.2 ≤ hs.length := fun c hc => cells_born hs cs _ c (turned_mem hc)
    rw [e1, e2, turned_two, flat_keep hb' (by omega)]
    generalize dueCells hs cs hs.length = cells
    rcases (by omega : ways hs hs.length = 0 ∨ ways hs hs.length = 1) with e | e <;> rw [e]
    · show (List.reverse cells).flatMap (wr hs 1) = (cells.flatMap (wr hs 0)).reverse
      rw [List.reverse_flatMap]
      rfl
    · show cells.flatMap (wr hs 0) = ((List.reverse cells).flatMap (wr hs 1)).reverse
      rw [List.reverse_flatMap, List.reverse_reverse]
      congr 1
      funext c
      show writing hs c = (writing hs c).reverse.reverse
      rw [List.reverse_reverse]
  · rw [if_neg h0, turned_two]
    exact row_step hs h _ hb h0 h6
theorem due_worked (cs : List Nat) : ∀ (n : Nat) (hs : List Hand), hs.length = n → (∀ h ∈ hs, h.1 < 6) → due cs hs = worked cs hs
  | 0, hs, hl, _ => by
    obtain rfl := List.length_eq_zero_iff.mp hl
    show (cs.map fun c => (c, 0)).flatMap (writing []) = cs
    induction cs with
    | nil => rfl
    | cons c t ih => rw [List.map_cons, List.flatMap_cons, ih]; rfl
  | n + 1, hs, hl, hok => by
    rcases snoc_cases hs with rfl | ⟨t, h, rfl⟩
    · cases hl
    · have e := due_worked cs n t (by simpa using hl) (fun x hx => hok x (by simp [hx]))
      rw [due_step cs t h (hok h (by simp)), e]
      unfold worked
      rw [List.foldl_append]
      rfl
end Zn
end
section
theorem Zn.fresh_ZDue (M : PySem.Model) (A : PySem.Around) (env : PySem.Env) (E : PySem.Value → PySem.Shared → Prop) (s : PySem.Shared) : PySem.wpAny M A (PySem.execs [] env) (fun _ _ => True) E s := by
  w_top off
  k_with_none
  walk1
  trivial
open PySem PySem.W PyProof.Rows
set_option maxRecDepth 100000
namespace Zn
theorem ways_hs (hs : List Hand) (k : Nat) : (((((hs.take k).filter fun h => decide (h.1 = 0)).length : Nat) : Int).fmod 2) = (ways hs k : Int) := by
  unfold ways
  rw [Int.fmod_eq_emod_of_nonneg _ (by decide)]
  omega
theorem zeros_succ {hs : List Hand} {j : Nat} {h : Hand} (e : hs[j]? = some h) : ((hs.take (j + 1)).filter fun h => decide (h.1 = 0)).length = ((hs.take j).filter fun h => decide (h.1 = 0)).length + (if h.1 = 0 then 1 else 0) := by
  rw [List.take_add_one, e, List.filter_append, List.length_append]
  by_cases h0 : h.1 = 0 <;> simp [h0]
theorem zeros_le (hs : List Hand) (j : Nat) : ((hs.take j).filter fun h => decide (h.1 = 0)).length ≤ hs.length := by
  refine Nat.le_trans (List.length_filter_le _ _) ?_
  rw [List.length_take]; omega
/-- how a list of new cells stands -/
noncomputable def CJ (news₀ : List (Addr × Obj)) (cells : List Cell) (i : Nat) (ys : List Value) (nx : List (Addr × Obj)) : Prop :=
  ∃ tups, nx = tups ++ news₀ ∧ RowVals tups ys (cells.take i) ∧ ∀ p ∈ tups, SeqObj p.2
theorem CJ0 (news₀ : List (Addr × Obj)) (cells : List Cell) : CJ news₀ cells 0 [] news₀ := ⟨[], rfl, by rw [List.take_zero]; exact True.intro, fun _ h => nomatch h⟩
theorem cj_step {news₀ nx : List (Addr × Obj)} {cells : List Cell} {i : Nat} {ys : List Value} {T : Addr} {c b k : Nat} {t1 t2 : Tok} (hJ : CJ news₀ cells i ys nx) (he : cells[i]? = some (c, b)) : CJ news₀ cells (i + 1) (ys ++ [.ref T]) ((T, tupK [.str (S [c]) t1, .int (b : Int) t2] k) :: nx) := by
  obtain ⟨tups, rfl, hc, hs⟩ := hJ
  refine ⟨(T, tupK [.str (S [c]) t1, .int (b : Int) t2] k) :: tups, rfl, ?_, fun p hp => ?_⟩
  · rw [List.take_add_one, he]
    refine (?_ : RowVals _ (ys ++ [.ref T]) (cells.take i ++ [(c, b)]))
    exact RowVals.app (.one (c := (c, b)) ⟨T, t1, t2, k, rfl, .head _⟩) (hc.mono fun p hp => .tail _ hp)
  · rcases List.mem_cons.mp hp with rfl | hp
    · exact seq_tup _ _
    · exact hs p hp
theorem cj_end {h₀ h' : Heap} {L I C D T : Addr} {oI oC : Obj} {m : Str → Option Value} {s₁ : Shared} {tk : Nat} {news₀ nx : List (Addr × Obj)} {cells : List Cell} {i : Nat} {ys : List Value} {c b k : Nat} {t1 t2 : Tok} (hJ : CJ news₀ cells i ys nx) (he : cells[i]? = some (c, b)) (F : Fr h₀ L h' m)
    (N : News h₀ L h' ((T, tupK [.str (S [c]) t1, .int (b : Int) t2] k) :: (I, oI) :: (C, oC) :: (D, LCg.lst ys) :: nx)) (l1 : @Ne Nat T I ∧ @Ne Nat T C ∧ @Ne Nat T D) (off : LCg.Off3 I C D nx) :
    LCg.CompEnd h₀ L m s₁ I oI C oC D (LCg.lst ys) (fun _ => True) (fun y nx' => CJ news₀ cells (i + 1) (ys ++ [y]) nx') (.ref T) { s₁ with heap := h', toks := tk } := by
  exact ⟨h', tk, (T, tupK [.str (S [c]) t1, .int (b : Int) t2] k) :: nx, rfl, F, news_pick [1, 2, 3, 0] 4 N rfl, ⟨l1, off⟩, trivial, cj_step hJ he⟩
theorem strs_get : ∀ {cs : List Nat} {ys : List Value}, StrsAre ys ((cs.map fun c => [c]).map S) → ∀ {i : Nat} {v : Value}, ys[i]? = some v → ∃ c t, v = .str (S [c]) t ∧ cs[i]? = some c
  | [], _, h, i, v, e => by cases h; simp at e
  | c :: cs, _, h, i, v, e => by
    cases h with
    | cons _ t r =>
      cases i with
      | zero =>
        obtain rfl := Option.some.inj e
        exact ⟨c, t, rfl, rfl⟩
      | succ i =>
        obtain ⟨d, u, h1, h2⟩ := strs_get r (i := i) (by simpa using e)
        exact ⟨d, u, h1, by simpa using h2⟩
theorem row_len {hs : List Hand} {now : Nat} {h : Hand} {row : List Cell} (hh : HandOk h) : (dueRow hs now h row).length ≤ row.length + 8 := by
  have ht : (trim hs now row).length ≤ row.length := by
    unfold trim
    rw [List.length_reverse, ← List.length_reverse (as := row)]
    exact (List.dropWhile_sublist _).length_le
  have hd := digits_len hh.2.2
  unfold dueRow
  split
  · split
    · simp
    · simp; omega
  split
  · split
    · simp; omega
    · omega
  split
  · simp; omega
  · omega
theorem row_ne {hs : List Hand} {now : Nat} {h : Hand} {row : List Cell} (hr : row ≠ []) : dueRow hs now h row ≠ [] := by
  unfold dueRow
  split
  · split <;> simp
  split
  · split
    · simp
    · exact hr
  split
  · simp
  · exact hr
theorem turned_ne {α : Type} {w : Nat} {l : List α} (h : l ≠ []) : turned w l ≠ [] := by
  unfold turned
  split
  · exact fun e => h (List.reverse_eq_nil_iff.mp e)
  · exact h
theorem cells_ne {hs : List Hand} {cs : List Nat} (hc : cs ≠ []) : ∀ k, dueCells hs cs k ≠ []
  | 0 => fun e => hc (List.map_eq_nil_iff.mp e)
  | k + 1 => turned_ne (row_ne (turned_ne (cells_ne hc k)))
theorem turned_len (w : Nat) (l : List Cell) : (turned w l).length = l.length := by
  unfold turned
  split
  · exact List.length_reverse ..
  · rfl
theorem cells_len {hs : List Hand} {cs : List Nat} (hok : ∀ h ∈ hs, HandOk h) : ∀ k, k ≤ hs.length → (dueCells hs cs k).length ≤ cs.length + 8 * k
  | 0, _ => by
    show (cs.map _).length ≤ _
    rw [List.length_map]; omega
  | k + 1, hk => by
    have ih := cells_len (cs := cs) hok k (by omega)
    show (turned _ (dueRow hs k (hs.getD k (0, 0, 0)) (turned _ _))).length ≤ _
    rw [turned_len]
    have hm : hs.getD k (0, 0, 0) ∈ hs := by
      rw [List.getD_eq_getElem?_getD, List.getElem?_eq_getElem (show k < hs.length by omega)]
      exact List.getElem_mem _
    have := row_len (hs := hs) (now := k) (row := turned (ways hs k) (dueCells hs cs k)) (hok _ hm)
    rw [turned_len] at this
    omega
theorem news_in {h₀ h : Heap} {L : Addr} {D x a b p1 p2 p3 p4 : Addr × Obj} {dat : List (Addr × Obj)} (N : News h₀ L h (D :: x :: a :: b :: p1 :: p2 :: p3 :: p4 :: dat)) : News h₀ L h (a :: b :: p1 :: p2 :: p3 :: p4 :: D :: dat) :=
  news_pick [2, 3, 4, 5, 6, 7, 0] 8 N rfl
theorem row_turn {news dat : List (Addr × Obj)} {D : Addr} {vals : List Value} {cells : List Cell} {x : Str} {m : Str → Option Value} (hm : m x = some (.ref D)) (hc : RowVals dat vals cells) (hd : DatOk news dat) {w : Nat} (hw : w = 1) : RowIs news x (turned w cells) m ((D, lstK vals.reverse 0) :: dat) := by
  refine ⟨D, vals.reverse, 0, hm, .head _, ?_, hd.add (seq_list _ _)⟩
  unfold turned
  rw [if_pos hw]
  exact hc.rev.mono fun p hp => .tail _ hp
theorem row_same {news dat : List (Addr × Obj)} {D : Addr} {vals : List Value} {k : Nat} {cells : List Cell} {x : Str} {m : Str → Option Value} (hm : m x = some (.ref D)) (hc : RowVals dat vals cells) (hd : DatOk news dat) (hmem : (D, lstK vals k) ∈ dat) {w : Nat} (hw : w ≠ 1) : RowIs news x (turned w cells) m dat := by
  refine ⟨D, vals, k, hm, hmem, ?_, hd⟩
  unfold turned
  rw [if_neg hw]
  exact hc
theorem text_at {l : List Nat} {j c b : Nat} (h : (S l).cps[j]? = some c) : (l.map fun c => (c, b))[j]? = some (c, b) := by
  rw [List.getElem?_map]
  have e : l[j]? = some c := by simpa [S] using h
  rw [e]; rfl
theorem text_all {l : List Nat} {b : Nat} : (l.map fun c => ((c, b) : Cell)).take (S l).cps.size = l.map fun c => ((c, b) : Cell) :=
  List.take_of_length_le (by simp [S])
theorem comp_drop {h₀ h : Heap} {L : Addr} {T x I C D : Addr × Obj} {nx : List (Addr × Obj)} (N : News h₀ L h (T :: x :: I :: C :: D :: nx)) : News h₀ L h (T :: I :: C :: D :: nx) :=
  news_pick [0, 2, 3, 4] 5 N rfl
/-- how the loop of _law_due stands -/
noncomputable def DJ (news : List (Addr × Obj)) (hs : List Hand) (cs : List Nat) (cnow : Addr) (p1 p2 p3 p4 : Addr × Obj) (i : Nat) (mm : Str → Option Value) (nx : List (Addr × Obj)) : Prop :=
  ∃ (cl : Addr) (vals : List Value) (k : Nat) (dat : List (Addr × Obj)) (onow : Obj) (v₀ : Option Value), mm (Str.ofString "cells") = some (.ref cl) ∧ onow.data = .cell v₀ ∧ (cl, lstK vals k) ∈ dat ∧ RowVals dat vals (dueCells hs cs i) ∧ DatOk news dat ∧ nx = (cnow, onow) :: p1 :: p2 :: p3 :: p4 :: dat
theorem DJ.parts {news : List (Addr × Obj)} {hs : List Hand} {cs : List Nat} {cnow : Addr} {p1 p2 p3 p4 : Addr × Obj} {i : Nat} {mm : Str → Option Value} {nx : List (Addr × Obj)} {G : Prop} (H : DJ news hs cs cnow p1 p2 p3 p4 i mm nx)
    (K : ∀ (cl : Addr) (vals : List Value) (k : Nat) (dat : List (Addr × Obj)) (onow : Obj) (v₀ : Option Value), mm (Str.ofString "cells") = some (.ref cl) → onow.data = .cell v₀ → (cl, lstK vals k) ∈ dat → RowVals dat vals (dueCells hs cs i) → DatOk news dat → nx = (cnow, onow) :: p1 :: p2 :: p3 :: p4 :: dat → G) : G := by
  obtain ⟨a, b, c, d, e, f, g1, g2, g3, g4, g5, g6⟩ := H
  exact K a b c d e f g1 g2 g3 g4 g5 g6
theorem DJ0 {news : List (Addr × Obj)} {hs : List Hand} {cs : List Nat} {cnow D : Addr} {p1 p2 p3 p4 : Addr × Obj} {mm : Str → Option Value} {onow : Obj} {v₀ : Option Value} {ys : List Value} {tups : List (Addr × Obj)} {n : Nat} (hm : mm (Str.ofString "cells") = some (.ref D)) (hd : onow.data = .cell v₀) (hc : RowVals tups ys ((cs.map fun c => (c, 0)).take n)) (hl : n = cs.length) (ht : ∀ p ∈ tups, SeqObj p.2) :
    DJ news hs cs cnow p1 p2 p3 p4 0 mm ((cnow, onow) :: p1 :: p2 :: p3 :: p4 :: ((D, LCg.lst ys) :: (tups ++ news))) := by
  refine ⟨D, ys, _, _, onow, v₀, hm, hd, .head _, ?_, ((DatOk.nil news).app ht).add (seq_list _ _), rfl⟩
  rw [List.take_of_length_le (by rw [List.length_map, hl]; exact Nat.le_refl _)] at hc
  exact hc.mono fun p hp => .tail _ (List.mem_append.mpr (.inl hp))
theorem due_sort {h₀ h : Heap} {L : Addr} {p w n1 n2 n3 sl hl : Addr × Obj} {tups news : List (Addr × Obj)} (N : News h₀ L h (p :: (tups ++ w :: n1 :: n2 :: n3 :: sl :: hl :: news))) : News h₀ L h (n1 :: n2 :: n3 :: w :: hl :: p :: (tups ++ news)) :=
  news_pick2 (mid := [w, n1, n2, n3, sl, hl]) [2, 3, 4, 1, 6, 0] N rfl
theorem end_due {news : List (Addr × Obj)} {hs : List Hand} {cs : List Nat} {cnow I L : Addr} {oI onow o0 : Obj} {p1 p2 p3 p4 q : Addr × Obj} {v₀ : Option Value} {g h : Heap} {m : Str → Option Value} {dat tups : List (Addr × Obj)} {i tk : Nat} {s : Shared} {Q : Flow → Shared → Prop} (hd : onow.data = .cell v₀) (F : Fr g L h m) (N : News g L h ((I, oI) :: (cnow, onow) :: p1 :: p2 :: p3 :: p4 :: dat)) (hR : RowIs news (Str.ofString "cells") (dueCells hs cs (i + 1)) m dat) :
    RTurnQ g L I oI s ((cnow, o0) :: p1 :: p2 :: p3 :: p4 :: q :: (tups ++ news)) (DJ news hs cs cnow p1 p2 p3 p4 (i + 1)) Q .next { s with heap := h, toks := tk } := by
  obtain ⟨rl, rv, k, e, hm, hc, hdat⟩ := hR
  refine ⟨h, tk, m, (cnow, onow) :: p1 :: p2 :: p3 :: p4 :: dat, rfl, F, N, fun p hp => ?_, rl, rv, k, dat, onow, v₀, e, hd, hm, hc, hdat, rfl⟩
  simp only [List.mem_cons] at hp
  rcases hp with rfl | rfl | rfl | rfl | rfl | hp
  · exact .inl ⟨_, .head _, rfl⟩
  · exact .inl ⟨_, .tail _ (.head _), rfl⟩
  · exact .inl ⟨_, .tail _ (.tail _ (.head _)), rfl⟩
  · exact .inl ⟨_, .tail _ (.tail _ (.tail _ (.head _))), rfl⟩
  · exact .inl ⟨_, .tail _ (.tail _ (.tail _ (.tail _ (.head _)))), rfl⟩
  · rcases dat_cls (T := "range_iterator") (by decide) hdat p hp with h1 | h1
    · exact .inl ⟨p, .tail _ (.tail _ (.tail _ (.tail _ (.tail _ (.tail _ (List.mem_append.mpr (.inr h1))))))), rfl⟩
    · exact .inr h1
/-- how the while of _law_due stands: some white cells at the row's end are gone -/
noncomputable def WJ9 (news : List (Addr × Obj)) (hs : List Hand) (now : Nat) (row : List Cell) (a b p1 p2 p3 p4 : Addr × Obj) (n : Nat) (mm : Str → Option Value) (nx : List (Addr × Obj)) : Prop :=
  ∃ row' dat', n = row'.length ∧ trim hs now row' = trim hs now row ∧ row'.length ≤ row.length ∧ (∀ c ∈ row', c.2 ≤ now) ∧ RowIs news (Str.ofString "row") row' mm dat' ∧ nx = a :: b :: p1 :: p2 :: p3 :: p4 :: dat'
theorem WJ9_0 {news dat : List (Addr × Obj)} {hs : List Hand} {now n : Nat} {row : List Cell} {a b p1 p2 p3 p4 : Addr × Obj} {mm : Str → Option Value} (hn : n = row.length) (hR : RowIs news (Str.ofString "row") row mm dat) (hb : ∀ c ∈ row, c.2 ≤ now) : WJ9 news hs now row a b p1 p2 p3 p4 n mm (a :: b :: p1 :: p2 :: p3 :: p4 :: dat) :=
  ⟨row, dat, hn, rfl, Nat.le_refl _, hb, hR, rfl⟩
theorem trim_snoc {hs : List Hand} {now : Nat} {init : List Cell} {c : Cell} : trim hs now (init ++ [c]) = if isW (shown hs now c) = true then trim hs now init else init ++ [c] := by
  unfold trim
  rw [List.reverse_append]
  show (List.dropWhile _ (c :: init.reverse)).reverse = _
  by_cases h : isW (shown hs now c) = true
  · rw [if_pos h, List.dropWhile_cons_of_pos (p := fun c => isW (shown hs now c)) h]
  · rw [if_neg h, List.dropWhile_cons_of_neg (p := fun c => isW (shown hs now c)) h, List.reverse_cons, List.reverse_reverse]
theorem end_while {h₀ h : Heap} {L D : Addr} {s : Shared} {tk n now : Nat} {m : Str → Option Value} {x1 x2 a b p1 p2 p3 p4 : Addr × Obj} {dat news : List (Addr × Obj)} {rw rw' : List Value} {row ini : List Cell} {c : Cell} {hs : List Hand}
    (hm : m (Str.ofString "row") = some (.ref D)) (hr : rw' = rw) (hn : n = (ini ++ [c]).length) (htr : trim hs now (ini ++ [c]) = trim hs now row) (hw : isW (shown hs now c) = true) (hle : (ini ++ [c]).length ≤ row.length) (hb : ∀ d ∈ ini ++ [c], d.2 ≤ now) (hc : RowVals dat rw ini) (hd : DatOk news dat) (F : Fr h₀ L h m)
    (N : News h₀ L h ((D, lstK rw' 0) :: x1 :: x2 :: a :: b :: p1 :: p2 :: p3 :: p4 :: dat)) : WhileStep h₀ L s (WJ9 news hs now row a b p1 p2 p3 p4) n .next { s with heap := h, toks := tk } := by
  subst hr hn
  refine WhileStep.intro (n' := ini.length) (news₂ := a :: b :: p1 :: p2 :: p3 :: p4 :: (D, lstK rw' 0) :: dat) F (news_pick [3, 4, 5, 6, 7, 8, 0] 9 N rfl) (by simp) ⟨ini, (D, lstK rw' 0) :: dat, rfl, ?_, ?_, fun d hd' => hb d (List.mem_append.mpr (.inl hd')), ⟨D, rw', 0, hm, .head _, hc.mono fun p hp => .tail _ hp, hd.add (seq_list _ _)⟩, rfl⟩
  · rw [← htr, trim_snoc, if_pos hw]
  · rw [List.length_append, List.length_singleton] at hle
    omega
theorem writing_len {hs : List Hand} {c : Cell} (h7 : hs.length ≤ 7) : (writing hs c).length ≤ 67 := by
  unfold writing
  split
  · simp
  · rename_i k0 _ _
    have h1 := arm_len hs c.1 k0 1 h7
    have h0 := arm_len hs c.1 k0 0 h7
    simp only [List.length_append, List.length_reverse, List.length_cons, List.length_nil]
    omega
theorem writings_len {hs : List Hand} (h7 : hs.length ≤ 7) : ∀ cells : List Cell, ((cells.map (writing hs)).flatten).length ≤ 67 * cells.length
  | [] => by simp
  | c :: t => by
    have := writings_len h7 t
    have := writing_len (c := c) h7
    rw [List.map_cons, List.flatten_cons, List.length_append, List.length_cons]
    omega
/-- the signs, as the list of the ledger -/
noncomputable def SignsAt (news : List (Addr × Obj)) (sl : Addr) (cs : List Nat) : Prop := ∃ ys, (sl, LCg.lst ys) ∈ news ∧ StrsAre ys ((cs.map fun c => [c]).map S)
theorem rgC_small {n : Nat} (h7 : n ≤ 7) : Builtin.Range.small 0 ((n : Int) + 1) 1 = true := rg_small (by omega) (by omega) (by omega) (by omega)
theorem rgC_n {n : Nat} : Builtin.Range.rangeSize 0 ((n : Int) + 1) 1 = ((n + 1 : Nat) : Int) := rg_n (by omega)
theorem rgC_sz {n : Nat} (h7 : n ≤ 7) : n + 1 ≤ sizeLine := by rw [sizeLine_eq]; omega
theorem rgD_small {n : Nat} (h7 : n ≤ 7) : Builtin.Range.small 0 (n : Int) 1 = true := rg_small (by omega) (by omega) (by omega) (by omega)
theorem rgD_n {n : Nat} : Builtin.Range.rangeSize 0 (n : Int) 1 = ((n : Nat) : Int) := rg_n (by omega)
theorem zero_toNat (i : Nat) : (0 + (i : Int)).toNat = i := by omega
theorem one_way (i : Nat) : (0 + (i : Int) * 1) = (i : Int) := by omega
theorem way_one {a : Nat} (h : (a : Int) = 1) : a = 1 := by omega
theorem way_none {a : Nat} (h : ¬ (a : Int) = 1) : ¬ a = 1 := by omega
theorem hand_cases {kk ho nn : Nat} (h9 : ho = 126 ∨ ho = 60) : kk = 4 ∨ (kk = 5 ∧ ho = 126 ∧ nn = 0) ∨ (kk = 5 ∧ (ho = 60 ∨ (ho = 126 ∧ nn ≠ 0))) ∨ (kk ≠ 4 ∧ kk ≠ 5) := by
  by_cases h4 : kk = 4
  · exact .inl h4
  by_cases h5 : kk = 5
  · rcases h9 with h | h
    · by_cases hn : nn = 0
      · exact .inr (.inl ⟨h5, h, hn⟩)
      · exact .inr (.inr (.inl ⟨h5, .inr ⟨h, hn⟩⟩))
    · exact .inr (.inr (.inl ⟨h5, .inl h⟩))
  · exact .inr (.inr (.inr ⟨h4, h5⟩))
theorem len_bound {v c s h : Nat} (e1 : v = c) (e2 : c ≤ s + 8 * h) (h5 : s = 5) (h7 : h ≤ 7) : v ≤ 100000 := by omega
theorem len_bound' {c s h : Nat} (e2 : c ≤ s + 8 * h) (h5 : s = 5) (h7 : h ≤ 7) : c ≤ 100000 := by omega
local macro_rules | `(tactic| k_lt $h:ident) => `(tactic| replace $h := allLt_of $h)
local macro_rules | `(tactic| walk_at $s:str) => `(tactic| k_extra $s)
local macro_rules | `(tactic| x_head) => `(tactic| k_extra "x_head")
local macro_rules | `(tactic| z_head) => `(tactic| k_extra "z_head")
local macro_rules | `(tactic| k_ne) => `(tactic| k_extra "k_ne")
local macro_rules | `(tactic| k_all) => `(tactic| k_extra "k_all")
set_option maxHeartbeats 8000000 in
theorem c_due (w : World) (mean : ExcName → Option Value) (mg mb : Str → Option Value) (news : List (Addr × Obj)) (sl hl : Addr) (cs : List Nat) (vs : List Value) (hs : List Hand) (hS : SignsAt news sl cs) (H : HandsAt news hl vs hs) (h5 : cs.length = 5) (h7 : hs.length = 7) (hok : ∀ h ∈ hs, HandOk h) (hcs : ∀ c ∈ cs, c ∈ [60, 62, 13, 38, 32, 34, 9, 97, 10]) :
   Ctr w mean mg mb 99 4 400 0 news [.ref sl, .ref hl] (fun v => ∃ t, v = .str (S (due cs hs)) t) := by
  k_with_none
  k_with "x_head" => ((repeat (first | with_reducible exact m0 | with_reducible refine m1 ?_)))
  k_with "z_head" => (first | with_reducible assumption | exact up1 _ | exact up2 _ | exact up3 _ | (refine' lt_ne ?q1h ?q1m; (case q1h => with_reducible assumption); (case q1m => x_head)) | (refine' off_ne ?q1h ?q1m; (case q1h => with_reducible assumption); (case q1m => x_head)) | (refine' all_ne1 ?q1h ?q1m; (case q1h => with_reducible assumption); (case q1m => x_head)) | (refine' lt_ne_le ?q1h (le1 _) ?q1m; (case q1h => with_reducible assumption); (case q1m => x_head)) | (refine' lt_ne_le ?q1h (le2 _) ?q1m; (case q1h => with_reducible assumption); (case q1m => x_head)) | (refine' lt_ne_le ?q1h (le3 _) ?q1m; (case q1h => with_reducible assumption); (case q1m => x_head)) | (refine' lt_ne_le ?q1h (le4 _) ?q1m; (case q1h => with_reducible assumption); (case q1m => x_head)))
  k_with "k_ne" => ((refine neN ?_; (try dsimp only); first | z_head | (refine Ne.symm ?_; z_head) | assumption | (refine Ne.symm ?_; assumption)))
  k_with "k_all" => (first | with_reducible assumption | (refine' lt_suf ?q3h ?q3s; (case q3h => with_reducible assumption); (case q3s => (intro p hp; repeat (first | with_reducible exact hp | with_reducible refine m1 ?_)))) | (refine' off_suf ?q3h ?q3s; (case q3h => with_reducible assumption); (case q3s => (intro p hp; repeat (first | with_reducible exact hp | with_reducible refine m1 ?_)))) | (refine' lt_le ?q3h (le1 _); (case q3h => with_reducible assumption)) | (refine' lt_le ?q3h (le2 _); (case q3h => with_reducible assumption)) | (refine' lt_le ?q3h (le3 _); (case q3h => with_reducible assumption)) | (refine' lt_le ?q3h (le4 _); (case q3h => with_reducible assumption)) | (refine' List.forall_mem_cons.mpr ⟨?q3a, ?q3b⟩; (case q3a => k_ne); (case q3b => k_all)) | assumption)
  k_with "call builtin:len" => ((k_here; (with_reducible show wpAny _ _ (call (Value.builtin "len") [Value.ref _]) _ _ _); k_dflt (refine' len_L ?q4N ?q4m ?q4e ?q4z ?_; (case q4N => k_asm); (case q4m => k_mem); (case q4e => first | assumption | rfl); (case q4z => omega); k_whole); intro _ _))
  k_with "exec Assign cons ListComp" => ((k_here; k_dflt (refine' Assign_ListComp_Z ?q5s ?q5a ?q5b ?q5c ?_ ?q5e; (case q5s => with_unfolding_all rfl); (case q5a => exact rfl); (case q5b => exact rfl); (case q5c => decide); (case q5e => exact (fun _ => rfl)))))
  k_with "subscriptTail Name Slice ref ref" => ((k_here; (with_reducible show wpAny _ _ (subscriptTail _ (PySem.Expr.Slice none (some _) none _) (Value.ref _) (Value.ref _)) _ _ _); k_dflt (refine' kmk_slice_lit ?q6F ?q6N ?q6l ?q6p ?q6q ?q6e ?_ ?q6s ?q6t ?q6z; (case q6F => k_asm); (case q6N => k_asm); (case q6l => exact News.isList (by k_asm) (by k_mem)); (case q6p => exact IsPart.none); (case q6q => exact IsPart.int _ _); (case q6e => exact pick_up (by omega) (by omega)); (case q6s => with_unfolding_all rfl); (case q6t => kmk_pure); (case q6z => rw [List.size_toArray, sizeLine_eq]; omega)); intro _ _ F9' N9' l9'; (try k_lt l9'); (try k_sweep)))
  k_with "subscriptTail Name Name ref int" => ((k_here; k_dflt (refine' item_L _ ?q7N ?q7m ?q7z ?q7n ?q7x ?_ ?q7s ?q7g; (case q7N => k_asm); (case q7m => k_mem); (case q7x => assumption); (case q7z => omega); (case q7n => omega); (case q7s => with_unfolding_all rfl); (case q7g => intro _; with_unfolding_all rfl); k_whole)))
  k_with "subscriptTail Name Slice ref ref" => ((k_here; (with_reducible show wpAny _ _ (subscriptTail _ (PySem.Expr.Slice none none (some _) _) (Value.ref _) (Value.ref _)) _ _ _); k_dflt (refine' krv_lit ?q8F ?q8N ?q8l ?q8k ?q8e ?_ ?q8s ?q8t ?q8z; (case q8F => k_asm); (case q8N => k_asm); (case q8l => exact News.isList (by k_asm) (by k_mem)); (case q8k => exact IsPart.int _ _); (case q8e => exact rfl); (case q8s => with_unfolding_all rfl); (case q8t => kmk_pure); (case q8z => rw [List.size_toArray, sizeLine_eq]; omega)); intro _ _ F9' N9' l9'; (try k_lt l9')))
  k_with "ite" => ((k_here; k_dflt (first | refine ite_pos (beq_iff_eq.mpr (by omega)) ?_ | refine ite_neg (fun e => absurd (beq_iff_eq.mp e) (by omega)) ?_)))
  k_with "exec While BoolOp cons nil" => ((k_here; refine Halt.go ?_))
  k_with "binaryOp Add str str" => ((k_here; k_dflt (refine' add_S ?q11y ?q11n ?_; (case q11y => first | exact colon_is | exact paren_is | rfl); (case q11n => first | omega | (simp only [List.length_nil, List.length_cons, List.length_append]; omega))); intro _ _))
  k_with "call type:str" => ((k_here; k_dflt (refine' str_num ?q12n ?_; (case q12n => assumption)); intro _ _))
  k_with "binaryOp Add ref ref" => ((k_here; k_dflt (refine' cat_Z ?q13F ?q13N ?q13a ?q13b ?q13z ?_; (case q13F => k_asm); (case q13N => k_asm); (case q13a => k_mem); (case q13b => k_mem); (case q13z => first | omega | (simp only [List.length_nil, List.length_cons, List.length_append, List.length_dropLast, List.length_drop]; omega))); intro _ _ F9' N9' l9'; (try k_lt l9')))
  k_with "compareOp NotEq ref ref" => ((k_here; k_dflt (refine' ne_nilE ?q14N ?q14a ?q14b ?q14e ?q14u ?_; (case q14N => k_asm); (case q14a => k_mem); (case q14b => k_mem); (case q14e => assumption); (case q14u => units_room))))
  k_with "subscriptTail Name UnaryOp ref int" => ((k_here; k_dflt (refine' item_last ?q15N ?q15m ?_ ?q15s ?q15g; (case q15N => k_asm); (case q15m => k_mem); (case q15s => with_unfolding_all rfl); (case q15g => intro _; with_unfolding_all rfl))))
  k_with "subscriptTail Name Slice ref ref" => ((k_here; (with_reducible show wpAny _ _ (subscriptTail _ (PySem.Expr.Slice _ (some (PySem.Expr.UnaryOp _ _ _)) none _) (Value.ref _) (Value.ref _)) _ _ _); k_dflt (refine' kmk_slice_lit ?q16F ?q16N ?q16l ?q16p ?q16q ?q16e ?_ ?q16s ?q16t ?q16z; (case q16F => k_asm); (case q16N => k_asm); (case q16l => exact News.isList (by k_asm) (by k_mem)); (case q16p => first | exact IsPart.none | exact IsPart.int _ _); (case q16q => exact IsPart.int _ _); (case q16e => first | exact pick_neg none 0 (.inl ⟨rfl, rfl⟩) (by omega) | exact pick_neg (some 1) 1 (.inr ⟨rfl, rfl⟩) (by omega)); (case q16s => with_unfolding_all rfl); (case q16t => kmk_pure); (case q16z => rw [List.size_toArray, sizeLine_eq]; omega)); intro _ _ F9' N9' l9'; (try k_lt l9')))
  k_with "subscriptTail Name Constant ref int" => ((k_here; k_dflt (refine' item_L 0 ?q17N ?q17m ?q17z ?q17n ?q17x ?_ ?q17s ?q17g; (case q17N => k_asm); (case q17m => k_mem); (case q17z => rfl); (case q17n => exact Nat.zero_le _); (case q17x => assumption); (case q17s => with_unfolding_all rfl); (case q17g => intro _; with_unfolding_all rfl); k_whole)))
  k_with "subscriptTail Name Call ref int" => ((k_here; k_dflt (refine' item_L _ ?q18N ?q18m ?q18z ?q18n ?q18x ?_ ?q18s ?q18g; (case q18N => k_asm); (case q18m => k_mem); (case q18x => assumption); (case q18z => omega); (case q18n => omega); (case q18s => with_unfolding_all rfl); (case q18g => intro _; with_unfolding_all rfl); k_whole)))
  k_with "subscriptTail Name Slice str ref" => ((k_here; (with_reducible show wpAny _ _ (subscriptTail _ (Expr.Slice none none (some _) _) _ _) _ _ _); k_dflt (refine' rev_Z (s := ⟨_, _, _, _, _⟩) ?q19F ?q19N ?q19n ?_ ?q19s ?q19g; (case q19F => k_asm); (case q19N => k_asm); (case q19n => omega); (case q19s => with_unfolding_all rfl); (case q19g => intro _; with_unfolding_all rfl)); intro _ _ _ F9' N9'))
  k_with "eval ListComp" => ((k_here; k_dflt (refine' ListComp_Z ?q20a ?q20b ?q20c ?_ ?q20e; (case q20a => exact rfl); (case q20b => exact rfl); (case q20c => decide); (case q20e => exact (fun _ => rfl)))))
  refine by_no fun hG9 => ?_
  obtain ⟨ys0, hsm, hsv⟩ := hS
  obtain ⟨⟨kh, hkh⟩, hlen, hat⟩ := id H
  refine hG9 ?_
  clear hG9
  unfold Ctr
  k_fill
  intro dp un gd cn cs0 a ccd cl outer A₀ base h₀ L m s Q E hB hF hK hN hT hkind hd hu ht hret
  refine wpAny_call ?_
  have hN2 := news_add (news_add hN hkh) (.tail _ hsm)
  clear hN
  k_dflt (refine' code_defC (binds := [(Str.ofString "signs", .ref sl), (Str.ofString "hands", .ref hl)]) ?k1 ?k2 ?k3 ?k4 ?k5 ?kA ?kF ?kK ?k6 ?k7 ?k8 ?k9 ?kB ?kD ?_ ?c2 ?c3 ?c4; (case kA => exact rfl); (case kF => exact rfl); (case kK => assumption); (case k1 => k_asm); (case k2 => k_asm); (case k3 => k_asm); (case k4 => k_asm); (case k5 => k_asm); (case k6 => k_is); (case k7 => k_is); (case k8 => ktr_room); (case k9 => exact BindsTo.of_eq rfl); (case kB => exact rfl); (case kD => decide +kernel); (case c2 => exact rfl); (case c3 => exact rfl); (case c4 => exact rfl); k_whole; intro g' L' h' tk' cells' FG' F' N' Y' B' X' T' l1; (try k_lt l1); k_cells Y'; (try simp only [List.cons_append, List.nil_append] at N'); (try dsimp only); (try k_lift B'); (try k_fold))
  have h7' : hs.length ≤ 7 := Nat.le_of_eq h7
  try (first | refine bare (s := ⟨_, s.gens, s.drawn, _, s.os⟩) ?_ | refine bare ?_)
  try k_fold
  k_steps
  refine keep_range (h₀ := g') (L := L') (n := hs.length + 1) (J := fun i ys => IntsAre ys ((List.range i).map fun k => (ways hs k : Int))) rfl (by k_asm) (by k_asm) (by assumption) (rgC_small h7') rgC_n .nil (rgC_sz h7') (by decide) rfl rfl ?_ (fun g => rr_eval fun ws nx hJ => ?_)
  · intro g i v I oI C oC D m₂ ws nx h tk E' hi hP hJ hC hx F N off ne
    refine by_no fun hG9 => ?_
    obtain ⟨t9, rfl⟩ := hP
    obtain ⟨hz, rfl⟩ := hJ
    refine hG9 ?_
    clear hG9
    refine tests_nil ?_
    rw [if_pos rfl]
    try (first | refine bare (s := ⟨_, s.gens, s.drawn, _, s.os⟩) ?_ | refine bare ?_)
    try k_fold
    k_steps
    have e9 := zero_toNat i
    have hil : (vs.take (0 + (i : Int)).toNat).length = i := by rw [List.length_take]; omega
    refine keep_list (h₀ := g') (L := L') (vs := vs.take (0 + (i : Int)).toNat) (J := fun j zs => zs.length = ((hs.take j).filter fun h => decide (h.1 = 0)).length) rfl (by k_asm) (by k_asm) ?_ rfl ?_ (by decide) rfl rfl ?_ (fun g => rr_eval fun zs nx hJ => ?_)
    · exact .inr ⟨_, .head _, rfl, _, rfl⟩
    · rw [hil, sizeLine_eq]; omega
    · intro g j v J oJ C2 oC2 D2 m₃ zs nx h tk E'' hj hP hJ hC2 hx2 F N off2 ne2
      refine by_no fun hG9 => ?_
      obtain ⟨hzl, rfl⟩ := hJ
      refine hG9 ?_
      clear hG9
      rw [hil] at hj
      have hjl : j < hs.length := by omega
      refine hand_of hlen hat hok hjl fun a8 kk ho nn u1 u2 u3 k8 hv hmem8 hh hki he => ?_
      rw [List.getElem?_take_of_lt (by omega), hv] at hP
      obtain rfl := Option.some.inj hP
      have N2 := news_add N (.tail _ (.tail _ (.tail _ (.tail _ (.tail _ (.tail _ (.tail _ (.tail _ (.tail _ (.tail _ (.tail _ (.tail _ hmem8))))))))))))
      clear N
      refine tests_one ?_
      try (first | refine bare (s := ⟨_, s.gens, s.drawn, _, s.os⟩) ?_ | refine bare ?_)
      try k_fold
      k_steps
      · rename_i hA
        refine ⟨_, _, _, rfl, by k_asm, drop1 (by k_asm), off2, trivial, ?_, rfl⟩
        rw [List.length_append, List.length_singleton, zeros_succ he, hzl, if_pos (show kk = 0 by omega)]
      · rename_i hA
        refine ⟨_, _, _, rfl, by k_asm, drop1 (by k_asm), off2, trivial, ?_, rfl⟩
        rw [zeros_succ he, hzl, if_neg (show ¬ kk = 0 by omega)]
        rfl
    · refine by_no fun hG9 => ?_
      obtain ⟨hzl, rfl⟩ := hJ
      refine hG9 ?_
      clear hG9
      rw [hil] at hzl
      have hzb := zeros_le hs i
      unfold LCg.FinE
      intro D9 hp9 k9 F9 N9 o9
      try (first | refine bare (s := ⟨_, s.gens, s.drawn, _, s.os⟩) ?_ | refine bare ?_)
      try k_fold
      k_steps
      refine ⟨_, _, _, rfl, by k_asm, drop2 (by k_asm), off, trivial, ?_, rfl⟩
      rw [List.range_succ, List.map_append]
      refine (?_ : IntsAre (ws ++ [_]) (_ ++ [(ways hs i : Int)]))
      rw [← ways_hs]
      exact ints_snoc hz _ _
  · refine by_no fun hG9 => ?_
    obtain ⟨hz, rfl⟩ := hJ
    refine hG9 ?_
    clear hG9
    unfold LCg.FinE
    intro D7 hp7 k7 F7 N7 o7
    try (first | refine bare (s := ⟨_, s.gens, s.drawn, _, s.os⟩) ?_ | refine bare ?_)
    try k_fold
    k_steps
    have hyl : ys0.length = cs.length := by have := hsv.len_eq; simpa using this
    refine src_list (h₀ := g') (L := L') (vs := ys0) (J := CJ _ (cs.map fun c => (c, 0))) rfl (by k_asm) (by k_asm) ?_ (CJ0 _ _) ?_ (by decide) rfl rfl ?_ (fun g => rr_assignB (by rfl) (by rfl) (by rfl) fun ys nx hJ => ?_)
    · intro i ys nx hX39
      refine by_no fun hG9 => ?_
      obtain ⟨tups, rfl, _⟩ := hX39
      refine hG9 ?_
      clear hG9
      exact .inr ⟨_, List.mem_append.mpr (.inr (by k_dflt k_mem)), rfl, _, rfl⟩
    · rw [hyl, sizeLine_eq]; omega
    · intro g i v I oI C oC D m₂ ys nx h tk E' hi hP hJ hC hx F N off ne
      refine by_no fun hG9 => ?_
      obtain ⟨c, t9, rfl, hci⟩ : ∃ c t, v = .str (S [c]) t ∧ cs[i]? = some c := strs_get hsv hP
      refine hG9 ?_
      clear hG9
      refine tests_nil ?_
      rw [if_pos rfl]
      try (first | refine bare (s := ⟨_, s.gens, s.drawn, _, s.os⟩) ?_ | refine bare ?_)
      try k_fold
      k_steps
      exact cj_end (c := c) (b := 0) hJ (by rw [List.getElem?_map, hci]; rfl) (by k_asm) (by k_asm) ⟨by k_ne, by k_ne, by k_ne⟩ off
    · unfold FinB
      refine by_no fun hG9 => ?_
      obtain ⟨tups, rfl, hcells, htup⟩ := hJ
      refine hG9 ?_
      clear hG9
      intro D8 hp8 k8 F8 N8 o8
      have N9 := due_sort N8
      clear N8 o8
      refine wpAny_execs_cons ?_
      refine wpAny_For ?_ (fun _ => rfl)
      try (first | refine bare (s := ⟨_, s.gens, s.drawn, _, s.os⟩) ?_ | refine bare ?_)
      try k_fold
      k_steps
      refine iter_range (h₀ := g') (n := hs.length) (J := DJ news hs cs _ _ _ _ _) rfl (by k_asm) (by k_asm) (by assumption) (rgD_small h7') rgD_n (DJ0 (by rfl) (by k_asm) hcells hyl htup) (fun _ _ => rfl) ?_ ?_
      · intro i tv I oI mm nx h tk hi hX99 htk (F : Fr g' L' h mm) (N : News g' L' h _) hkd hoI
        refine DJ.parts hX99 fun cl9 vals kc dat onow v₀ hmc hon hclm hcl hdat e9 => ?_
        clear hX99
        subst e9
        have F9 := fr_know hmc F
        clear F
        have q1 := neN (hoI _ (.head _))
        have q2 := dat_off hdat N (.tail _ (.head _)) hon (fun p hp => (.tail _ (.tail _ (.tail _ (.tail _ (.tail _ (.tail _ hp))))))) (show AllLt L' news from l1.2.2) (by omega)
        dsimp only at q1
        have ei := one_way i
        rw [ei]
        try (first | refine bare (s := ⟨_, s.gens, s.drawn, _, s.os⟩) ?_ | refine bare ?_)
        try k_fold
        k_steps
        clear hret hB hF hN2 hT hK FG' hkd hcells htup
        refine hand_of hlen hat hok hi fun a8 kk ho nn u1 u2 u3 k8 hv hmem8 hh hki he => ?_
        k_dflt (refine' item_L i ?w1 ?w2 ?w3 ?w4 hv ?_ ?w5 ?w6; (case w1 => k_asm); (case w2 => k_mem); (case w3 => omega); (case w4 => omega); (case w5 => with_unfolding_all rfl); (case w6 => intro _; with_unfolding_all rfl))
        rename News _ _ _ _ => N5
        have N6 := turn_mem N5 hdat hmem8
        clear N5
        iterate 11 (first | (k_unfold; (try dsimp only)) | (k_end; wrow_close) | walk1 | (dsimp only; walk1) | (leave1; walk_say "STEP leave1"; try dsimp only))
        dsimp only
        refine by_no fun hG9 => ?_
        obtain ⟨t5, hw5⟩ := ways_at hz (Nat.le_of_lt hi)
        refine hG9 ?_
        clear hG9
        rename Fr _ _ _ _ => F5
        rename News _ _ _ _ => N5
        refine cut_data (fun m' dat' => m' (Str.ofString "hand") = some (.int (kk : Int) u1) ∧ m' (Str.ofString "home") = some (.str (S [ho]) u2) ∧ m' (Str.ofString "number") = some (.int (nn : Int) u3) ∧ RowIs news (Str.ofString "row") (turned (ways hs i) (dueCells hs cs i)) m' dat') F5 (fun p hp => N5 p (.tail _ hp)) ?_ ?_
        · have N7 := news_add (drop1 N5) (.tail _ (.tail _ (.tail _ (.tail _ (.tail _ (.tail _ hclm))))))
          clear N5
          have hvb : vals.length ≤ 100000 := len_bound hcl.len (cells_len (cs := cs) hok i (Nat.le_of_lt hi)) h5 (Nat.le_trans (Nat.le_of_lt hi) h7')
          try (first | refine bare (s := ⟨_, s.gens, s.drawn, _, s.os⟩) ?_ | refine bare ?_)
          try k_fold
          k_steps
          · refine cut_fin (by k_asm) (news_in (by k_asm)) ⟨rfl, rfl, rfl, row_turn rfl hcl hdat (by omega)⟩
          · refine cut_fin (by k_asm) (drop1 (by k_asm)) ⟨rfl, rfl, rfl, row_same rfl hcl hdat hclm (by omega)⟩
        · intro hp5 tk5 m5 dat5 F8 N8 hX69
          refine by_no fun hG9 => ?_
          obtain ⟨e1, e2, e3, rl, rv, kr, e4, hrm, hrc, hdat5⟩ := hX69
          refine hG9 ?_
          clear hG9
          clear F5 N5 hcl hclm hdat hmc q2 hoI
          have F6 := fr_know4 e1 e2 e3 e4 F8
          clear F8
          have hrl := hrc.len
          have hrb : (turned (ways hs i) (dueCells hs cs i)).length ≤ 100000 := by
            rw [turned_len]
            exact len_bound' (cells_len (cs := cs) hok i (Nat.le_of_lt hi)) h5 (Nat.le_trans (Nat.le_of_lt hi) h7')
          have hborn : ∀ c ∈ turned (ways hs i) (dueCells hs cs i), c.2 ≤ i := fun c hc => cells_born hs cs i c (turned_mem hc)
          have hrne : turned (ways hs i) (dueCells hs cs i) ≠ [] := turned_ne (cells_ne (fun e => by rw [e] at h5; cases h5) i)
          generalize hrow : turned (ways hs i) (dueCells hs cs i) = row at *
          refine cut_data (fun m' dat' => RowIs news (Str.ofString "row") (dueRow hs i (kk, ho, nn) row) m' dat') F6 N8 ?_ ?_
          · have N7 := news_add N8 (.tail _ (.tail _ (.tail _ (.tail _ (.tail _ (.tail _ hrm))))))
            clear N8
            have hcase : kk = 4 ∨ (kk = 5 ∧ ho = 126 ∧ nn = 0) ∨ (kk = 5 ∧ (ho = 60 ∨ (ho = 126 ∧ nn ≠ 0))) ∨ (kk ≠ 4 ∧ kk ≠ 5) := by
              exact hand_cases hh.2.1
            have hnn : nn < 1000 := hh.2.2
            have hdl := digits_len hnn
            rcases hcase with rfl | ⟨rfl, rfl, rfl⟩ | ⟨rfl, hcase⟩ | hcase
            · try (first | refine bare (s := ⟨_, s.gens, s.drawn, _, s.os⟩) ?_ | refine bare ?_)
              try k_fold
              k_steps
              refine Halt.go ?_
              rename News _ _ _ _ => N9
              rename Fr _ _ _ _ => F9
              refine cut_exec (RowIs news (Str.ofString "row") (trim hs i row)) F9 (drop1 N9) ?_ ?_
              · refine While_inv (h₀ := g') (L := L') (n₀ := row.length) (WJ9 news hs i row _ _ _ _ _ _) F9 (drop1 N9) (WJ9_0 rfl ⟨rl, rv, kr, rfl, hrm, hrc, hdat5⟩ hborn) ?_ ?_
                · intro n mm nx h9 tk9 F8 N8 hX79
                  refine by_no fun hG9 => ?_
                  obtain ⟨row', dat', hn, htr, hle, hb', ⟨rl9, rv9, kr9, e9, hrm9, hrc9, hdat9⟩, rfl⟩ := hX79
                  refine hG9 ?_
                  clear hG9
                  clear F9 N9
                  have F7 := fr_know e9 F8
                  clear F8
                  have N7 := news_add N8 (.tail _ (.tail _ (.tail _ (.tail _ (.tail _ (.tail _ hrm9))))))
                  clear N8
                  rcases snoc_cases row' with rfl | ⟨ini, c, rfl⟩
                  · obtain rfl : rv9 = [] := List.length_eq_zero_iff.mp hrc9.len
                    have hemp : ([] : List Value).isEmpty = true := rfl
                    try (first | refine bare (s := ⟨_, s.gens, s.drawn, _, s.os⟩) ?_ | refine bare ?_)
                    try k_fold
                    k_steps
                    refine cut_fin (by k_asm) (drop2 (by k_asm)) ⟨rl9, [], kr9, rfl, hrm9, ?_, hdat9⟩
                    rw [← htr]
                    exact True.intro
                  · refine by_no fun hG9 => ?_
                    obtain ⟨rw9, v9, rfl, hrc8, hcv⟩ := hrc9.snoc
                    obtain ⟨av, y1, y2, yk, rfl, hmv⟩ := id hcv
                    refine hG9 ?_
                    clear hG9
                    have hemp : (rw9 ++ [Value.ref av]).isEmpty = false := by simp
                    have hvb : (rw9 ++ [Value.ref av]).length ≤ 100000 := by
                      have e1 := hrc9.len
                      omega
                    have hvb1 : 1 ≤ (rw9 ++ [Value.ref av]).length := by simp
                    try (first | refine bare (s := ⟨_, s.gens, s.drawn, _, s.os⟩) ?_ | refine bare ?_)
                    try k_fold
                    k_steps
                    k_dflt (refine' call_ctr (c_shown w mean mg mb _ (.ref av) c hl vs hs i tv ?v1 ?v2 ?v3 ?v4 hok ?v5) ?gB ?gF ?gX ?gN ?gT ?gk ?gd ?gu ?gt ?_; (case gB => k_asm); (case gF => k_asm); (case gX => k_asm); (case gN => k_asm); (case gT => k_asm); (case gk => exact rfl); (case gd => exact room (b := 3) hd (by decide)); (case gu => exact room (b := 43) hu (by decide)); (case gt => exact Nat.zero_le _); (case v1 => exact cellAt_mono hcv (fun p hp => (.tail _ (.tail _ (.tail _ (.tail _ (.tail _ (.tail _ (.tail _ (.tail _ hp)))))))))); (case v2 => exact H.mono (fun p hp => (.tail _ (.tail _ (.tail _ (.tail _ (.tail _ (.tail _ (.tail _ (.tail _ (hdat9.2 p hp))))))))))); (case v3 => exact hb' c (by simp)); (case v4 => exact Nat.le_of_lt hi); (case v5 => exact Nat.le_of_eq h7))
                    intro v h10 k10 hX39 F10 N10
                    refine by_no fun hG9 => ?_
                    obtain ⟨t10, rfl⟩ := hX39
                    refine hG9 ?_
                    clear hG9
                    try (first | refine bare (s := ⟨_, s.gens, s.drawn, _, s.os⟩) ?_ | refine bare ?_)
                    try k_fold
                    k_steps
                    · first | rename List.isEmpty _ = _ => hf | rename Array.isEmpty _ = _ => hf
                      have hw := white_found' white_is hf
                      refine cut_fin (by k_asm) (drop2 (by k_asm)) ⟨rl9, _, kr9, rfl, hrm9, ?_, hdat9⟩
                      rw [← htr, trim_snoc, if_neg (by rw [hw]; decide)]
                      exact hrc9
                    · first | rename List.isEmpty _ = _ => hf | rename Array.isEmpty _ = _ => hf
                      have hw := white_found' white_is hf
                      refine end_while rfl ?_ hn htr hw hle hb' hrc8 hdat9 (by k_asm) (by k_asm)
                      simp
                · exact fun _ _ x => x.elim
              · intro h9 tk9 m9 dat9 F8 N8 hX69
                refine by_no fun hG9 => ?_
                obtain ⟨rl9, rv9, kr9, e9, hrm9, hrc9, hdat9⟩ := hX69
                refine hG9 ?_
                clear hG9
                dsimp only
                have F7 := fr_know e9 F8
                clear F8
                have N7 := news_add N8 (.tail _ (.tail _ (.tail _ (.tail _ (.tail _ (.tail _ hrm9))))))
                clear N8
                have hrl9 := hrc9.len
                have htl : (trim hs i row).length ≤ row.length := by
                  unfold trim
                  rw [List.length_reverse, ← List.length_reverse (as := row)]
                  exact (List.dropWhile_sublist _).length_le
                by_cases htn : trim hs i row = []
                · rw [htn] at hrc9
                  obtain rfl : rv9 = [] := List.length_eq_zero_iff.mp hrc9.len
                  have hemp : ([] : List Value).isEmpty = true := rfl
                  try (first | refine bare (s := ⟨_, s.gens, s.drawn, _, s.os⟩) ?_ | refine bare ?_)
                  try k_fold
                  k_steps
                  rw [sharp1_is]
                  rename News _ _ _ _ => N5
                  have N4 := drop1 N5
                  clear N5
                  refine src_str (h₀ := g') (L := L') (J := CJ _ (([35] : List Nat).map fun c => (c, i + 1))) rfl (by k_asm) (by k_asm) (CJ0 _ _) (by rw [sizeLine_eq]; decide) (by decide) rfl rfl ?_ (fun g => rr_eval fun ys nx hJ => ?_)
                  · intro g j v J oJ C oC D m₂ ys nx h tk E' hj hX159 hJ hC hx F N off ne
                    refine by_no fun hG9 => ?_
                    obtain ⟨c, u9, hc9, rfl⟩ := hX159
                    refine hG9 ?_
                    clear hG9
                    refine tests_nil ?_
                    rw [if_pos rfl]
                    refine by_no fun hG9 => ?_
                    obtain ⟨tups, rfl, hcells, htup⟩ := id hJ
                    refine hG9 ?_
                    clear hG9
                    have N3 := news_add N (.tail _ (.tail _ (.tail _ (List.mem_append.mpr (.inr (.tail _ (.tail _ (.head _))))))))
                    clear N N4
                    try (first | refine bare (s := ⟨_, s.gens, s.drawn, _, s.os⟩) ?_ | refine bare ?_)
                    try k_fold
                    k_steps
                    exact cj_end (c := c) (b := i + 1) hJ (text_at hc9) (by k_asm) (comp_drop (by k_asm)) ⟨by k_ne, by k_ne, by k_ne⟩ off
                  · unfold LCg.FinE
                    refine by_no fun hG9 => ?_
                    obtain ⟨tups, rfl, hcells, htup⟩ := hJ
                    refine hG9 ?_
                    clear hG9
                    intro D9 h9 k9 F9 N9 o9
                    have N3 := comp_sort N9
                    clear N9 o9 N4
                    have hyl := hcells.len
                    rw [text_all] at hyl hcells
                    simp only [List.length_map, List.length_nil, List.length_cons, List.length_append] at hyl
                    try (first | refine bare (s := ⟨_, s.gens, s.drawn, _, s.os⟩) ?_ | refine bare ?_)
                    try k_fold
                    k_steps
                    refine end_front rfl hcells hrc9 htup hdat9 ?_ (by k_asm) (by k_asm)
                    unfold dueRow
                    rw [if_pos rfl, if_pos htn]
                    rfl
                · have hemp : rv9.isEmpty = false := by
                    rw [hrc9.nil_iff]
                    cases hq : trim hs i row with
                    | nil => exact absurd hq htn
                    | cons => rfl
                  try (first | refine bare (s := ⟨_, s.gens, s.drawn, _, s.os⟩) ?_ | refine bare ?_)
                  try k_fold
                  k_steps
                  rw [sharp2_is]
                  rename News _ _ _ _ => N5
                  have N4 := drop1 N5
                  clear N5
                  refine src_str (h₀ := g') (L := L') (J := CJ _ (([35, 32] : List Nat).map fun c => (c, i + 1))) rfl (by k_asm) (by k_asm) (CJ0 _ _) (by rw [sizeLine_eq]; decide) (by decide) rfl rfl ?_ (fun g => rr_eval fun ys nx hJ => ?_)
                  · intro g j v J oJ C oC D m₂ ys nx h tk E' hj hX159 hJ hC hx F N off ne
                    refine by_no fun hG9 => ?_
                    obtain ⟨c, u9, hc9, rfl⟩ := hX159
                    refine hG9 ?_
                    clear hG9
                    refine tests_nil ?_
                    rw [if_pos rfl]
                    refine by_no fun hG9 => ?_
                    obtain ⟨tups, rfl, hcells, htup⟩ := id hJ
                    refine hG9 ?_
                    clear hG9
                    have N3 := news_add N (.tail _ (.tail _ (.tail _ (List.mem_append.mpr (.inr (.tail _ (.tail _ (.head _))))))))
                    clear N N4
                    try (first | refine bare (s := ⟨_, s.gens, s.drawn, _, s.os⟩) ?_ | refine bare ?_)
                    try k_fold
                    k_steps
                    exact cj_end (c := c) (b := i + 1) hJ (text_at hc9) (by k_asm) (comp_drop (by k_asm)) ⟨by k_ne, by k_ne, by k_ne⟩ off
                  · unfold LCg.FinE
                    refine by_no fun hG9 => ?_
                    obtain ⟨tups, rfl, hcells, htup⟩ := hJ
                    refine hG9 ?_
                    clear hG9
                    intro D9 h9 k9 F9 N9 o9
                    have N3 := comp_sort N9
                    clear N9 o9 N4
                    have hyl := hcells.len
                    rw [text_all] at hyl hcells
                    simp only [List.length_map, List.length_nil, List.length_cons, List.length_append] at hyl
                    try (first | refine bare (s := ⟨_, s.gens, s.drawn, _, s.os⟩) ?_ | refine bare ?_)
                    try k_fold
                    k_steps
                    refine end_front rfl hcells hrc9 htup hdat9 ?_ (by k_asm) (by k_asm)
                    unfold dueRow
                    rw [if_pos rfl, if_neg htn]
                    rfl
            · rcases snoc_cases row with rfl | ⟨ini, c1, rfl⟩
              · exact absurd rfl hrne
              refine by_no fun hG9 => ?_
              obtain ⟨rw9, v1, rfl, hrc8, hcv1⟩ := hrc.snoc
              obtain ⟨av1, y1, y2, yk, rfl, hmv1⟩ := id hcv1
              obtain ⟨c0, hc0⟩ : ∃ c0, (ini ++ [c1])[0]? = some c0 := ⟨_, List.getElem?_eq_getElem (by simp)⟩
              obtain ⟨v0, hx0, hcv0⟩ := hrc.get hc0
              obtain ⟨av0, w1, w2, wk, rfl, hmv0⟩ := id hcv0
              refine hG9 ?_
              clear hG9
              have hvb : (rw9 ++ [Value.ref av1]).length ≤ 100000 := by omega
              have hvb1 : 1 ≤ (rw9 ++ [Value.ref av1]).length := by simp
              have hvb2 : rw9.length ≤ 100000 := by rw [List.length_append] at hvb; omega
              try (first | refine bare (s := ⟨_, s.gens, s.drawn, _, s.os⟩) ?_ | refine bare ?_)
              try k_fold
              k_steps
              k_dflt (refine' call_ctr (c_shown w mean mg mb _ (.ref av0) c0 hl vs hs i tv ?ga1 ?ga2 ?ga3 ?ga4 hok ?ga5) ?gaB ?gaF ?gaX ?gaN ?gaT ?gak ?gad ?gau ?gat ?_; (case gaB => k_asm); (case gaF => k_asm); (case gaX => k_asm); (case gaN => k_asm); (case gaT => k_asm); (case gak => exact rfl); (case gad => exact room (b := 3) hd (by decide)); (case gau => exact room (b := 43) hu (by decide)); (case gat => exact Nat.zero_le _); (case ga1 => exact cellAt_mono hcv0 (fun p hp => (.tail _ (.tail _ (.tail _ (.tail _ (.tail _ (.tail _ (.tail _ hp))))))))); (case ga2 => exact H.mono (fun p hp => (.tail _ (.tail _ (.tail _ (.tail _ (.tail _ (.tail _ (.tail _ (hdat5.2 p hp)))))))))); (case ga3 => exact hborn c0 (List.mem_of_getElem? hc0)); (case ga4 => exact Nat.le_of_lt hi); (case ga5 => exact Nat.le_of_eq h7))
              intro v h10 k10 hX39 F10 N10
              refine by_no fun hG9 => ?_
              obtain ⟨t10, rfl⟩ := hX39
              refine hG9 ?_
              clear hG9
              have hhd : (ini ++ [c1]).head? = some c0 := by rw [List.head?_eq_getElem?]; exact hc0
              have hla : (ini ++ [c1]).getLast? = some c1 := by simp
              have hbr := brace_row (hs := hs) (now := i) hhd hla
              try (first | refine bare (s := ⟨_, s.gens, s.drawn, _, s.os⟩) ?_ | refine bare ?_)
              try k_fold
              k_steps
              · rename (S [shown hs i c0] == _) = true => hf
                have hw := of_decide_eq_true (sign_eq less_is hf)
                k_dflt (refine' call_ctr (c_shown w mean mg mb _ (.ref av1) c1 hl vs hs i tv ?gb1 ?gb2 ?gb3 ?gb4 hok ?gb5) ?gbB ?gbF ?gbX ?gbN ?gbT ?gbk ?gbd ?gbu ?gbt ?_; (case gbB => k_asm); (case gbF => k_asm); (case gbX => k_asm); (case gbN => k_asm); (case gbT => k_asm); (case gbk => exact rfl); (case gbd => exact room (b := 3) hd (by decide)); (case gbu => exact room (b := 43) hu (by decide)); (case gbt => exact Nat.zero_le _); (case gb1 => exact cellAt_mono hcv1 (fun p hp => (.tail _ (.tail _ (.tail _ (.tail _ (.tail _ (.tail _ (.tail _ hp))))))))); (case gb2 => exact H.mono (fun p hp => (.tail _ (.tail _ (.tail _ (.tail _ (.tail _ (.tail _ (.tail _ (hdat5.2 p hp)))))))))); (case gb3 => exact hborn c1 (by simp)); (case gb4 => exact Nat.le_of_lt hi); (case gb5 => exact Nat.le_of_eq h7))
                intro v h11 k11 hX39 F11 N11
                refine by_no fun hG9 => ?_
                obtain ⟨t11, rfl⟩ := hX39
                refine hG9 ?_
                clear hG9
                try (first | refine bare (s := ⟨_, s.gens, s.drawn, _, s.os⟩) ?_ | refine bare ?_)
                try k_fold
                k_steps
                · rename (S [shown hs i c1] == _) = true => hf2
                  have hw2 := of_decide_eq_true (sign_eq more_is hf2)
                  rw [if_pos ⟨hw, hw2⟩] at hbr
                  refine end_brace rfl open_is shut_is ?_ ?_ hrc.tail.init hdat5 hbr (by k_asm) (by k_asm)
                  · rfl
                  · rfl
                · rename (S [shown hs i c1] == _) = false => hf2
                  have hw2 := of_decide_eq_false (sign_eq more_is hf2)
                  rw [if_neg (fun x => hw2 x.2)] at hbr
                  exact cut_fin (by k_asm) (drop1 (by k_asm)) ⟨rl, _, kr, rfl, hrm, (by rw [hbr]; exact hrc), hdat5⟩
              · rename (S [shown hs i c0] == _) = false => hf
                have hw := of_decide_eq_false (sign_eq less_is hf)
                rw [if_neg (fun x => hw x.1)] at hbr
                exact cut_fin (by k_asm) (drop1 (by k_asm)) ⟨rl, _, kr, rfl, hrm, (by rw [hbr]; exact hrc), hdat5⟩
            · rcases hcase with rfl | ⟨rfl, hcase⟩
              · try (first | refine bare (s := ⟨_, s.gens, s.drawn, _, s.os⟩) ?_ | refine bare ?_)
                try k_fold
                k_steps
                refine src_str (h₀ := g') (L := L') (J := CJ _ (([60, 58] ++ digits nn ++ [40]).map fun c => (c, i + 1))) rfl (by k_asm) (by k_asm) (CJ0 _ _) ?_ (by decide) rfl rfl ?_ (fun g => rr_eval fun ys nx hJ => ?_)
                · show ([60, 58] ++ digits nn ++ [40]).toArray.size ≤ _
                  rw [List.size_toArray, sizeLine_eq]
                  simp only [List.length_nil, List.length_cons, List.length_append]
                  omega
                · intro g j v J oJ C oC D m₂ ys nx h tk E' hj hX159 hJ hC hx F N off ne
                  refine by_no fun hG9 => ?_
                  obtain ⟨c, u9, hc9, rfl⟩ := hX159
                  refine hG9 ?_
                  clear hG9
                  refine tests_nil ?_
                  rw [if_pos rfl]
                  refine by_no fun hG9 => ?_
                  obtain ⟨tups, rfl, hcells, htup⟩ := id hJ
                  refine hG9 ?_
                  clear hG9
                  have N4 := news_add N (.tail _ (.tail _ (.tail _ (List.mem_append.mpr (.inr (.tail _ (.tail _ (.head _))))))))
                  clear N
                  try (first | refine bare (s := ⟨_, s.gens, s.drawn, _, s.os⟩) ?_ | refine bare ?_)
                  try k_fold
                  k_steps
                  exact cj_end (c := c) (b := i + 1) hJ (text_at hc9) (by k_asm) (comp_drop (by k_asm)) ⟨by k_ne, by k_ne, by k_ne⟩ off
                · unfold LCg.FinE
                  refine by_no fun hG9 => ?_
                  obtain ⟨tups, rfl, hcells, htup⟩ := hJ
                  refine hG9 ?_
                  clear hG9
                  intro D9 h9 k9 F9 N9 o9
                  have N4 := comp_sort N9
                  clear N9 o9
                  have hyl := hcells.len
                  rw [text_all] at hyl hcells
                  rw [List.length_map] at hyl
                  simp only [List.length_nil, List.length_cons, List.length_append] at hyl
                  try (first | refine bare (s := ⟨_, s.gens, s.drawn, _, s.os⟩) ?_ | refine bare ?_)
                  try k_fold
                  k_steps
                  refine end_std (i := i) rfl close_is ?_ hcells hrc htup hdat5 ?_ (by k_asm) (by k_asm)
                  · rfl
                  · exact std_row (by omega)
              · try (first | refine bare (s := ⟨_, s.gens, s.drawn, _, s.os⟩) ?_ | refine bare ?_)
                try k_fold
                k_steps
                refine src_str (h₀ := g') (L := L') (J := CJ _ (([126, 58] ++ digits nn ++ [40]).map fun c => (c, i + 1))) rfl (by k_asm) (by k_asm) (CJ0 _ _) ?_ (by decide) rfl rfl ?_ (fun g => rr_eval fun ys nx hJ => ?_)
                · show ([126, 58] ++ digits nn ++ [40]).toArray.size ≤ _
                  rw [List.size_toArray, sizeLine_eq]
                  simp only [List.length_nil, List.length_cons, List.length_append]
                  omega
                · intro g j v J oJ C oC D m₂ ys nx h tk E' hj hX159 hJ hC hx F N off ne
                  refine by_no fun hG9 => ?_
                  obtain ⟨c, u9, hc9, rfl⟩ := hX159
                  refine hG9 ?_
                  clear hG9
                  refine tests_nil ?_
                  rw [if_pos rfl]
                  refine by_no fun hG9 => ?_
                  obtain ⟨tups, rfl, hcells, htup⟩ := id hJ
                  refine hG9 ?_
                  clear hG9
                  have N4 := news_add N (.tail _ (.tail _ (.tail _ (List.mem_append.mpr (.inr (.tail _ (.tail _ (.head _))))))))
                  clear N
                  try (first | refine bare (s := ⟨_, s.gens, s.drawn, _, s.os⟩) ?_ | refine bare ?_)
                  try k_fold
                  k_steps
                  exact cj_end (c := c) (b := i + 1) hJ (text_at hc9) (by k_asm) (comp_drop (by k_asm)) ⟨by k_ne, by k_ne, by k_ne⟩ off
                · unfold LCg.FinE
                  refine by_no fun hG9 => ?_
                  obtain ⟨tups, rfl, hcells, htup⟩ := hJ
                  refine hG9 ?_
                  clear hG9
                  intro D9 h9 k9 F9 N9 o9
                  have N4 := comp_sort N9
                  clear N9 o9
                  have hyl := hcells.len
                  rw [text_all] at hyl hcells
                  rw [List.length_map] at hyl
                  simp only [List.length_nil, List.length_cons, List.length_append] at hyl
                  try (first | refine bare (s := ⟨_, s.gens, s.drawn, _, s.os⟩) ?_ | refine bare ?_)
                  try k_fold
                  k_steps
                  refine end_std (i := i) rfl close_is ?_ hcells hrc htup hdat5 ?_ (by k_asm) (by k_asm)
                  · rfl
                  · exact std_row (by omega)
            · try (first | refine bare (s := ⟨_, s.gens, s.drawn, _, s.os⟩) ?_ | refine bare ?_)
              try k_fold
              k_steps
              refine cut_fin (by k_asm) (drop1 (by k_asm)) ⟨rl, rv, kr, rfl, hrm, ?_, hdat5⟩
              unfold dueRow
              rw [if_neg hcase.1, if_neg (fun x => hcase.2 x.1), if_neg hcase.2]
              exact hrc
          · intro h9 tk9 m9 dat9 F8 N8 hX69
            refine by_no fun hG9 => ?_
            obtain ⟨rl9, rv9, kr9, e9, hrm9, hrc9, hdat9⟩ := hX69
            refine hG9 ?_
            clear hG9
            have F7 := fr_know e9 F8
            clear F8 F6
            have N7 := news_add N8 (.tail _ (.tail _ (.tail _ (.tail _ (.tail _ (.tail _ hrm9))))))
            clear N8
            have hnx : dueCells hs cs (i + 1) = turned (ways hs i) (dueRow hs i (kk, ho, nn) row) := by
              show turned _ (dueRow hs i (hs.getD i (0, 0, 0)) (turned _ _)) = _
              rw [List.getD_eq_getElem?_getD, he, hrow]; rfl
            have hvb : rv9.length ≤ 200000 := by
              have e1 := hrc9.len
              have e2 := row_len (hs := hs) (now := i) (row := row) hh
              omega
            try (first | refine bare (s := ⟨_, s.gens, s.drawn, _, s.os⟩) ?_ | refine bare ?_)
            try k_fold
            k_steps
            · refine end_due (by k_asm) (by k_asm) (news_in (by k_asm)) ?_
              rw [hnx]
              exact row_turn rfl hrc9 hdat9 (by omega)
            · refine end_due (by k_asm) (by k_asm) (drop1 (by k_asm)) ?_
              rw [hnx]
              exact row_same rfl hrc9 hdat9 hrm9 (by omega)
      · intro mm nx h tk hX49 htk (F : Fr g' L' h mm) (N : News g' L' h _)
        refine DJ.parts hX49 fun cl9 vals kc dat onow v₀ hmc hon hclm hcl hdat e9 => ?_
        clear hX49
        subst e9
        have F9 := fr_know hmc F
        clear F
        have N7 := news_add N (.tail _ (.tail _ (.tail _ (.tail _ (.tail _ hclm)))))
        clear N
        refine by_no fun hG9 => ?_
        obtain ⟨t5, hw5⟩ := ways_at hz (Nat.le_refl hs.length)
        refine hG9 ?_
        clear hG9
        have hvl := hcl.len
        have hcb := cells_len (cs := cs) hok hs.length (Nat.le_refl _)
        have hborn := cells_born hs cs hs.length
        have hwl := writings_len (Nat.le_of_eq h7) (dueCells hs cs hs.length)
        have hdue : due cs hs = turned (ways hs hs.length) (((dueCells hs cs hs.length).map (writing hs)).flatten) := by
          unfold due
          rw [List.flatMap_def]
        generalize dueCells hs cs hs.length = cells at *
        dsimp only
        try (first | refine bare (s := ⟨_, s.gens, s.drawn, _, s.os⟩) ?_ | refine bare ?_)
        try k_fold
        k_steps
        refine keep_list (h₀ := g') (L := L') (vs := vals) (J := fun j zs => StrsAre zs (((cells.take j).map (writing hs)).map S)) rfl (by k_asm) (by k_asm) ?_ .nil ?_ (by decide) rfl rfl ?_ (fun g => rr_eval fun zs nx hJ => ?_)
        · exact .inr ⟨_, .head _, rfl, _, rfl⟩
        · rw [hvl, sizeLine_eq]; omega
        · intro g j v J oJ C oC D m₂ zs nx h tk E' hj hP hJ hC hx F N off ne
          refine by_no fun hG9 => ?_
          obtain ⟨hzs, rfl⟩ := hJ
          refine hG9 ?_
          clear hG9
          have hjc : j < cells.length := by omega
          have hce : cells[j]? = some cells[j] := List.getElem?_eq_getElem hjc
          refine by_no fun hG9 => ?_
          obtain ⟨v', hv', hcv⟩ := hcl.get hce
          refine hG9 ?_
          clear hG9
          have hcm := List.mem_of_getElem? hce
          rw [hP] at hv'
          obtain rfl := Option.some.inj hv'
          refine by_no fun hG9 => ?_
          obtain ⟨av, y1, y2, yk, rfl, hmv⟩ := id hcv
          refine hG9 ?_
          clear hG9
          refine tests_nil ?_
          rw [if_pos rfl]
          refine cut_elt (fun v => ∃ t, v = .str (S (writing hs cells[j])) t) F N ?_ ?_
          · try (first | refine bare (s := ⟨_, s.gens, s.drawn, _, s.os⟩) ?_ | refine bare ?_)
            try k_fold
            k_steps
            k_dflt (refine' call_ctr (c_writing w mean mg mb _ (.ref av) cells[j] hl D7 vs hs ?u1 ?u2 ?u3 ?u4 hok ?u5) ?gB ?gF ?gX ?gN ?gT ?gk ?gd ?gu ?gt ?_; (case gB => k_asm); (case gF => k_asm); (case gX => k_asm); (case gN => k_asm); (case gT => k_asm); (case gk => exact rfl); (case gd => exact room (b := 3) hd (by decide)); (case gu => exact room (b := 63) hu (by decide)); (case gt => exact Nat.zero_le _); (case u1 => exact cellAt_mono hcv (fun p hp => (.tail _ (.tail _ (.tail _ (.tail _ (.tail _ (.tail _ (.tail _ (.tail _ (.tail _ hp))))))))))); (case u2 => exact H.mono (fun p hp => (.tail _ (.tail _ (.tail _ (.tail _ (.tail _ (.tail _ (.tail _ (.tail _ (.tail _ (hdat.2 p hp)))))))))))); (case u3 => exact ⟨ws, _, (by k_mem), hz⟩); (case u4 => exact hborn _ hcm); (case u5 => exact Nat.le_of_eq h7))
            intro v h10 k10 hX39 F10 N10
            refine by_no fun hG9 => ?_
            obtain ⟨t10, rfl⟩ := hX39
            refine hG9 ?_
            clear hG9
            exact ⟨⟨_, rfl⟩, h10, k10, rfl, F10, N10⟩
          · intro v h10 k10 hX39 F10 N10
            refine by_no fun hG9 => ?_
            obtain ⟨t10, rfl⟩ := hX39
            refine hG9 ?_
            clear hG9
            refine ⟨h10, k10, _, rfl, F10, N10, off, trivial, ?_, rfl⟩
            rw [List.take_add_one, hce, List.map_append, List.map_append]
            exact strs_snoc hzs _ _
        · refine by_no fun hG9 => ?_
          obtain ⟨hzs, rfl⟩ := hJ
          refine hG9 ?_
          clear hG9
          unfold LCg.FinE
          intro D9 h9 k9 F8 N8 o9
          rw [hvl, List.take_length] at hzs
          try (first | refine bare (s := ⟨_, s.gens, s.drawn, _, s.os⟩) ?_ | refine bare ?_)
          try k_fold
          k_steps
          refine join_Z (N := N8) (.head _) hzs (by omega) ?_
          intro t11 k11
          try (first | refine bare (s := ⟨_, s.gens, s.drawn, _, s.os⟩) ?_ | refine bare ?_)
          try k_fold
          k_steps
          · refine hret _ _ _ ⟨_, congrArg (Value.str · _) ?_⟩ (by k_asm) (news_sub (b := news) (by k_asm) (fun p hp => (.tail _ (.tail _ (.tail _ (.tail _ (.tail _ (.tail _ (.tail _ (hdat.2 p hp))))))))))
            rw [hdue]
            unfold turned
            rw [if_pos (by omega)]
          · refine hret _ _ _ ⟨_, congrArg (Value.str · _) ?_⟩ (by k_asm) (news_sub (b := news) (by k_asm) (fun p hp => (.tail _ (.tail _ (.tail _ (.tail _ (.tail _ (.tail _ (.tail _ (hdat.2 p hp))))))))))
            rw [hdue]
            unfold turned
            rw [if_neg (by omega)]
end Zn
end
section
open PySem PySem.W PyProof.Rows
set_option maxRecDepth 100000
namespace Zn
theorem due_is (cs : List Nat) (hs : List Hand) (hok : ∀ h ∈ hs, HandOk h) : due cs hs = worked cs hs := due_worked cs hs.length hs rfl fun h hh => (hok h hh).1
theorem signs_good {cs : List Nat} (h5 : cs.length = 5) (hcs : ∀ c ∈ cs, c ∈ [60, 62, 13, 38, 32, 34, 9, 97, 10]) : GoodL cs := by
  refine ⟨fun e => (by rw [e] at h5; simp at h5), fun c hc => ?_⟩
  exact (by decide : ∀ c ∈ [60, 62, 13, 38, 32, 34, 9, 97, 10], okc c = true) c (hcs c hc)
theorem handsAt_N {h₀ h : Heap} {L : Addr} {tups base : List (Addr × Obj)} {Lh : Addr} {vsH : List Value} {hsH : List Hand} {i : Nat} (_N : News h₀ L h ((Lh, LCg.lst vsH) :: (tups ++ base)))
    (hat : ∀ (j : Nat) (v : Value) (h : Hand), vsH[j]? = some v → hsH[j]? = some h → HandAt tups v h) (hl1 : vsH.length = i) (hl2 : hsH.length = i) : HandsAt ((Lh, LCg.lst vsH) :: (tups ++ base)) Lh vsH hsH :=
  handsAt_of hat hl1 hl2 (.head _) fun _ hp => .tail _ (List.mem_append.mpr (.inl hp))
theorem signsAt_N {h₀ h : Heap} {L : Addr} {tups base : List (Addr × Obj)} {p q : Addr × Obj} {D : Addr} {ys : List Value} {cs : List Nat} (_N : News h₀ L h (p :: (tups ++ (q :: (D, LCg.lst ys) :: base)))) (hz : StrsAre ys ((cs.map fun c => [c]).map S)) : SignsAt (p :: (tups ++ (q :: (D, LCg.lst ys) :: base))) D cs :=
  ⟨ys, .tail _ (List.mem_append.mpr (.inr (.tail _ (.head _)))), hz⟩
end Zn
end
section
theorem Zn.fresh_ZLaw0 (M : PySem.Model) (A : PySem.Around) (env : PySem.Env) (E : PySem.Value → PySem.Shared → Prop) (s : PySem.Shared) : PySem.wpAny M A (PySem.execs [] env) (fun _ _ => True) E s := by
  w_top off
  k_with_none
  walk1
  trivial
open PySem PySem.W PyProof.Rows PySem.Spec PySem.Calls
set_option maxRecDepth 100000
namespace Zn
theorem P_cellsN {prog : Program} {w : World} {A : Around} {R : Result → Shared → Prop} {s : Shared} {name : Str} {params : Arguments} {body : List Stmt} {scope : Scope}
    {pm cd doc : Value} {a : Addr} {o : Obj} {args : List Value} {binds : List (Str × Value)}
    (hroom : A.depth < recursionLimit) (ho : s.heap.get? a = some o) (hdata : o.data = .func (Calls.docDef name params body scope pm cd doc)) (hlim : s.heap.NoLimit) (hcd : s.heap.CodeRec cd name)
    (hbind : bindArgs (Calls.docDef name params body scope pm cd doc) ⟨args, []⟩ = pure binds)
    (hkind : ∀ x ∈ binds, scope.names.lookup x.1 = some .local ∨ (scope.names.lookup x.1 = some .cell ∧ ((cellsFrom (s.heap.objs.size + 1) scope.names []).lookup x.1).isSome = true))
    (hnd : ((cellsFrom 0 scope.names []).map (·.1)).Nodup)
    (h : ∀ h₁ tk cells, Fr s.heap s.heap.objs.size h₁ (bindL (envOfC name scope s.heap.objs.size a cd).kindOf binds fun _ => none) → News s.heap s.heap.objs.size h₁ cells →
      CellsAre (bindC (envOfC name scope s.heap.objs.size a cd).kindOf binds fun _ => none) (cellsFrom (s.heap.objs.size + 1) scope.names []) cells →
      wpP (model prog w) (A.deeper (envOfC name scope s.heap.objs.size a cd)) (execs body (envOfC name scope s.heap.objs.size a cd))
        (fun f s' => R (.ok (.ret (match f with | .ret v => v | _ => .none))) s') Nev { s with heap := h₁, toks := tk })
    (hco : scope.isCoroutine = false := by rfl) (hgen : scope.isGenerator = false := by rfl) (hk : scope.kind = .function := by rfl) :
    codeP (model prog w) A (.call (.ref a) ⟨args, []⟩) R s := by
  refine codeP_call hroom ho hdata hco hgen rfl hcd (wpAny_of_eq hbind ?_)
  refine wpAny_newFunctionEnv_cells hk hkind fun env' he s' x => ?_
  subst he
  refine ⟨hlim.keeps x.toInCall.keep, codeP_func ?_⟩
  obtain ⟨h₁, tk, rfl, _⟩ := x.done
  have hk₁ := x.toInCall.keep
  obtain ⟨cells, NC, Y⟩ := Cl.news (h₀ := s.heap) (Nat.le_refl _) fun n c hm => ⟨x.cell n c (lookup_of_mem_nodup (cellsFrom_names scope.names 0 (s.heap.objs.size + 1) [] [] rfl ▸ hnd) hm), x.above n c hm⟩
  exact h h₁ tk cells ⟨x.toInCall.ns, hk₁, Nat.le_refl _⟩ NC Y
/-- the law's end: True, and the old heap kept -/
noncomputable def EndsTrue (s₁ : Shared) (f : Flow) (s' : Shared) : Prop := f = .ret (.bool true) ∧ ∃ h' tk' L' m', Fr s₁.heap L' h' m' ∧ s' = { s₁ with heap := h', toks := tk' }
theorem P_ends {prog : Program} {w : World} {A : Around} {s s₁ : Shared} {b : List Stmt} {env : Env} {Q : Flow → Shared → Prop} (h : wpP (model prog w) A (execs b env) (EndsTrue s₁) Nev s) (h2 : ∀ f s', EndsTrue s₁ f s' → Q f s') : wpP (model prog w) A (execs b env) Q Nev s :=
  P_mono h h2 fun _ _ x => x
theorem item_pick {x : Str} (l : List Nat) (n : Nat) (hx : x = S l) (hn : l.length = n) (h0 : 0 < n) (e : Int) : ∃ c, c ∈ l ∧ Txt.item x (e.fmod (n : Int)) = S [c] := by
  subst hx
  have h1 : 0 ≤ e.fmod (n : Int) := Int.fmod_nonneg_of_pos e (by omega)
  have h2 : e.fmod (n : Int) < n := Int.fmod_lt_of_pos e (by omega)
  have h3 : (e.fmod (n : Int)).toNat < l.length := by omega
  refine ⟨l[(e.fmod (n : Int)).toNat], List.getElem_mem h3, ?_⟩
  rw [item_meets ⟨h1, by rw [S_len, hn]; exact h2⟩]
  have : (S l).cps.getD (e.fmod (n : Int)).toNat 0 = l[(e.fmod (n : Int)).toNat] := by
    simp [S, Array.getD, h3]
  rw [this]
  rfl
theorem sub4 : ∀ c ∈ [60, 62, 13, 38], c ∈ [60, 38, 32, 13, 62, 34, 9, 97, 10] := by decide
theorem sub5 : ∀ c ∈ [62, 60, 9, 38], c ∈ [60, 38, 32, 13, 62, 34, 9, 97, 10] := by decide
theorem signs_sub : ∀ c ∈ [60, 38, 32, 13, 62, 34, 9, 97, 10], c ∈ [60, 62, 13, 38, 32, 34, 9, 97, 10] := by decide
local macro_rules | `(tactic| walk_at $s:str) => `(tactic| k_extra $s)
theorem ints_cons {ys : List Value} {zs : List Int} {n : Nat} (h : IntsAre ys zs) (hl : zs.length = n + 1) : ∃ z t ys' zs', ys = .int z t :: ys' ∧ IntsAre ys' zs' ∧ zs'.length = n := by
  cases h with
  | nil => cases hl
  | cons z t r => exact ⟨z, t, _, _, rfl, r, by simpa using hl⟩
theorem ints4 {ys : List Value} {zs : List Int} {n : Nat} (hz : IntsAre ys zs) (hl : zs.length = n + 4) {G : Prop} (k : ∀ (a b c d : Int) (p q r u : Tok) ys' zs', ys = .int a p :: .int b q :: .int c r :: .int d u :: ys' → IntsAre ys' zs' → zs'.length = n → G) : G := by
  obtain ⟨a, p, y1, z1, e1, h1, l1⟩ := ints_cons hz hl
  obtain ⟨b, q, y2, z2, e2, h2, l2⟩ := ints_cons h1 l1
  obtain ⟨c, r, y3, z3, e3, h3, l3⟩ := ints_cons h2 l2
  obtain ⟨d, u, y4, z4, e4, h4, l4⟩ := ints_cons h3 l3
  exact k a b c d p q r u y4 z4 (by rw [e1, e2, e3, e4]) h4 l4
theorem ints12 {ys : List Value} {zs : List Int} (hz : IntsAre ys zs) (hzl : zs.length = 12) {G : Prop} (k : ∀ (z0 z1 z2 z3 z4 z5 z6 z7 z8 z9 z10 z11 : Int) (q0 q1 q2 q3 q4 q5 q6 q7 q8 q9 q10 q11 : Tok), ys = [.int z0 q0, .int z1 q1, .int z2 q2, .int z3 q3, .int z4 q4, .int z5 q5, .int z6 q6, .int z7 q7, .int z8 q8, .int z9 q9, .int z10 q10, .int z11 q11] → G) : G := by
  refine ints4 (n := 8) hz hzl fun z0 z1 z2 z3 q0 q1 q2 q3 y1 _ e1 h1 l1 => ?_
  refine ints4 (n := 4) h1 l1 fun z4 z5 z6 z7 q4 q5 q6 q7 y2 _ e2 h2 l2 => ?_
  refine ints4 (n := 0) h2 l2 fun z8 z9 z10 z11 q8 q9 q10 q11 y3 zs3 e3 h3 l3 => ?_
  have e4 : y3 = [] := by cases h3 with | nil => rfl | cons => cases l3
  exact k _ _ _ _ _ _ _ _ _ _ _ _ _ _ _ _ _ _ _ _ _ _ _ _ (by rw [e1, e2, e3, e4])
theorem append_Z {prog : Program} {w : World} {A : Around} {E : Value → Shared → Prop} {s : Shared} {h₀ : Heap} {L : Addr} {m : Str → Option Value} {p q : Addr × Obj} {Lh : Addr} {vs : List Value} {x : Value} {rest : List (Addr × Obj)} {Q : Value → Shared → Prop}
    (F : Fr h₀ L s.heap m) (N : News h₀ L s.heap (p :: q :: (Lh, LCg.lst vs) :: rest)) (hp : p.1 ≠ Lh) (hq : q.1 ≠ Lh) (hr : ∀ z ∈ rest, z.1 ≠ Lh) (hz : vs.length ≤ sizeLine)
    (h : ∀ h', Fr h₀ L h' m → News h₀ L h' (p :: q :: (Lh, LCg.lst (vs ++ [x])) :: rest) → Q .none { s with heap := h' }) : wpAny (model prog w) A (call (.builtin "list.append") [.ref Lh, x]) Q E s := by
  have ND := N (Lh, LCg.lst vs) (.tail _ (.tail _ (.head _)))
  refine append_at (hsz := by show vs.toArray.size ≤ sizeLine; simpa using hz) ND.1 fun h' hs hD' => h h' (F.change hs ND.2.1 ND.2.2) fun z hz' => ?_
  rcases List.mem_cons.mp hz' with rfl | hz'
  · exact ⟨hs.extBut _ _ hp (N _ (.head _)).1, (N _ (.head _)).2⟩
  · rcases List.mem_cons.mp hz' with rfl | hz'
    · exact ⟨hs.extBut _ _ hq (N _ (.tail _ (.head _))).1, (N _ (.tail _ (.head _))).2⟩
    · rcases List.mem_cons.mp hz' with rfl | hz'
      · exact ⟨hD'.trans (congrArg some (LCg.lst_snoc vs x)), ND.2⟩
      · have N' := N z (.tail _ (.tail _ (.tail _ hz')))
        exact ⟨hs.extBut _ _ (hr z hz') N'.1, N'.2⟩
local macro_rules | `(tactic| k_lt $h:ident) => `(tactic| replace $h := allLt_of $h)
local macro_rules | `(tactic| x_head) => `(tactic| k_extra "x_head")
local macro_rules | `(tactic| z_head) => `(tactic| k_extra "z_head")
local macro_rules | `(tactic| k_ne) => `(tactic| k_extra "k_ne")
local macro_rules | `(tactic| k_all) => `(tactic| k_extra "k_all")
set_option maxHeartbeats 8000000 in
theorem law_holds : PySem.Challenge.rw_zn0007_01.Holds := by
  k_with_none
  k_with "x_head" => ((repeat (first | with_reducible exact m0 | with_reducible refine m1 ?_)))
  k_with "z_head" => (first | with_reducible assumption | exact up1 _ | exact up2 _ | exact up3 _ | (refine' lt_ne ?q1h ?q1m; (case q1h => with_reducible assumption); (case q1m => x_head)) | (refine' off_ne ?q1h ?q1m; (case q1h => with_reducible assumption); (case q1m => x_head)) | (refine' all_ne1 ?q1h ?q1m; (case q1h => with_reducible assumption); (case q1m => x_head)) | (refine' lt_ne_le ?q1h (le1 _) ?q1m; (case q1h => with_reducible assumption); (case q1m => x_head)) | (refine' lt_ne_le ?q1h (le2 _) ?q1m; (case q1h => with_reducible assumption); (case q1m => x_head)) | (refine' lt_ne_le ?q1h (le3 _) ?q1m; (case q1h => with_reducible assumption); (case q1m => x_head)) | (refine' lt_ne_le ?q1h (le4 _) ?q1m; (case q1h => with_reducible assumption); (case q1m => x_head)))
  k_with "k_ne" => ((refine neN ?_; (try dsimp only); first | z_head | (refine Ne.symm ?_; z_head) | assumption | (refine Ne.symm ?_; assumption)))
  k_with "k_all" => (first | with_reducible assumption | (refine' lt_suf ?q3h ?q3s; (case q3h => with_reducible assumption); (case q3s => (intro p hp; repeat (first | with_reducible exact hp | with_reducible refine m1 ?_)))) | (refine' off_suf ?q3h ?q3s; (case q3h => with_reducible assumption); (case q3s => (intro p hp; repeat (first | with_reducible exact hp | with_reducible refine m1 ?_)))) | (refine' lt_le ?q3h (le1 _); (case q3h => with_reducible assumption)) | (refine' lt_le ?q3h (le2 _); (case q3h => with_reducible assumption)) | (refine' lt_le ?q3h (le3 _); (case q3h => with_reducible assumption)) | (refine' lt_le ?q3h (le4 _); (case q3h => with_reducible assumption)) | (refine' List.forall_mem_cons.mpr ⟨?q3a, ?q3b⟩; (case q3a => k_ne); (case q3b => k_all)))
  k_with "eval ListComp" => ((k_here; k_dflt (refine' ListComp_Z ?q0a ?q0b ?q0c ?_ ?q0e; (case q0a => exact rfl); (case q0b => exact rfl); (case q0c => decide); (case q0e => exact (fun _ => rfl)))))
  k_with "call builtin:sum" => ((k_here; k_dflt (refine' sum_Z ?q1h ?q1F ?q1N ?q1m ?q1i ?_; (case q1h => exact rfl); (case q1F => k_asm); (case q1N => k_asm); (case q1m => exact List.Mem.head _); (case q1i => assumption)); intro _ _ _ _ _ _))
  k_with "exec Assign cons ListComp" => ((k_here; k_dflt (refine' Assign_ListComp_Z ?q2s ?q2a ?q2b ?q2c ?_ ?q2e; (case q2s => with_unfolding_all rfl); (case q2a => exact rfl); (case q2b => exact rfl); (case q2c => decide); (case q2e => exact (fun _ => rfl)))))
  refine Zn.hd ?_
  k_fill
  intro w s₀ s₁ mg mb G Y fa o pm cd doc dV kV ho hd hcd hD hmg hg args vals as hpre hlay hrd hwl hlo
  have KX := kIn_of Y
  have X := (Ground.X G).1
  have V := (Ground.X G).2
  refine Ground.open G ?_
  intro T B D TE TW
  have TA := at_of_top T
  clear hmg
  wrow_args hpre hlay hrd hwl hlo
  have he := Dflts.none hD rfl
  subst he
  have he := Dflts.noKw hD
  subst he
  refine P_call ?_
  refine P_cellsN (binds := [(Str.ofString "script", _)]) (by decide) ho (fd_plain hd) (Top.nolimit T) hcd rfl (kinds_of (by kinds_ok)) (by decide) fun h₁ tk₁ cells F N0 X0 => ?_
  have K0 := below_caller (Top.heap T)
  refine P_ends (s₁ := s₁) ?_ ?_
  · cells_open X0
    clear hd TA
    k_drop
    dsimp only
    refine P_execs_cons ?_
    refine P_any ?_
    try refine bare ?_
    try k_fold
    k_steps
    clear G Y ho hcd X V B D TE TW hD
    refine P_execs_cons ?_
    refine P_any ?_
    try refine bare ?_
    try k_fold
    k_steps
    refine keep_range (h₀ := s₁.heap) (L := s₁.heap.objs.size) (n := 12) (J := fun i ys => ∃ zs, IntsAre ys zs ∧ zs.length = i) rfl (by k_asm) (by k_asm) (by assumption) (by decide) rfl ⟨[], .nil, rfl⟩ (by decide) (by decide) rfl rfl ?_ (fun g => rr_eval fun ys nx hJ => ?_)
    · intro g i v I oI C oC D m₂ ys nx h tk E' hi hP hJ hC hx F N off ne
      refine by_no fun hG9 => ?_
      obtain ⟨t9, rfl⟩ := hP
      obtain ⟨⟨zs, hz, hzl⟩, rfl⟩ := hJ
      refine hG9 ?_
      clear hG9
      refine tests_nil ?_
      rw [if_pos rfl]
      try refine bare ?_
      try k_fold
      k_steps
      refine ⟨_, _, _, rfl, by k_asm, drop1 (by k_asm), off, trivial, ⟨zs ++ [_], ints_snoc hz _ _, by simp [hzl]⟩, rfl⟩
    · refine by_no fun hG9 => ?_
      obtain ⟨⟨zs, hz, hzl⟩, rfl⟩ := hJ
      refine hG9 ?_
      clear hG9
      refine ints12 hz hzl fun z0 z1 z2 z3 z4 z5 z6 z7 z8 z9 z10 z11 q0 q1 q2 q3 q4 q5 q6 q7 q8 q9 q10 q11 e9 => ?_
      subst e9
      try refine bare ?_
      try k_fold
      k_steps
      refine P_execs_cons ?_
      refine P_any ?_
      try refine bare ?_
      try k_fold
      k_steps
      refine P_execs_cons ?_
      refine P_any ?_
      try refine bare ?_
      try k_fold
      k_steps
      refine keep_range (h₀ := s₁.heap) (L := s₁.heap.objs.size) (n := 5) (J := fun i ys => ∃ cs : List Nat, StrsAre ys ((cs.map fun c => [c]).map S) ∧ cs.length = i ∧ ∀ c ∈ cs, c ∈ [60, 62, 13, 38, 32, 34, 9, 97, 10]) rfl (by k_asm) (by k_asm) (by assumption) (by decide) rfl ⟨[], .nil, rfl, fun c hc => nomatch hc⟩ (by decide) (by decide) rfl rfl ?_ (fun g => rr_assignB (by rfl) (by rfl) (by rfl) fun ys nx hJ => ?_)
      · intro g i v I oI C oC D m₂ ys nx h tk E' hi hP hJ hC hx F N off ne
        refine by_no fun hG9 => ?_
        obtain ⟨t9, rfl⟩ := hP
        obtain ⟨⟨cs, hz, hzl, hok⟩, rfl⟩ := hJ
        refine hG9 ?_
        clear hG9
        refine tests_nil ?_
        rw [if_pos rfl]
        rcases (by omega : i = 0 ∨ i = 1 ∨ i = 2 ∨ i = 3 ∨ i = 4) with rfl | rfl | rfl | rfl | rfl
        · try refine bare ?_
          try k_fold
          k_steps
          refine by_no fun hG9 => ?_
          obtain ⟨c, hc, e⟩ := item_pick (x := Str.ofString "<>\r&") [60, 62, 13, 38] 4 (by decide +kernel) rfl (by decide) (zs.getD (0 + ((0 : Nat) : Int)).toNat 0)
          refine hG9 ?_
          clear hG9
          rw [e]
          refine ⟨_, _, _, rfl, by k_asm, by k_asm, off, trivial, ⟨cs ++ [c], ?_, by simp [hzl], fun d hd => ?_⟩, rfl⟩
          · rw [List.map_append, List.map_append]; exact strs_snoc hz _ _
          · rcases List.mem_append.mp hd with hd | hd
            · exact hok d hd
            · rw [List.mem_singleton.mp hd]; exact signs_sub c (sub4 c hc)
        · try refine bare ?_
          try k_fold
          k_steps
          refine by_no fun hG9 => ?_
          obtain ⟨c, hc, e⟩ := item_pick (x := Str.ofString "<& \r>\"\ta\n") [60, 38, 32, 13, 62, 34, 9, 97, 10] 9 (by decide +kernel) rfl (by decide) (zs.getD (0 + ((1 : Nat) : Int)).toNat 0)
          refine hG9 ?_
          clear hG9
          rw [e]
          refine ⟨_, _, _, rfl, by k_asm, by k_asm, off, trivial, ⟨cs ++ [c], ?_, by simp [hzl], fun d hd => ?_⟩, rfl⟩
          · rw [List.map_append, List.map_append]; exact strs_snoc hz _ _
          · rcases List.mem_append.mp hd with hd | hd
            · exact hok d hd
            · rw [List.mem_singleton.mp hd]; exact signs_sub c hc
        · try refine bare ?_
          try k_fold
          k_steps
          refine by_no fun hG9 => ?_
          obtain ⟨c, hc, e⟩ := item_pick (x := Str.ofString "<& \r>\"\ta\n") [60, 38, 32, 13, 62, 34, 9, 97, 10] 9 (by decide +kernel) rfl (by decide) (zs.getD (0 + ((2 : Nat) : Int)).toNat 0)
          refine hG9 ?_
          clear hG9
          rw [e]
          refine ⟨_, _, _, rfl, by k_asm, by k_asm, off, trivial, ⟨cs ++ [c], ?_, by simp [hzl], fun d hd => ?_⟩, rfl⟩
          · rw [List.map_append, List.map_append]; exact strs_snoc hz _ _
          · rcases List.mem_append.mp hd with hd | hd
            · exact hok d hd
            · rw [List.mem_singleton.mp hd]; exact signs_sub c hc
        · try refine bare ?_
          try k_fold
          k_steps
          refine by_no fun hG9 => ?_
          obtain ⟨c, hc, e⟩ := item_pick (x := Str.ofString "<& \r>\"\ta\n") [60, 38, 32, 13, 62, 34, 9, 97, 10] 9 (by decide +kernel) rfl (by decide) (zs.getD (0 + ((3 : Nat) : Int)).toNat 0)
          refine hG9 ?_
          clear hG9
          rw [e]
          refine ⟨_, _, _, rfl, by k_asm, by k_asm, off, trivial, ⟨cs ++ [c], ?_, by simp [hzl], fun d hd => ?_⟩, rfl⟩
          · rw [List.map_append, List.map_append]; exact strs_snoc hz _ _
          · rcases List.mem_append.mp hd with hd | hd
            · exact hok d hd
            · rw [List.mem_singleton.mp hd]; exact signs_sub c hc
        · try refine bare ?_
          try k_fold
          k_steps
          refine by_no fun hG9 => ?_
          obtain ⟨c, hc, e⟩ := item_pick (x := Str.ofString "><\t&") [62, 60, 9, 38] 4 (by decide +kernel) rfl (by decide) (zs.getD (0 + ((4 : Nat) : Int)).toNat 0)
          refine hG9 ?_
          clear hG9
          rw [e]
          refine ⟨_, _, _, rfl, by k_asm, by k_asm, off, trivial, ⟨cs ++ [c], ?_, by simp [hzl], fun d hd => ?_⟩, rfl⟩
          · rw [List.map_append, List.map_append]; exact strs_snoc hz _ _
          · rcases List.mem_append.mp hd with hd | hd
            · exact hok d hd
            · rw [List.mem_singleton.mp hd]; exact signs_sub c (sub5 c hc)
      · refine by_no fun hG9 => ?_
        obtain ⟨⟨cs, hzs, hcl, hok⟩, rfl⟩ := hJ
        refine hG9 ?_
        clear hG9
        unfold FinB
        intro D7 h7 k7 F7 N7 o7
        try refine bare ?_
        try k_fold
        k_steps
        refine P_execs_cons ?_
        refine P_any ?_
        try refine bare ?_
        try k_fold
        k_steps
        refine P_execs_cons ?_
        refine P_any ?_
        refine wpAny_For ?_ (fun _ => rfl)
        try refine bare ?_
        try k_fold
        k_steps
        rename Fr _ _ _ _ => F9
        rename News _ _ _ _ => N9
        have hbase := fun z hz => (base_ne (r := _) N9 (by repeat (first | exact True.intro | refine And.intro (by k_ne) ?_))) z hz
        refine iter_list (h₀ := s₁.heap) (vs := [.int z5 q5, .int z6 q6, .int z7 q7, .int z8 q8, .int z9 q9, .int z10 q10, .int z11 q11]) (J := HJ _ _ _) rfl F9 (swap2 N9) ?_ HJ0 (.inl fun _ _ => rfl) ?_ ?_
        · intro i mm nx hX39
          refine by_no fun hG9 => ?_
          obtain ⟨_, vsH, hsH, tups, rfl, _⟩ := hX39
          refine hG9 ?_
          clear hG9
          exact .inr ⟨_, .tail _ (List.mem_append.mpr (.inr (.head _))), rfl, _, rfl⟩
        · intro i v I oI mm nx h tk hv hX99 htk F8 N8 hkd hoI
          refine by_no fun hG9 => ?_
          obtain ⟨hm, vsH, hsH, tups, rfl, hl1, hl2, hat, hhok, htup⟩ := hX99
          refine hG9 ?_
          clear hG9
          obtain ⟨z, q, rfl⟩ : ∃ z q, v = .int z q := by
            have := List.mem_of_getElem? hv
            simp only [List.mem_cons, List.not_mem_nil, or_false] at this
            rcases this with rfl | rfl | rfl | rfl | rfl | rfl | rfl <;> exact ⟨_, _, rfl⟩
          clear F9 N9
          try refine bare ?_
          try k_fold
          k_steps
          rename Fr _ _ _ _ => F6
          rw [hands_upd hm] at F6
          try refine bare ?_
          try k_fold
          k_steps
          have hi7 : i < 7 := (List.getElem?_eq_some_iff.mp hv).1
          k_dflt (refine' append_Z ?F ?N ?x1 ?x2 ?x3 ?x4 ?_; (case F => k_asm); (case N => k_asm); (case x1 => k_ne); (case x2 => exact Ne.symm (hoI _ (.head _))); (case x4 => show vsH.length ≤ _; rw [sizeLine_eq]; omega); (case x3 => intro y hy; rcases List.mem_append.mp hy with hy | hy; exact (htup y hy).1; exact hbase y hy))
          intro h5 F5 N5
          try refine bare ?_
          try k_fold
          k_steps
          refine by_no fun hG9 => ?_
          obtain ⟨home, hho, eh⟩ := item_pick (x := Str.ofString "~<") [126, 60] 2 (by decide +kernel) rfl (by decide) ((z.fdiv 6).fdiv 2)
          refine hG9 ?_
          clear hG9
          have hho' : home = 126 ∨ home = 60 := by simpa using hho
          exact end_hands (hnd := handOf z home) (fun y e1 e2 => (if_neg e2).trans (if_neg e1)) hl1 hl2 hat hhok htup (handOf_ok hho') ⟨_, congrArg (Value.int · _) (handOf_1 z home)⟩ ⟨_, congrArg (Value.str · _) eh⟩ ⟨_, congrArg (Value.int · _) (handOf_3 z home)⟩ (by k_ne) (fun p hp => .tail _ hp) F5 N5
        · intro mm nx h tk hX49 htk (F8 : Fr s₁.heap s₁.heap.objs.size h mm) (N8 : News s₁.heap s₁.heap.objs.size h _)
          refine by_no fun hG9 => ?_
          obtain ⟨hm, vsH, hsH, tups, rfl, hl1, hl2, hat, hhok, htup⟩ := hX49
          refine hG9 ?_
          clear hG9
          clear F9 N9
          have hS := (hm (Str.ofString "signs") (by decide +kernel) (by decide +kernel)).trans rfl
          have hH := (hm (Str.ofString "hands") (by decide +kernel) (by decide +kernel)).trans rfl
          have F5 := fr_know hS F8
          have F6 := fr_know (x := Str.ofString "hands") ((if_neg (by decide +kernel)).trans hH) F5
          clear F5
          clear F8
          dsimp only
          refine P_execs_cons ?_
          refine P_Return ?_
          refine P_Compare1 ?_ rfl
          refine P_Call ?_ rfl
          try refine bare ?_
          try k_fold
          k_steps
          k_dflt (refine' P_callDef (h₀ := s₁.heap) (L := s₁.heap.objs.size) ?X ?o ?_ ?he; (case X => exact KX); (case o => k_is); (case he => exact rfl))
          try refine bare ?_
          try k_fold
          k_steps
          have hflat : ((cs.map fun c => [c]).flatten) = cs := flat_one cs
          refine join_Z (N := N8) (.tail _ (List.mem_append.mpr (.inr (.tail _ (.head _))))) hzs (by rw [hflat, hcl]; decide) ?_
          intro t11 k11
          rw [hflat]
          have H8 := handsAt_N N8 hat hl1 hl2
          have S8 := signsAt_N N8 hzs
          try refine bare ?_
          try k_fold
          k_steps
          refine ⟨⟨_, by k_asm⟩, ?_⟩
          k_dflt (refine' call_ctrP (c_worked w _ mg mb _ cs t11 _ vsH hsH ?s1 ?s2 H8 ?s3 hhok) ?gB ?gF ?gX ?gN ?gT ?gk ?gd ?gu ?gt ?_; (case s1 => omega); (case s2 => exact signs_good hcl hok); (case s3 => exact Nat.le_of_eq hl2); (case gB => k_asm); (case gF => k_asm); (case gX => k_asm); (case gN => k_asm); (case gT => k_asm); (case gk => exact rfl); (case gd => decide); (case gu => decide); (case gt => exact Nat.zero_le _))
          intro v h10 k10 hX39 F10 N10
          refine by_no fun hG9 => ?_
          obtain ⟨t10, rfl⟩ := hX39
          refine hG9 ?_
          clear hG9
          refine P_Call ?_ rfl
          try refine bare ?_
          try k_fold
          k_steps
          k_dflt (refine' P_callDef (h₀ := s₁.heap) (L := s₁.heap.objs.size) ?X ?o ?_ ?he; (case X => exact KX); (case o => k_is); (case he => exact rfl))
          try refine bare ?_
          try k_fold
          k_steps
          refine ⟨⟨_, by k_asm⟩, ?_⟩
          refine P_any ?_
          k_dflt (refine' call_ctr (c_due w _ mg mb _ _ _ cs vsH hsH S8 H8 ?s1 ?s2 hhok hok) ?gB ?gF ?gX ?gN ?gT ?gk ?gd ?gu ?gt ?_; (case s1 => exact hcl); (case s2 => exact hl2); (case gB => k_asm); (case gF => k_asm); (case gX => k_asm); (case gN => k_asm); (case gT => k_asm); (case gk => exact rfl); (case gd => decide); (case gu => decide); (case gt => exact Nat.zero_le _))
          intro v h12 k12 hX39 F12 N12
          refine by_no fun hG9 => ?_
          obtain ⟨t12, rfl⟩ := hX39
          refine hG9 ?_
          clear hG9
          rw [due_is cs hsH hhok]
          try refine bare ?_
          try k_fold
          k_steps
          exact ⟨by rw [beq_self_eq_true], h12, k12, _, _, F12, rfl⟩
  · intro f s' hX29
    refine by_no fun hG9 => ?_
    obtain ⟨rfl, h', tk', L', m', F', rfl⟩ := hX29
    refine hG9 ?_
    clear hG9
    dsimp only
    refine GoodW.toG ⟨.inl ⟨_, ofPy (.bool true), [], rfl, ?_, ?_, ?_, fun _ => ⟨List.nodup_nil, fun a ha => nomatch ha⟩⟩, F'.keep, rfl, hg⟩
    · exact raisesW_false (by wrow_none_raised)
    · w_reads
    · exact postW_of (by wrow_shape) (by wtm_val) (by w_fin)
end Zn
end
theorem PySem.Challenge.cw_zn0007_01_holds : PySem.Challenge.rw_zn0007_01.Holds :=
  Zn.law_holds
