import PyProof.Rows.All
import Wide.All
import OpenK.AllK
import Wide.FinOn
import PySem.Challenge.RW_md0041_01
set_option Elab.async false

section QClean
open PySem PySem.W PyProof.Rows
set_option linter.unusedVariables false
set_option maxRecDepth 100000
namespace Mine

/-- the heap's size only grows -/
theorem runs_size {M : Model} {Γ : Ctx} {p : Pos} {t : Sem Fin} {fs : List Frame} {s s' : Shared} {e : End} (h : Runs M Γ p t fs s e s') : s.heap.objs.size ≤ s'.heap.objs.size := by
  induction h <;> (try simp only [Shared.setGen, Heap.size_push, Heap.size_after_update] at *) <;> omega
theorem wakes_size {M : Model} {Γ : Ctx} {p : Pos} {g : Nat} {r : Resume} {s s' : Shared} {res : GenResult} (h : Wakes M Γ p g r s res s') : s.heap.objs.size ≤ s'.heap.objs.size := by
  unfold Wakes at h
  split at h
  · exact h.elim
  · split at h
    · obtain ⟨e₁, s₁, hr, _, _, rfl⟩ := h; exact (runs_size hr : (s.setGen g .running).heap.objs.size ≤ s₁.heap.objs.size)
    · rw [h.2]; exact Nat.le_refl _
    · rw [h.2]; exact Nat.le_refl _
  · obtain ⟨e₁, s₁, hr, _, _, rfl⟩ := h; exact (runs_size hr : (s.setGen g .running).heap.objs.size ≤ s₁.heap.objs.size)
  · rw [h.2]; exact Nat.le_refl _
  · rw [h.2]; exact Nat.le_refl _
theorem wp_size {α : Type} (M : Model) (Γ : Ctx) (n : Nat) (t : Sem α) : ∀ (Q : α → Pos → Shared → Prop) (E : Value → Pos → Shared → Prop) (p : Pos) (s : Shared), n ≤ s.heap.objs.size → Sem.wp M Γ t Q E p s →
    Sem.wp M Γ t (fun a p' s' => n ≤ s'.heap.objs.size ∧ Q a p' s') (fun e p' s' => E e p' s') p s := by
  induction t with
  | pure a => intro Q E p s hn h; exact ⟨hn, h⟩
  | raise e => intro Q E p s hn h; exact h
  | unsupported _ | finish _ | register _ _ | yield _ _ _ _ | fork _ _ | await _ _ _ _ _ => intro Q E p s _ h; exact h
  | rule _ k ih | point _ k ih => intro Q E p s hn h; exact ih () Q E p s hn h
  | «at» p' k ih => intro Q E p s hn h; exact ih () Q E p' s hn h
  | load a _ k ih => intro Q E p s hn h; obtain ⟨o, ho, h⟩ := h; exact ⟨o, ho, ih o Q E p s hn h⟩
  | update a _ f k ih => intro Q E p s hn h; exact ⟨h.1, ih () Q E p _ (by show n ≤ (s.heap.update a f).objs.size; rw [Heap.size_after_update]; exact hn) h.2⟩
  | loadIfAlive a k ih | ask k ih | handled own k ih | stack k ih | thread k ih => intro Q E p s hn h; exact ih _ Q E p s hn h
  | alloc o k ih => intro Q E p s hn h; exact ih _ Q E p _ (by show n ≤ (s.heap.push o).objs.size; rw [Heap.size_push]; exact Nat.le_succ_of_le hn) h
  | fresh k ih | os q _ k ih | newGen c k ih => intro Q E p s hn h; exact ih _ Q E p _ hn h
  | choose src m k ih => intro Q E p s hn h; exact ⟨h.1, ih _ Q E p _ hn h.2⟩
  | call c hd _ _ k ih => intro Q E p s hn h; obtain ⟨r, s', hr, h⟩ := h; exact ⟨r, s', hr, ih r Q E p s' (Nat.le_trans hn (runs_size hr)) h⟩
  | genState g k ih => intro Q E p s hn h; obtain ⟨st, hs, h⟩ := h; exact ⟨st, hs, ih _ Q E p s hn h⟩
  | resume g r _ k ih => intro Q E p s hn h; obtain ⟨res, s', hw, h⟩ := h; exact ⟨res, s', hw, ih res Q E p s' (Nat.le_trans hn (wakes_size hw)) h⟩

/-- codes that hold a bytearray while they run -/
def heldIds : List String := Builtin.Bytes.decodersThatHold ++ ["bytearray.__contains__", "bytearray.__mod__", "bytearray.__rmod__", "_struct.pack_into.held", "bytearray.find.held"]
def Held : Code → Bool
  | .builtin id _ => heldIds.contains id
  | _ => false
def CleanB (Γ : Ctx) : Prop := ∀ x ∈ Γ.below, Held x.1 = false
def Clean (Γ : Ctx) : Prop := Held Γ.code = false ∧ CleanB Γ

section
variable {α β : Type} {M : Model} {A : Around} {s : Shared}
/-- from every clean stack around which A holds: no raise, and Q -/
def wpC (M : Model) (A : Around) (t : Sem α) (Q : α → Shared → Prop) (s : Shared) : Prop :=
  ∀ Γ p, Γ.In A → Clean Γ → Sem.wp M Γ t (fun a _ s' => Q a s') (fun _ _ _ => False) p s
def codeC (M : Model) (A : Around) (c : Code) (R : Flow → Shared → Prop) (s : Shared) : Prop :=
  ∀ Γ p, Γ.code = c → Γ.Below A → CleanB Γ → wpCode M Γ (fun r s' => ∃ f, r = .ok f ∧ R f s') p s

theorem toC {t : Sem α} {Q : α → Shared → Prop} (h : wpAny M A t Q (fun _ _ => False) s) : wpC M A t Q s := fun Γ p hΓ _ => h Γ p hΓ
theorem c_pure {a : α} {Q : α → Shared → Prop} (h : Q a s) : wpC M A (pure a) Q s := fun _ _ _ _ => h
theorem c_mono {t : Sem α} {Q Q' : α → Shared → Prop} (h : wpC M A t Q s) (k : ∀ a s, Q a s → Q' a s) : wpC M A t Q' s :=
  fun Γ p hΓ c => Sem.wp_mono M Γ t (fun a _ s => k a s) (fun _ _ _ x => x) p s (h Γ p hΓ c)
theorem c_bind {m : Sem α} {f : α → Sem β} {Q : β → Shared → Prop} (h : wpC M A m (fun a s' => wpC M A (f a) Q s') s) : wpC M A (m >>= f) Q s := fun Γ p hΓ c => by
  rw [Sem.wp_bind']
  exact Sem.wp_mono M Γ m (fun a p' s' h' => h' Γ p' hΓ c) (fun _ _ _ h' => h') p s (h Γ p hΓ c)
theorem c_holding {vs : List Value} {m : Sem α} {Q : α → Shared → Prop} (h : wpC M A m Q s) : wpC M A (holding vs m) Q s := fun Γ p hΓ c => by rw [Sem.wp_holding]; exact h Γ p hΓ c
theorem c_keep {vs : List Value} {m : Sem α} {Q : α → Shared → Prop} (h : wpC M A m Q s) : wpC M A (m.keep vs) Q s := fun Γ p hΓ c => by rw [Sem.wp_keep]; exact h Γ p hΓ c
theorem c_operate {vs : List Value} {m : Sem Value} {Q : Value → Shared → Prop} (h : wpC M A m Q s) : wpC M A (operate vs m) Q s := fun Γ p hΓ c => by rw [Sem.wp_operate]; exact h Γ p hΓ c
theorem c_standAt {pos : Pos} {Q : Unit → Shared → Prop} (h : Q () s) : wpC M A (standAt pos) Q s := fun _ _ _ _ => h
theorem c_point {Q : Unit → Shared → Prop} (h : Q () s) : wpC M A point Q s := fun _ _ _ _ => h
theorem c_of_eq {t : Sem α} {a : α} {Q : α → Shared → Prop} (h : t = pure a) (hQ : Q a s) : wpC M A t Q s := h ▸ c_pure hQ
theorem c_onRaise {m : Sem α} {k : Value → Sem Unit} {Q : α → Shared → Prop} (h : wpC M A m Q s) : wpC M A (m.onRaise k) Q s := fun Γ p hΓ c => by
  rw [Sem.wp_onRaise]
  exact Sem.wp_mono M Γ m (fun _ _ _ h' => h') (fun _ _ _ h' => h'.elim) p s (h Γ p hΓ c)
theorem c_attempt {m : Sem α} {Q : Except Value α → Shared → Prop} (h : wpC M A m (fun a => Q (.ok a)) s) : wpC M A m.attempt Q s := fun Γ p hΓ c => by
  rw [Sem.wp_attempt]
  exact Sem.wp_mono M Γ m (fun _ _ _ h' => h') (fun _ _ _ h' => h'.elim) p s (h Γ p hΓ c)
theorem c_tryCatch {m : Sem α} {k : Value → Sem α} {Q : α → Shared → Prop} (h : wpC M A m Q s) : wpC M A (tryCatch m k) Q s := fun Γ p hΓ c => by
  rw [Sem.wp_tryCatch']
  exact Sem.wp_mono M Γ m (fun _ _ _ h' => h') (fun _ _ _ h' => h'.elim) p s (h Γ p hΓ c)
theorem c_toks_of {t : Sem α} {Q : α → Shared → Prop} {n : Nat} (hn : n ≤ s.toks) (h : wpC M A t Q s) : wpC M A t (fun a s' => n ≤ s'.toks ∧ Q a s') s := fun Γ p hΓ c =>
  Sem.wp_mono M Γ t (fun _ _ _ h' => h') (fun _ _ _ h' => h'.2) p s (Sem.wp_toks M Γ n t _ _ p s hn (h Γ p hΓ c))
theorem c_with_toks {t : Sem α} {Q : α → Shared → Prop} {n : Nat} (hn : n ≤ s.toks) (h : wpC M A t (fun a s' => n ≤ s'.toks → Q a s') s) : wpC M A t Q s := c_mono (c_toks_of hn h) fun _ _ x => x.2 x.1
theorem c_sized {t : Sem α} {Q : α → Shared → Prop} (h : wpC M A t Q s) : wpC M A t (fun a s' => s.heap.objs.size ≤ s'.heap.objs.size ∧ Q a s') s := fun Γ p hΓ c => wp_size M Γ _ t _ _ p s (Nat.le_refl _) (h Γ p hΓ c)

theorem Clean.enter {Γ : Ctx} (h : Clean Γ) (c : Code) (hd : Option Value) (p : Pos) : CleanB (Γ.enter c hd p) := fun x hx => by
  have hx' : x ∈ (Γ.code, p) :: Γ.below := hx
  rcases List.mem_cons.mp hx' with rfl | hx'
  · exact h.1
  · exact h.2 x hx'
theorem cc_mono {c : Code} {R R' : Flow → Shared → Prop} (h : codeC M A c R s) (k : ∀ f s, R f s → R' f s) : codeC M A c R' s := fun Γ p hc hΓ x => wpCode_mono (fun r s' ⟨f, e, q⟩ => ⟨f, e, k f s' q⟩) (h Γ p hc hΓ x)
theorem cc_toks_of {c : Code} {R : Flow → Shared → Prop} {n : Nat} (hn : n ≤ s.toks) (h : codeC M A c R s) : codeC M A c (fun r s' => n ≤ s'.toks ∧ R r s') s := fun Γ p hc hΓ x => by
  obtain ⟨r, s', hr, f, e, hR⟩ := h Γ p hc hΓ x; exact ⟨r, s', hr, f, e, Nat.le_trans hn hr.toks_le, hR⟩
theorem cc_of_any {c : Code} {R : Flow → Shared → Prop} (h : codeAny M A c (fun r s' => ∃ f, r = .ok f ∧ R f s') s) : codeC M A c R s := fun Γ p hc hΓ _ => h Γ p hc hΓ
theorem c_run {c : Code} {h : Option Value} {Q : Flow → Shared → Prop} (hc : codeC M (A.mark h) c Q s) (hnb : h ≠ some byPass := by intro x; cases x) : wpC M A (run c h) Q s := fun Γ p hΓ x => by
  rw [Sem.wp_run]
  exact wpCode_mono (fun r s' ⟨f, e, q⟩ => by subst e; exact q) (hc _ p rfl (hΓ.enter c h p hnb) (x.enter c h p))
theorem c_runOwn {c : Code} {env : Env} {Q : Flow → Shared → Prop} (hc : codeC M A c Q s) : wpC M A (runOwn c env none) Q s := by
  unfold runOwn
  exact c_onRaise (c_run hc)
theorem c_runValue {c : Code} {Q : Value → Shared → Prop} (hc : codeC M A c (fun f s' => ∃ v, f = .ret v ∧ Q v s') s) : wpC M A (runValue c) Q s := fun Γ p hΓ x => by
  rw [Sem.wp_runValue]
  exact wpCode_mono (fun r s' ⟨f, e, v, e', q⟩ => by subst e e'; exact q) (hc _ p rfl (hΓ.enter c none p (by intro x; cases x)) (x.enter c none p))
theorem c_call {f : Value} {pos : List Value} {kw : List (Str × Value)} {Q : Value → Shared → Prop} (hc : codeC M A (.call f ⟨pos, kw⟩) (fun f s' => ∃ v, f = .ret v ∧ Q v s') s) : wpC M A (call f pos kw) Q s := c_runValue hc
theorem cc_of_tree {c : Code} {R : Flow → Shared → Prop} (hh : Held c = false)
    (h : wpC M (A.under c) (M.den c) (fun fin s' => match fin with | .done f => R f s' | .again c' => c'.quiet = true ∧ codeC M A c' R s') s) : codeC M A c R s := fun Γ p hc hΓ x => by
  rw [wpCode_iff_wp, hc]
  refine Sem.wp_mono M Γ _ (fun fin p' s' h' => ?_) (fun _ _ _ h' => h'.elim) p s (h Γ p (hc ▸ hΓ.in) ⟨hc ▸ hh, x⟩)
  cases fin with
  | done f => exact ⟨f, rfl, h'⟩
  | again c' => exact ⟨h'.1, h'.2 (Γ.goto c') p' rfl (hΓ.goto c') x⟩
theorem cc_loop {c : Code} {R : Flow → Shared → Prop} (hh : Held c = false) (hq : c.quiet = true) (I : Nat → Shared → Prop)
    (turn : ∀ n s, I n s → wpC M (A.under c) (M.den c) (fun fin s' => match fin with | .done f => R f s' | .again c' => (c' = c ∧ ∃ m, m < n ∧ I m s') ∨ (c'.quiet = true ∧ codeC M A c' R s')) s)
    (n : Nat) (h : I n s) : codeC M A c R s := by
  induction n using Nat.strongRecOn generalizing s with
  | ind n ih =>
    refine cc_of_tree hh (c_mono (turn n s h) fun fin s' hf => ?_)
    cases fin with
    | done f => exact hf
    | again c' =>
      rcases hf with ⟨rfl, m, hm, hI⟩ | hf
      · exact ⟨hq, ih m hm hI⟩
      · exact hf
end

section
variable {prog : Program} {w : World} {A : Around} {s : Shared} {env : Env}
theorem cc_whileLoop {test body orelse} {R : Flow → Shared → Prop} (I : Nat → Shared → Prop)
    (turn : ∀ n s, I n s → wpC (model prog w) A (isTrue test env (eval test env)) (fun b s₂ =>
        if b then wpC (model prog w) A (execs body env) (fun f s₃ => f = .next ∧ ∃ m, m < n ∧ I m s₃) s₂
        else wpC (model prog w) A (execs orelse env) (fun f s₃ => R f s₃) s₂) s)
    (n : Nat) (h : I n s) : codeC (model prog w) A (.whileLoop test body orelse env) R s := by
  refine cc_loop rfl rfl I (fun n s hI => ?_) n h
  show wpC _ A ((whileTurn test body orelse env).onRaise (fun x => do noteFrame x env; theTreesLotGoes x)) _ s
  refine c_onRaise ?_
  simp only [whileTurn]
  refine c_bind (c_mono (turn n s hI) fun b s₂ h₂ => ?_)
  cases b with
  | false =>
    simp only [Bool.false_eq_true, if_false] at h₂ ⊢
    exact c_bind (c_mono h₂ fun f s₃ h₃ => c_pure h₃)
  | true =>
    simp only [if_true] at h₂ ⊢
    refine c_bind (c_mono h₂ fun f s₃ h₃ => ?_)
    obtain ⟨rfl, h₃⟩ := h₃
    exact c_pure (.inl ⟨rfl, h₃⟩)
theorem cc_block {stmts} {R : Flow → Shared → Prop} (h : wpC (model prog w) A (execs stmts env) R s) : codeC (model prog w) A (.block stmts env) R s := by
  refine cc_of_tree rfl ?_
  show wpC _ A (do return Fin.done (← (execs stmts env).onRaise (fun x => do noteFrame x env; theTreesLotGoes x))) _ s
  exact c_bind (c_onRaise (c_mono h fun f s' h' => c_pure h'))
theorem cc_forLoop {target it body orelse} {R : Flow → Shared → Prop} (I : Nat → Shared → Prop)
    (turn : ∀ n s, I n s → wpC (model prog w) A (pyNext it) (fun r s₁ => match r with
      | none => wpC (model prog w) A (execs orelse env) (fun f s₃ => R f s₃) s₁
      | some v => wpC (model prog w) A (letOwnedTupleGo target it v) (fun _ s₁' => wpC (model prog w) A (assign target env v) (fun _ s₂ => wpC (model prog w) A (execs body env) (fun f s₃ => f = .next ∧ ∃ m, m < n ∧ I m s₃) s₂) s₁') s₁) s)
    (n : Nat) (h : I n s) : codeC (model prog w) A (.forLoop target it body orelse env) R s := by
  refine cc_loop rfl rfl I (fun n s hI => ?_) n h
  show wpC _ A ((forTurn target it body orelse env).onRaise (fun x => do noteFrame x env; theTreesLotGoes x)) _ s
  refine c_onRaise ?_
  simp only [forTurn]
  refine c_bind (c_standAt (c_bind (c_onRaise (c_mono (turn n s hI) fun r s₁ h₁ => ?_))))
  cases r with
  | none => exact c_pure (.inr ⟨rfl, cc_block h₁⟩)
  | some v =>
    refine c_bind (c_mono h₁ fun _ s₁' h₁' => c_bind (c_mono h₁' fun _ s₂ h₂ => c_bind (c_mono h₂ fun f s₃ h₃ => ?_)))
    obtain ⟨rfl, h₃⟩ := h₃
    exact c_pure (.inl ⟨rfl, h₃⟩)
theorem cc_func {body} {R : Flow → Shared → Prop} (h : wpC (model prog w) (A.deeper env) (execs body env) (fun f s' => R (.ret (match f with | .ret v => v | _ => .none)) s') s) : codeC (model prog w) A (.func body env) R s := by
  refine cc_of_tree rfl ?_
  show wpC _ (A.deeper env) (do point; match ← (execs body env).onRaise (leaving env) with | .ret v => ret v | _ => ret .none) _ s
  refine c_bind (c_point (c_bind (c_onRaise (c_mono h fun f s' h' => ?_))))
  cases f <;> exact c_pure h'
theorem cc_call_function {a : Addr} {args : Args} {o : Obj} {fd : FuncData} {body : List Stmt} {R : Flow → Shared → Prop} (hroom : A.depth < recursionLimit) (ho : s.heap.get? a = some o)
    (hd' : o.data = .func fd) (hco : fd.scope.isCoroutine = false) (hgen : fd.scope.isGenerator = false) (hbody : fd.body = .stmts body) (hcd : s.heap.CodeRec fd.code fd.qualname)
    (h : wpC (model prog w) A.in1 (bindArgs fd args) (fun binds s₁ =>
      wpC (model prog w) A.in1 (newFunctionEnv fd.scope fd.globals fd.closure binds (fd.qualname ++ ".<locals>.") (some a) fd.code none fd.builtins)
        (fun env s₂ => s₂.heap.NoLimit ∧ codeC (model prog w) A (.func body env) R s₂) s₁) s) :
    codeC (model prog w) A (.call (.ref a) args) R s := by
  refine cc_of_tree rfl ?_
  show wpC _ A.in1 (callAny (.ref a) args) _ s
  simp only [callAny]
  refine c_bind (toC (wpAny_load ho ?_))
  obtain ⟨c, oc, vs, tq, hc, hoc, hdc, hq⟩ := hcd
  simp only [hd', callFunction, hco, hgen, hbody, hc]
  rw [hc] at h
  refine c_bind (m := field (.ref c) 1) (toC (wpAny_field hoc hdc hq ?_))
  refine c_bind (c_pure ?_)
  exact c_bind (c_mono h fun binds s₁ h₁ => c_bind (c_mono h₁ fun env s₂ h₂ => c_bind (toC (wpAny_enterFrame h₂.1 hroom (c_pure (And.intro rfl h₂.2))))))
theorem cc_compStart_list {elt target iter ifs rest scope pos it acc} {R : Flow → Shared → Prop}
    (h0 : codeC (model prog w) A (.compLoop (.ListComp elt (⟨target, iter, ifs, 0⟩ :: rest) scope pos) 0 it acc env) R s)
    (h : wpC (model prog w) A (pyIter it) (fun it' s' => codeC (model prog w) A (.compLoop (.ListComp elt (⟨target, iter, ifs, 0⟩ :: rest) scope pos) 0 it' acc env) R s') s) :
    codeC (model prog w) A (.compStart (.ListComp elt (⟨target, iter, ifs, 0⟩ :: rest) scope pos) 0 it acc env) R s := by
  refine cc_of_tree rfl ?_
  show wpC _ _ ((compStart (.ListComp elt (⟨target, iter, ifs, 0⟩ :: rest) scope pos) 0 it acc env).onRaise (fun x => do noteFrame x env; standAt theWindowsPlace)) _ s
  refine c_onRaise ?_
  unfold compStart
  show wpC _ _ (ask >>= _) _ s
  refine c_bind (toC (wpAny_askSetting ?_))
  split
  · exact c_pure (And.intro rfl h0)
  · refine c_bind (toC (wpAny_rule ?_))
    show wpC _ _ (standAt iter.pos >>= _) _ s
    exact c_bind (c_standAt (c_bind (c_mono h fun it' s' h' => c_pure (And.intro rfl h'))))
theorem cc_compLoop_list {elt target iter : Expr} {scope : Scope} {pos : Pos} {it acc : Value} {R : Flow → Shared → Prop} (I : Nat → Shared → Prop)
    (turn : ∀ n s, I n s → wpC (model prog w) A (pyNext it) (fun r s₁ => match r with
      | none => R .next s₁
      | some v => wpC (model prog w) A (assign target env v) (fun _ s₂ => wpC (model prog w) A (eval elt env) (fun x s₃ =>
          wpC (model prog w) A (call (.builtin "list.append") [acc, x]) (fun _ s₄ => ∃ m, m < n ∧ I m s₄) s₃) s₂) s₁) s)
    (n : Nat) (h : I n s) (ht : ∀ v, letOwnedTupleGo target it v = pure () := by intro _; rfl) :
    codeC (model prog w) A (.compLoop (.ListComp elt [⟨target, iter, [], 0⟩] scope pos) 0 it acc env) R s := by
  refine cc_loop rfl rfl I (fun n s hI => ?_) n h
  show wpC _ _ ((compTurn (.ListComp elt [⟨target, iter, [], 0⟩] scope pos) 0 it acc env).onRaise (fun x => do noteFrame x env; theTreesLotGoes x)) _ s
  refine c_onRaise ?_
  rw [compTurn_list1]
  refine c_bind (c_standAt (c_bind (c_mono (turn n s hI) fun r s₁ h₁ => ?_)))
  cases r with
  | none => exact c_pure h₁
  | some v =>
    refine c_bind (c_of_eq (ht v) ?_)
    exact c_bind (c_mono h₁ fun _ s₂ h₂ => c_bind (c_bind (c_mono h₂ fun x s₃ h₃ => c_bind (c_mono h₃ fun _ s₄ h₄ => c_pure (c_pure (.inl ⟨rfl, h₄⟩))))))
end

section
variable {prog : Program} {w : World} {A : Around} {s : Shared} {env : Env}
theorem c_bindName {x : Str} {v : Value} {Q : Unit → Shared → Prop} (h : wpC (model prog w) A (storeName env x v) Q s) : wpC (model prog w) A (bindName env x v) Q s := fun Γ p hΓ c => by rw [Sem.wp_bindName]; exact h Γ p hΓ c
theorem c_BinOp {l op r pos} {Q : Value → Shared → Prop} (h : wpC (model prog w) A (eval l env) (fun a s₁ => wpC (model prog w) A (eval r env) (fun b s₂ => wpC (model prog w) A (binaryOp op a b) Q s₂) s₁) s) :
    wpC (model prog w) A (eval (.BinOp l op r pos) env) Q s := by
  rw [eval_BinOp]
  exact c_bind (c_mono h fun a s₁ h₁ => c_bind (c_holding (c_mono h₁ fun b s₂ h₂ => c_bind (c_standAt (c_operate h₂)))))
theorem c_Compare1 {l op r pos} {Q : Value → Shared → Prop} (h : wpC (model prog w) A (eval l env) (fun a s₁ => wpC (model prog w) A (eval r env) (fun b s₂ => wpC (model prog w) A (compareOp op a b) Q s₂) s₁) s)
    (hm : behindInMarks op r = false) : wpC (model prog w) A (eval (.Compare l [op] [r] pos) env) Q s := by
  rw [eval_Compare1, markedBehindIn_of_false hm]
  exact c_bind (c_mono h fun a s₁ h₁ => c_bind (c_holding (c_mono h₁ fun b s₂ h₂ => c_bind (c_standAt (c_operate h₂)))))
theorem c_isTrue_Compare1 {l op r pos whole} {Q : Bool → Shared → Prop} (h : wpC (model prog w) A (eval l env) (fun a s₁ => wpC (model prog w) A (eval r env) (fun b s₂ => wpC (model prog w) A (compareOp op a b) (fun c s₃ => wpC (model prog w) A (truthy c) Q s₃) s₂) s₁) s)
    (hm : behindInMarks op r = false) : wpC (model prog w) A (isTrue (.Compare l [op] [r] pos) env whole) Q s := by
  rw [isTrue_Compare1, markedBehindIn_of_false hm]
  exact c_bind (c_mono h fun a s₁ h₁ => c_bind (c_holding (c_mono h₁ fun b s₂ h₂ => c_bind (c_standAt (c_bind (c_operate (c_mono h₂ fun c s₃ h₃ => c_holding h₃)))))))
theorem c_UnaryOp {op x pos} {Q : Value → Shared → Prop} (h : wpC (model prog w) A (eval x env) (fun v s₁ => wpC (model prog w) A (unaryOp op v) Q s₁) s) : wpC (model prog w) A (eval (.UnaryOp op x pos) env) Q s := by
  rw [eval_UnaryOp]
  exact c_bind (c_mono h fun v s₁ h₁ => c_bind (c_standAt (c_holding h₁)))
theorem c_isTrue_not {x pos whole} {Q : Bool → Shared → Prop} (h : wpC (model prog w) A (isTrue x env (eval x env)) (fun c s' => Q (!c) s') s) : wpC (model prog w) A (isTrue (.UnaryOp .Not x pos) env whole) Q s := by
  show wpC (model prog w) A (do return !(← isTrue x env (eval x env))) Q s
  exact c_bind (c_mono h fun c s' h' => c_pure h')
theorem c_isTrue_and {x rest pos whole} {Q : Bool → Shared → Prop}
    (h : wpC (model prog w) A (isTrue x env (eval x env)) (fun c s' => if c then wpC (model prog w) A (isTrue (.BoolOp .And rest pos) env whole) Q s' else Q false s') s) :
    wpC (model prog w) A (isTrue (.BoolOp .And (x :: rest) pos) env whole) Q s := by
  show wpC (model prog w) A (do
    match BoolOp.And, ← isTrue x env (eval x env) with
    | .And, false => pure false
    | .Or, true => pure true
    | _, _ => allTrue .And rest env) Q s
  refine c_bind (c_mono h fun c s' h' => ?_)
  cases c with
  | false => exact c_pure h'
  | true => exact h'
theorem c_isTrue_or {x rest pos whole} {Q : Bool → Shared → Prop}
    (h : wpC (model prog w) A (isTrue x env (eval x env)) (fun c s' => if c then Q true s' else wpC (model prog w) A (isTrue (.BoolOp .Or rest pos) env whole) Q s') s) :
    wpC (model prog w) A (isTrue (.BoolOp .Or (x :: rest) pos) env whole) Q s := by
  show wpC (model prog w) A (do
    match BoolOp.Or, ← isTrue x env (eval x env) with
    | .And, false => pure false
    | .Or, true => pure true
    | _, _ => allTrue .Or rest env) Q s
  refine c_bind (c_mono h fun c s' h' => ?_)
  cases c with
  | false => exact h'
  | true => exact c_pure h'
theorem c_isTrue_plain {e : Expr} {whole : Sem Value} {Q : Bool → Shared → Prop} (h : wpC (model prog w) A whole (fun v s₁ => wpC (model prog w) A (truthy v) Q s₁) s)
    (he : isTrue e env whole = (do let v ← whole; standAt e.pos; holding [v] (truthy v))) : wpC (model prog w) A (isTrue e env whole) Q s := by
  rw [he]
  exact c_bind (c_mono h fun v s₁ h₁ => c_bind (c_standAt (c_holding h₁)))
theorem c_execs_cons {st rest} {Q : Flow → Shared → Prop} (h : wpC (model prog w) A (exec st env) (fun f s' => match f with | .next => wpC (model prog w) A (execs rest env) Q s' | f => Q f s') s) :
    wpC (model prog w) A (execs (st :: rest) env) Q s := by
  rw [execs_cons]
  refine c_bind (c_mono h fun f s' h' => ?_)
  cases f <;> first | exact h' | exact c_pure h'
theorem c_Assign_Name {x pos' value pos} {Q : Flow → Shared → Prop} (h : wpC (model prog w) A (eval value env) (fun v s₁ => wpC (model prog w) A (storeName env x v) (fun _ => Q .next) s₁) s)
    (hs : swapsWith value (some (.Name x pos')) pos.line env = pure false) : wpC (model prog w) A (exec (.Assign [.Name x pos'] value pos) env) Q s := by
  rw [exec_Assign_Name env x pos' value pos hs]
  exact c_bind (c_standAt (c_bind (c_mono h fun v s₁ h₁ => c_bind (c_standAt (c_bind (c_bindName (c_mono h₁ fun _ s₂ h₂ => c_pure h₂)))))))
theorem c_AugAssign_Name {x pos' op value pos} {Q : Flow → Shared → Prop}
    (h : wpC (model prog w) A (loadName env x) (fun old s₁ => wpC (model prog w) A (eval value env) (fun v s₂ => wpC (model prog w) A (inplaceOp op old v) (fun r s₃ => wpC (model prog w) A (storeName env x r) (fun _ => Q .next) s₃) s₂) s₁) s) :
    wpC (model prog w) A (exec (.AugAssign (.Name x pos') op value pos) env) Q s := by
  rw [exec_AugAssign_Name]
  exact c_bind (c_standAt (c_bind (c_mono h fun old s₁ h₁ => c_bind (c_holding (c_mono h₁ fun v s₂ h₂ => c_bind (c_standAt (c_bind (c_operate (c_mono h₂ fun r s₃ h₃ => c_bind (c_standAt (c_bind (c_bindName (c_mono h₃ fun _ s₄ h₄ => c_pure h₄)))))))))))))
theorem c_Assign_Subscript {o i pos' value pos} {Q : Flow → Shared → Prop}
    (h : wpC (model prog w) A (eval value env) (fun v s₁ => wpC (model prog w) A (eval o env) (fun ov s₂ => wpC (model prog w) A (eval i env) (fun iv s₃ => wpC (model prog w) A (setItem ov iv v) (fun _ => Q .next) s₃) s₂) s₁) s)
    (hs : swapsWith value (some (.Subscript o i pos')) pos.line env = pure false) : wpC (model prog w) A (exec (.Assign [.Subscript o i pos'] value pos) env) Q s := fun Γ p hΓ c => by
  simp only [exec_Assign_Subscript o i pos' value pos hs, assign_Subscript, Sem.wp_bind', Sem.wp_holding, Sem.wp_cmd_standAt, Sem.wp_release, Sem.wp_pure']
  exact Sem.wp_mono _ Γ _ (fun v p₁ s₁ h₁ => Sem.wp_mono _ Γ _ (fun ov p₂ s₂ h₂ => Sem.wp_mono _ Γ _ (fun iv _ s₃ h₃ => h₃ Γ _ hΓ c)
    (fun _ _ _ h' => h') _ _ (h₂ Γ p₂ hΓ c)) (fun _ _ _ h' => h') _ _ (h₁ Γ p₁ hΓ c)) (fun _ _ _ h' => h') _ _ (h Γ _ hΓ c)
theorem c_If {test body orelse pos} {Q : Flow → Shared → Prop} (h : wpC (model prog w) A (isTrue test env (eval test env)) (fun b s₂ => if b then wpC (model prog w) A (execs body env) Q s₂ else wpC (model prog w) A (execs orelse env) Q s₂) s) :
    wpC (model prog w) A (exec (.If test body orelse pos) env) Q s := by
  rw [exec_If]
  refine c_bind (c_standAt (c_bind (c_mono h fun b s₂ h₂ => ?_)))
  cases b <;> exact h₂
theorem c_Return_some {e pos} {Q : Flow → Shared → Prop} (h : wpC (model prog w) A (eval e env) (fun v => Q (.ret v)) s) : wpC (model prog w) A (exec (.Return (some e) pos) env) Q s := by
  rw [exec_Return_some]
  exact c_bind (c_standAt (c_bind (c_mono h fun v s' h' => c_pure h')))
theorem c_While {test body orelse pos} {Q : Flow → Shared → Prop} (h : codeC (model prog w) A (.whileLoop test body orelse env) Q s) : wpC (model prog w) A (exec (.While test body orelse pos) env) Q s := by
  rw [exec_While]; exact c_bind (c_standAt (c_runOwn h))
theorem c_For {target iter body orelse pos} {Q : Flow → Shared → Prop} (h : wpC (model prog w) A (eval iter env) (fun x s₁ => wpC (model prog w) A (pyIter x) (fun it s₂ => codeC (model prog w) A (.forLoop target it body orelse env) Q s₂) s₁) s)
    (hs : ∀ x, foldedSetIterable iter env x = pure x) : wpC (model prog w) A (exec (.For target iter body orelse pos) env) Q s := by
  rw [exec_For]
  exact c_bind (c_standAt (c_bind (c_mono h fun x s₁ h₁ => c_bind (c_of_eq (hs x) (c_bind (c_standAt (c_bind (c_holding (c_mono h₁ fun it s₂ h₂ => c_runOwn h₂)))))))))
theorem c_assign_Name {x pos v} {Q : Unit → Shared → Prop} (h : wpC (model prog w) A (storeName env x v) Q s) : wpC (model prog w) A (assign (.Name x pos) env v) Q s := by
  rw [PySem.assign_Name]; exact c_bind (c_standAt (c_bindName h))

theorem c_args_cons {e : Expr} {rest : List Expr} {pos : Pos} {Q : List Value → Shared → Prop} (h : wpC (model prog w) A (eval e env) (fun v s₁ => wpC (model prog w) A (spliced (backTo pos (starEach rest env))) (fun vs s₂ => Q (v :: vs) s₂) s₁) s)
    (he : starEach (e :: rest) env = (false, eval e env) :: starEach rest env) : wpC (model prog w) A (spliced (backTo pos (starEach (e :: rest) env))) Q s := by
  rw [he]
  show wpC _ _ (spliced ((false, eval e env) :: backTo pos (starEach rest env))) Q s
  rw [spliced]
  refine c_bind (c_mono h fun v s₁ h₁ => ?_)
  simp only [Bool.false_eq_true, if_false]
  exact c_bind (c_pure (c_bind (c_holding (c_mono h₁ fun vs s₂ h₂ => c_pure h₂))))
theorem c_evalArgs {f : Value} {x : Sem Value} {rest : List (Bool × Sem Value)} {Q : Args → Shared → Prop} (h : wpC (model prog w) A (spliced ((false, x) :: rest)) (fun vs s' => Q ⟨vs, []⟩ s') s) : wpC (model prog w) A (evalArgs f true ((false, x) :: rest) []) Q s := by
  unfold evalArgs
  show wpC (model prog w) A (spliced ((false, x) :: rest) >>= _) Q s
  refine c_bind (c_mono h fun vs s' h' => ?_)
  refine c_holding ?_
  exact c_bind (c_pure (c_bind (c_pure (c_pure h'))))
theorem c_callWith_builtin {pos : Pos} {id : String} {first : List Value} {e : Expr} {rest : List Expr} {Q : Value → Shared → Prop}
    (h : wpC (model prog w) A (spliced (backTo pos (starEach (e :: rest) env))) (fun vs s₁ => wpC (model prog w) A (call (.builtin id) (first ++ vs)) Q s₁) s)
    (he : starEach (e :: rest) env = (false, eval e env) :: starEach rest env) (hplain : (backTo pos (starEach rest env)).any (·.1) = false) : wpC (model prog w) A (callWith pos (.builtin id) first (backTo pos (starEach (e :: rest) env)) []) Q s := by
  rw [he] at h ⊢
  have hp : (backTo pos ((false, eval e env) :: starEach rest env)).any (·.1) = false := by show (false || (backTo pos (starEach rest env)).any (·.1)) = false; rw [hplain]; rfl
  unfold callWith
  refine c_bind (c_holding (c_mono (c_evalArgs (Q := fun a s₁ => wpC (model prog w) A (call (.builtin id) (first ++ a.pos) a.kw) Q s₁) h) fun a s₁ h₁ => c_bind (c_standAt ?_)))
  simp only [hp, List.any_nil, Bool.or_false]
  refine c_bind (c_pure ?_)
  exact c_bind (c_mono h₁ fun r s₂ hr => c_bind (c_holding (c_point (c_pure hr))))
theorem c_callWith_type {pos : Pos} {T : String} {e : Expr} {rest : List Expr} {Q : Value → Shared → Prop}
    (h : wpC (model prog w) A (spliced (backTo pos (starEach (e :: rest) env))) (fun vs s₁ => wpC (model prog w) A (call (.type T) vs) Q s₁) s)
    (he : starEach (e :: rest) env = (false, eval e env) :: starEach rest env) (hplain : (backTo pos (starEach rest env)).any (·.1) = false) : wpC (model prog w) A (callWith pos (.type T) [] (backTo pos (starEach (e :: rest) env)) []) Q s := by
  rw [he] at h ⊢
  have hp : (backTo pos ((false, eval e env) :: starEach rest env)).any (·.1) = false := by show (false || (backTo pos (starEach rest env)).any (·.1)) = false; rw [hplain]; rfl
  unfold callWith
  refine c_bind (c_holding (c_mono (c_evalArgs (Q := fun a s₁ => wpC (model prog w) A (call (.type T) a.pos a.kw) Q s₁) h) fun a s₁ h₁ => c_bind (c_standAt ?_)))
  simp only [hp, List.any_nil, Bool.or_false]
  refine c_bind (c_pure ?_)
  exact c_bind (c_mono h₁ fun r s₂ hr => c_bind (c_holding (c_point (c_pure hr))))
theorem c_callWith_def {pos : Pos} {f : Addr} {o : Obj} {fd : FuncData} {e : Expr} {rest : List Expr} {Q : Value → Shared → Prop} (hdat : o.data = .func fd)
    (h : wpC (model prog w) A (spliced (backTo pos (starEach (e :: rest) env))) (fun vs s₁ => s₁.heap.get? f = some o ∧ wpC (model prog w) A (call (.ref f) vs) Q s₁) s)
    (he : starEach (e :: rest) env = (false, eval e env) :: starEach rest env) : wpC (model prog w) A (callWith pos (.ref f) [] (backTo pos (starEach (e :: rest) env)) []) Q s := by
  rw [he] at h ⊢
  unfold callWith
  refine c_bind (c_holding (c_mono (c_evalArgs (Q := fun a s₁ => s₁.heap.get? f = some o ∧ wpC (model prog w) A (call (.ref f) a.pos a.kw) Q s₁) h) fun a s₁ h₁ => c_bind (c_standAt ?_)))
  have tail : ∀ {t : Sem Value}, wpC (model prog w) A t Q s₁ → wpC (model prog w) A (t >>= fun r => holding [r] point >>= fun _ => pure r) Q s₁ :=
    fun ht => c_bind (c_mono ht fun r s₂ hr => c_bind (c_holding (c_point (c_pure hr))))
  have marked (mk : Value) : wpC (model prog w) A (callMarked mk (.ref f) ([] ++ a.pos) a.kw) Q s₁ := by unfold callMarked; exact c_keep h₁.2
  cases hs : (backTo pos ((false, eval e env) :: starEach rest env)).any (·.1) <;> simp only [List.any_nil, Bool.or_false] <;>
    refine c_bind (m := keeperOf (.ref f)) ?_ <;> unfold keeperOf <;>
    refine c_bind (toC (wpAny_load h₁.1 ?_)) <;> rw [hdat] <;> refine c_pure ?_ <;> dsimp only <;> first | exact tail h₁.2 | exact tail (marked _) | (split <;> first | exact tail h₁.2 | exact tail (marked _))
theorem c_Call {func : Expr} {args : List Expr} {pos : Pos} {Q : Value → Shared → Prop} (h : wpC (model prog w) A (eval func env) (fun f s₁ => wpC (model prog w) A (callWith pos f [] (backTo pos (starEach args env)) []) Q s₁) s)
    (he : eval (.Call func args [] pos) env = (do callWith pos (← eval func env) [] (backTo pos (starEach args env)) (backToKw pos (keywordEach [] env)))) : wpC (model prog w) A (eval (.Call func args [] pos) env) Q s := by
  rw [he]; exact c_bind h
theorem c_MethodCall {o : Expr} {name : Str} {apos pos : Pos} {args : List Expr} {pl : Sem Bool} {Q : Value → Shared → Prop}
    (h : wpC (model prog w) A (eval o env) (fun ov s₁ => wpC (model prog w) A (getMethod ov name pl) (fun fx s₂ => wpC (model prog w) A (callWith pos fx.1 fx.2 (backTo pos (starEach args env)) []) Q s₂) s₁) s)
    (he : eval (.Call (.Attribute o name apos) args [] pos) env = (do
      let ov ← eval o env
      standAt apos.atName
      let (f, first) ← holding [ov] (getMethod ov name pl)
      callWith pos f first (backTo pos (starEach args env)) [])) : wpC (model prog w) A (eval (.Call (.Attribute o name apos) args [] pos) env) Q s := by
  rw [he]
  exact c_bind (c_mono h fun ov s₁ h₁ => c_bind (c_standAt (c_bind (c_holding (c_mono h₁ fun fx s₂ h₂ => h₂)))))
theorem c_Subscript {value slice pos} {Q : Value → Shared → Prop} (h : wpC (model prog w) A (eval value env) (fun o s₁ => wpC (model prog w) A (eval slice env) (fun i s₂ => wpC (model prog w) A (subscriptTail value slice o i) Q s₂) s₁) s) :
    wpC (model prog w) A (eval (.Subscript value slice pos) env) Q s := by
  rw [eval_Subscript]
  exact c_bind (c_mono h fun o s₁ h₁ => c_bind (c_holding (c_mono h₁ fun i s₂ h₂ => c_bind (c_standAt h₂))))
theorem c_tail {value slice : Expr} {o i : Value} {ops : List Value} {T id : String} {Q : Value → Shared → Prop} (hT : s.TypeIs o T)
    (hl : typeLookup (.type T) "__getitem__" = pure (some (.builtin id))) (hg : wpC (model prog w) A (getItem o i) Q s)
    (hs : subscripted slice false o i = operate ops (getItem o i)) : wpC (model prog w) A (subscriptTail value slice o i) Q s := by
  unfold subscriptTail
  refine c_bind ?_
  rw [getitemInPython_of_ne hT.not_modules]
  refine c_bind (toC (wpAny_specialOf hT hl ?_))
  have fin : wpC (model prog w) A (subscripted slice false o i) (fun r s₃ => wpC (model prog w) A (letTemporaryGo value o r >>= fun _ => pure r) Q s₃) s := by
    rw [hs]
    exact c_operate (c_mono hg fun r s₃ h₃ => c_bind (toC (wpAny_letTemporaryGo (c_pure h₃))))
  first
    | exact c_pure (c_bind fin)
    | exact c_bind (c_pure (c_bind fin))
    | exact c_bind fin
theorem c_Tuple {elts : List Expr} {k : Nat} {pos : Pos} {Q : Value → Shared → Prop} (h : wpC (model prog w) A (spliced (backTo pos (starEach elts env))) (fun vs s₁ => wpC (model prog w) A (newTuple vs) Q s₁) s) : wpC (model prog w) A (eval (.Tuple elts k pos) env) Q s := by
  show wpC (model prog w) A (do standAt pos; newTuple (← spliced (backTo pos (starEach elts env)))) Q s
  exact c_bind (c_standAt (c_bind h))
theorem c_List {elts : List Expr} {pos : Pos} {Q : Value → Shared → Prop} (h : wpC (model prog w) A (spliced (backTo pos (starEach elts env))) (fun vs s₁ => wpC (model prog w) A (newList vs) Q s₁) s) : wpC (model prog w) A (eval (.List elts pos) env) Q s := by
  show wpC (model prog w) A (do standAt pos; newList (← spliced (backTo pos (starEach elts env)))) Q s
  exact c_bind (c_standAt (c_bind h))
theorem c_Slice {lower upper step : Option Expr} {p : Pos} {Q : Value → Shared → Prop}
    (h : wpC (model prog w) A (evalPart lower env) (fun l s₁ => wpC (model prog w) A (evalPart upper env) (fun u s₂ => wpC (model prog w) A (evalPart step env) (fun st s₃ =>
      Q (.ref s₃.heap.objs.size) { s₃ with heap := s₃.heap.push { cls := .type "slice", data := .fields #[l, u, st] } }) s₂) s₁) s) : wpC (model prog w) A (eval (.Slice lower upper step p) env) Q s := by
  rw [arm_eval_Slice]
  exact c_bind (c_mono h fun l s₁ h₁ => c_bind (c_holding (c_mono h₁ fun u s₂ h₂ => c_bind (c_holding (c_mono h₂ fun st s₃ h₃ => toC (wpAny_newObj_type h₃))))))

theorem c_standIf {α : Type} {c : Prop} [Decidable c] {pos : Pos} {k : PUnit → Sem α} {Q : α → Shared → Prop} (h : wpC (model prog w) A (k ()) Q s) : wpC (model prog w) A (if c then (standAt pos >>= k) else k ()) Q s := by
  split
  · exact c_bind (c_standAt h)
  · exact h
theorem c_comprehension {e : Expr} {scope : Scope} {pos : Pos} {newAcc first : Sem Value} {g : Comprehension} {gs : List Comprehension} {cl : List (Str × Addr)} {Q : Value → Shared → Prop}
    (hcl : clausesOf e = g :: gs) (hs : ∀ x, foldedSetIterable g.iter env x = pure x) (hclos : closureFor scope env = pure cl)
    (hkind : scope.kind = .function) (hnames : ∀ x ∈ scope.names, x.2 = .local → scope.names.lookup x.1 = some .local)
    (h : wpC (model prog w) A first (fun x s₁ => wpC (model prog w) A (pyIter x) (fun it s₂ => wpC (model prog w) A newAcc (fun acc s₃ =>
      wpC (model prog w) A (newFunctionEnv scope env.globals cl [] env.qual none .none (some env)) (fun cenv s₄ =>
        codeC (model prog w) A (.compStart e 0 it acc { cenv with scope := relabel scope env }) (fun _ s' => ∃ m, s'.heap.Ns cenv.locals m ∧ ∀ h', Heap.SameBut cenv.locals s'.heap h' → Q acc { s' with heap := h' }) s₄) s₃) s₂) s₁) s) :
    wpC (model prog w) A (comprehension e scope env pos newAcc false first none) Q s := by
  unfold comprehension
  rw [hclos, hcl]
  refine c_bind (c_mono h fun x s₁ h₁ => c_bind (c_standAt (c_bind (c_of_eq (hs x) (c_bind (c_holding (c_mono h₁ fun it s₂ h₂ =>
    c_standIf (c_bind (c_mono h₂ fun acc s₃ h₃ => c_bind (c_pure (c_bind (c_mono h₃ fun cenv s₄ h₄ => ?_))))))))))))
  dsimp only
  have hv : ∀ x ∈ (scope.names.filter fun x => (x.2 == .local || x.2 == .cell) && x.1 != (".0" : Str)).reverse, x.2 = .local →
      Env.kindOf { cenv with scope := relabel scope env } x.1 = some .local := fun x hx hl => lookup_relabel_local (hnames x (List.mem_filter.mp (List.mem_reverse.mp hx)).1 hl)
  refine c_holding (c_bind (c_attempt (c_holding (c_run (cc_mono h₄ fun r s' hr => ?_)))))
  obtain ⟨m, hn, hr⟩ := hr
  exact c_bind (c_holding (toC (wpAny_comp_letGo (cenv := { cenv with scope := relabel scope env }) hkind _ s' m hv hn fun h' m' _ hs' => c_pure (hr h' hs'))))
end
end Mine
end QClean

section QBase
open PySem PySem.W PyProof.Rows
set_option linter.unusedVariables false
set_option maxRecDepth 100000
namespace Mine

/-- every object of h stands in h' -/
def Kp (h h' : Heap) : Prop := ∀ b o, h.get? b = some o → h'.get? b = some o
theorem Kp.refl (h : Heap) : Kp h h := fun _ _ e => e
theorem Kp.trans {a b c : Heap} (x : Kp a b) (y : Kp b c) : Kp a c := fun p o e => y p o (x p o e)
theorem Kp.size {h h' : Heap} (k : Kp h h') (_ : h.objs.size ≤ h'.objs.size) : h.objs.size ≤ h'.objs.size := by assumption

/-- what was made between h and h' stands in H -/
def New (h h' H : Heap) : Prop := ∀ a o, h.objs.size ≤ a → h'.get? a = some o → H.get? a = some o
theorem New.self (h h' : Heap) : New h h' h' := fun _ _ _ e => e
theorem New.ofKp {h h' H : Heap} (k : Kp h' H) : New h h' H := fun a o _ e => k a o e

abbrev St (s₀ : Shared) (h : Heap) (tk : Nat) : Shared := { s₀ with heap := h, toks := tk }

section
variable {prog : Program} {w : World} {s₀ : Shared} {A : Around} {α β : Type}

/-- a run from any state over h: it does not raise, and ends over h' with Q -/
def Hp (prog : Program) (w : World) (s₀ : Shared) (A : Around) (t : Sem α) (Q : α → Heap → Prop) (h : Heap) : Prop :=
  ∀ tk, 0 < tk → wpC (model prog w) A t (fun a s' => ∃ h' tk', s' = St s₀ h' tk' ∧ Q a h') (St s₀ h tk)

theorem Hp.use {t : Sem α} {Q : α → Heap → Prop} {Q' : α → Shared → Prop} {h : Heap} (H : Hp prog w s₀ A t Q h)
    (k : ∀ a h' tk', 0 < tk' → Q a h' → Q' a (St s₀ h' tk')) (tk : Nat) (pos : 0 < tk) : wpC (model prog w) A t Q' (St s₀ h tk) :=
  c_mono (c_toks_of (n := 1) pos (H tk pos)) (fun a s ⟨z, h', tk', e, q⟩ => by subst e; exact k a h' tk' z q)
theorem Hp.mono {t : Sem α} {Q Q' : α → Heap → Prop} {h : Heap} (H : Hp prog w s₀ A t Q h) (k : ∀ a h', Q a h' → Q' a h') : Hp prog w s₀ A t Q' h :=
  fun tk pos => H.use (fun a h' tk' _ q => ⟨h', tk', rfl, k a h' q⟩) tk pos
theorem Hp.bind {t : Sem α} {f : α → Sem β} {Q : β → Heap → Prop} {h : Heap} (H : Hp prog w s₀ A t (fun a h' => Hp prog w s₀ A (f a) Q h') h) : Hp prog w s₀ A (t >>= f) Q h :=
  fun tk pos => c_bind (H.use (fun _ _ tk' z q => q tk' z) tk pos)
theorem Hp.puree {a : α} {Q : α → Heap → Prop} {h : Heap} (q : Q a h) : Hp prog w s₀ A (pure a) Q h := fun tk _ => c_pure ⟨h, tk, rfl, q⟩
theorem Hp.holding {vs : List Value} {t : Sem α} {Q : α → Heap → Prop} {h : Heap} (H : Hp prog w s₀ A t Q h) : Hp prog w s₀ A (holding vs t) Q h := fun tk pos => c_holding (H tk pos)
/-- the same of a code -/
def Hc (prog : Program) (w : World) (s₀ : Shared) (A : Around) (k : Code) (Q : Flow → Heap → Prop) (h : Heap) : Prop :=
  ∀ tk, 0 < tk → codeC (model prog w) A k (fun f s' => ∃ h' tk', s' = St s₀ h' tk' ∧ Q f h') (St s₀ h tk)
theorem Hp.sized {t : Sem α} {Q : α → Heap → Prop} {h : Heap} (H : Hp prog w s₀ A t Q h) : Hp prog w s₀ A t (fun a h' => h.objs.size ≤ h'.objs.size ∧ Q a h') h := fun tk p =>
  c_mono (c_sized (H tk p)) fun a s ⟨z, h', tk', e, x⟩ => by subst e; exact ⟨h', tk', rfl, z, x⟩

/-- nothing old is changed; P of what was made -/
def Post (h : Heap) (P : α → Heap → Prop) (v : α) (h' : Heap) : Prop := Kp h h' ∧ h.objs.size ≤ h'.objs.size ∧ ∀ H, New h h' H → P v H
/-- evaluation at a heap -/
def EvH (prog : Program) (w : World) (s₀ : Shared) (A : Around) (h : Heap) (t : Sem α) (P : α → Heap → Prop) : Prop := Hp prog w s₀ A t (Post h P) h
end

/-- a frame: what is kept (B), where its names lie (L), what they hold (ρ), the objects of its own that it changes (μ) -/
structure Cx where
  B : Heap
  L : Addr
  ρ : List (Str × Value)
  μ : List (Addr × Obj)
def Cx.adr (c : Cx) : List Addr := c.L :: c.μ.map (·.1)
structure Cx.Ok (c : Cx) (h : Heap) : Prop where
  keep : Kp c.B h
  loc : ∃ m, h.Ns c.L m ∧ ∀ x v, c.ρ.lookup x = some v → m x = some v
  own : ∀ p ∈ c.μ, h.get? p.1 = some p.2
  nd : c.adr.Nodup
  off : ∀ a ∈ c.adr, c.B.get? a = none

theorem Cx.Ok.grow {c : Cx} {h h' : Heap} (k : c.Ok h) (g : Kp h h') : c.Ok h' :=
  ⟨k.keep.trans g, let ⟨m, hn, hm⟩ := k.loc; ⟨m, hn.keeps g, hm⟩, fun p hp => g _ _ (k.own p hp), k.nd, k.off⟩
theorem Cx.Ok.lt {c : Cx} {h : Heap} (k : c.Ok h) : ∀ a ∈ c.adr, a < h.objs.size := fun a ha => by
  rcases List.mem_cons.mp ha with rfl | ha
  · obtain ⟨m, hn, _⟩ := k.loc; exact hn.lt
  · obtain ⟨p, hp, rfl⟩ := List.mem_map.mp ha; exact Heap.lt_size (k.own p hp)

/-- the part of h that the frame does not change -/
def Cx.fz (c : Cx) (h : Heap) : Heap := hideAll h c.adr
theorem Cx.Ok.kpfz {c : Cx} {h : Heap} (k : c.Ok h) : Kp c.B (c.fz h) := fun b o e => hideAll_get _ (k.keep b o e) (fun q => by rw [k.off b q] at e; cases e)
theorem Cx.fz_kp (c : Cx) (h : Heap) : Kp (c.fz h) h := fun _ _ e => of_hideAll _ e
theorem Cx.Ok.base {c : Cx} {h : Heap} (k : c.Ok h) : Cx.Ok { c with B := c.fz h } h :=
  ⟨c.fz_kp h, k.loc, k.own, k.nd, fun _ ha => hideAll_none _ ha⟩
theorem Cx.Ok.less {c : Cx} {h : Heap} {B : Heap} (k : c.Ok h) (g : Kp B c.B) : Cx.Ok { c with B := B } h :=
  ⟨g.trans k.keep, k.loc, k.own, k.nd, fun a ha => by
    cases e : B.get? a with
    | none => rfl
    | some o => have := g a o e; rw [k.off a ha] at this; cases this⟩
theorem Cx.Ok.newfz {c : Cx} {h h' : Heap} (k : c.Ok h) : New h h' (c.fz h') := fun a _ ha e => hideAll_get _ e (fun q => absurd (k.lt a q) (Nat.not_lt.mpr ha))
theorem Cx.Ok.forget {c : Cx} {h : Heap} {ρ : List (Str × Value)} (k : c.Ok h) (g : ∀ x v, ρ.lookup x = some v → c.ρ.lookup x = some v) : Cx.Ok { c with ρ := ρ } h :=
  ⟨k.keep, let ⟨m, hn, hm⟩ := k.loc; ⟨m, hn, fun x v e => hm x v (g x v e)⟩, k.own, k.nd, k.off⟩

section
variable {prog : Program} {w : World} {s₀ : Shared} {A : Around} {α β : Type} {c : Cx} {env : Env}

/-- evaluation in a frame -/
def Ev (prog : Program) (w : World) (s₀ : Shared) (A : Around) (c : Cx) (t : Sem α) (P : α → Heap → Prop) : Prop := ∀ h, c.Ok h → EvH prog w s₀ A h t P
/-- statements in a frame -/
def Ex (prog : Program) (w : World) (s₀ : Shared) (A : Around) (c : Cx) (t : Sem α) (Q : α → Heap → Prop) : Prop := ∀ h, c.Ok h → Hp prog w s₀ A t Q h

theorem EvH.mono {h : Heap} {t : Sem α} {P P' : α → Heap → Prop} (e : EvH prog w s₀ A h t P) (k : ∀ v H, P v H → P' v H) : EvH prog w s₀ A h t P' :=
  Hp.mono e fun v h' ⟨a, b, f⟩ => ⟨a, b, fun H n => k v H (f H n)⟩
theorem Ev.mono {t : Sem α} {P P' : α → Heap → Prop} (e : Ev prog w s₀ A c t P) (k : ∀ v H, P v H → P' v H) : Ev prog w s₀ A c t P' := fun h o => (e h o).mono k
theorem EvH.puree {h : Heap} {a : α} {P : α → Heap → Prop} (p : ∀ H, P a H) : EvH prog w s₀ A h (pure a) P := Hp.puree ⟨Kp.refl h, Nat.le_refl _, fun H _ => p H⟩
theorem Ev.puree {a : α} {P : α → Heap → Prop} (p : ∀ H, P a H) : Ev prog w s₀ A c (Pure.pure a) P := fun _ _ => EvH.puree p
theorem Ev.holding {vs : List Value} {t : Sem α} {P : α → Heap → Prop} (e : Ev prog w s₀ A c t P) : Ev prog w s₀ A c (holding vs t) P := fun h o => Hp.holding (e h o)

/-- it holds here and in every greater heap -/
def Up (P : α → Heap → Prop) (v : α) (B : Heap) : Prop := ∀ B', Kp B B' → P v B'
theorem Up.here {P : α → Heap → Prop} {v : α} {B : Heap} (u : Up P v B) : P v B := u B (Kp.refl B)
theorem Up.up {P : α → Heap → Prop} {v : α} {B B' : Heap} (u : Up P v B) (k : Kp B B') : Up P v B' := fun H g => u H (k.trans g)
/-- one after the other: the second may see what the first made -/
theorem Ev.seq₀ {t : Sem α} {f : α → Sem β} {P₁ : α → Heap → Prop} {P : β → Heap → Prop} (e : Ev prog w s₀ A c t P₁)
    (k : ∀ v B, Kp c.B B → Up P₁ v B → Ev prog w s₀ A { c with B := B } (f v) (fun u H => P₁ v H → P u H)) (h : Heap) (o : c.Ok h) :
    Hp prog w s₀ A t (fun v h₁ => Hp prog w s₀ A (f v) (Post h P) h₁) h := by
  refine Hp.mono (e h o) fun v h₁ ⟨g₁, z₁, p₁⟩ => ?_
  have o₁ := o.grow g₁
  refine Hp.mono (k v (c.fz h₁) o₁.kpfz (fun B' g => p₁ _ (fun a q ha e => g a q (o.newfz a q ha e))) h₁ o₁.base) fun u h₂ ⟨g₂, z₂, p₂⟩ => ?_
  refine ⟨g₁.trans g₂, Nat.le_trans z₁ z₂, fun H n => p₂ H (fun a q ha e => n a q (Nat.le_trans z₁ ha) e) (p₁ H fun a q ha e => n a q ha (g₂ a q e))⟩
theorem Ev.seq {t : Sem α} {f : α → Sem β} {P₁ : α → Heap → Prop} {P : β → Heap → Prop} (e : Ev prog w s₀ A c t P₁)
    (k : ∀ v B, Kp c.B B → Up P₁ v B → Ev prog w s₀ A { c with B := B } (f v) (fun u H => P₁ v H → P u H)) : Ev prog w s₀ A c (t >>= f) P := fun h o => Hp.bind (Ev.seq₀ e k h o)
theorem Ev.seqF₀ {t : Sem α} {f : α → Sem β} {V : α → Prop} {P : β → Heap → Prop} (e : Ev prog w s₀ A c t (fun v _ => V v))
    (k : ∀ v, V v → Ev prog w s₀ A c (f v) P) (h : Heap) (o : c.Ok h) : Hp prog w s₀ A t (fun v h₁ => Hp prog w s₀ A (f v) (Post h P) h₁) h :=
  Ev.seq₀ e (fun v B g p h o => (k v p.here h (o.less g)).mono fun _ _ q _ => q) h o
theorem Ev.base {t : Sem α} {P : α → Heap → Prop} {B : Heap} (e : Ev prog w s₀ A { c with B := B } t P) (k : Kp B c.B) : Ev prog w s₀ A c t P := fun h o => e h (o.less k)
/-- flat: the first gives a value that speaks of no heap -/
theorem Ev.seqF {t : Sem α} {f : α → Sem β} {V : α → Prop} {P : β → Heap → Prop} (e : Ev prog w s₀ A c t (fun v _ => V v))
    (k : ∀ v, V v → Ev prog w s₀ A c (f v) P) : Ev prog w s₀ A c (t >>= f) P :=
  Ev.seq e fun v B g p h o => (k v p.here h (o.less g)).mono fun _ _ q _ => q
/-- the end of a rule that changes no heap -/
theorem stay {h : Heap} {tk : Nat} {P : Heap → Prop} (p : ∀ H, P H) : ∃ h' tk', St s₀ h tk = St s₀ h' tk' ∧ Kp h h' ∧ h.objs.size ≤ h'.objs.size ∧ ∀ H, New h h' H → P H :=
  ⟨h, tk, rfl, Kp.refl h, Nat.le_refl _, fun H _ => p H⟩
end
end Mine
end QBase

section QExpr
open PySem PySem.W PyProof.Rows
set_option linter.unusedVariables false
set_option maxRecDepth 100000
namespace Mine

abbrev Is (v₀ : Value) : Value → Heap → Prop := fun v _ => v = v₀
abbrev VI (x : Int) : Value → Heap → Prop := fun v _ => ∃ t, v = .int x t
abbrev VS (x : Str) : Value → Heap → Prop := fun v _ => ∃ t, v = .str x t
abbrev VB (b : Bool) : Value → Heap → Prop := fun v _ => v = .bool b
abbrev Tr (b : Bool) : Bool → Heap → Prop := fun v _ => v = b

section
variable {prog : Program} {w : World} {s₀ : Shared} {A : Around} {α β : Type} {c : Cx} {env : Env}

theorem Ev.isInt {t : Sem Value} {x : Int} {u : Tok} (e : Ev prog w s₀ A c t (Is (.int x u))) : Ev prog w s₀ A c t (VI x) := e.mono fun _ _ p => ⟨u, p⟩
theorem Ev.isStr {t : Sem Value} {x : Str} {u : Tok} (e : Ev prog w s₀ A c t (Is (.str x u))) : Ev prog w s₀ A c t (VS x) := e.mono fun _ _ p => ⟨u, p⟩

/-- names -/
theorem Ev.local {x : Str} {pos : Pos} {v : Value} (hv : c.ρ.lookup x = some v) (hL : env.locals = c.L := by rfl) (hk : env.scope.kind = .function := by rfl)
    (hx : env.kindOf x = some .local := by rfl) (hd : (x == ("__debug__" : Str)) = false := by decide) : Ev prog w s₀ A c (eval (.Name x pos) env) (Is v) := fun h o tk pos => by
  obtain ⟨m, hn, hm⟩ := o.loc
  exact toC (wpAny_Name (wpAny_loadName_local hk hx (by rw [hL]; exact hn) (hm x v hv) (stay fun _ => rfl)) hd)
theorem Ev.free {x : Str} {pos : Pos} {v : Value} {a : Addr} (hv : ∀ h, c.Ok h → h.IsCell a (some v)) (hc : env.cells.lookup x = some a := by rfl) (hk : env.scope.kind = .function := by rfl)
    (hx : env.kindOf x = some .free := by rfl) (hd : (x == ("__debug__" : Str)) = false := by decide) (hn : (x == ("__classdict__" : Str)) = false := by decide) : Ev prog w s₀ A c (eval (.Name x pos) env) (Is v) := fun h o tk pos =>
  toC (wpAny_Name (wpAny_loadName_free hk hx hc (hv h o) (stay fun _ => rfl) hn) hd)
theorem Ev.cell {x : Str} {pos : Pos} {v : Value} {a : Addr} (hv : ∀ h, c.Ok h → h.IsCell a (some v)) (hc : env.cells.lookup x = some a := by rfl) (hk : env.scope.kind = .function := by rfl)
    (hx : env.kindOf x = some .cell := by rfl) (hd : (x == ("__debug__" : Str)) = false := by decide) : Ev prog w s₀ A c (eval (.Name x pos) env) (Is v) := fun h o tk pos =>
  toC (wpAny_Name (wpAny_loadName_cell hk hx hc (hv h o) (stay fun _ => rfl)) hd)

/-- constants -/
theorem Ev.int {i : Int} {k : Nat} {pos : Pos} : Ev prog w s₀ A c (eval (.Constant (.int i) k pos) env) (VI i) := fun h o tk pos => toC (wpAny_Constant_int (stay fun _ => ⟨_, rfl⟩))
theorem Ev.str {x : Str} {k : Nat} {pos : Pos} : Ev prog w s₀ A c (eval (.Constant (.str x) k pos) env) (VS x) := fun h o tk pos => toC (PySem.Calls.Constant_str (stay fun _ => ⟨_, rfl⟩))
theorem Ev.cNone {k : Nat} {pos : Pos} : Ev prog w s₀ A c (eval (.Constant .none k pos) env) (Is .none) := fun h o tk pos => toC (Constant_none (stay fun _ => rfl))
theorem Ev.cBool {b : Bool} {k : Nat} {pos : Pos} : Ev prog w s₀ A c (eval (.Constant (.bool b) k pos) env) (VB b) := fun h o tk pos => toC (Constant_bool (stay fun _ => rfl))

/-- two operands; the second sees what the first made -/
theorem Ev.two₀ {l r : Sem Value} {op : Value → Value → Sem α} {P₁ P₂ : Value → Heap → Prop} {P : α → Heap → Prop} (hl : Ev prog w s₀ A c l P₁)
    (hr : ∀ B, Kp c.B B → Ev prog w s₀ A { c with B := B } r P₂)
    (hop : ∀ a b B, Kp c.B B → Up P₁ a B → Up P₂ b B → Ev prog w s₀ A { c with B := B } (op a b) (fun u H => P₁ a H → P₂ b H → P u H)) (h : Heap) (o : c.Ok h) :
    Hp prog w s₀ A l (fun a h₁ => Hp prog w s₀ A r (fun b h₂ => Hp prog w s₀ A (op a b) (Post h P) h₂) h₁) h := by
  refine Hp.mono (hl h o) fun a h₁ ⟨g₁, z₁, p₁⟩ => ?_
  have o₁ := o.grow g₁
  refine Hp.mono (hr (c.fz h₁) o₁.kpfz h₁ o₁.base) fun b h₂ ⟨g₂, z₂, p₂⟩ => ?_
  have o₂ := o₁.grow g₂
  refine Hp.mono (hop a b (c.fz h₂) o₂.kpfz (fun B' g => p₁ _ (fun x q ha e => g x q (hideAll_get _ (g₂ x q e) fun m => absurd (o.lt x m) (Nat.not_lt.mpr ha))))
    (fun B' g => p₂ _ (fun x q ha e => g x q (o₁.newfz x q ha e))) h₂ o₂.base) fun u h₃ ⟨g₃, z₃, p₃⟩ => ?_
  refine ⟨g₁.trans (g₂.trans g₃), Nat.le_trans z₁ (Nat.le_trans z₂ z₃), fun H n => p₃ H (fun x q ha e => n x q (Nat.le_trans z₁ (Nat.le_trans z₂ ha)) e) (p₁ H fun x q ha e => n x q ha (g₃ x q (g₂ x q e)))
    (p₂ H fun x q ha e => n x q (Nat.le_trans z₁ ha) (g₃ x q e))⟩
/-- flat operands -/
theorem Ev.twoF₀ {l r : Sem Value} {op : Value → Value → Sem α} {V₁ V₂ : Value → Prop} {P : α → Heap → Prop} (hl : Ev prog w s₀ A c l (fun v _ => V₁ v)) (hr : Ev prog w s₀ A c r (fun v _ => V₂ v))
    (hop : ∀ a b, V₁ a → V₂ b → Ev prog w s₀ A c (op a b) P) (h : Heap) (o : c.Ok h) :
    Hp prog w s₀ A l (fun a h₁ => Hp prog w s₀ A r (fun b h₂ => Hp prog w s₀ A (op a b) (Post h P) h₂) h₁) h :=
  Ev.two₀ hl (fun B g h o => hr h (o.less g)) (fun a b B g p q h o => (hop a b p.here q.here h (o.less g)).mono fun _ _ x _ _ => x) h o

theorem Ev.bin {l r : Expr} {op : Operator} {pos : Pos} {P₁ P₂ P : Value → Heap → Prop} (hl : Ev prog w s₀ A c (eval l env) P₁)
    (hr : ∀ B, Kp c.B B → Ev prog w s₀ A { c with B := B } (eval r env) P₂)
    (hop : ∀ a b B, Kp c.B B → Up P₁ a B → Up P₂ b B → Ev prog w s₀ A { c with B := B } (binaryOp op a b) (fun u H => P₁ a H → P₂ b H → P u H)) :
    Ev prog w s₀ A c (eval (.BinOp l op r pos) env) P := fun h o tk p =>
  c_BinOp ((Ev.two₀ hl hr hop h o).use (fun a h₁ tk₁ z q => q.use (fun b h₂ tk₂ z₂ q₂ => q₂ tk₂ z₂) tk₁ z) tk p)
theorem Ev.binF {l r : Expr} {op : Operator} {pos : Pos} {V₁ V₂ : Value → Prop} {P : Value → Heap → Prop} (hl : Ev prog w s₀ A c (eval l env) (fun v _ => V₁ v)) (hr : Ev prog w s₀ A c (eval r env) (fun v _ => V₂ v))
    (hop : ∀ a b, V₁ a → V₂ b → Ev prog w s₀ A c (binaryOp op a b) P) : Ev prog w s₀ A c (eval (.BinOp l op r pos) env) P := fun h o tk p =>
  c_BinOp ((Ev.twoF₀ hl hr hop h o).use (fun a h₁ tk₁ z q => q.use (fun b h₂ tk₂ z₂ q₂ => q₂ tk₂ z₂) tk₁ z) tk p)

section
variable {l r : Expr} {pos : Pos} {x y : Int}
theorem Ev.add (hl : Ev prog w s₀ A c (eval l env) (VI x)) (hr : Ev prog w s₀ A c (eval r env) (VI y)) : Ev prog w s₀ A c (eval (.BinOp l .Add r pos) env) (VI (x + y)) :=
  Ev.binF hl hr fun a b ⟨_, ea⟩ ⟨_, eb⟩ h o tk p => by subst ea eb; exact toC (PyProof.Rows.add_int (stay fun _ => ⟨_, rfl⟩))
theorem Ev.sub (hl : Ev prog w s₀ A c (eval l env) (VI x)) (hr : Ev prog w s₀ A c (eval r env) (VI y)) : Ev prog w s₀ A c (eval (.BinOp l .Sub r pos) env) (VI (x - y)) :=
  Ev.binF hl hr fun a b ⟨_, ea⟩ ⟨_, eb⟩ h o tk p => by subst ea eb; exact toC (PyProof.Rows.sub_int (stay fun _ => ⟨_, rfl⟩))
theorem Ev.mul (hl : Ev prog w s₀ A c (eval l env) (VI x)) (hr : Ev prog w s₀ A c (eval r env) (VI y)) (hm : IntMulOk x y) : Ev prog w s₀ A c (eval (.BinOp l .Mult r pos) env) (VI (x * y)) :=
  Ev.binF hl hr fun a b ⟨_, ea⟩ ⟨_, eb⟩ h o tk p => by subst ea eb; exact toC (PyProof.Rows.mul_int (stay fun _ => ⟨_, rfl⟩) hm)
theorem Ev.mod (hl : Ev prog w s₀ A c (eval l env) (VI x)) (hr : Ev prog w s₀ A c (eval r env) (VI y)) (hy : y ≠ 0) : Ev prog w s₀ A c (eval (.BinOp l .Mod r pos) env) (VI (x.fmod y)) :=
  Ev.binF hl hr fun a b ⟨_, ea⟩ ⟨_, eb⟩ h o tk p => by subst ea eb; exact toC (PyProof.Rows.mod_int hy (stay fun _ => ⟨_, rfl⟩))
theorem Ev.fdiv (hl : Ev prog w s₀ A c (eval l env) (VI x)) (hr : Ev prog w s₀ A c (eval r env) (VI y)) (hy : y ≠ 0) (hp : Builtin.divisionGoesByPylong x y = false) :
    Ev prog w s₀ A c (eval (.BinOp l .FloorDiv r pos) env) (VI (x.fdiv y)) :=
  Ev.binF hl hr fun a b ⟨_, ea⟩ ⟨_, eb⟩ h o tk p => by subst ea eb; exact toC (PyProof.Rows.floordiv_int hy (stay fun _ => ⟨_, rfl⟩) (.inl hp))
theorem Ev.pow (hl : Ev prog w s₀ A c (eval l env) (VI x)) (hr : Ev prog w s₀ A c (eval r env) (VI y)) (hn : 0 ≤ y) (hsz : (Builtin.Int.intBits x : Int) * y ≤ 2 ^ 27) :
    Ev prog w s₀ A c (eval (.BinOp l .Pow r pos) env) (VI (x ^ y.toNat)) :=
  Ev.binF hl hr fun a b ⟨_, ea⟩ ⟨_, eb⟩ h o tk p => by subst ea eb; exact toC (PyProof.Rows.pow_int hn hsz (stay fun _ => ⟨_, rfl⟩))
theorem Ev.neg {e : Expr} (he : Ev prog w s₀ A c (eval e env) (VI x)) : Ev prog w s₀ A c (eval (.UnaryOp .USub e pos) env) (VI (-x)) := fun h o tk p =>
  c_UnaryOp ((Ev.seqF₀ (f := fun v => unaryOp .USub v) (P := VI (-x)) he (fun v ⟨_, e⟩ h o tk p => by subst e; exact toC (P.neg_int (stay fun _ => ⟨_, rfl⟩))) h o).use (fun a h₁ tk₁ z q => q tk₁ z) tk p)
end

/-- comparisons of two flat values, as a test -/
theorem Ev.cmpF {l r : Expr} {op : CmpOp} {pos : Pos} {V₁ V₂ : Value → Prop} {b : Bool} {whole : Sem Value} (hl : Ev prog w s₀ A c (eval l env) (fun v _ => V₁ v)) (hr : Ev prog w s₀ A c (eval r env) (fun v _ => V₂ v))
    (hop : ∀ x y, V₁ x → V₂ y → Ev prog w s₀ A c (compareOp op x y) (VB b)) (hm : behindInMarks op r = false := by with_unfolding_all rfl) : Ev prog w s₀ A c (isTrue (.Compare l [op] [r] pos) env whole) (Tr b) := fun h o tk p =>
  c_isTrue_Compare1 ((Ev.twoF₀ (op := fun x y => compareOp op x y) (P := VB b) hl hr hop h o).use (fun a h₁ tk₁ z q => q.use (fun b' h₂ tk₂ z₂ q₂ => q₂.use (fun u h₃ tk₃ _ ⟨g, z, f⟩ => by
    have e := f h₃ (New.self _ _); subst e; exact toC (wpAny_truthy_bool ⟨h₃, tk₃, rfl, g, z, fun _ _ => rfl⟩)) tk₂ z₂) tk₁ z) tk p) hm
/-- and as a value -/
theorem Ev.cmpV {l r : Expr} {op : CmpOp} {pos : Pos} {V₁ V₂ : Value → Prop} {P : Value → Heap → Prop} (hl : Ev prog w s₀ A c (eval l env) (fun v _ => V₁ v)) (hr : Ev prog w s₀ A c (eval r env) (fun v _ => V₂ v))
    (hop : ∀ x y, V₁ x → V₂ y → Ev prog w s₀ A c (compareOp op x y) P) (hm : behindInMarks op r = false := by with_unfolding_all rfl) : Ev prog w s₀ A c (eval (.Compare l [op] [r] pos) env) P := fun h o tk p =>
  c_Compare1 ((Ev.twoF₀ (op := fun x y => compareOp op x y) hl hr hop h o).use (fun a h₁ tk₁ z q => q.use (fun b' h₂ tk₂ z₂ q₂ => q₂ tk₂ z₂) tk₁ z) tk p) hm
section
variable {l r : Expr} {pos : Pos} {x y : Int} {whole : Sem Value}
theorem Ev.eqI (hl : Ev prog w s₀ A c (eval l env) (VI x)) (hr : Ev prog w s₀ A c (eval r env) (VI y)) (hm : behindInMarks .Eq r = false := by with_unfolding_all rfl) : Ev prog w s₀ A c (isTrue (.Compare l [.Eq] [r] pos) env whole) (Tr (x == y)) :=
  Ev.cmpF hl hr (fun a b ⟨_, ea⟩ ⟨_, eb⟩ h o tk p => by subst ea eb; exact toC (PyProof.Rows.eq_int (stay fun _ => rfl))) hm
theorem Ev.neI (hl : Ev prog w s₀ A c (eval l env) (VI x)) (hr : Ev prog w s₀ A c (eval r env) (VI y)) (hm : behindInMarks .NotEq r = false := by with_unfolding_all rfl) : Ev prog w s₀ A c (isTrue (.Compare l [.NotEq] [r] pos) env whole) (Tr (x != y)) :=
  Ev.cmpF hl hr (fun a b ⟨_, ea⟩ ⟨_, eb⟩ h o tk p => by subst ea eb; exact toC (PyProof.Rows.ne_int (stay fun _ => rfl))) hm
theorem Ev.gtI (hl : Ev prog w s₀ A c (eval l env) (VI x)) (hr : Ev prog w s₀ A c (eval r env) (VI y)) (hm : behindInMarks .Gt r = false := by with_unfolding_all rfl) : Ev prog w s₀ A c (isTrue (.Compare l [.Gt] [r] pos) env whole) (Tr (decide (y < x))) :=
  Ev.cmpF hl hr (fun a b ⟨_, ea⟩ ⟨_, eb⟩ h o tk p => by subst ea eb; exact toC (PyProof.Rows.gt_int (stay fun _ => rfl))) hm
theorem Ev.geI (hl : Ev prog w s₀ A c (eval l env) (VI x)) (hr : Ev prog w s₀ A c (eval r env) (VI y)) (hm : behindInMarks .GtE r = false := by with_unfolding_all rfl) : Ev prog w s₀ A c (isTrue (.Compare l [.GtE] [r] pos) env whole) (Tr (decide (y ≤ x))) :=
  Ev.cmpF hl hr (fun a b ⟨_, ea⟩ ⟨_, eb⟩ h o tk p => by subst ea eb; exact toC (PyProof.Rows.ge_int (stay fun _ => rfl))) hm
theorem Ev.eqS {x y : Str} (hl : Ev prog w s₀ A c (eval l env) (VS x)) (hr : Ev prog w s₀ A c (eval r env) (VS y)) (hm : behindInMarks .Eq r = false := by with_unfolding_all rfl) : Ev prog w s₀ A c (isTrue (.Compare l [.Eq] [r] pos) env whole) (Tr (x == y)) :=
  Ev.cmpF hl hr (fun a b ⟨_, ea⟩ ⟨_, eb⟩ h o tk p => by subst ea eb; exact toC (PyProof.Rows.eq_str (stay fun _ => rfl))) hm
end


section
variable {x : Expr} {rest : List Expr} {pos : Pos} {whole : Sem Value} {b d : Bool}
theorem Ev.and (hx : Ev prog w s₀ A c (isTrue x env (eval x env)) (Tr b)) (hr : b = true → Ev prog w s₀ A c (isTrue (.BoolOp .And rest pos) env whole) (Tr d)) : Ev prog w s₀ A c (isTrue (.BoolOp .And (x :: rest) pos) env whole) (Tr (b && d)) := fun h o tk p =>
  c_isTrue_and ((hx h o).use (fun a h₁ tk₁ z ⟨g, s, f⟩ => by
    have e := f h₁ (New.self _ _); subst e
    cases a with
    | false => exact ⟨h₁, tk₁, rfl, g, s, fun _ _ => rfl⟩
    | true => exact ((hr rfl) h₁ (o.grow g)).use (fun u h₂ tk₂ _ ⟨g', s', f'⟩ => ⟨h₂, tk₂, rfl, g.trans g', Nat.le_trans s s', fun H _ => f' h₂ (New.self _ _)⟩) tk₁ z) tk p)
theorem Ev.or (hx : Ev prog w s₀ A c (isTrue x env (eval x env)) (Tr b)) (hr : b = false → Ev prog w s₀ A c (isTrue (.BoolOp .Or rest pos) env whole) (Tr d)) : Ev prog w s₀ A c (isTrue (.BoolOp .Or (x :: rest) pos) env whole) (Tr (b || d)) := fun h o tk p =>
  c_isTrue_or ((hx h o).use (fun a h₁ tk₁ z ⟨g, s, f⟩ => by
    have e := f h₁ (New.self _ _); subst e
    cases a with
    | true => exact ⟨h₁, tk₁, rfl, g, s, fun _ _ => rfl⟩
    | false => exact ((hr rfl) h₁ (o.grow g)).use (fun u h₂ tk₂ _ ⟨g', s', f'⟩ => ⟨h₂, tk₂, rfl, g.trans g', Nat.le_trans s s', fun H _ => f' h₂ (New.self _ _)⟩) tk₁ z) tk p)
theorem Ev.andNil : Ev prog w s₀ A c (isTrue (.BoolOp .And [] pos) env whole) (Tr true) := fun h o tk p => toC (isTrue_and_nil (stay fun _ => rfl))
theorem Ev.orNil : Ev prog w s₀ A c (isTrue (.BoolOp .Or [] pos) env whole) (Tr false) := fun h o tk p => toC (isTrue_or_nil (stay fun _ => rfl))
theorem Ev.not (hx : Ev prog w s₀ A c (isTrue x env (eval x env)) (Tr b)) : Ev prog w s₀ A c (isTrue (.UnaryOp .Not x pos) env whole) (Tr (!b)) := fun h o tk p =>
  c_isTrue_not ((hx h o).use (fun a h₁ tk₁ z ⟨g, s, f⟩ => ⟨h₁, tk₁, rfl, g, s, fun H n => by rw [show a = b from f H n]⟩) tk p)
/-- a test by the truth of a value -/
theorem Ev.plain {e : Expr} {V : Value → Prop} {t : Sem Value} (he : Ev prog w s₀ A c t (fun v _ => V v)) (ht : ∀ v, V v → Ev prog w s₀ A c (truthy v) (Tr b))
    (hs : isTrue e env t = (do let v ← t; standAt e.pos; PySem.holding [v] (truthy v)) := by rfl) : Ev prog w s₀ A c (isTrue e env t) (Tr b) := fun h o tk p =>
  c_isTrue_plain ((Ev.seqF₀ (f := fun v => truthy v) he ht h o).use (fun a h₁ tk₁ z q => q tk₁ z) tk p) hs
end
end
end Mine
end QExpr

section QStmt
open PySem PySem.W PyProof.Rows
set_option linter.unusedVariables false
set_option maxRecDepth 100000
namespace Mine

def setL (x : Str) (v : Value) (ρ : List (Str × Value)) : List (Str × Value) := (x, v) :: ρ.filter fun p => !(p.1 == x)
theorem lookup_filter_ne {x y : Str} (h : (y == x) = false) : ∀ ρ : List (Str × Value), (ρ.filter fun p => !(p.1 == x)).lookup y = ρ.lookup y
  | [] => rfl
  | (n, v) :: r => by
    have ih := lookup_filter_ne h r
    cases hn : n == x with
    | true =>
      have e : n = x := by simpa using hn
      subst e
      simp only [List.filter_cons, List.lookup_cons, h]
      simpa using ih
    | false =>
      simp only [List.filter_cons, hn, List.lookup_cons]
      cases hy : y == n <;> simp [List.lookup_cons, hy, ih]
theorem lookup_setL {x y : Str} {v u : Value} {ρ : List (Str × Value)} (h : (setL x v ρ).lookup y = some u) : (y = x ∧ u = v) ∨ ((y == x) = false ∧ ρ.lookup y = some u) := by
  unfold setL at h
  cases hy : y == x with
  | true => simp only [List.lookup_cons, hy] at h; exact .inl ⟨by simpa using hy, (Option.some.inj h).symm⟩
  | false => simp only [List.lookup_cons, hy] at h; exact .inr ⟨rfl, (lookup_filter_ne hy ρ) ▸ h⟩

section
variable {prog : Program} {w : World} {s₀ : Shared} {A : Around} {α β : Type} {c : Cx} {env : Env} {Q : Flow → Heap → Prop} {rest : List Stmt}

/-- behind a block: the rest, or the block's own end -/
def Then (prog : Program) (w : World) (s₀ : Shared) (A : Around) (env : Env) (rest : List Stmt) (Q : Flow → Heap → Prop) (f : Flow) (h : Heap) : Prop :=
  match f with
  | .next => Hp prog w s₀ A (execs rest env) Q h
  | f => Q f h

theorem Ex.nil (q : ∀ h, c.Ok h → Q .next h) : Ex prog w s₀ A c (execs [] env) Q := fun h o => Hp.puree (q h o)
theorem Ex.nilThen (k : Ex prog w s₀ A c (execs rest env) Q) : Ex prog w s₀ A c (execs [] env) (Then prog w s₀ A env rest Q) := Ex.nil fun h o => k h o
theorem Ex.cons {st : Stmt} (k : Ex prog w s₀ A c (exec st env) (Then prog w s₀ A env rest Q)) : Ex prog w s₀ A c (execs (st :: rest) env) Q := fun h o tk p =>
  c_execs_cons ((k h o).use (fun f h' tk' z q => by cases f <;> first | exact q tk' z | exact ⟨h', tk', rfl, q⟩) tk p)
theorem Ex.mono {t : Sem α} {Q Q' : α → Heap → Prop} (e : Ex prog w s₀ A c t Q) (k : ∀ a h, Q a h → Q' a h) : Ex prog w s₀ A c t Q' := fun h o => (e h o).mono k

theorem Ok.stored {h h' : Heap} {x : Str} {v : Value} {m : Str → Option Value} (o : c.Ok h) (hm : ∀ x v, c.ρ.lookup x = some v → m x = some v) (hn : h'.Ns c.L (fun y => if y = x then some v else m y)) (hs : Heap.SameBut c.L h h') :
    Cx.Ok { c with ρ := setL x v c.ρ } h' := by
  refine ⟨fun b ob e => ?_, ⟨_, hn, fun y u e => ?_⟩, fun p hp => ?_, o.nd, o.off⟩
  · refine (hs.2 b ?_).trans (o.keep b ob e)
    rintro rfl
    have := o.off _ (.head _); rw [this] at e; cases e
  · rcases lookup_setL e with ⟨rfl, rfl⟩ | ⟨h1, h2⟩
    · simp
    · rw [if_neg (by simpa using h1)]; exact hm y u h2
  · refine (hs.2 p.1 ?_).trans (o.own p hp)
    intro e
    exact (List.nodup_cons.mp o.nd).1 (e ▸ List.mem_map_of_mem hp)

theorem Hp.store {x : Str} {v : Value} {h : Heap} (o : c.Ok h) (hL : env.locals = c.L) (hk : env.scope.kind = .function) (hx : env.kindOf x = some .local) :
    Hp prog w s₀ A (storeName env x v) (fun _ h' => Cx.Ok { c with ρ := setL x v c.ρ } h' ∧ Heap.SameBut c.L h h') h := fun tk p => by
  obtain ⟨m, hn, hm⟩ := o.loc
  refine toC (wpAny_storeName_local hx (by rw [hL]; exact hn) (fun h' hn' hs => ?_) (by rw [hk]; rfl))
  rw [hL] at hn' hs
  exact ⟨h', _, rfl, Ok.stored o hm hn' hs, hs⟩

theorem Ex.assign {x : Str} {e : Expr} {pos pos' : Pos} {P : Value → Heap → Prop} (he : Ev prog w s₀ A c (eval e env) P)
    (k : ∀ v B, Kp c.B B → Up P v B → Ex prog w s₀ A { c with B := B, ρ := setL x v c.ρ } (execs rest env) Q)
    (hL : env.locals = c.L := by rfl) (hk : env.scope.kind = .function := by rfl) (hx : env.kindOf x = some .local := by rfl) (hs : swapsWith e (some (.Name x pos')) pos.line env = pure false := by rfl) :
    Ex prog w s₀ A c (execs (.Assign [.Name x pos'] e pos :: rest) env) Q := Ex.cons fun h o tk p => by
  refine c_Assign_Name ((he h o).use (fun v h₁ tk₁ z ⟨g₁, _, p₁⟩ => ?_) tk p) hs
  have o₁ := o.grow g₁
  refine (Hp.store (c := { c with B := c.fz h₁ }) o₁.base hL hk hx).use (fun _ h₂ tk₂ z₂ q => ?_) tk₁ z
  exact ⟨h₂, tk₂, rfl, k v (c.fz h₁) o₁.kpfz (fun B' g => p₁ _ (fun a q ha e => g a q (o.newfz a q ha e))) h₂ q.1⟩
theorem Ex.assignF {x : Str} {e : Expr} {pos pos' : Pos} {V : Value → Prop} (he : Ev prog w s₀ A c (eval e env) (fun v _ => V v))
    (k : ∀ v, V v → Ex prog w s₀ A { c with ρ := setL x v c.ρ } (execs rest env) Q)
    (hL : env.locals = c.L := by rfl) (hk : env.scope.kind = .function := by rfl) (hx : env.kindOf x = some .local := by rfl) (hs : swapsWith e (some (.Name x pos')) pos.line env = pure false := by rfl) :
    Ex prog w s₀ A c (execs (.Assign [.Name x pos'] e pos :: rest) env) Q :=
  Ex.assign he (fun v B g u h o => k v u.here h (Cx.Ok.less (c := { c with B := B, ρ := setL x v c.ρ }) o g)) hL hk hx hs
theorem Ex.assignI {x : Str} {e : Expr} {pos pos' : Pos} {i : Int} (he : Ev prog w s₀ A c (eval e env) (VI i))
    (k : ∀ t, Ex prog w s₀ A { c with ρ := setL x (.int i t) c.ρ } (execs rest env) Q)
    (hL : env.locals = c.L := by rfl) (hk : env.scope.kind = .function := by rfl) (hx : env.kindOf x = some .local := by rfl) (hs : swapsWith e (some (.Name x pos')) pos.line env = pure false := by rfl) :
    Ex prog w s₀ A c (execs (.Assign [.Name x pos'] e pos :: rest) env) Q :=
  Ex.assignF he (fun v ⟨t, e⟩ => by subst e; exact k t) hL hk hx hs

theorem Ex.aug {x : Str} {e : Expr} {op : Operator} {pos pos' : Pos} {v₀ : Value} {V V' : Value → Prop} (hv : c.ρ.lookup x = some v₀) (he : Ev prog w s₀ A c (eval e env) (fun v _ => V v))
    (hop : ∀ v, V v → Ev prog w s₀ A c (inplaceOp op v₀ v) (fun u _ => V' u)) (k : ∀ v, V' v → Ex prog w s₀ A { c with ρ := setL x v c.ρ } (execs rest env) Q)
    (hL : env.locals = c.L := by rfl) (hk : env.scope.kind = .function := by rfl) (hx : env.kindOf x = some .local := by rfl) :
    Ex prog w s₀ A c (execs (.AugAssign (.Name x pos') op e pos :: rest) env) Q := Ex.cons fun h o tk p => by
  obtain ⟨m, hn, hm⟩ := o.loc
  refine c_AugAssign_Name (toC (wpAny_loadName_local hk hx (by rw [hL]; exact hn) (hm x v₀ hv) ((he h o).use (fun v h₁ tk₁ z ⟨g₁, _, p₁⟩ => ?_) tk p)))
  have o₁ := o.grow g₁
  refine (hop v (p₁ _ (New.self _ _)) h₁ o₁).use (fun u h₂ tk₂ z₂ ⟨g₂, _, p₂⟩ => ?_) tk₁ z
  have o₂ := o₁.grow g₂
  refine (Hp.store o₂ hL hk hx).use (fun _ h₃ tk₃ z₃ q => ?_) tk₂ z₂
  exact ⟨h₃, tk₃, rfl, k u (p₂ _ (New.self _ _)) h₃ q.1⟩
theorem Ex.augI {x : Str} {e : Expr} {pos pos' : Pos} {i j : Int} {t : Tok} (hv : c.ρ.lookup x = some (.int i t)) (he : Ev prog w s₀ A c (eval e env) (VI j))
    (k : ∀ t, Ex prog w s₀ A { c with ρ := setL x (.int (i + j) t) c.ρ } (execs rest env) Q)
    (hL : env.locals = c.L := by rfl) (hk : env.scope.kind = .function := by rfl) (hx : env.kindOf x = some .local := by rfl) :
    Ex prog w s₀ A c (execs (.AugAssign (.Name x pos') .Add e pos :: rest) env) Q :=
  Ex.aug (V' := fun v => ∃ t, v = .int (i + j) t) hv he (fun v ⟨_, e⟩ h o tk p => by subst e; exact toC (PyProof.Rows.iadd_int (stay fun _ => ⟨_, rfl⟩))) (fun v ⟨t, e⟩ => by subst e; exact k t) hL hk hx

theorem Ex.ifS {test : Expr} {body orelse : List Stmt} {pos : Pos} {b : Bool} (ht : Ev prog w s₀ A c (isTrue test env (eval test env)) (Tr b))
    (k1 : b = true → Ex prog w s₀ A c (execs body env) (Then prog w s₀ A env rest Q)) (k2 : b = false → Ex prog w s₀ A c (execs orelse env) (Then prog w s₀ A env rest Q)) :
    Ex prog w s₀ A c (execs (.If test body orelse pos :: rest) env) Q := Ex.cons fun h o tk p => by
  refine c_If ((ht h o).use (fun v h₁ tk₁ z ⟨g₁, _, p₁⟩ => ?_) tk p)
  have e := p₁ _ (New.self _ _)
  subst e
  cases v with
  | true => exact k1 rfl h₁ (o.grow g₁) tk₁ z
  | false => exact k2 rfl h₁ (o.grow g₁) tk₁ z
/-- an if whose ways meet: J says what the names hold behind it -/
theorem Ex.ifJ {test : Expr} {body orelse : List Stmt} {pos : Pos} {b : Bool} (J : List (Str × Value) → Prop) (ht : Ev prog w s₀ A c (isTrue test env (eval test env)) (Tr b))
    (k1 : b = true → Ex prog w s₀ A c (execs body env) (fun f h => f = .next ∧ ∃ ρ, J ρ ∧ Cx.Ok { c with ρ := ρ } h)) (k2 : b = false → Ex prog w s₀ A c (execs orelse env) (fun f h => f = .next ∧ ∃ ρ, J ρ ∧ Cx.Ok { c with ρ := ρ } h))
    (k : ∀ ρ, J ρ → Ex prog w s₀ A { c with ρ := ρ } (execs rest env) Q) :
    Ex prog w s₀ A c (execs (.If test body orelse pos :: rest) env) Q :=
  Ex.ifS ht (fun e => (k1 e).mono fun f h ⟨e, ρ, j, o⟩ => by subst e; exact k ρ j h o) (fun e => (k2 e).mono fun f h ⟨e, ρ, j, o⟩ => by subst e; exact k ρ j h o)

/-- what a call gives back -/
def RetQ (h₀ : Heap) (P : Value → Heap → Prop) (f : Flow) (h' : Heap) : Prop := ∃ v, f = .ret v ∧ Post h₀ P v h'
theorem Ex.ret {e : Expr} {pos : Pos} {h₀ : Heap} {P P' : Value → Heap → Prop} (he : Ev prog w s₀ A c (eval e env) P') (hB : Kp h₀ c.B) (hz : h₀.objs.size ≤ c.L)
    (k : ∀ v H, (∀ a o, h₀.objs.size ≤ a → c.B.get? a = some o → H.get? a = some o) → P' v H → P v H) : Ex prog w s₀ A c (execs (.Return (some e) pos :: rest) env) (RetQ h₀ P) := Ex.cons fun h o tk p => by
  refine c_Return_some ((he h o).use (fun v h₁ tk₁ z ⟨g₁, z₁, p₁⟩ => ⟨h₁, tk₁, rfl, v, rfl, ?_⟩) tk p)
  have hl : h₀.objs.size < h.objs.size := Nat.lt_of_le_of_lt hz (o.lt c.L (.head _))
  refine ⟨hB.trans (o.keep.trans g₁), by omega, fun H n => k v H (fun a ob ha e => n a ob ha (g₁ a ob (o.keep a ob e))) (p₁ H fun a ob ha e => n a ob (by omega) e)⟩
theorem Ex.retF {e : Expr} {pos : Pos} {h₀ : Heap} {V : Value → Prop} (he : Ev prog w s₀ A c (eval e env) (fun v _ => V v)) (hB : Kp h₀ c.B) (hz : h₀.objs.size ≤ c.L) :
    Ex prog w s₀ A c (execs (.Return (some e) pos :: rest) env) (RetQ h₀ (fun v _ => V v)) := Ex.ret he hB hz fun _ _ _ p => p
end

/-- every name of ρ' holds in ρ the same -/
def Sub : List (Str × Value) → List (Str × Value) → Prop
  | [], _ => True
  | (x, v) :: r, ρ => ρ.lookup x = some v ∧ Sub r ρ
theorem Sub.get {ρ : List (Str × Value)} : ∀ {ρ' : List (Str × Value)}, Sub ρ' ρ → ∀ x v, ρ'.lookup x = some v → ρ.lookup x = some v
  | [], _, _, _, e => by cases e
  | (n, u) :: r, ⟨h, hr⟩, x, v, e => by
    rw [List.lookup_cons] at e
    cases hx : x == n with
    | true => rw [hx] at e; have q : x = n := by simpa using hx
              subst q; cases e; exact h
    | false => rw [hx] at e; exact hr.get x v e
section
variable {prog : Program} {w : World} {s₀ : Shared} {A : Around} {c : Cx} {env : Env}
theorem Ex.sub {ρ : List (Str × Value)} {α : Type} {t : Sem α} {Q : α → Heap → Prop} (hs : Sub ρ c.ρ) (k : Ex prog w s₀ A { c with ρ := ρ } t Q) : Ex prog w s₀ A c t Q := fun h o => k h (o.forget hs.get)
theorem Ex.turnEnd {J : List (Str × Value) → List (Addr × Obj) → Prop} {B : Heap} {as : List Addr} (ρ : List (Str × Value)) (hs : Sub ρ c.ρ) (hj : J ρ c.μ) (ha : c.μ.map (·.1) = as) (g : Kp B c.B) :
    Ex prog w s₀ A c (execs [] env) (fun f h => f = .next ∧ ∃ ρ' μ', J ρ' μ' ∧ μ'.map (·.1) = as ∧ Cx.Ok ⟨B, c.L, ρ', μ'⟩ h) :=
  Ex.nil fun h o => ⟨rfl, ρ, c.μ, hj, ha, Cx.Ok.less (c := { c with ρ := ρ }) (o.forget hs.get) g⟩
theorem Ex.joinEnd {J : List (Str × Value) → Prop} (ρ : List (Str × Value)) (hs : Sub ρ c.ρ) (hj : J ρ) : Ex prog w s₀ A c (execs [] env) (fun f h => f = .next ∧ ∃ ρ, J ρ ∧ Cx.Ok { c with ρ := ρ } h) :=
  Ex.nil fun h o => ⟨rfl, ρ, hj, o.forget hs.get⟩
end

/-- walks of an iterator that the loop makes: how the source is walked -/
def Src (prog : Program) (w : World) (s₀ : Shared) (A : Around) (c : Cx) (x : Value) (n : Nat) (P : Nat → Value → Prop) : Prop :=
  ∀ h, c.Ok h → Hp prog w s₀ A (pyIter x) (fun it h' => Kp h h' ∧ ∃ I fp wr S, it = .ref I ∧ Walks prog w A I fp wr n P S ∧ S 0 h' ∧ (∀ b ∈ wr, h.get? b = none) ∧ (∀ b ∈ fp, b ∉ c.adr) ∧ (∀ b ∈ fp, b < h'.objs.size)) h

section
variable {prog : Program} {w : World} {s₀ : Shared} {A : Around} {c : Cx} {env : Env} {Q : Flow → Heap → Prop} {rest : List Stmt}

theorem Cx.Ok.exceptOf {h h' : Heap} {wr : List Addr} (o : c.Ok h) (hk : ∀ b ob, b ∉ wr → h.get? b = some ob → h'.get? b = some ob) (h1 : ∀ b ∈ wr, c.B.get? b = none) (h2 : ∀ b ∈ wr, b ∉ c.adr) : c.Ok h' :=
  ⟨fun b ob e => hk b ob (fun q => by rw [h1 b q] at e; cases e) (o.keep b ob e), let ⟨m, hn, hm⟩ := o.loc; ⟨m, hn.at' fun ob e => hk _ ob (fun q => h2 _ q (.head _)) e, hm⟩,
    fun p hp => hk _ _ (fun q => h2 _ q (.tail _ (List.mem_map_of_mem hp))) (o.own p hp), o.nd, o.off⟩

theorem Ex.for_ {x : Str} {px pos : Pos} {iter : Expr} {body : List Stmt} {n : Nat} {P : Nat → Value → Prop} {P₁ : Value → Heap → Prop} (J : Nat → List (Str × Value) → List (Addr × Obj) → Prop)
    (hi : Ev prog w s₀ A c (eval iter env) P₁) (hsrc : ∀ v B, Kp c.B B → Up P₁ v B → Src prog w s₀ A { c with B := B } v n P)
    (h0 : J 0 c.ρ c.μ)
    (turn : ∀ i v ρ μ B, i < n → P i v → J i ρ μ → μ.map (·.1) = c.μ.map (·.1) → Kp c.B B → Ex prog w s₀ A ⟨B, c.L, setL x v ρ, μ⟩ (execs body env) (fun f h => f = .next ∧ ∃ ρ' μ', J (i + 1) ρ' μ' ∧ μ'.map (·.1) = c.μ.map (·.1) ∧ Cx.Ok ⟨B, c.L, ρ', μ'⟩ h))
    (done : ∀ ρ μ, J n ρ μ → μ.map (·.1) = c.μ.map (·.1) → Ex prog w s₀ A { c with ρ := ρ, μ := μ } (execs rest env) Q)
    (hL : env.locals = c.L := by rfl) (hk : env.scope.kind = .function := by rfl) (hx : env.kindOf x = some .local := by rfl) (hs : ∀ x, foldedSetIterable iter env x = pure x := by intro _; rfl) :
    Ex prog w s₀ A c (execs (.For (.Name x px) iter body [] pos :: rest) env) Q := Ex.cons fun h o tk p => by
  refine c_For ((hi h o).use (fun v h₁ tk₁ z ⟨g₁, _, p₁⟩ => ?_) tk p) hs
  have oo := o.grow g₁
  have hup : Up P₁ v (c.fz h₁) := fun B' g => p₁ _ (fun a q ha e => g a q (o.newfz a q ha e))
  have kp0 : Kp c.B (c.fz h₁) := oo.kpfz
  have o₁ : ({ c with B := c.fz h₁ } : Cx).Ok h₁ := oo.base
  have hsrc' := hsrc v (c.fz h₁) kp0 hup
  generalize c.fz h₁ = B₁ at kp0 o₁ hsrc'
  refine (hsrc' h₁ o₁).use (fun it h₂ tk₂ z₂ q => ?_) tk₁ z
  obtain ⟨g₂, I, fp, wr, S, rfl, W, hS, hwr, hfp, _⟩ := q
  have o₂ := o₁.grow g₂
  have hwB : ∀ b ∈ wr, B₁.get? b = none := fun b hb => by
    cases e : B₁.get? b with
    | none => rfl
    | some ob => have := o₁.keep b ob e; rw [hwr b hb] at this; cases this
  have hwa : ∀ b ∈ wr, b ∉ c.adr := fun b hb => hfp b (W.sub b hb)
  refine cc_forLoop (fun k s => ∃ i ρ μ h' tk', k = n + 1 - i ∧ i ≤ n ∧ s = St s₀ h' tk' ∧ 0 < tk' ∧ J i ρ μ ∧ μ.map (·.1) = c.μ.map (·.1) ∧ Cx.Ok ⟨B₁, c.L, ρ, μ⟩ h' ∧ S i h') ?_ (n + 1)
    ⟨0, c.ρ, c.μ, h₂, tk₂, rfl, Nat.zero_le _, rfl, z₂, h0, rfl, o₂, hS⟩
  rintro k s ⟨i, ρ, μ, h', tk', rfl, hin, rfl, z', hJ, hμ, o', hS'⟩
  have adr : (⟨B₁, c.L, ρ, μ⟩ : Cx).adr = c.adr := by show c.L :: μ.map (·.1) = c.L :: c.μ.map (·.1); rw [hμ]
  by_cases hlt : i < n
  · refine c_with_toks (n := 1) z' (toC (W.item i _ _ _ hlt hS' fun v h₃ tk₃ hP hS₃ hk₃ z₃ => c_of_eq (a := ()) rfl ?_))
    have o₃ : Cx.Ok ⟨B₁, c.L, ρ, μ⟩ h₃ := o'.exceptOf hk₃ hwB (fun b hb => adr ▸ hwa b hb)
    refine c_assign_Name ((Hp.store (c := ⟨B₁, c.L, ρ, μ⟩) o₃ hL hk hx).use (fun _ h₄ tk₄ z₄ q₄ => ?_) tk₃ z₃)
    obtain ⟨o₄, hs₄⟩ := q₄
    have hS₄ : S (i + 1) h₄ := W.frame _ _ _ hS₃ fun b hb ob e => (hs₄.2 b fun q => hfp b hb (q ▸ .head _)).trans e
    have B₄ := o₄.base
    refine (turn i v ρ μ _ hlt hP hJ hμ (kp0.trans o₄.kpfz) h₄ B₄).use (fun f h₅ tk₅ z₅ q₅ => ?_) tk₄ z₄
    obtain ⟨rfl, ρ', μ', hJ', hμ', o₅⟩ := q₅
    refine ⟨rfl, n + 1 - (i + 1), by omega, i + 1, ρ', μ', h₅, tk₅, rfl, hlt, rfl, z₅, hJ', hμ', o₅.less o₄.kpfz, W.frame _ _ _ hS₄ fun b hb ob e => o₅.keep b ob (hideAll_get _ e fun q => hfp b hb ?_)⟩
    have q' : b ∈ (⟨B₁, c.L, ρ, μ⟩ : Cx).adr := q
    rw [adr] at q'
    exact q'
  · have e : i = n := by omega
    subst e
    refine c_with_toks (n := 1) z' (toC (W.done _ _ _ hS' fun h₃ tk₃ hk₃ z₃ => ?_))
    have o₃ : Cx.Ok ⟨B₁, c.L, ρ, μ⟩ h₃ := o'.exceptOf hk₃ hwB (fun b hb => adr ▸ hwa b hb)
    exact toC (wpAny_execs_nil ⟨h₃, tk₃, rfl, done ρ μ hJ hμ h₃ (Cx.Ok.less (c := ⟨B₁, c.L, ρ, μ⟩) o₃ kp0)⟩)

theorem Ex.while_ {test : Expr} {body : List Stmt} {pos : Pos} (J : Nat → List (Str × Value) → Bool → Prop) (n₀ : Nat) (b₀ : Bool) (h0 : J n₀ c.ρ b₀)
    (ht : ∀ n ρ b, J n ρ b → Ev prog w s₀ A { c with ρ := ρ } (isTrue test env (eval test env)) (Tr b))
    (turn : ∀ n ρ, J n ρ true → Ex prog w s₀ A { c with ρ := ρ } (execs body env) (fun f h => f = .next ∧ ∃ m ρ' b', m < n ∧ J m ρ' b' ∧ Cx.Ok { c with ρ := ρ' } h))
    (done : ∀ n ρ, J n ρ false → Ex prog w s₀ A { c with ρ := ρ } (execs rest env) Q) :
    Ex prog w s₀ A c (execs (.While test body [] pos :: rest) env) Q := Ex.cons fun h o tk p => by
  refine c_While (cc_whileLoop (fun k s => ∃ ρ b h' tk', s = St s₀ h' tk' ∧ 0 < tk' ∧ J k ρ b ∧ Cx.Ok { c with ρ := ρ } h') ?_ n₀ ⟨c.ρ, b₀, h, tk, rfl, p, h0, o⟩)
  rintro k s ⟨ρ, b, h', tk', rfl, z', hJ, o'⟩
  refine (ht k ρ b hJ h' o').use (fun v h₁ tk₁ z ⟨g₁, _, p₁⟩ => ?_) tk' z'
  have e := p₁ _ (New.self _ _)
  subst e
  cases v with
  | true =>
    refine (turn k ρ hJ h₁ (o'.grow g₁)).use (fun f h₂ tk₂ z₂ q => ?_) tk₁ z
    obtain ⟨rfl, m, ρ', b', hm, hJ', o₂⟩ := q
    exact ⟨rfl, m, hm, ρ', b', h₂, tk₂, rfl, z₂, hJ', o₂⟩
  | false => exact toC (wpAny_execs_nil ⟨h₁, tk₁, rfl, done k ρ hJ h₁ (o'.grow g₁)⟩)
end
end Mine
end QStmt

section QCall
open PySem PySem.W PyProof.Rows
set_option linter.unusedVariables false
set_option maxRecDepth 100000
namespace Mine

def fnParts : Stmt → Arguments × List Stmt × Scope
  | .FunctionDef _ a b _ _ _ sc _ _ _ => (a, b, sc)
  | _ => (⟨[], [], none, [], [], none, []⟩, [], ⟨.function, [], false, false, []⟩)
/-- the k-th def of the text -/
def top (k : Nat) : Arguments × List Stmt × Scope := fnParts (PySem.Challenge.pw_md0041_01.main.body.getD k (.Pass ⟨0, 0, 0, 0⟩))
abbrev fnK (k : Nat) (name : Str) (doc pm : Value) (an : Option Addr) (cdv ct : Value) : FuncData := fnOf name name (top k).1 (top k).2.1 (top k).2.2 .none .none doc pm an cdv ct

/-- the k-th def lies at a -/
def FnK (h : Heap) (a : Addr) (k : Nat) (name : Str) : Prop :=
  ∃ o doc pm an cdv ct, h.get? a = some o ∧ o.data = .func (fnK k name doc pm an cdv ct) ∧ h.CodeRec cdv name
theorem FnK.keeps {h h' : Heap} {a : Addr} {k : Nat} {name : Str} (f : FnK h a k name) (g : Kp h h') : FnK h' a k name :=
  let ⟨o, doc, pm, an, cdv, ct, ho, hd, hc⟩ := f; ⟨o, doc, pm, an, cdv, ct, g _ _ ho, hd, hc.keeps g⟩

/-- room for calls -/
structure Gd (n : Nat) (A : Around) : Prop where
  hh : A.handled = none
  dp : A.depth + n < recursionLimit
  un : A.units + 20 * n < cLine
theorem Gd.deeper {n : Nat} {A : Around} (g : Gd (n + 1) A) (env : Env) : Gd n (A.deeper env) :=
  ⟨g.hh, by have := g.dp; show A.depth + 1 + n < _; omega, by have := g.un; show A.units + 3 + 20 * n < _; omega⟩
theorem Gd.less {n m : Nat} {A : Around} (g : Gd n A) (h : m ≤ n) : Gd m A := ⟨g.hh, by have := g.dp; omega, by have := g.un; omega⟩

section
variable {prog : Program} {w : World} {s₀ : Shared} {A : Around} {α β : Type} {c : Cx} {env : Env}

theorem EvH.callK {h : Heap} {a : Addr} {k : Nat} {name : Str} {args : List Value} {binds ρ : List (Str × Value)} {P : Value → Heap → Prop} (F : FnK h a k name) (lim : h.NoLimit) (hroom : A.depth < recursionLimit)
    (hbind : ∀ doc pm an cdv ct, bindArgs (fnK k name doc pm an cdv ct) ⟨args, []⟩ = Pure.pure binds)
    (hρ : ∀ x v, ρ.lookup x = some v → binds.reverse.lookup x = some v)
    (hcell : ∀ x ∈ (top k).2.2.names, x.2 ≠ .cell) (hloc : ∀ x ∈ binds, (top k).2.2.names.lookup x.1 = some .local)
    (hco : (top k).2.2.isCoroutine = false) (hgen : (top k).2.2.isGenerator = false) (hk : (top k).2.2.kind = .function)
    (H : ∀ L cd, h.objs.size ≤ L → Ex prog w s₀ (A.deeper (envX name (top k).2.2 L a cd [])) ⟨h, L, ρ, []⟩ (execs (top k).2.1 (envX name (top k).2.2 L a cd [])) (RetQ h P)) :
    EvH prog w s₀ A h (call (.ref a) args) P := fun tk p => by
  obtain ⟨o, doc, pm, an, cdv, ct, ho, hd, hc⟩ := F
  refine c_call (cc_call_function (fd := fnK k name doc pm an cdv ct) (body := (top k).2.1) hroom ho hd hco hgen rfl hc ?_)
  rw [hbind doc pm an cdv ct]
  refine c_pure (toC (wpAny_newFunctionEnv hcell hloc (fun h₁ hns hsb => ?_) hk))
  have hk₁ : ∀ b ob, h.get? b = some ob → h₁.get? b = some ob := fun b ob e => hsb.extBut b ob (Nat.ne_of_lt (Heap.lt_size e)) (Heap.get?_push_of_some _ e)
  refine ⟨lim.keeps hk₁, cc_func ?_⟩
  have ok : Cx.Ok ⟨h, h.objs.size, ρ, []⟩ h₁ := ⟨hk₁, ⟨_, hns, hρ⟩, (fun _ hp => nomatch hp), by simp [Cx.adr], fun b hb => by
    have hb' : b = h.objs.size := by simpa [Cx.adr] using hb
    rw [hb']; exact Heap.get?_none_of_le (Nat.le_refl _)⟩
  show wpC (model prog w) (A.deeper (envX name (top k).2.2 h.objs.size a cdv [])) (execs (top k).2.1 (envX name (top k).2.2 h.objs.size a cdv [])) _ (St s₀ h₁ (tk + binds.length))
  refine (H h.objs.size cdv (Nat.le_refl _) h₁ ok).use (fun f h₂ tk₂ _ q => ?_) _ (Nat.lt_of_lt_of_le p (Nat.le_add_right _ _))
  obtain ⟨v, rfl, q⟩ := q
  exact ⟨v, rfl, h₂, tk₂, rfl, q⟩

/-- arguments -/
theorem Ev.argsNil {pos : Pos} : Ev prog w s₀ A c (spliced (backTo pos (starEach [] env))) (fun vs _ => vs = []) := fun h o tk p => toC (PySem.Calls.spliced_nil (stay fun _ => rfl))
theorem Ev.argsCons {e : Expr} {rest : List Expr} {pos : Pos} {P : Value → Heap → Prop} {R : List Value → Heap → Prop} (he : Ev prog w s₀ A c (eval e env) P)
    (hr : ∀ B, Kp c.B B → Ev prog w s₀ A { c with B := B } (spliced (backTo pos (starEach rest env))) R)
    (hs : starEach (e :: rest) env = (false, eval e env) :: starEach rest env := by rfl) : Ev prog w s₀ A c (spliced (backTo pos (starEach (e :: rest) env))) (fun vs H => ∃ v r, vs = v :: r ∧ P v H ∧ R r H) := fun h o tk p => by
  refine c_args_cons ((he h o).use (fun v h₁ tk₁ z ⟨g₁, z₁, p₁⟩ => ?_) tk p) hs
  have o₁ := o.grow g₁
  refine (hr (c.fz h₁) o₁.kpfz h₁ o₁.base).use (fun r h₂ tk₂ z₂ ⟨g₂, y₂, p₂⟩ => ?_) tk₁ z
  exact ⟨h₂, tk₂, rfl, g₁.trans g₂, Nat.le_trans z₁ y₂, fun H n => ⟨v, r, rfl, p₁ H fun a q ha e => n a q ha (g₂ a q e), p₂ H fun a q ha e => n a q (Nat.le_trans z₁ ha) e⟩⟩
theorem Ev.args1 {e : Expr} {pos : Pos} {P : Value → Heap → Prop} (he : Ev prog w s₀ A c (eval e env) P) (hs : starEach [e] env = [(false, eval e env)] := by rfl) :
    Ev prog w s₀ A c (spliced (backTo pos (starEach [e] env))) (fun vs H => ∃ v, vs = [v] ∧ P v H) :=
  (Ev.argsCons he (fun _ _ => Ev.argsNil) hs).mono fun vs H ⟨v, r, e, p, q⟩ => by subst q; exact ⟨v, e, p⟩
theorem Ev.args2 {e₁ e₂ : Expr} {pos : Pos} {V₁ V₂ : Value → Prop} (h1 : Ev prog w s₀ A c (eval e₁ env) (fun v _ => V₁ v)) (h2 : Ev prog w s₀ A c (eval e₂ env) (fun v _ => V₂ v))
    (hs : starEach [e₁, e₂] env = (false, eval e₁ env) :: starEach [e₂] env := by rfl) (hs' : starEach [e₂] env = [(false, eval e₂ env)] := by rfl) :
    Ev prog w s₀ A c (spliced (backTo pos (starEach [e₁, e₂] env))) (fun vs H => ∃ v u, vs = [v, u] ∧ V₁ v ∧ V₂ u) :=
  (Ev.argsCons h1 (fun B g => Ev.args1 (P := fun v _ => V₂ v) (fun h o => h2 h (Cx.Ok.less (c := { c with B := B }) o g)) hs') hs).mono fun vs H ⟨v, r, e, p, u, e', q⟩ => by subst e'; exact ⟨v, u, e, p, q⟩
theorem Ev.args3 {e₁ e₂ e₃ : Expr} {pos : Pos} {V₁ V₂ V₃ : Value → Prop} (h1 : Ev prog w s₀ A c (eval e₁ env) (fun v _ => V₁ v)) (h2 : Ev prog w s₀ A c (eval e₂ env) (fun v _ => V₂ v)) (h3 : Ev prog w s₀ A c (eval e₃ env) (fun v _ => V₃ v))
    (hs : starEach [e₁, e₂, e₃] env = (false, eval e₁ env) :: starEach [e₂, e₃] env := by rfl) (hs' : starEach [e₂, e₃] env = (false, eval e₂ env) :: starEach [e₃] env := by rfl) (hs'' : starEach [e₃] env = [(false, eval e₃ env)] := by rfl) :
    Ev prog w s₀ A c (spliced (backTo pos (starEach [e₁, e₂, e₃] env))) (fun vs H => ∃ v u x, vs = [v, u, x] ∧ V₁ v ∧ V₂ u ∧ V₃ x) :=
  (Ev.argsCons h1 (fun B g => Ev.args2 (V₁ := V₂) (V₂ := V₃) (fun h o => h2 h (Cx.Ok.less (c := { c with B := B }) o g)) (fun h o => h3 h (Cx.Ok.less (c := { c with B := B }) o g)) hs' hs'') hs).mono fun vs H ⟨v, r, e, p, u, x, e', q⟩ => by subst e'; exact ⟨v, u, x, e, p, q⟩

/-- calls by a name -/
theorem Ev.callB {func e : Expr} {rest : List Expr} {pos : Pos} {id : String} {R : List Value → Heap → Prop} {P : Value → Heap → Prop} (hf : Ev prog w s₀ A c (eval func env) (Is (.builtin id)))
    (ha : Ev prog w s₀ A c (spliced (backTo pos (starEach (e :: rest) env))) R) (hc : ∀ vs B, Kp c.B B → Up R vs B → Ev prog w s₀ A { c with B := B } (call (.builtin id) vs) (fun u H => R vs H → P u H))
    (hcall : eval (.Call func (e :: rest) [] pos) env = (do callWith pos (← eval func env) [] (backTo pos (starEach (e :: rest) env)) (backToKw pos (keywordEach [] env))) := by rfl)
    (hs : starEach (e :: rest) env = (false, eval e env) :: starEach rest env := by rfl) (hp : (backTo pos (starEach rest env)).any (·.1) = false := by rfl) :
    Ev prog w s₀ A c (eval (.Call func (e :: rest) [] pos) env) P := fun h o tk p =>
  c_Call ((hf h o).use (fun v h₁ tk₁ z ⟨g₁, z₁, p₁⟩ => by
    have e := p₁ _ (New.self _ _); subst e
    exact c_callWith_builtin ((Ev.seq₀ (f := fun vs => call (.builtin id) vs) ha hc h₁ (o.grow g₁)).use (fun vs h₂ tk₂ z₂ q => q.use (fun u h₃ tk₃ _ ⟨g₃, y₃, p₃⟩ => ⟨h₃, tk₃, rfl, g₁.trans g₃, Nat.le_trans z₁ y₃, fun H n => p₃ H fun a q ha e => n a q (Nat.le_trans z₁ ha) e⟩) tk₂ z₂) tk₁ z) hs hp) tk p) hcall
theorem Ev.callT {func e : Expr} {rest : List Expr} {pos : Pos} {T : String} {R : List Value → Heap → Prop} {P : Value → Heap → Prop} (hf : Ev prog w s₀ A c (eval func env) (Is (.type T)))
    (ha : Ev prog w s₀ A c (spliced (backTo pos (starEach (e :: rest) env))) R) (hc : ∀ vs B, Kp c.B B → Up R vs B → Ev prog w s₀ A { c with B := B } (call (.type T) vs) (fun u H => R vs H → P u H))
    (hcall : eval (.Call func (e :: rest) [] pos) env = (do callWith pos (← eval func env) [] (backTo pos (starEach (e :: rest) env)) (backToKw pos (keywordEach [] env))) := by rfl)
    (hs : starEach (e :: rest) env = (false, eval e env) :: starEach rest env := by rfl) (hp : (backTo pos (starEach rest env)).any (·.1) = false := by rfl) :
    Ev prog w s₀ A c (eval (.Call func (e :: rest) [] pos) env) P := fun h o tk p =>
  c_Call ((hf h o).use (fun v h₁ tk₁ z ⟨g₁, z₁, p₁⟩ => by
    have e := p₁ _ (New.self _ _); subst e
    exact c_callWith_type ((Ev.seq₀ (f := fun vs => call (.type T) vs) ha hc h₁ (o.grow g₁)).use (fun vs h₂ tk₂ z₂ q => q.use (fun u h₃ tk₃ _ ⟨g₃, y₃, p₃⟩ => ⟨h₃, tk₃, rfl, g₁.trans g₃, Nat.le_trans z₁ y₃, fun H n => p₃ H fun a q ha e => n a q (Nat.le_trans z₁ ha) e⟩) tk₂ z₂) tk₁ z) hs hp) tk p) hcall
theorem Ev.callR {func e : Expr} {rest : List Expr} {pos : Pos} {f : Addr} {R : List Value → Heap → Prop} {P : Value → Heap → Prop} (hf : Ev prog w s₀ A c (eval func env) (Is (.ref f)))
    (ho : ∀ h, c.Ok h → ∃ ob fd, h.get? f = some ob ∧ ob.data = .func fd)
    (ha : Ev prog w s₀ A c (spliced (backTo pos (starEach (e :: rest) env))) R) (hc : ∀ vs B, Kp c.B B → Up R vs B → Ev prog w s₀ A { c with B := B } (call (.ref f) vs) (fun u H => R vs H → P u H))
    (hcall : eval (.Call func (e :: rest) [] pos) env = (do callWith pos (← eval func env) [] (backTo pos (starEach (e :: rest) env)) (backToKw pos (keywordEach [] env))) := by rfl)
    (hs : starEach (e :: rest) env = (false, eval e env) :: starEach rest env := by rfl) :
    Ev prog w s₀ A c (eval (.Call func (e :: rest) [] pos) env) P := fun h o tk p =>
  c_Call ((hf h o).use (fun v h₁ tk₁ z ⟨g₁, z₁, p₁⟩ => by
    have e := p₁ _ (New.self _ _); subst e
    have o₁ := o.grow g₁
    obtain ⟨ob, fd, hob, hfd⟩ := ho h₁ o₁
    refine c_callWith_def (o := ob) hfd ((Hp.mono (ha h₁ o₁) (Q' := fun vs h₂ => h₂.get? f = some ob ∧ Hp prog w s₀ A (call (.ref f) vs) (Post h P) h₂) fun vs h₂ ⟨g₂, z₂, p₂⟩ => ⟨g₂ _ _ hob, ?_⟩).use (fun vs h₂ tk₂ z₂ q => ⟨q.1, q.2 tk₂ z₂⟩) tk₁ z) hs
    have o₂ := o₁.grow g₂
    refine Hp.mono (hc vs (c.fz h₂) o₂.kpfz (fun B' g => p₂ _ (fun a q ha e => g a q (o₁.newfz a q ha e))) h₂ o₂.base) fun u h₃ ⟨g₃, z₃, p₃⟩ => ?_
    exact ⟨g₁.trans (g₂.trans g₃), Nat.le_trans z₁ (Nat.le_trans z₂ z₃), fun H n => p₃ H (fun a q ha e => n a q (Nat.le_trans z₁ (Nat.le_trans z₂ ha)) e) (p₂ H fun a q ha e => n a q (Nat.le_trans z₁ ha) (g₃ a q e))⟩) tk p) hcall
/-- a method of a built-in type -/
theorem Ev.meth {ob e : Expr} {rest : List Expr} {name : Str} {apos pos : Pos} {id : String} {P₀ : Value → Heap → Prop} {R : List Value → Heap → Prop} {P : Value → Heap → Prop} {pl : Sem Bool} (ho : Ev prog w s₀ A c (eval ob env) P₀)
    (hm : ∀ v B, Kp c.B B → Up P₀ v B → Ev prog w s₀ A { c with B := B } (getMethod v name pl) (fun fx _ => fx = (.builtin id, [v])))
    (ha : ∀ B, Kp c.B B → Ev prog w s₀ A { c with B := B } (spliced (backTo pos (starEach (e :: rest) env))) R)
    (hc : ∀ v vs B, Kp c.B B → Up P₀ v B → Up R vs B → Ev prog w s₀ A { c with B := B } (call (.builtin id) (v :: vs)) (fun u H => P₀ v H → R vs H → P u H))
    (hcall : eval (.Call (.Attribute ob name apos) (e :: rest) [] pos) env = (do
      let ov ← eval ob env
      standAt apos.atName
      let (f, first) ← PySem.holding [ov] (getMethod ov name pl)
      callWith pos f first (backTo pos (starEach (e :: rest) env)) []) := by rfl)
    (hs : starEach (e :: rest) env = (false, eval e env) :: starEach rest env := by rfl) (hp : (backTo pos (starEach rest env)).any (·.1) = false := by rfl) :
    Ev prog w s₀ A c (eval (.Call (.Attribute ob name apos) (e :: rest) [] pos) env) P := fun h o tk p => by
  refine c_MethodCall (pl := pl) ((ho h o).use (fun v h₁ tk₁ z ⟨g₁, z₁, p₁⟩ => ?_) tk p) hcall
  have o₁ := o.grow g₁
  refine (hm v (c.fz h₁) o₁.kpfz (fun B' g => p₁ _ (fun a q ha e => g a q (o.newfz a q ha e))) h₁ o₁.base).use (fun fx h₂ tk₂ z₂ ⟨g₂, y₂, p₂⟩ => ?_) tk₁ z
  have e := p₂ _ (New.self _ _); subst e
  have o₂ := o₁.grow g₂
  refine c_callWith_builtin ((Hp.mono (ha (c.fz h₂) o₂.kpfz h₂ o₂.base) (Q' := fun vs h₃ => Hp prog w s₀ A (call (.builtin id) ([v] ++ vs)) (Post h P) h₃) fun vs h₃ ⟨g₃, z₃, p₃⟩ => ?_).use (fun vs h₃ tk₃ z₃ q => q tk₃ z₃) tk₂ z₂) hs hp
  have o₃ := o₂.grow g₃
  have nw : New h h₁ (c.fz h₃) := fun a q ha e => hideAll_get _ (g₃ a q (g₂ a q e)) fun m => absurd (o.lt a m) (Nat.not_lt.mpr ha)
  refine Hp.mono (hc v vs (c.fz h₃) o₃.kpfz (fun B' g => p₁ _ (fun a q ha e => g a q (nw a q ha e))) (fun B' g => p₃ _ (fun a q ha e => g a q (o₂.newfz a q ha e))) h₃ o₃.base) fun u h₄ ⟨g₄, z₄, p₄⟩ => ?_
  have k24 := g₂.trans (g₃.trans g₄)
  refine ⟨g₁.trans k24, Nat.le_trans z₁ (Nat.le_trans y₂ (Nat.le_trans z₃ z₄)), fun H n => p₄ H (fun a q ha e => n a q (Nat.le_trans z₁ (Nat.le_trans y₂ (Nat.le_trans z₃ ha))) e)
    (p₁ H fun a q ha e => n a q ha (k24 a q e)) (p₃ H fun a q ha e => n a q (Nat.le_trans z₁ (Nat.le_trans y₂ ha)) (g₄ a q e))⟩
end


section
variable {prog : Program} {w : World} {s₀ : Shared} {A : Around} {c : Cx}
theorem Src.list {a : Addr} {items : Array Value} (hh : A.handled = none) (hl : c.B.IsList a items) : Src prog w s₀ A c (.ref a) items.size (fun i v => items[i]? = some v) := fun h o tk p => by
  have hl' : h.IsList a items := hl.at fun ob e => o.keep a ob e
  refine toC (wpAny_pyIter_list hl' ⟨_, tk, rfl, fun b ob e => Heap.get?_push_of_some _ e, h.objs.size, _, _, _, rfl, Walks.list hh h.objs.size a ?_ items, ?_, ?_, ?_, ?_⟩)
  · obtain ⟨ob, e, _⟩ := hl'; exact Nat.ne_of_lt (Heap.lt_size e)
  · exact ⟨⟨_, Heap.get?_push_size _ rfl, rfl, rfl⟩, hl'.at fun o e => Heap.get?_push_of_some _ e⟩
  · intro b hb; rw [List.mem_singleton.mp hb]; exact Heap.get?_none_of_le (Nat.le_refl _)
  · intro b hb q
    rcases List.mem_cons.mp hb with e | hb
    · exact absurd (o.lt b q) (e ▸ Nat.lt_irrefl _)
    · rw [List.mem_singleton.mp hb] at q
      obtain ⟨ob, e, _⟩ := hl
      rw [o.off a q] at e; cases e
  · intro b hb
    rw [Heap.size_push]
    rcases List.mem_cons.mp hb with e | hb
    · rw [e]; exact Nat.lt_succ_self _
    · rw [List.mem_singleton.mp hb]; obtain ⟨ob, e, _⟩ := hl'; exact Nat.lt_succ_of_lt (Heap.lt_size e)
theorem Src.range {r : Addr} {a b d : Int} {t u v : Tok} {n : Nat} (hh : A.handled = none) (hr : IsRange c.B r a b d t u v) (hsmall : Builtin.Range.small a b d = true) (hn : Builtin.Range.rangeSize a b d = (n : Int)) :
    Src prog w s₀ A c (.ref r) n (fun i v => ∃ t, v = .int (a + i * d) t) := fun h o tk p => by
  refine toC (wpAny_pyIter_range (o.keep _ _ hr) hsmall ⟨_, tk, rfl, fun b ob e => Heap.get?_push_of_some _ e, h.objs.size, _, _, _, rfl, Walks.range hh h.objs.size a d n, ?_, ?_, ?_, ?_⟩)
  · rw [hn]
    have := Heap.get?_push_size h (o := { cls := .type "range_iterator", data := .fields #[rawInt a, rawInt (n : Int), rawInt d] }) rfl
    simpa [IsRangeIter] using this
  · intro b hb; rw [List.mem_singleton.mp hb]; exact Heap.get?_none_of_le (Nat.le_refl _)
  · intro b hb q
    rw [List.mem_singleton.mp hb] at q
    exact absurd (o.lt _ q) (Nat.lt_irrefl _)
  · intro b hb
    rw [Heap.size_push, List.mem_singleton.mp hb]; exact Nat.lt_succ_self _
end
end Mine
end QCall

section QAmb
open PySem PySem.W PyProof.Rows
set_option linter.unusedVariables false
set_option maxRecDepth 100000
namespace Mine

def aEval : Addr := 21
def aMask : Addr := 28
def aChains : Addr := 31
def aLine : Addr := 36
def aRuns : Addr := 43
def aHeads : Addr := 50
def globs : List (Str × Value) := [(Str.ofString "evaluate_mask", .ref aEval), (Str.ofString "mask_scores", .ref aMask), (Str.ofString "_law_chains", .ref aChains), (Str.ofString "_law_line", .ref aLine), (Str.ofString "_law_runs", .ref aRuns), (Str.ofString "_law_heads", .ref aHeads)]
def bltns : List (Str × Value) := [(Str.ofString "len", .builtin "len"), (Str.ofString "range", .type "range"), (Str.ofString "max", .builtin "max"), (Str.ofString "min", .builtin "min"), (Str.ofString "any", .builtin "any"), (Str.ofString "str", .type "str"), (Str.ofString "abs", .builtin "abs"),
  (Str.ofString "tuple", .type "tuple"), (Str.ofString "bytearray", .type "bytearray"), (Str.ofString "zip", .type "zip"), (Str.ofString "list", .type "list"), (Str.ofString "sum", .builtin "sum"), (Str.ofString "float", .type "float"), (Str.ofString "int", .type "int")]
/-- what the top left, as far as the calls ask -/
structure Amb (h : Heap) : Prop where
  gl : ∀ x v, globs.lookup x = some v → ∃ mg, h.Ns mainGlobals mg ∧ mg x = some v
  bl : ∀ x v, bltns.lookup x = some v → ∃ mg mb, h.Ns mainGlobals mg ∧ mg x = none ∧ h.Ns builtinsNs mb ∧ mb x = some v
  lim : h.NoLimit
  fEval : FnK h aEval 1 (Str.ofString "evaluate_mask")
  fMask : FnK h aMask 2 (Str.ofString "mask_scores")
  fLine : FnK h aLine 5 (Str.ofString "_law_line")
  fRuns : FnK h aRuns 6 (Str.ofString "_law_runs")
  fHeads : FnK h aHeads 7 (Str.ofString "_law_heads")
  chains : ∃ a b va vb, h.IsList aChains #[.ref a, .ref b] ∧ h.IsList a va ∧ IntsAre va.toList [1, 0, 1, 1, 1, 0, 1, 0, 1, 1, 1, 0, 1] ∧ h.IsList b vb ∧ IntsAre vb.toList [1, 0, 1, 1, 1, 0, 1, 1, 1, 0, 1, 0, 0]
theorem Heap.IsList.kp {h h' : Heap} {a : Addr} {v : Array Value} (x : h.IsList a v) (g : Kp h h') : h'.IsList a v := x.at fun o e => g a o e
theorem Amb.keeps {h h' : Heap} (m : Amb h) (g : Kp h h') : Amb h' where
  gl := fun x v e => let ⟨mg, hn, hv⟩ := m.gl x v e; ⟨mg, hn.keeps g, hv⟩
  bl := fun x v e => let ⟨mg, mb, hn, hx, hb, hv⟩ := m.bl x v e; ⟨mg, mb, hn.keeps g, hx, hb.keeps g, hv⟩
  lim := m.lim.keeps g
  fEval := m.fEval.keeps g
  fMask := m.fMask.keeps g
  fLine := m.fLine.keeps g
  fRuns := m.fRuns.keeps g
  fHeads := m.fHeads.keeps g
  chains := let ⟨a, b, va, vb, h1, h2, h3, h4, h5⟩ := m.chains; ⟨a, b, va, vb, Heap.IsList.kp h1 g, Heap.IsList.kp h2 g, h3, Heap.IsList.kp h4 g, h5⟩

section
variable {prog : Program} {w : World} {s₀ : Shared} {A : Around} {α β : Type} {c : Cx} {env : Env}

theorem Ev.glob {x : Str} {pos : Pos} {v : Value} (am : Amb c.B) (hv : globs.lookup x = some v) (hg : env.globals = mainGlobals := by rfl) (hk : env.scope.kind = .function := by rfl)
    (hx : env.kindOf x = some .globalImplicit := by rfl) (hd : (x == ("__debug__" : Str)) = false := by decide) : Ev prog w s₀ A c (eval (.Name x pos) env) (Is v) := fun h o tk p => by
  obtain ⟨mg, hn, hm⟩ := (am.keeps o.keep).gl x v hv
  exact toC (PySem.Calls.Name_function_global hk hx (PySem.Calls.loadGlobal_global (by rw [hg]; exact hn) hm (stay fun _ => rfl)) hd)
theorem Ev.blt {x : Str} {pos : Pos} {v : Value} (am : Amb c.B) (hv : bltns.lookup x = some v) (hg : env.globals = mainGlobals := by rfl) (hb : env.builtins = builtinsNs := by rfl) (hk : env.scope.kind = .function := by rfl)
    (hx : env.kindOf x = some .globalImplicit := by rfl) (hd : (x == ("__debug__" : Str)) = false := by decide) : Ev prog w s₀ A c (eval (.Name x pos) env) (Is v) := fun h o tk p => by
  obtain ⟨mg, mb, hn, hm, hn', hm'⟩ := (am.keeps o.keep).bl x v hv
  exact toC (PySem.Calls.Name_function_global hk hx (PySem.Calls.loadGlobal_builtin (by rw [hg]; exact hn) hm (by rw [hb]; exact hn') hm' (stay fun _ => rfl)) hd)

/-- len of a text -/
theorem Ev.lenS {func e : Expr} {pos : Pos} {x : Str} (hf : Ev prog w s₀ A c (eval func env) (Is (.builtin "len"))) (he : Ev prog w s₀ A c (eval e env) (VS x)) (hz : x.length ≤ 1000000)
    (hcall : eval (.Call func [e] [] pos) env = (do callWith pos (← eval func env) [] (backTo pos (starEach [e] env)) (backToKw pos (keywordEach [] env))) := by rfl)
    (hs : starEach [e] env = [(false, eval e env)] := by rfl) : Ev prog w s₀ A c (eval (.Call func [e] [] pos) env) (VI x.length) :=
  Ev.callB hf (Ev.args1 he hs) (fun vs B g u h o tk p => by
    obtain ⟨v, rfl, t, rfl⟩ := u.here
    exact toC (PyProof.Rows.len_str (by omega) (stay fun _ _ => ⟨_, rfl⟩))) hcall hs rfl
theorem Ev.lenL {func e : Expr} {pos : Pos} {a : Addr} {items : Array Value} (hf : Ev prog w s₀ A c (eval func env) (Is (.builtin "len"))) (he : Ev prog w s₀ A c (eval e env) (Is (.ref a))) (hl : c.B.IsList a items) (hz : items.size ≤ 1000000)
    (hcall : eval (.Call func [e] [] pos) env = (do callWith pos (← eval func env) [] (backTo pos (starEach [e] env)) (backToKw pos (keywordEach [] env))) := by rfl)
    (hs : starEach [e] env = [(false, eval e env)] := by rfl) : Ev prog w s₀ A c (eval (.Call func [e] [] pos) env) (VI items.size) :=
  Ev.callB hf (Ev.args1 he hs) (fun vs B g u h o tk p => by
    obtain ⟨v, rfl, rfl⟩ := u.here
    exact toC (PyProof.Rows.len_list (Heap.IsList.kp hl (g.trans o.keep)) (by omega) (stay fun _ _ => ⟨_, rfl⟩))) hcall hs rfl
/-- range(n) -/
theorem Ev.range1 {func e : Expr} {pos : Pos} {n : Int} (hf : Ev prog w s₀ A c (eval func env) (Is (.type "range"))) (he : Ev prog w s₀ A c (eval e env) (VI n))
    (hcall : eval (.Call func [e] [] pos) env = (do callWith pos (← eval func env) [] (backTo pos (starEach [e] env)) (backToKw pos (keywordEach [] env))) := by rfl)
    (hs : starEach [e] env = [(false, eval e env)] := by rfl) : Ev prog w s₀ A c (eval (.Call func [e] [] pos) env) (fun v H => ∃ r t u x, v = .ref r ∧ IsRange H r 0 n 1 t u x) :=
  Ev.callT hf (Ev.args1 he hs) (fun vs B g u h o tk p => by
    obtain ⟨v, rfl, t, rfl⟩ := u.here
    refine toC (call_range_1 ⟨_, _, rfl, fun b ob e => Heap.get?_push_of_some _ e, by rw [Heap.size_push]; exact Nat.le_succ _, fun H n _ => ⟨_, _, _, _, rfl, n _ _ (Nat.le_refl _) (Heap.get?_push_size _ rfl)⟩⟩)) hcall hs rfl

theorem split_call {h : Heap} {x y : Str} {t u : Tok} (hy : (y.length == 0) = false) (hsz : x.length ≤ sizeLine) (hsz2 : (Builtin.Str.partsBetween x (Builtin.Str.occurrences x y 0 x.length (x.length + 1)) y.length).length ≤ sizeLine) :
    EvH prog w s₀ A h (call (.builtin "str.split") [.str x t, .str y u]) (fun v H => ∃ D l, v = .ref D ∧ l.map (·.1) = Txt.split x y ∧ H.IsList D (strValues l).toArray) := fun tk p => by
  have one : ∀ (l : List (Str × Tok)) k, l.map (·.1) = Txt.split x y → ∃ h' tk', ({ heap := h.push { cls := .type "list", data := .seq (strValues l).toArray }, gens := s₀.gens, drawn := s₀.drawn, toks := k, os := s₀.os } : Shared) = St s₀ h' tk' ∧
      Post h (fun v H => ∃ D l, v = .ref D ∧ l.map (·.1) = Txt.split x y ∧ H.IsList D (strValues l).toArray) (Value.ref h.objs.size) h' := fun l k hl =>
    ⟨_, _, rfl, fun b ob e => Heap.get?_push_of_some _ e, by rw [Heap.size_push]; exact Nat.le_succ _, fun H n => ⟨_, l, rfl, hl, _, n _ _ (Nat.le_refl _) (Heap.get?_push_size _ rfl), rfl, _, rfl⟩⟩
  cases h1 : (decide (x.length < y.length) || decide (Builtin.Str.strKind x < Builtin.Str.strKind y))
  · cases hf : (Builtin.Str.occurrences x y 0 x.length (x.length + 1)).isEmpty
    · refine toC (call_meets F.slot_str_split (typeIs_str _ _ _) F.entry_str_split (F.args_str_split_2 _ _) (meets_str_split_sep x y t u h1 hy hf hsz hsz2) ?_)
      show wants _ _ _ { (St s₀ h tk) with toks := _, heap := h.push { cls := .type "list", data := .seq (strsFrom tk (Builtin.Str.partsBetween x (Builtin.Str.occurrences x y 0 x.length (x.length + 1)) y.length)).toArray } }
      rw [strsFrom_eq]
      exact one (numbered tk _) _ ((numbered_texts _ _).trans ((if_neg (ne_true_of_eq_false h1)).trans (if_neg (ne_true_of_eq_false hf))).symm)
    · exact toC (call_meets F.slot_str_split (typeIs_str _ _ _) F.entry_str_split (F.args_str_split_2 _ _) (meets_str_split_not_found x y t u h1 hy hf) (one [(x, t)] tk ((if_neg (ne_true_of_eq_false h1)).trans (if_pos hf)).symm))
  · exact toC (call_meets F.slot_str_split (typeIs_str _ _ _) F.entry_str_split (F.args_str_split_2 _ _) (meets_str_split_cannot_occur x y t u h1) (one [(x, t)] tk (if_pos h1).symm))
end
end Mine
end QAmb

section QRuns
open PySem PySem.W PyProof.Rows
set_option linter.unusedVariables false
set_option maxRecDepth 100000
namespace Mine
section
variable {prog : Program} {w : World} {s₀ : Shared} {A : Around} {α β : Type} {c : Cx} {env : Env}

/-- x.replace(y, z) of written texts -/
theorem Ev.replaceC {ob : Expr} {apos pos p₁ p₂ : Pos} {k₁ k₂ : Nat} {x y z : Str} {pl : Sem Bool} (ho : Ev prog w s₀ A c (eval ob env) (VS x)) (hyz : (y == z) = false) (hx : x.length ≤ 1048576) (hz : z.length ≤ 14)
    (hcall : eval (.Call (.Attribute ob (Str.ofString "replace") apos) [.Constant (.str y) k₁ p₁, .Constant (.str z) k₂ p₂] [] pos) env = (do
      let ov ← eval ob env
      standAt apos.atName
      let (f, first) ← PySem.holding [ov] (getMethod ov (Str.ofString "replace") pl)
      callWith pos f first (backTo pos (starEach [.Constant (.str y) k₁ p₁, .Constant (.str z) k₂ p₂] env)) []) := by rfl) :
    Ev prog w s₀ A c (eval (.Call (.Attribute ob (Str.ofString "replace") apos) [.Constant (.str y) k₁ p₁, .Constant (.str z) k₂ p₂] [] pos) env) (VS (Txt.replace x y z)) := fun h o tk p => by
  refine c_MethodCall (pl := pl) ((ho h o).use (fun v h₁ tk₁ z₁ ⟨g₁, y₁, p₁⟩ => ?_) tk p) hcall
  obtain ⟨t, rfl⟩ := p₁ _ (New.self _ _)
  refine toC (GM.replace (c_callWith_builtin (c_args_cons (toC (PySem.Calls.Constant_str (c_args_cons (toC (PySem.Calls.Constant_str (toC (PySem.Calls.spliced_nil ?_)))) rfl))) rfl) rfl rfl))
  refine toC (SC.replaceW (u := tk₁) (v := tk₁ + 1) (Nat.ne_of_gt z₁) (Nat.succ_ne_zero _) (Nat.ne_of_lt (Nat.lt_succ_self _)) hyz hx hz fun t' k => ?_)
  exact ⟨h₁, k, rfl, g₁, y₁, fun _ _ => ⟨_, rfl⟩⟩

/-- x.split(y) of a written y -/
theorem Ev.splitC {ob e : Expr} {apos pos : Pos} {x y : Str} {pl : Sem Bool} (ho : Ev prog w s₀ A c (eval ob env) (VS x)) (he : Ev prog w s₀ A c (eval e env) (VS y)) (hy : (y.length == 0) = false) (hsz : x.length ≤ sizeLine)
    (hsz2 : (Builtin.Str.partsBetween x (Builtin.Str.occurrences x y 0 x.length (x.length + 1)) y.length).length ≤ sizeLine)
    (hcall : eval (.Call (.Attribute ob (Str.ofString "split") apos) [e] [] pos) env = (do
      let ov ← eval ob env
      standAt apos.atName
      let (f, first) ← PySem.holding [ov] (getMethod ov (Str.ofString "split") pl)
      callWith pos f first (backTo pos (starEach [e] env)) []) := by rfl) (hs : starEach [e] env = [(false, eval e env)] := by rfl) :
    Ev prog w s₀ A c (eval (.Call (.Attribute ob (Str.ofString "split") apos) [e] [] pos) env) (fun v H => ∃ D l, v = .ref D ∧ l.map (·.1) = Txt.split x y ∧ H.IsList D (strValues l).toArray) :=
  Ev.meth (P₀ := VS x) (R := fun vs H => ∃ v, vs = [v] ∧ VS y v H) ho (fun v B g u h o tk p => by obtain ⟨t, rfl⟩ := u.here; exact toC (GM.split (stay fun _ => rfl)))
    (fun B g => Ev.args1 (fun h o => he h (Cx.Ok.less (c := { c with B := B }) o g)) hs) (fun v vs B g u r h o => by
      obtain ⟨t, rfl⟩ := u.here
      obtain ⟨_, rfl, t', rfl⟩ := r.here
      exact (split_call hy hsz hsz2).mono fun _ _ q _ _ => q) hcall hs rfl

def s01 : Str := Str.ofString "01"
def s0_1 : Str := Str.ofString "0 1"
def s10 : Str := Str.ofString "10"
def s1_0 : Str := Str.ofString "1 0"
def spc : Str := Str.ofString " "
def cutS (x : Str) : List Str := Txt.split (Txt.replace (Txt.replace x s01 s0_1) s10 s1_0) spc
def ptS (p : Str) : Int := if 4 < p.length then (p.length : Int) - 2 else 0
def runsS (x : Str) : Int := ((cutS x).map ptS).sum

theorem strs_get : ∀ (l : List (Str × Tok)) (i : Nat) (v : Value), (strValues l)[i]? = some v → ∃ x t, (l.map (·.1))[i]? = some x ∧ v = .str x t
  | [], i, v, e => by simp [strValues] at e
  | (y, t) :: r, 0, v, e => by simp [strValues] at e; exact ⟨y, t, by simp, e.symm⟩
  | (y, t) :: r, i + 1, v, e => by
    have := strs_get r i v (by simpa [strValues] using e)
    simpa using this
theorem Src.mono {x : Value} {n : Nat} {P P' : Nat → Value → Prop} (S : Src prog w s₀ A c x n P) (k : ∀ i v, P i v → P' i v) : Src prog w s₀ A c x n P' := fun h o => Hp.mono (S h o) fun it h' ⟨g, I, fp, wr, S, e, W, r⟩ =>
  ⟨g, I, fp, wr, S, e, ⟨W.sub, W.frame, fun i s Q E hi st hQ => W.item i s Q E hi st fun v h' tk hP => hQ v h' tk (k i v hP), W.done, W.self⟩, r⟩
theorem src_strs {D : Addr} {l : List (Str × Tok)} {xs : List Str} (hh : A.handled = none) (hl : c.B.IsList D (strValues l).toArray) (he : l.map (·.1) = xs) : Src prog w s₀ A c (.ref D) xs.length (fun i v => ∃ x t, xs[i]? = some x ∧ v = .str x t) := by
  have S := Src.list (prog := prog) (w := w) (s₀ := s₀) hh hl
  have e : (strValues l).toArray.size = xs.length := by rw [← he]; simp [strValues]
  rw [e] at S
  exact S.mono fun i v q => he ▸ strs_get l i v (by simpa using q)
theorem sum_take_succ (l : List Int) (i : Nat) (x : Int) (h : l[i]? = some x) : (l.take (i + 1)).sum = (l.take i).sum + x := by
  rw [List.take_add_one, h]; simp

theorem runs_ok {h : Heap} {x : Str} {t : Tok} (am : Amb h) (gd : Gd 1 A) (hx : x.length ≤ 100)
    (h1 : (Txt.replace x s01 s0_1).length ≤ 1000) (h2 : (Txt.replace (Txt.replace x s01 s0_1) s10 s1_0).length ≤ 1000)
    (h3 : (Builtin.Str.partsBetween (Txt.replace (Txt.replace x s01 s0_1) s10 s1_0) (Builtin.Str.occurrences (Txt.replace (Txt.replace x s01 s0_1) s10 s1_0) spc 0 (Txt.replace (Txt.replace x s01 s0_1) s10 s1_0).length ((Txt.replace (Txt.replace x s01 s0_1) s10 s1_0).length + 1)) spc.length).length ≤ 1000)
    (h4 : ∀ p ∈ cutS x, p.length ≤ 1000) :
    EvH prog w s₀ A h (call (.ref aRuns) [.str x t]) (VI (runsS x)) := by
  refine EvH.callK (binds := [(Str.ofString "line", .str x t)]) (ρ := [(Str.ofString "line", .str x t)]) am.fRuns am.lim (by have := gd.dp; omega) (fun _ _ _ _ _ => rfl) (fun _ _ e => e) (by decide) (locs rfl) rfl rfl rfl fun L cd hL => ?_
  refine Ex.assignI Ev.int fun t₁ => ?_
  refine Ex.for_ (n := (cutS x).length) (P := fun i v => ∃ p t, (cutS x)[i]? = some p ∧ v = .str p t) (P₁ := fun v H => ∃ D l, v = .ref D ∧ l.map (·.1) = cutS x ∧ H.IsList D (strValues l).toArray)
    (fun i ρ μ => μ = [] ∧ ∃ t', ρ = [(Str.ofString "points", .int (((cutS x).map ptS).take i).sum t'), (Str.ofString "line", .str x t)]) ?_ ?_ ?_ ?_ ?_
  · exact Ev.splitC (Ev.replaceC (Ev.replaceC (Ev.isStr (Ev.local rfl)) (by decide) (by omega) (by decide)) (by decide) (by have := h1; simp only [s01, s0_1] at this; omega) (by decide)) Ev.str (by decide) (Nat.le_trans h2 (by decide)) (Nat.le_trans h3 (by decide))
  · rintro v B g u
    obtain ⟨D, l, rfl, he, hl⟩ := u.here
    exact src_strs gd.hh hl he
  · exact ⟨rfl, t₁, rfl⟩
  · rintro i v ρ μ B hi ⟨p, tp, hp, rfl⟩ ⟨rfl, t', rfl⟩ _ g
    have am' : Amb B := am.keeps g
    have hpl : p.length ≤ 1000 := h4 p (List.mem_of_getElem? hp)
    have hs : (((cutS x).map ptS).take (i + 1)).sum = (((cutS x).map ptS).take i).sum + ptS p := sum_take_succ _ _ _ (by simp [hp])
    refine Ex.ifS (Ev.gtI (Ev.lenS (Ev.blt am' rfl) (Ev.isStr (Ev.local rfl)) (by omega)) Ev.int) (fun hb => ?_) (fun hb => ?_)
    · have hb' : (4 : Int) < p.length := of_decide_eq_true hb
      refine Ex.augI rfl (Ev.sub (Ev.lenS (Ev.blt am' rfl) (Ev.isStr (Ev.local rfl)) (by omega)) Ev.int) fun t'' => Ex.nilThen (Ex.turnEnd [(Str.ofString "points", .int _ t''), (Str.ofString "line", .str x t)] ⟨rfl, rfl, trivial⟩ ⟨rfl, t'', ?_⟩ rfl (Kp.refl _))
      rw [hs, ptS, if_pos (by omega)]
    · have hb' : ¬ (4 : Int) < p.length := of_decide_eq_false hb
      refine Ex.nilThen (Ex.turnEnd [(Str.ofString "points", .int _ t'), (Str.ofString "line", .str x t)] ⟨rfl, rfl, trivial⟩ ⟨rfl, t', ?_⟩ rfl (Kp.refl _))
      rw [hs, ptS, if_neg (by omega), Int.add_zero]
  · rintro ρ μ ⟨rfl, t', rfl⟩ _
    have e : (((cutS x).map ptS).take (cutS x).length).sum = runsS x := by
      rw [show ((cutS x).length) = ((cutS x).map ptS).length by simp, List.take_length]; rfl
    rw [e]
    exact Ex.retF (Ev.isInt (Ev.local rfl)) (Kp.refl _) hL
end
end Mine
end QRuns

section QMore
open PySem PySem.W PyProof.Rows
set_option linter.unusedVariables false
set_option maxRecDepth 100000
namespace Mine

section
variable {prog : Program} {w : World} {s₀ : Shared} {A : Around} {α β : Type} {c : Cx} {env : Env}
/-- a rule that says nothing of the size -/
theorem EvH.grown {t : Sem α} {P : α → Heap → Prop} {h : Heap} (H : Hp prog w s₀ A t (fun v h' => Kp h h' ∧ ∀ H, New h h' H → P v H) h) : EvH prog w s₀ A h t P := Hp.mono H.sized fun v h' ⟨z, g, n⟩ => ⟨g, z, n⟩
/-- flat, and nothing said of the size -/
theorem EvH.flat {t : Sem α} {V : α → Prop} {h : Heap} (H : Hp prog w s₀ A t (fun v h' => Kp h h' ∧ V v) h) : EvH prog w s₀ A h t (fun v _ => V v) := EvH.grown (Hp.mono H fun v h' ⟨g, n⟩ => ⟨g, fun _ _ => n⟩)

/-- what was made, and no more -/
def cut (h : Heap) (n : Nat) : Heap := hideAll h (List.range n)
theorem cut_new (h h' : Heap) : New h h' (cut h' h.objs.size) := fun a o ha e => hideAll_get _ e (by simp; exact ha)
theorem cut_get {h : Heap} {n : Nat} {a : Addr} {o : Obj} (e : (cut h n).get? a = some o) : n ≤ a ∧ h.get? a = some o := by
  refine ⟨?_, of_hideAll _ e⟩
  rcases Nat.lt_or_ge a n with q | q
  · have e' : (cut h n).get? a = none := hideAll_none _ (List.mem_range.mpr q)
    rw [e'] at e; cases e
  · exact q

variable {Q : Flow → Heap → Prop} {rest : List Stmt}
/-- a new object that the frame will change -/
theorem Ex.assignOwn {x : Str} {e : Expr} {pos pos' : Pos} {Φ : Obj → Prop} (he : Ev prog w s₀ A c (eval e env) (fun v H => ∃ a o, v = .ref a ∧ H.get? a = some o ∧ Φ o))
    (k : ∀ a o, c.L ≠ a → Φ o → Ex prog w s₀ A { c with ρ := setL x (.ref a) c.ρ, μ := (a, o) :: c.μ } (execs rest env) Q)
    (hL : env.locals = c.L := by rfl) (hk : env.scope.kind = .function := by rfl) (hx : env.kindOf x = some .local := by rfl) (hs : swapsWith e (some (.Name x pos')) pos.line env = pure false := by rfl) :
    Ex prog w s₀ A c (execs (.Assign [.Name x pos'] e pos :: rest) env) Q := Ex.cons fun h o tk p => by
  refine c_Assign_Name ((he h o).use (fun v h₁ tk₁ z ⟨g₁, _, p₁⟩ => ?_) tk p) hs
  have o₁ := o.grow g₁
  obtain ⟨a, ob, rfl, hab, hΦ⟩ := p₁ _ (cut_new h h₁)
  obtain ⟨hge, hob⟩ := cut_get hab
  have hna : ∀ b ∈ c.adr, b ≠ a := fun b hb e => absurd (o.lt b hb) (e ▸ Nat.not_lt.mpr hge)
  have o₂ : Cx.Ok { c with μ := (a, ob) :: c.μ } h₁ := by
    refine ⟨o₁.keep, o₁.loc, fun q hq => ?_, ?_, ?_⟩
    · rcases List.mem_cons.mp hq with rfl | hq
      · exact hob
      · exact o₁.own q hq
    · have nd := List.nodup_cons.mp o.nd
      refine List.nodup_cons.mpr ⟨fun m => ?_, List.nodup_cons.mpr ⟨fun m => hna a (.tail _ m) rfl, nd.2⟩⟩
      rcases List.mem_cons.mp m with e | m
      · exact hna c.L (.head _) e
      · exact nd.1 m
    · intro b hb
      have hb' : b = c.L ∨ b = a ∨ b ∈ c.μ.map (·.1) := by simpa [Cx.adr] using hb
      rcases hb' with e | e | m
      · exact o.off b (e ▸ .head _)
      · cases q : c.B.get? b with
        | none => rfl
        | some x => exact absurd (Heap.lt_size (o.keep b x q)) (e ▸ Nat.not_lt.mpr hge)
      · exact o.off b (.tail _ m)
  refine (Hp.store o₂ hL hk hx).use (fun _ h₂ tk₂ z₂ q => ?_) tk₁ z
  exact ⟨h₂, tk₂, rfl, k a ob (hna _ (.head _)) hΦ h₂ q.1⟩
end
end Mine
end QMore

section QSeq
open PySem PySem.W PyProof.Rows
set_option linter.unusedVariables false
set_option maxRecDepth 100000
namespace Mine

abbrev lst (vs : List Value) (n : Nat) : Obj := { cls := .type "list", data := .seq vs.toArray n }
abbrev tup (vs : List Value) (n : Nat) : Obj := { cls := .type "tuple", data := .seq vs.toArray n }
theorem isList_lst {h : Heap} {a : Addr} {vs : List Value} {n : Nat} (e : h.get? a = some (lst vs n)) : h.IsList a vs.toArray := ⟨_, e, rfl, n, rfl⟩
theorem isTup_tup {h : Heap} {a : Addr} {vs : List Value} {n : Nat} (e : h.get? a = some (tup vs n)) : IsTup h a vs.toArray := ⟨_, e, rfl, n, rfl⟩

section
variable {prog : Program} {w : World} {s₀ : Shared} {A : Around} {α β : Type} {c : Cx} {env : Env}

/-- the end of a rule that makes one object -/
theorem made {h : Heap} {tk : Nat} {ob : Obj} {P : Value → Heap → Prop} (hf : ob.isFreed = false) (p : ∀ H, H.get? h.objs.size = some ob → P (.ref h.objs.size) H) :
    ∃ h' tk', St s₀ (h.push ob) tk = St s₀ h' tk' ∧ Post h P (.ref h.objs.size) h' :=
  ⟨_, _, rfl, fun b o e => Heap.get?_push_of_some _ e, by rw [Heap.size_push]; exact Nat.le_succ _, fun H n => p H (n _ _ (Nat.le_refl _) (Heap.get?_push_size _ hf))⟩

/-- displays -/
theorem Ev.list {elts : List Expr} {pos : Pos} {R : List Value → Heap → Prop} (ha : Ev prog w s₀ A c (spliced (backTo pos (starEach elts env))) (fun vs H => R vs H ∧ vs.length ≤ sizeLine)) :
    Ev prog w s₀ A c (eval (.List elts pos) env) (fun v H => ∃ a vs, v = .ref a ∧ H.get? a = some (lst vs 0) ∧ R vs H) := fun h o tk p => by
  refine c_List ((Ev.seq₀ (f := fun vs => newList vs) ha (P := fun v H => ∃ a vs, v = .ref a ∧ H.get? a = some (lst vs 0) ∧ R vs H) (fun vs B g u h o tk p => ?_) h o).use (fun vs h₁ tk₁ z q => q tk₁ z) tk p)
  exact toC (wpAny_newObj_type (made rfl fun H e r => ⟨_, vs, rfl, e, r.1⟩) (by show vs.toArray.size ≤ sizeLine; rw [List.size_toArray]; exact u.here.2))
theorem Ev.tuple {elts : List Expr} {k : Nat} {pos : Pos} {R : List Value → Heap → Prop} (ha : Ev prog w s₀ A c (spliced (backTo pos (starEach elts env))) (fun vs H => R vs H ∧ vs.length ≤ sizeLine)) :
    Ev prog w s₀ A c (eval (.Tuple elts k pos) env) (fun v H => ∃ a vs, v = .ref a ∧ H.get? a = some (tup vs 0) ∧ R vs H) := fun h o tk p => by
  refine c_Tuple ((Ev.seq₀ (f := fun vs => newTuple vs) ha (P := fun v H => ∃ a vs, v = .ref a ∧ H.get? a = some (tup vs 0) ∧ R vs H) (fun vs B g u h o tk p => ?_) h o).use (fun vs h₁ tk₁ z q => q tk₁ z) tk p)
  exact toC (wpAny_newObj_type (made rfl fun H e r => ⟨_, vs, rfl, e, r.1⟩) (by show vs.toArray.size ≤ sizeLine; rw [List.size_toArray]; exact u.here.2))
/-- a display of ints: one more -/
theorem Ev.intsNil {pos : Pos} : Ev prog w s₀ A c (spliced (backTo pos (starEach [] env))) (fun vs _ => IntsAre vs []) := Ev.argsNil.mono fun vs _ e => by subst e; exact .nil
theorem Ev.intsCons {e : Expr} {rest : List Expr} {pos : Pos} {x : Int} {ns : List Int} (he : Ev prog w s₀ A c (eval e env) (VI x)) (hr : Ev prog w s₀ A c (spliced (backTo pos (starEach rest env))) (fun vs _ => IntsAre vs ns))
    (hs : starEach (e :: rest) env = (false, eval e env) :: starEach rest env := by rfl) : Ev prog w s₀ A c (spliced (backTo pos (starEach (e :: rest) env))) (fun vs _ => IntsAre vs (x :: ns)) :=
  (Ev.argsCons he (fun B g h o => hr h (Cx.Ok.less (c := { c with B := B }) o g)) hs).mono fun vs H ⟨v, r, e, ⟨t, p⟩, q⟩ => by subst e p; exact .cons x t q
theorem Ev.listI {elts : List Expr} {pos : Pos} {ns : List Int} (ha : Ev prog w s₀ A c (spliced (backTo pos (starEach elts env))) (fun vs H => IntsAre vs ns)) (hz : ns.length ≤ 1000) :
    Ev prog w s₀ A c (eval (.List elts pos) env) (fun v H => ∃ a vs, v = .ref a ∧ H.get? a = some (lst vs 0) ∧ IntsAre vs ns) :=
  Ev.list (R := fun vs _ => IntsAre vs ns) (ha.mono fun vs _ i => ⟨i, by rw [i.length]; exact Nat.le_trans hz (by decide)⟩)
theorem Ev.tupleI {elts : List Expr} {k : Nat} {pos : Pos} {ns : List Int} (ha : Ev prog w s₀ A c (spliced (backTo pos (starEach elts env))) (fun vs H => IntsAre vs ns)) (hz : ns.length ≤ 1000) :
    Ev prog w s₀ A c (eval (.Tuple elts k pos) env) (fun v H => ∃ a vs, v = .ref a ∧ H.get? a = some (tup vs 0) ∧ IntsAre vs ns) :=
  Ev.tuple (R := fun vs _ => IntsAre vs ns) (ha.mono fun vs _ i => ⟨i, by rw [i.length]; exact Nat.le_trans hz (by decide)⟩)

/-- subscripts -/
theorem Ev.subscr {value slice : Expr} {pos : Pos} {P₀ P₁ P : Value → Heap → Prop} (hv : Ev prog w s₀ A c (eval value env) P₀) (hi : ∀ B, Kp c.B B → Ev prog w s₀ A { c with B := B } (eval slice env) P₁)
    (hg : ∀ o i B, Kp c.B B → Up P₀ o B → Up P₁ i B → (∃ T id ops, (∀ s : Shared, Cx.Ok { c with B := B } s.heap → s.TypeIs o T) ∧ typeLookup (.type T) "__getitem__" = pure (some (.builtin id)) ∧ subscripted slice false o i = operate ops (getItem o i)) ∧
      Ev prog w s₀ A { c with B := B } (getItem o i) (fun u H => P₀ o H → P₁ i H → P u H)) : Ev prog w s₀ A c (eval (.Subscript value slice pos) env) P := fun h o tk p => by
  refine c_Subscript ((Ev.two₀ (op := fun o i => subscriptTail value slice o i) hv hi (fun ov iv B g u v h' o' tk' p' => ?_) h o).use (fun a h₁ tk₁ z q => q.use (fun b h₂ tk₂ z₂ q₂ => q₂ tk₂ z₂) tk₁ z) tk p)
  obtain ⟨⟨T, id, ops, hT, hl, hs⟩, ev⟩ := hg ov iv B g u v
  exact c_tail (hT _ o') hl (ev h' o' tk' p') hs
theorem Ev.itemL {value slice : Expr} {pos : Pos} {a : Addr} {items : Array Value} {k : Int} {x : Value} (hv : Ev prog w s₀ A c (eval value env) (Is (.ref a))) (hl : ∀ h, c.Ok h → h.IsList a items)
    (hi : Ev prog w s₀ A c (eval slice env) (VI k)) (h0 : 0 ≤ k) (hx : items[k.toNat]? = some x) (hz : items.size ≤ 1000000)
    (hs : ∀ u, subscripted slice false (.ref a) (.int k u) = operate [.ref a, .int k u] (getItem (.ref a) (.int k u)) := by intro _; with_unfolding_all rfl) : Ev prog w s₀ A c (eval (.Subscript value slice pos) env) (Is x) :=
  Ev.subscr (P₁ := VI k) hv (fun B g h o => hi h (Cx.Ok.less (c := { c with B := B }) o g)) fun o i B g u v => by
    have e := u.here; subst e
    obtain ⟨t, rfl⟩ := v.here
    have hk : k < 2 ^ 63 := by
      have := (Array.getElem?_eq_some_iff.mp hx).1
      omega
    refine ⟨⟨"list", _, _, fun s o => (hl s.heap (Cx.Ok.less (c := { c with B := B }) o g)).typeIs, slot_list_getitem.lookup, hs t⟩, fun h o tk p => ?_⟩
    exact toC (wpAny_getItem_list (hl h (Cx.Ok.less (c := { c with B := B }) o g)) h0 hk hx (stay fun _ _ _ => rfl))
/-- an item of a list just made -/
theorem Ev.itemN {value slice : Expr} {pos : Pos} {ns : List Int} {k x : Int} (hv : Ev prog w s₀ A c (eval value env) (fun v H => ∃ a vs n, v = .ref a ∧ H.get? a = some (lst vs n) ∧ IntsAre vs ns))
    (hi : Ev prog w s₀ A c (eval slice env) (VI k)) (h0 : 0 ≤ k) (hx : ns[k.toNat]? = some x) (hz : ns.length ≤ 1000000)
    (hs : ∀ a u, subscripted slice false (.ref a) (.int k u) = operate [.ref a, .int k u] (getItem (.ref a) (.int k u)) := by intro _ _; with_unfolding_all rfl) : Ev prog w s₀ A c (eval (.Subscript value slice pos) env) (VI x) :=
  Ev.subscr (P₁ := VI k) hv (fun B g h o => hi h (Cx.Ok.less (c := { c with B := B }) o g)) fun o i B g u v => by
    obtain ⟨a, vs, n, rfl, hl, hI⟩ := u.here
    obtain ⟨t, rfl⟩ := v.here
    have hk : k < 2 ^ 63 := by
      have := (List.getElem?_eq_some_iff.mp hx).1
      omega
    obtain ⟨t', hx'⟩ := hI.get _ _ hx
    refine ⟨⟨"list", _, _, fun s o => (isList_lst (o.keep _ _ hl)).typeIs, slot_list_getitem.lookup, hs a t⟩, fun h o tk p => ?_⟩
    exact toC (wpAny_getItem_list (isList_lst (o.keep _ _ hl)) h0 hk (by simpa using hx') (stay fun _ _ _ => ⟨t', rfl⟩))
theorem Ev.itemT {value slice : Expr} {pos : Pos} {a : Addr} {l : List Value} {k : Int} {x : Value} (hv : Ev prog w s₀ A c (eval value env) (Is (.ref a))) (hl : ∀ h, c.Ok h → IsTup h a l.toArray)
    (hi : Ev prog w s₀ A c (eval slice env) (VI k)) (h0 : 0 ≤ k) (hx : l[k.toNat]? = some x) (hz : l.length ≤ 1000000)
    (hs : ∀ u, subscripted slice false (.ref a) (.int k u) = operate [.ref a, .int k u] (getItem (.ref a) (.int k u)) := by intro _; with_unfolding_all rfl) : Ev prog w s₀ A c (eval (.Subscript value slice pos) env) (Is x) :=
  Ev.subscr (P₁ := VI k) hv (fun B g h o => hi h (Cx.Ok.less (c := { c with B := B }) o g)) fun o i B g u v => by
    have e := u.here; subst e
    obtain ⟨t, rfl⟩ := v.here
    have hlt := (List.getElem?_eq_some_iff.mp hx).1
    have hk : k < 2 ^ 63 := by omega
    have hj : seqIndex? k l.toArray.size = some k.toNat := by
      unfold seqIndex?
      simp only [List.size_toArray]
      rw [if_neg (show ¬ k < 0 by omega), if_pos (by simp only [Bool.and_eq_true, decide_eq_true_eq]; omega)]
    refine ⟨⟨"tuple", _, _, fun s o => (hl s.heap (Cx.Ok.less (c := { c with B := B }) o g)).typeIs, slot_tuple_getitem.lookup, hs t⟩, fun h o tk p => ?_⟩
    exact toC (getItem_tuple (hl h (Cx.Ok.less (c := { c with B := B }) o g)) (by omega) hk hj (by simpa using hx) (stay fun _ _ _ => rfl))

/-- a slice's two bounds -/
theorem Ev.part {e : Expr} {x : Int} (he : Ev prog w s₀ A c (eval e env) (VI x)) : Ev prog w s₀ A c (evalPart (some e) env) (fun v _ => IsPart v (some x)) := fun h o => EvH.mono (he h o) fun v _ ⟨t, e⟩ => by subst e; exact .int x t
theorem Ev.partN : Ev prog w s₀ A c (evalPart none env) (fun v _ => IsPart v none) := fun h o tk p => c_pure (stay fun _ => .none)
theorem Ev.slice {lower upper : Option Expr} {p : Pos} {lo hi : Option Int} (h1 : Ev prog w s₀ A c (evalPart lower env) (fun v _ => IsPart v lo)) (h2 : Ev prog w s₀ A c (evalPart upper env) (fun v _ => IsPart v hi)) :
    Ev prog w s₀ A c (eval (.Slice lower upper none p) env) (fun v H => ∃ r vl vu, v = .ref r ∧ H.get? r = some { cls := .type "slice", data := .fields #[vl, vu, .none] } ∧ IsPart vl lo ∧ IsPart vu hi) := fun h o tk p => by
  refine c_Slice ((h1 h o).use (fun vl h₁ tk₁ z ⟨g₁, z₁, p₁⟩ => (h2 h₁ (o.grow g₁)).use (fun vu h₂ tk₂ z₂ ⟨g₂, y₂, p₂⟩ => c_pure ?_) tk₁ z) tk p)
  refine ⟨_, tk₂, rfl, (g₁.trans g₂).trans fun b o e => Heap.get?_push_of_some _ e, ?_, fun H n => ⟨_, vl, vu, rfl, n _ _ ?_ (Heap.get?_push_size _ rfl), p₁ _ (New.self _ _), p₂ _ (New.self _ _)⟩⟩
  · rw [Heap.size_push]; exact Nat.le_succ_of_le (Nat.le_trans z₁ y₂)
  · exact Nat.le_trans z₁ y₂
theorem partTok : {v : Value} → {i : Option Int} → IsPart v i → ∃ l : Option (Int × Tok), v = partValue l ∧ l.map (·.1) = i
  | _, _, .none => ⟨none, rfl, rfl⟩
  | _, _, .int i t => ⟨some (i, t), rfl, rfl⟩
theorem Ev.cutS {value : Expr} {lower upper : Option Expr} {pos p : Pos} {x : Str} {lo hi : Option Int} (hv : Ev prog w s₀ A c (eval value env) (VS x)) (h1 : Ev prog w s₀ A c (evalPart lower env) (fun v _ => IsPart v lo)) (h2 : Ev prog w s₀ A c (evalPart upper env) (fun v _ => IsPart v hi))
    (hz : x.length ≤ sizeLine) (hs : ∀ t r, subscripted (.Slice lower upper none p) false (.str x t) (.ref r) = operate [.ref r, .str x t] (getItem (.str x t) (.ref r)) := by intro _ _; with_unfolding_all rfl) :
    Ev prog w s₀ A c (eval (.Subscript value (.Slice lower upper none p) pos) env) (VS (Txt.slice x lo hi)) :=
  Ev.subscr hv (fun B g => Ev.slice (c := { c with B := B }) (fun h o => h1 h (Cx.Ok.less (c := { c with B := B }) o g)) (fun h o => h2 h (Cx.Ok.less (c := { c with B := B }) o g))) fun o i B g u v => by
    obtain ⟨t, rfl⟩ := u.here
    obtain ⟨r, vl, vu, rfl, hr, pl, pu⟩ := v.here
    refine ⟨⟨"str", _, _, fun s o => typeIs_str _ _ _, F.slot_str_getitem.lookup, hs t r⟩, fun h o tk p => ?_⟩
    obtain ⟨l, rfl, rfl⟩ := partTok pl
    obtain ⟨l', rfl, rfl⟩ := partTok pu
    refine toC (wpAny_getItem_str_slice (l := l) (u := l') (st := none) ⟨_, o.keep _ _ hr, rfl, rfl⟩ rfl (post_val_or_str ⟨Nat.le_trans (Txt.slice_le x _ _) hz, fun t' k => ?_⟩))
    exact stay fun _ _ _ => ⟨t', rfl⟩
theorem Ev.cutL {value : Expr} {lower upper : Option Expr} {pos p : Pos} {P₀ : Value → Heap → Prop} {Φ : List Value → Prop} {lo hi : Option Int} (hv : Ev prog w s₀ A c (eval value env) P₀)
    (hl : ∀ v B, Kp c.B B → Up P₀ v B → ∃ a vs, v = .ref a ∧ (∀ h, Cx.Ok { c with B := B } h → h.IsList a vs.toArray) ∧ Φ vs ∧ vs.length ≤ sizeLine)
    (h1 : Ev prog w s₀ A c (evalPart lower env) (fun v _ => IsPart v lo)) (h2 : Ev prog w s₀ A c (evalPart upper env) (fun v _ => IsPart v hi))
    (hs : ∀ a r, subscripted (.Slice lower upper none p) false (.ref a) (.ref r) = operate [.ref r, .ref a] (getItem (.ref a) (.ref r)) := by intro _ _; with_unfolding_all rfl) :
    Ev prog w s₀ A c (eval (.Subscript value (.Slice lower upper none p) pos) env) (fun v H => ∃ a vs, v = .ref a ∧ H.get? a = some (lst (slicePick vs.toArray lo hi none).toList 0) ∧ Φ vs) :=
  Ev.subscr hv (fun B g => Ev.slice (c := { c with B := B }) (fun h o => h1 h (Cx.Ok.less (c := { c with B := B }) o g)) (fun h o => h2 h (Cx.Ok.less (c := { c with B := B }) o g))) fun o i B g u v => by
    obtain ⟨a, vs, rfl, hl', hΦ, hz⟩ := hl o B g u
    obtain ⟨r, vl, vu, rfl, hr, pl, pu⟩ := v.here
    refine ⟨⟨"list", _, _, fun s o => (hl' _ o).typeIs, slot_list_getitem.lookup, hs a r⟩, fun h o tk p => ?_⟩
    refine toC (wpAny_getItem_list_slice (hl' h o) ⟨_, o.keep _ _ hr, rfl, rfl⟩ pl pu .none (by simp) (made rfl fun H e _ _ => ⟨_, vs, rfl, ?_, hΦ⟩) (by simpa using hz))
    rw [e]

/-- list * int, list + list -/
theorem Ev.mulL {l r : Expr} {pos : Pos} {x y : Int} (hl : Ev prog w s₀ A c (eval l env) (fun v H => ∃ a vs, v = .ref a ∧ H.get? a = some (lst vs 0) ∧ IntsAre vs [x])) (hr : Ev prog w s₀ A c (eval r env) (VI y)) (hy : y ≤ 1000) (hy0 : 0 ≤ y) :
    Ev prog w s₀ A c (eval (.BinOp l .Mult r pos) env) (fun v H => ∃ a vs, v = .ref a ∧ H.get? a = some (lst vs 0) ∧ IntsAre vs (List.replicate y.toNat x)) :=
  Ev.bin (P₂ := VI y) hl (fun B g h o => hr h (Cx.Ok.less (c := { c with B := B }) o g)) fun a b B g u v h o tk p => by
    obtain ⟨a, vs, rfl, ha, hI⟩ := u.here
    obtain ⟨t, rfl⟩ := v.here
    have ha' := o.keep _ _ ha
    have hlen := hI.length
    refine toC (wpAny_binaryOp_repeat_ref (T := "list") (U := "int") (by decide) ⟨_, ha', rfl⟩ (fun s' => typeIs_int s' y t) noFill_list_mul F.fills_int_mul F.slot_int_rmul repeat_list F.slot_int_index.lookup
      (call_meets F.slot_int_rmul (typeIs_int _ y t) F.entry_int_rmul (F.args_int_rmul_2 _ _) (int___rmul___int_list y t a vs.toArray 0)
      ⟨ha', rfl, ⟨_, ha', rfl⟩, call_meets F.slot_list_mul ⟨_, ha', rfl⟩ F.entry_list_mul (F.args_list_mul_2 _ _)
        (AutoListH.list___mul___list_int_3 a vs.toArray 0 y t (by simp [Builtin.List.listFitsIndex]; omega) (by simp at hlen; simp [hlen]; omega) (by simp at hlen; simp [Builtin.List.listTooLong, sizeLine, hlen]; omega)) ⟨ha', ?_⟩⟩))
    refine made rfl fun H e _ _ => ?_
    cases hI with
    | cons n t₁ hn =>
      cases hn
      refine ⟨_, List.replicate y.toNat (.int x t₁), rfl, ?_, ?_⟩
      · rw [e]
        have hh : ∀ k : Nat, List.foldl (fun x1 x2 => x1 ++ x2) (#[] : Array Value) (List.replicate k #[Value.int x t₁]) = (List.replicate k (Value.int x t₁)).toArray := by
          intro k
          have gen : ∀ (k : Nat) (acc : Array Value), List.foldl (fun x1 x2 => x1 ++ x2) acc (List.replicate k #[Value.int x t₁]) = acc ++ (List.replicate k (Value.int x t₁)).toArray := by
            intro k
            induction k with
            | zero => intro acc; simp
            | succ k ih => intro acc; rw [List.replicate_succ, List.foldl_cons, ih, List.replicate_succ]; apply Array.ext'; simp
          simpa using gen k #[]
        simp [hh]
      · generalize y.toNat = k
        induction k with
        | zero => exact .nil
        | succ k ih => exact .cons x t₁ ih
theorem Ev.addL {l r : Expr} {pos : Pos} {P₁ P₂ P : Value → Heap → Prop} (hl : Ev prog w s₀ A c (eval l env) P₁) (hr : ∀ B, Kp c.B B → Ev prog w s₀ A { c with B := B } (eval r env) P₂)
    (hx : ∀ a b B, Kp c.B B → Up P₁ a B → Up P₂ b B → ∃ x y vs ws, a = .ref x ∧ b = .ref y ∧ (∀ h, Cx.Ok { c with B := B } h → h.IsList x vs.toArray ∧ h.IsList y ws.toArray) ∧ vs.length + ws.length ≤ sizeLine ∧
      ∀ q H, H.get? q = some (lst (vs ++ ws) 0) → P₁ a H → P₂ b H → P (.ref q) H) : Ev prog w s₀ A c (eval (.BinOp l .Add r pos) env) P :=
  Ev.bin hl hr fun a b B g u v h o tk p => by
    obtain ⟨x, y, vs, ws, rfl, rfl, hh, hz, hP⟩ := hx a b B g u v
    obtain ⟨hl, hb⟩ := hh h o
    obtain ⟨⟨cls, dd, data, sl⟩, ho, hc, n, hd⟩ := id hl
    obtain ⟨⟨cls2, dd2, data2, sl2⟩, ho2, hc2, n2, hd2⟩ := id hb
    simp only at hc hd hc2 hd2
    subst hc hd hc2 hd2
    refine toC (concat_meets ⟨_, ho, rfl⟩ ⟨_, ho2, rfl⟩ noFill_list_add seq_list_add PySem.F.slot_list_add PySem.F.entry_list_add (PySem.F.args_list_add_2 _ _) (list_addW x y vs.toArray ws.toArray n n2 dd dd2 sl sl2 (by simpa using hz)) ⟨ho, ho2, ?_⟩)
    refine made rfl fun H e p1 p2 => hP _ H ?_ p1 p2
    rw [e]; simp

theorem Ev.addS {l r : Expr} {pos : Pos} {x y : Str} (hl : Ev prog w s₀ A c (eval l env) (VS x)) (hr : Ev prog w s₀ A c (eval r env) (VS y)) (hz : x.length + y.length ≤ 1000) : Ev prog w s₀ A c (eval (.BinOp l .Add r pos) env) (VS (x ++ y)) :=
  Ev.binF hl hr fun a b ⟨_, ea⟩ ⟨_, eb⟩ h o tk p => by subst ea eb; exact toC (PyProof.Rows.add_str (fun t' tk' => stay fun _ => ⟨_, rfl⟩) (Nat.le_trans hz (by decide)))
theorem Ev.maxI {func e₁ e₂ : Expr} {pos : Pos} {x y : Int} (hh : A.handled = none) (hf : Ev prog w s₀ A c (eval func env) (Is (.builtin "max"))) (h1 : Ev prog w s₀ A c (eval e₁ env) (VI x)) (h2 : Ev prog w s₀ A c (eval e₂ env) (VI y))
    (hcall : eval (.Call func [e₁, e₂] [] pos) env = (do callWith pos (← eval func env) [] (backTo pos (starEach [e₁, e₂] env)) (backToKw pos (keywordEach [] env))) := by rfl)
    (hs : starEach [e₁, e₂] env = (false, eval e₁ env) :: starEach [e₂] env := by rfl) (hs' : starEach [e₂] env = [(false, eval e₂ env)] := by rfl) (hp : (backTo pos (starEach [e₂] env)).any (·.1) = false := by rfl) :
    Ev prog w s₀ A c (eval (.Call func [e₁, e₂] [] pos) env) (VI (max x y)) :=
  Ev.callB hf (Ev.args2 h1 h2 hs hs') (fun vs B g u h o => EvH.mono (EvH.flat fun tk p => by
    obtain ⟨v, v', rfl, ⟨t, rfl⟩, ⟨t', rfl⟩⟩ := u.here
    refine toC (max_two_ints hh fun h' tk' k => ⟨h', tk', rfl, k, ?_⟩)
    by_cases q : y > x
    · rw [if_pos q, Int.max_eq_right (by omega)]; exact ⟨_, rfl⟩
    · rw [if_neg q, Int.max_eq_left (by omega)]; exact ⟨_, rfl⟩) fun _ _ q _ => q) hcall hs hp
theorem Ev.minI {func e₁ e₂ : Expr} {pos : Pos} {x y : Int} (hh : A.handled = none) (hf : Ev prog w s₀ A c (eval func env) (Is (.builtin "min"))) (h1 : Ev prog w s₀ A c (eval e₁ env) (VI x)) (h2 : Ev prog w s₀ A c (eval e₂ env) (VI y))
    (hcall : eval (.Call func [e₁, e₂] [] pos) env = (do callWith pos (← eval func env) [] (backTo pos (starEach [e₁, e₂] env)) (backToKw pos (keywordEach [] env))) := by rfl)
    (hs : starEach [e₁, e₂] env = (false, eval e₁ env) :: starEach [e₂] env := by rfl) (hs' : starEach [e₂] env = [(false, eval e₂ env)] := by rfl) (hp : (backTo pos (starEach [e₂] env)).any (·.1) = false := by rfl) :
    Ev prog w s₀ A c (eval (.Call func [e₁, e₂] [] pos) env) (VI (min x y)) :=
  Ev.callB hf (Ev.args2 h1 h2 hs hs') (fun vs B g u h o => EvH.mono (EvH.flat fun tk p => by
    obtain ⟨v, v', rfl, ⟨t, rfl⟩, ⟨t', rfl⟩⟩ := u.here
    refine toC (min_two_ints hh fun h' tk' k => ⟨h', tk', rfl, k, ?_⟩)
    by_cases q : y < x
    · rw [if_pos q, Int.min_eq_right (by omega)]; exact ⟨_, rfl⟩
    · rw [if_neg q, Int.min_eq_left (by omega)]; exact ⟨_, rfl⟩) fun _ _ q _ => q) hcall hs hp
/-- range(a, b, -1) -/
theorem Ev.range3 {func e₁ e₂ e₃ : Expr} {pos : Pos} {x y z : Int} (hf : Ev prog w s₀ A c (eval func env) (Is (.type "range"))) (h1 : Ev prog w s₀ A c (eval e₁ env) (VI x)) (h2 : Ev prog w s₀ A c (eval e₂ env) (VI y)) (h3 : Ev prog w s₀ A c (eval e₃ env) (VI z)) (hz : z ≠ 0)
    (hp' : Builtin.divisionGoesByPylong (y - x) z = false)
    (hcall : eval (.Call func [e₁, e₂, e₃] [] pos) env = (do callWith pos (← eval func env) [] (backTo pos (starEach [e₁, e₂, e₃] env)) (backToKw pos (keywordEach [] env))) := by rfl)
    (hs : starEach [e₁, e₂, e₃] env = (false, eval e₁ env) :: starEach [e₂, e₃] env := by rfl) (hs' : starEach [e₂, e₃] env = (false, eval e₂ env) :: starEach [e₃] env := by rfl) (hs'' : starEach [e₃] env = [(false, eval e₃ env)] := by rfl)
    (hp : (backTo pos (starEach [e₂, e₃] env)).any (·.1) = false := by rfl) :
    Ev prog w s₀ A c (eval (.Call func [e₁, e₂, e₃] [] pos) env) (fun v H => ∃ r t u q, v = .ref r ∧ IsRange H r x y z t u q) :=
  Ev.callT hf (Ev.args3 h1 h2 h3 hs hs' hs'') (fun vs B g u h o tk p => by
    obtain ⟨v, v', v'', rfl, ⟨t, rfl⟩, ⟨t', rfl⟩, ⟨t'', rfl⟩⟩ := u.here
    exact toC (call_range_3 hz (made rfl fun H e _ => ⟨_, _, _, _, rfl, e⟩) (.inl hp'))) hcall hs hp

variable {Q : Flow → Heap → Prop} {rest : List Stmt}
theorem Ok.updated {h h' : Heap} {pre post : List (Addr × Obj)} {a : Addr} {ob ob' : Obj} (o : c.Ok h) (hμ : c.μ = pre ++ (a, ob) :: post) (hs : Heap.SameBut a h h') (he : h'.get? a = some ob') : Cx.Ok { c with μ := pre ++ (a, ob') :: post } h' := by
  have hadr : ({ c with μ := pre ++ (a, ob') :: post } : Cx).adr = c.adr := by simp [Cx.adr, hμ]
  have ha : a ∈ c.adr := by simp [Cx.adr, hμ]
  have nd := o.nd
  rw [Cx.adr, hμ] at nd
  simp only [List.map_append, List.map_cons] at nd
  refine ⟨fun b x e => ?_, ?_, fun q hq => ?_, hadr ▸ o.nd, hadr ▸ o.off⟩
  · refine (hs.2 b ?_).trans (o.keep b x e)
    rintro rfl; rw [o.off _ ha] at e; cases e
  · obtain ⟨m, hn, hm⟩ := o.loc
    refine ⟨m, hn.sameBut hs ?_, hm⟩
    intro e
    have := (List.nodup_cons.mp nd).1
    rw [e] at this
    exact this (by simp)
  · have nd2 := (List.nodup_append.mp (List.nodup_cons.mp nd).2)
    rcases List.mem_append.mp hq with hq | hq
    · refine (hs.2 q.1 ?_).trans (o.own q (hμ ▸ List.mem_append_left _ hq))
      intro e
      exact nd2.2.2 q.1 (List.mem_map_of_mem hq) a (by simp) e
    · rcases List.mem_cons.mp hq with rfl | hq
      · exact he
      · refine (hs.2 q.1 ?_).trans (o.own q (hμ ▸ List.mem_append_right _ (.tail _ hq)))
        intro e
        have := (List.nodup_cons.mp nd2.2.1).1
        exact this (e ▸ List.mem_map_of_mem hq)
/-- an object that is a list of vs -/
def LstObj (ob : Obj) (vs : List Value) : Prop := ob.cls = .type "list" ∧ ∃ n, ob.data = .seq vs.toArray n
theorem LstObj.isList {h : Heap} {a : Addr} {ob : Obj} {vs : List Value} (l : LstObj ob vs) (e : h.get? a = some ob) : h.IsList a vs.toArray := ⟨ob, e, l.1, l.2⟩
/-- xs[i] = v for an own list -/
theorem Ex.setItemL {o i value : Expr} {pos pos' : Pos} {a : Addr} {ob : Obj} {vs : List Value} {k x : Int} (pre post : List (Addr × Obj)) (hμ : c.μ = pre ++ (a, ob) :: post) (hob : LstObj ob vs) (hval : Ev prog w s₀ A c (eval value env) (VI x)) (ho : Ev prog w s₀ A c (eval o env) (Is (.ref a)))
    (hi : Ev prog w s₀ A c (eval i env) (VI k)) (h0 : 0 ≤ k) (hk : k < vs.length) (hz : vs.length ≤ 1000000) (kk : ∀ t ob', LstObj ob' (vs.set k.toNat (.int x t)) → Ex prog w s₀ A { c with μ := pre ++ (a, ob') :: post } (execs rest env) Q)
    (hs : swapsWith value (some (.Subscript o i pos')) pos.line env = pure false := by rfl) : Ex prog w s₀ A c (execs (.Assign [.Subscript o i pos'] value pos :: rest) env) Q := Ex.cons fun h ok tk p => by
  refine c_Assign_Subscript ((hval h ok).use (fun v h₁ tk₁ z ⟨g₁, _, p₁⟩ => (ho h₁ (ok.grow g₁)).use (fun ov h₂ tk₂ z₂ ⟨g₂, _, p₂⟩ => (hi h₂ ((ok.grow g₁).grow g₂)).use (fun iv h₃ tk₃ z₃ ⟨g₃, _, p₃⟩ => ?_) tk₂ z₂) tk₁ z) tk p) hs
  obtain ⟨t, rfl⟩ := p₁ _ (New.self _ _)
  have e := p₂ _ (New.self _ _); subst e
  obtain ⟨t', rfl⟩ := p₃ _ (New.self _ _)
  have o₃ := ((ok.grow g₁).grow g₂).grow g₃
  have hm : (a, ob) ∈ c.μ := by rw [hμ]; simp
  have hget := o₃.own _ hm
  refine toC (wpAny_setItem_list (hob.isList hget) h0 (by omega) (by simpa using hk) fun h' hl hs' => ?_)
  obtain ⟨ob', e', hc', n', hd'⟩ := hl
  exact ⟨h', tk₃, rfl, kk t ob' ⟨hc', n', by rw [hd']; simp⟩ h' (Ok.updated o₃ hμ hs' e')⟩
end
end Mine
end QSeq

section QHeads
open PySem PySem.W PyProof.Rows
set_option linter.unusedVariables false
set_option maxRecDepth 100000
namespace Mine
theorem ints_set : ∀ {vs : List Value} {ns : List Int}, IntsAre vs ns → ∀ (k : Nat) (x : Int) (t : Tok), IntsAre (vs.set k (.int x t)) (ns.set k x)
  | _, _, .nil, _, _, _ => .nil
  | _, _, .cons n t' h, 0, x, t => .cons x t h
  | _, _, .cons n t' h, k + 1, x, t => .cons n t' (ints_set h k x t)

section
variable {prog : Program} {w : World} {s₀ : Shared} {A : Around} {α β : Type} {c : Cx} {env : Env}
theorem Ev.strsNil {pos : Pos} : Ev prog w s₀ A c (spliced (backTo pos (starEach [] env))) (fun vs _ => StrsAre vs []) := Ev.argsNil.mono fun vs _ e => by subst e; exact .nil
theorem Ev.strsCons {e : Expr} {rest : List Expr} {pos : Pos} {x : Str} {ns : List Str} (he : Ev prog w s₀ A c (eval e env) (VS x)) (hr : Ev prog w s₀ A c (spliced (backTo pos (starEach rest env))) (fun vs _ => StrsAre vs ns))
    (hs : starEach (e :: rest) env = (false, eval e env) :: starEach rest env := by rfl) : Ev prog w s₀ A c (spliced (backTo pos (starEach (e :: rest) env))) (fun vs _ => StrsAre vs (x :: ns)) :=
  (Ev.argsCons he (fun B g h o => hr h (Cx.Ok.less (c := { c with B := B }) o g)) hs).mono fun vs H ⟨v, r, e, ⟨t, p⟩, q⟩ => by subst e p; exact .cons x t q
theorem Ev.listS {elts : List Expr} {pos : Pos} {ns : List Str} (ha : Ev prog w s₀ A c (spliced (backTo pos (starEach elts env))) (fun vs H => StrsAre vs ns)) (hz : ns.length ≤ 1000) :
    Ev prog w s₀ A c (eval (.List elts pos) env) (fun v H => ∃ a vs, v = .ref a ∧ H.get? a = some (lst vs 0) ∧ StrsAre vs ns) :=
  Ev.list (R := fun vs _ => StrsAre vs ns) (ha.mono fun vs _ i => ⟨i, by rw [i.length]; exact Nat.le_trans hz (by decide)⟩)
/-- a text in a list of texts just made -/
theorem Ev.inLS {l r : Expr} {pos : Pos} {k : Str} {ys : List Str} {whole : Sem Value} (hl : Ev prog w s₀ A c (eval l env) (VS k)) (hr : Ev prog w s₀ A c (eval r env) (fun v H => ∃ a vs, v = .ref a ∧ H.get? a = some (lst vs 0) ∧ StrsAre vs ys))
    (hm : behindInMarks .In r = false := by with_unfolding_all rfl) : Ev prog w s₀ A c (isTrue (.Compare l [.In] [r] pos) env whole) (Tr (ys.any (· == k))) := fun h o tk p =>
  c_isTrue_Compare1 ((Ev.two₀ (op := fun x y => compareOp .In x y) (P := VB (ys.any (· == k))) (P₁ := VS k) hl (fun B g h o => hr h (Cx.Ok.less (c := { c with B := B }) o g)) (fun a b B g u v h o tk p => by
    obtain ⟨t, rfl⟩ := u.here
    obtain ⟨a, vs, rfl, ha, hS⟩ := v.here
    exact toC (in_list_strs (isList_lst (o.keep _ _ ha)) hS (stay fun _ _ _ => rfl))) h o).use (fun a h₁ tk₁ z q => q.use (fun b' h₂ tk₂ z₂ q₂ => q₂.use (fun u h₃ tk₃ _ ⟨g, z, f⟩ => by
    have e := f h₃ (New.self _ _); subst e; exact toC (wpAny_truthy_bool ⟨h₃, tk₃, rfl, g, z, fun _ _ => rfl⟩)) tk₂ z₂) tk₁ z) tk p) hm

def s0000 : Str := Str.ofString "0000"
def sPat : Str := Str.ofString "1011101"
def quietS (x : Str) : Str := s0000 ++ x ++ s0000
def hitS (x : Str) (j : Nat) : Bool :=
  (Txt.slice (quietS x) (some ((j : Int) + 4)) (some ((j : Int) + 11)) == sPat) && ([Txt.slice (quietS x) (some (j : Int)) (some ((j : Int) + 4)), Txt.slice (quietS x) (some ((j : Int) + 11)) (some ((j : Int) + 15))].any (· == s0000) && true)
def anyHit (x : Str) (k : Nat) : Bool := (List.range (x.length - 6)).any fun j => decide (k ≤ j) && hitS x j
def mst (x : Str) (p k : Nat) : Int := if (decide (p ≤ k) && anyHit x k) = true then 1 else 0
def headsS (x : Str) : Int := if anyHit x 0 = true then 1 else 0

theorem anyHit_succ (x : Str) (k : Nat) (hk : k < x.length - 6) : anyHit x k = (hitS x k || anyHit x (k + 1)) := by
  unfold anyHit
  rw [Bool.eq_iff_iff]
  simp only [Bool.or_eq_true, List.any_eq_true, List.mem_range, Bool.and_eq_true, decide_eq_true_eq]
  constructor
  · rintro ⟨j, hj, hkj, hh⟩
    rcases Nat.eq_or_lt_of_le hkj with e | e
    · exact .inl (e ▸ hh)
    · exact .inr ⟨j, hj, e, hh⟩
  · rintro (h | ⟨j, hj, hkj, hh⟩)
    · exact ⟨k, hk, Nat.le_refl _, h⟩
    · exact ⟨j, hj, Nat.le_of_succ_le hkj, hh⟩
theorem anyHit_top (x : Str) (k : Nat) (hk : x.length - 6 ≤ k) : anyHit x k = false := by
  unfold anyHit
  rw [Bool.eq_false_iff]
  simp only [ne_eq, List.any_eq_true, List.mem_range, Bool.and_eq_true, decide_eq_true_eq]
  rintro ⟨j, hj, hkj, _⟩
  omega
theorem get_mr (f : Nat → Int) (n k : Nat) (h : k < n) : ((List.range n).map f)[k]? = some (f k) := by rw [List.getElem?_map, List.getElem?_range h]; rfl
theorem mst_set (x : Str) (s : Nat) (v : Int) (n : Nat) (hs : s < n) (hv : v = mst x s s) (hk : ∀ k, k ≠ s → mst x (s + 1) k = mst x s k) : (((List.range n).map (mst x (s + 1))).set s v) = (List.range n).map (mst x s) := by
  apply List.ext_getElem
  · simp
  · intro i h1 h2
    simp only [List.getElem_set, List.getElem_map, List.getElem_range]
    by_cases e : s = i
    · subst e; rw [if_pos rfl]; exact hv
    · rw [if_neg e]; exact hk i (Ne.symm e)
theorem mst_other (x : Str) (s k : Nat) (h : k ≠ s) : mst x (s + 1) k = mst x s k := by
  unfold mst
  have e : decide (s + 1 ≤ k) = decide (s ≤ k) := by
    by_cases q : s ≤ k
    · simp [q]; omega
    · simp [q]; omega
  rw [e]

theorem heads_ok {h : Heap} {x : Str} {t : Tok} (am : Amb h) (gd : Gd 1 A) (hlo : 7 ≤ x.length) (hhi : x.length ≤ 13) :
    EvH prog w s₀ A h (call (.ref aHeads) [.str x t]) (VI (headsS x)) := by
  refine EvH.callK (binds := [(Str.ofString "line", .str x t)]) (ρ := [(Str.ofString "line", .str x t)]) am.fHeads am.lim (by have := gd.dp; omega) (fun _ _ _ _ _ => rfl) (fun _ _ e => e) (by decide) (locs rfl) rfl rfl rfl fun L cd hL => ?_
  have hq : (quietS x).length ≤ 100 := by simp only [quietS, Str.length_append, s0000]; have : (Str.ofString "0000").length = 4 := by decide
                                          omega
  have l4 : s0000.length = 4 := by decide
  refine Ex.assignF (V := fun v => ∃ t, v = .str (quietS x) t) (Ev.addS (Ev.addS Ev.str (Ev.isStr (Ev.local rfl)) (by omega)) Ev.str (by rw [Str.length_append]; omega)) ?_
  rintro _ ⟨tq, rfl⟩
  refine Ex.assignOwn (Φ := fun ob => ∃ vs, LstObj ob vs ∧ IntsAre vs ((List.range (x.length + 8)).map (mst x (x.length - 6)))) ?_ ?_
  · refine (Ev.mulL (x := 0) (Ev.listI (Ev.intsCons Ev.int Ev.intsNil) (by decide)) (Ev.add (Ev.lenS (Ev.blt am rfl) (Ev.isStr (Ev.local rfl)) (by omega)) Ev.int) (by omega) (by omega)).mono ?_
    rintro v H ⟨a, vs, e1, e2, e3⟩
    refine ⟨a, _, e1, e2, vs, ⟨rfl, 0, rfl⟩, ?_⟩
    have e : (List.range (x.length + 8)).map (mst x (x.length - 6)) = List.replicate ((x.length : Int) + 8).toNat 0 := by
      rw [List.eq_replicate_iff]
      refine ⟨by simp; omega, fun b hb => ?_⟩
      obtain ⟨k, _, rfl⟩ := List.mem_map.mp hb
      unfold mst
      by_cases q : x.length - 6 ≤ k
      · rw [anyHit_top x k q]; simp
      · simp [q]
    rw [e]; exact e3
  rintro a ob hLa ⟨vs, hob, hvs⟩
  refine Ex.for_ (n := x.length - 6) (P := fun i v => ∃ t, v = .int ((x.length : Int) - 7 + i * (-1)) t) (P₁ := fun v H => ∃ r t u q, v = .ref r ∧ IsRange H r ((x.length : Int) - 7) (-1) (-1) t u q)
    (fun i ρ μ => (∃ ob vs, μ = [(a, ob)] ∧ LstObj ob vs ∧ IntsAre vs ((List.range (x.length + 8)).map (mst x (x.length - 6 - i)))) ∧ ρ = [(Str.ofString "most", .ref a), (Str.ofString "quiet", .str (quietS x) tq), (Str.ofString "line", .str x t)]) ?_ ?_ ?_ ?_ ?_
  · exact Ev.range3 (Ev.blt am rfl) (Ev.sub (Ev.lenS (Ev.blt am rfl) (Ev.isStr (Ev.local rfl)) (by omega)) Ev.int) (Ev.neg Ev.int) (Ev.neg Ev.int) (by decide) (PyProof.noPylong_small (by omega))
  · rintro v B g u
    obtain ⟨r, t1, t2, t3, rfl, hr⟩ := u.here
    have hN : x.length = 7 ∨ x.length = 8 ∨ x.length = 9 ∨ x.length = 10 ∨ x.length = 11 ∨ x.length = 12 ∨ x.length = 13 := by omega
    refine Src.range gd.hh hr ?_ ?_
    · rcases hN with e | e | e | e | e | e | e <;> rw [e] <;> decide
    · rcases hN with e | e | e | e | e | e | e <;> rw [e] <;> decide
  · exact ⟨⟨ob, vs, rfl, hob, hvs⟩, rfl⟩
  · rintro i v ρ μ B hi ⟨ti, rfl⟩ ⟨⟨ob₁, vs₁, rfl, hob₁, hI₁⟩, rfl⟩ _ g
    have am' : Amb B := am.keeps g
    obtain ⟨s, hs⟩ : ∃ s : Nat, s = x.length - 7 - i := ⟨_, rfl⟩
    have es : (x.length : Int) - 7 + i * (-1) = (s : Int) := by omega
    rw [es]
    have ep : x.length - 6 - i = s + 1 := by omega
    have ep' : x.length - 6 - (i + 1) = s := by omega
    rw [ep] at hI₁
    rw [ep']
    have hsi : s + 7 ≤ x.length := by omega
    clear ep ep' es hs hi
    have hlen : vs₁.length = x.length + 8 := by rw [hI₁.length]; simp
    obtain ⟨t1, ht1⟩ := hI₁.get (s + 1) (mst x (s + 1) (s + 1)) (get_mr _ _ _ (by omega))
    refine Ex.setItemL [] [] rfl hob₁ (Ev.isInt (Ev.itemL (x := .int (mst x (s + 1) (s + 1)) t1) (Ev.local rfl) (fun h o => hob₁.isList (o.own _ (.head _))) (Ev.add (Ev.isInt (Ev.local rfl)) Ev.int) (by omega) ?_ (by simp; omega)))
      (Ev.local rfl) (Ev.isInt (Ev.local rfl)) (by omega) (by omega) (by omega) ?_
    · rw [show ((s : Int) + 1).toNat = s + 1 from rfl]; simpa using ht1
    intro t2 ob₂ hob₂
    have hI₂ := ints_set hI₁ s (mst x (s + 1) (s + 1)) t2
    rw [show ((s : Int)).toNat = s from rfl] at hob₂
    have hm1 : mst x (s + 1) (s + 1) = if anyHit x (s + 1) = true then 1 else 0 := by unfold mst; simp
    have hm0 : mst x s s = if anyHit x s = true then 1 else 0 := by unfold mst; simp
    have hsucc := anyHit_succ x s (by omega)
    refine Ex.ifS (b := hitS x s) (Ev.and (Ev.eqS (Ev.cutS (Ev.isStr (Ev.local rfl)) (Ev.part (Ev.add (Ev.isInt (Ev.local rfl)) Ev.int)) (Ev.part (Ev.add (Ev.isInt (Ev.local rfl)) Ev.int)) (Nat.le_trans hq (by decide))) Ev.str) fun _ =>
      Ev.and (Ev.inLS Ev.str (Ev.listS (Ev.strsCons (Ev.cutS (Ev.isStr (Ev.local rfl)) (Ev.part (Ev.isInt (Ev.local rfl))) (Ev.part (Ev.add (Ev.isInt (Ev.local rfl)) Ev.int)) (Nat.le_trans hq (by decide)))
        (Ev.strsCons (Ev.cutS (Ev.isStr (Ev.local rfl)) (Ev.part (Ev.add (Ev.isInt (Ev.local rfl)) Ev.int)) (Ev.part (Ev.add (Ev.isInt (Ev.local rfl)) Ev.int)) (Nat.le_trans hq (by decide))) Ev.strsNil)) (show 2 ≤ 1000 by decide))) fun _ => Ev.andNil) (fun hb => ?_) (fun hb => ?_)
    · obtain ⟨t3, ht3⟩ := hI₂.get s (mst x (s + 1) (s + 1)) (List.getElem?_set_self (by simp; omega))
      obtain ⟨t4, ht4⟩ := hI₂.get (s + 7) (mst x (s + 1) (s + 7)) (by rw [List.getElem?_set_ne (by omega)]; exact get_mr _ _ _ (by omega))
      refine Ex.setItemL [] [] rfl hob₂ (Ev.maxI gd.hh (Ev.blt am' rfl) (Ev.isInt (Ev.itemL (x := .int (mst x (s + 1) (s + 1)) t3) (Ev.local rfl) (fun h o => hob₂.isList (o.own _ (.head _))) (Ev.isInt (Ev.local rfl)) (by omega) ?_ (by simp; omega)))
        (Ev.add Ev.int (Ev.isInt (Ev.itemL (x := .int (mst x (s + 1) (s + 7)) t4) (Ev.local rfl) (fun h o => hob₂.isList (o.own _ (.head _))) (Ev.add (Ev.isInt (Ev.local rfl)) Ev.int) (by omega) ?_ (by simp; omega)))))
        (Ev.local rfl) (Ev.isInt (Ev.local rfl)) (by omega) (by simp; omega) (by simp; omega) ?_
      · rw [show ((s : Int)).toNat = s from rfl]; simpa using ht3
      · rw [show ((s : Int) + 7).toNat = s + 7 from rfl]; simpa using ht4
      intro t5 ob₃ hob₃
      rw [show ((s : Int)).toNat = s from rfl] at hob₃
      have hI₃ := ints_set hI₂ s (max (mst x (s + 1) (s + 1)) (1 + mst x (s + 1) (s + 7))) t5
      refine Ex.nilThen (Ex.turnEnd [(Str.ofString "most", .ref a), (Str.ofString "quiet", .str (quietS x) tq), (Str.ofString "line", .str x t)] ⟨rfl, rfl, rfl, trivial⟩ ⟨⟨ob₃, _, rfl, hob₃, ?_⟩, rfl⟩ rfl (Kp.refl _))
      have h7 : mst x (s + 1) (s + 7) = 0 := by unfold mst; rw [anyHit_top x (s + 7) (by omega)]; simp
      rw [@List.set_set Int] at hI₃
      rw [← mst_set x s (max (mst x (s + 1) (s + 1)) (1 + mst x (s + 1) (s + 7))) (x.length + 8) (by omega) ?_ (mst_other x s)]
      · exact hI₃
      · rw [h7, hm1, hm0, hsucc, hb]
        cases anyHit x (s + 1) <;> decide
    · refine Ex.nilThen (Ex.turnEnd [(Str.ofString "most", .ref a), (Str.ofString "quiet", .str (quietS x) tq), (Str.ofString "line", .str x t)] ⟨rfl, rfl, rfl, trivial⟩ ⟨⟨ob₂, _, rfl, hob₂, ?_⟩, rfl⟩ rfl (Kp.refl _))
      rw [← mst_set x s (mst x (s + 1) (s + 1)) (x.length + 8) (by omega) ?_ (mst_other x s)]
      · exact hI₂
      · rw [hm1, hm0, hsucc, hb]; rfl
  · rintro ρ μ ⟨⟨ob₁, vs₁, rfl, hob₁, hI₁⟩, rfl⟩ _
    rw [Nat.sub_self] at hI₁
    obtain ⟨t1, ht1⟩ := hI₁.get 0 (mst x 0 0) (get_mr _ _ _ (by omega))
    have e : mst x 0 0 = headsS x := by unfold mst headsS; simp
    rw [e] at ht1
    exact Ex.retF (Ev.isInt (Ev.itemL (x := .int (headsS x) t1) (Ev.local rfl) (fun h o => hob₁.isList (o.own _ (.head _))) Ev.int (by decide) (by simpa using ht1) (by have := hI₁.length; simp at this; simp; omega))) (Kp.refl _) hL
end
end Mine
end QHeads

section QComp
open PySem PySem.W PyProof.Rows
set_option linter.unusedVariables false
set_option maxRecDepth 100000
namespace Mine
def NewS (sz : Nat) (h' H : Heap) : Prop := ∀ a o, sz ≤ a → h'.get? a = some o → H.get? a = some o

section
variable {prog : Program} {w : World} {s₀ : Shared} {A : Around} {α β : Type} {c : Cx} {env : Env}
theorem Hc.use {k : Code} {Q : Flow → Heap → Prop} {R : Flow → Shared → Prop} {h : Heap} (H : Hc prog w s₀ A k Q h) (x : ∀ f h' tk', 0 < tk' → Q f h' → R f (St s₀ h' tk')) (tk : Nat) (p : 0 < tk) : codeC (model prog w) A k R (St s₀ h tk) :=
  cc_mono (cc_toks_of (n := 1) p (H tk p)) fun f s ⟨z, h', tk', e', q⟩ => by subst e'; exact x f h' tk' z q

theorem comp_core {elt iter : Expr} {x : Str} {px : Pos} {scope : Scope} {pos : Pos} {cenv : Env} {I D : Addr} {fp wr own : List Addr} {n : Nat} {P : Nat → Value → Prop} {S : Nat → Heap → Prop} {F : Nat → Value → Heap → Prop} {Q : Flow → Heap → Prop}
    {h₀ : Heap} (W : Walks prog w A I fp wr n P S) (sz : Nat) (E0 : Heap → Prop) (E1 : Value → Heap → Prop) (hn : n ≤ sizeLine)
    (hDo : D ∉ own) (hDf : D ∉ fp) (hof : ∀ b ∈ own, b ∉ fp) (hlt : ∀ b, b ∈ own ∨ b ∈ wr ∨ b = D → b < sz)
    (e0keep : ∀ h h', E0 h → (∀ b ∈ own, ∀ o, h.get? b = some o → h'.get? b = some o) → E0 h') (e1keep : ∀ v h h', E1 v h → (∀ b ∈ own, ∀ o, h.get? b = some o → h'.get? b = some o) → E1 v h') (e10 : ∀ v h, E1 v h → E0 h)
    (hasg : ∀ h v, E0 h → Hp prog w s₀ A (assign (.Name x px) cenv v) (fun _ h' => E1 v h' ∧ ∀ b o, b ∉ own → h.get? b = some o → h'.get? b = some o) h)
    (helt : ∀ i v h, i < n → P i v → E1 v h → (∀ b o, b ∉ own → b ∉ wr → b ≠ D → h₀.get? b = some o → h.get? b = some o) → sz ≤ h.objs.size → EvH prog w s₀ A h (eval elt cenv) (F i))
    (hS : S 0 h₀) (hD : h₀.PlainList D #[]) (hE : E0 h₀) (hsz : sz ≤ h₀.objs.size)
    (hR : ∀ h' ys, E0 h' → h'.PlainList D ys → ys.size = n → (∀ j y, ys[j]? = some y → ∀ H, NewS sz h' H → F j y H) → (∀ b o, b ∉ own → b ∉ wr → b ≠ D → h₀.get? b = some o → h'.get? b = some o) → h₀.objs.size ≤ h'.objs.size → Q .next h') :
    Hc prog w s₀ A (.compLoop (.ListComp elt [⟨.Name x px, iter, [], 0⟩] scope pos) 0 (.ref I) (.ref D) cenv) Q h₀ := fun tk p => by
  have hDw : D ∉ wr := fun q => hDf (W.sub _ q)
  refine cc_compLoop_list (fun k s => ∃ i h' tk' ys, k = n + 1 - i ∧ i ≤ n ∧ s = St s₀ h' tk' ∧ 0 < tk' ∧ S i h' ∧ E0 h' ∧ h'.PlainList D ys ∧ ys.size = i ∧ (∀ j y, ys[j]? = some y → ∀ H, NewS sz h' H → F j y H) ∧
    (∀ b o, b ∉ own → b ∉ wr → b ≠ D → h₀.get? b = some o → h'.get? b = some o) ∧ h₀.objs.size ≤ h'.objs.size) ?_ (n + 1)
    ⟨0, h₀, tk, #[], rfl, Nat.zero_le _, rfl, p, hS, hE, hD, rfl, by intro j y e; simp at e, fun _ _ _ _ _ e => e, Nat.le_refl _⟩
  rintro k s ⟨i, h', tk', ys, rfl, hin, rfl, z', hS', hE', hD', hys, hF, hkp, hz'⟩
  by_cases hi : i < n
  · have nx : Hp prog w s₀ A (pyNext (.ref I)) (fun r h₁ => ∃ v, r = some v ∧ P i v ∧ S (i + 1) h₁ ∧ ∀ b o, b ∉ wr → h'.get? b = some o → h₁.get? b = some o) h' := fun t q =>
      toC (W.item i _ _ _ hi hS' fun v h₁ tk₁ hP hS₁ hk₁ => ⟨h₁, tk₁, rfl, v, rfl, hP, hS₁, hk₁⟩)
    refine (Hp.sized nx).use (fun r h₁ tk₁ z₁ q => ?_) tk' z'
    obtain ⟨y₁, v, rfl, hP, hS₁, hk₁⟩ := q
    have hE₁ : E0 h₁ := e0keep _ _ hE' fun b hb o e => hk₁ b o (fun q => hof b hb (W.sub _ q)) e
    refine (Hp.sized (hasg h₁ v hE₁)).use (fun _ h₂ tk₂ z₂ q => ?_) tk₁ z₁
    obtain ⟨y₂, hE₂, hk₂⟩ := q
    have hz₂ : sz ≤ h₂.objs.size := by omega
    refine (helt i v h₂ hi hP hE₂ (fun b o h1 h2 h3 e => hk₂ b o h1 (hk₁ b o h2 (hkp b o h1 h2 h3 e))) hz₂).use (fun y h₃ tk₃ z₃ q => ?_) tk₂ z₂
    obtain ⟨hk₃, y₃, hFy⟩ := q
    have hD₃ : h₃.PlainList D ys := by
      obtain ⟨m, e⟩ := hD'
      exact ⟨m, hk₃ _ _ (hk₂ _ _ hDo (hk₁ _ _ hDw e))⟩
    refine toC (wpAny_list_append_plain hD₃ (fun h₄ hD₄ hs₄ => ?_) (by omega))
    have kept : ∀ b o, b ∉ own → b ∉ wr → b ≠ D → h'.get? b = some o → h₄.get? b = some o := fun b o h1 h2 h3 e => hs₄.extBut b o h3 (hk₃ b o (hk₂ b o h1 (hk₁ b o h2 e)))
    refine ⟨n + 1 - (i + 1), by omega, i + 1, h₄, tk₃, ys.push y, rfl, hi, rfl, z₃, ?_, ?_, hD₄, by simp [hys], ?_, fun b o h1 h2 h3 e => kept b o h1 h2 h3 (hkp b o h1 h2 h3 e), by have e : h₄.objs.size = h₃.objs.size := hs₄.1; omega⟩
    · refine W.frame _ _ _ hS₁ fun b hb o e => ?_
      exact hs₄.extBut b o (fun q => hDf (q ▸ hb)) (hk₃ b o (hk₂ b o (fun q => hof b q hb) e))
    · exact e0keep _ _ (e10 _ _ hE₂) fun b hb o e => hs₄.extBut b o (fun q => hDo (q ▸ hb)) (hk₃ b o e)
    · intro j u e H hH
      rcases Nat.lt_trichotomy j ys.size with q | q | q
      · rw [Array.getElem?_push_lt q] at e
        refine hF j u (by rw [Array.getElem?_eq_getElem q]; exact e) H fun a o ha eo => ?_
        have nn : ¬ (a ∈ own ∨ a ∈ wr ∨ a = D) := fun q => absurd (hlt a q) (Nat.not_lt.mpr ha)
        exact hH a o ha (kept a o (fun q => nn (.inl q)) (fun q => nn (.inr (.inl q))) (fun q => nn (.inr (.inr q))) eo)
      · subst q
        rw [Array.getElem?_push_size] at e
        have e' := Option.some.inj e
        subst e'
        rw [hys]
        refine hFy H fun a o ha eo => ?_
        have ha' : sz ≤ a := Nat.le_trans hz₂ ha
        exact hH a o ha' (hs₄.extBut a o (fun q => absurd (hlt a (.inr (.inr q))) (Nat.not_lt.mpr ha')) eo)
      · have : (ys.push y)[j]? = none := by rw [Array.getElem?_eq_none]; simp; omega
        rw [this] at e; cases e
  · have e : i = n := by omega
    subst e
    have nx : Hp prog w s₀ A (pyNext (.ref I)) (fun r h₁ => r = none ∧ ∀ b o, b ∉ wr → h'.get? b = some o → h₁.get? b = some o) h' := fun t q =>
      toC (W.done _ _ _ hS' fun h₁ tk₁ hk₁ => ⟨h₁, tk₁, rfl, rfl, hk₁⟩)
    refine (Hp.sized nx).use (fun r h₁ tk₁ z₁ q => ?_) tk' z'
    obtain ⟨y₁, rfl, hk₁⟩ := q
    refine ⟨h₁, tk₁, rfl, hR h₁ ys (e0keep _ _ hE' fun b hb o e => hk₁ b o (fun q => hof b hb (W.sub _ q)) e) ?_ hys (fun j y e H hH => hF j y e H fun a o ha eo => ?_) (fun b o h1 h2 h3 e => hk₁ b o h2 (hkp b o h1 h2 h3 e)) (by omega)⟩
    · obtain ⟨m, e⟩ := hD'; exact ⟨m, hk₁ _ _ hDw e⟩
    · exact hH a o ha (hk₁ a o (fun q => absurd (hlt a (.inr (.inl q))) (Nat.not_lt.mpr ha)) eo)

/-- what a comprehension gives -/
def CompR (n : Nat) (F : Nat → Value → Heap → Prop) (v : Value) (H : Heap) : Prop := ∃ D vs ep, v = .ref D ∧ H.get? D = some (lst vs ep) ∧ vs.length = n ∧ ∀ i y, vs[i]? = some y → F i y H

theorem comp_ends {h h₂ h' : Heap} {D : Addr} {ys : Array Value} {n sz : Nat} {F : Nat → Value → Heap → Prop} (hD : h'.PlainList D ys) (hge : h.objs.size ≤ D) (hn : ys.size = n) (hsz : h.objs.size ≤ sz) (hF : ∀ j y, ys[j]? = some y → ∀ H, NewS sz h' H → F j y H) :
    ∀ H, New h h' H → CompR n F (.ref D) H := fun H hH => by
  obtain ⟨ep, e⟩ := hD
  refine ⟨D, ys.toList, ep, rfl, ?_, by simpa using hn, fun i y ey => hF i y (by simpa using ey) H fun a o ha eo => hH a o (Nat.le_trans hsz ha) eo⟩
  have := hH D _ hge e
  simpa [lst] using this

/-- a comprehension whose name is a local of its own block -/
theorem Ev.comp {elt iter : Expr} {x : Str} {px pos : Pos} {scope : Scope} {cl : List (Str × Addr)} {n : Nat} {P : Nat → Value → Prop} {F : Nat → Value → Heap → Prop} {P₁ : Value → Heap → Prop}
    (hi : Ev prog w s₀ A c (eval iter env) P₁) (hsrc : ∀ v B, Kp c.B B → Up P₁ v B → Src prog w s₀ A { c with B := B } v n P) (hn : n ≤ sizeLine)
    (helt : ∀ B C i v, c.Ok B → i < n → P i v → Ev prog w s₀ A ⟨B, C, [(x, v)], []⟩ (eval elt (compEnvC scope cl C env)) (F i))
    (hclos : closureFor scope env = Pure.pure cl) (hkind : scope.kind = .function) (hnames : ∀ y ∈ scope.names, y.2 = .local → scope.names.lookup y.1 = some .local) (hcell : ∀ y ∈ scope.names, y.2 ≠ .cell) (hx : scope.names.lookup x = some .local)
    (hs : ∀ x, foldedSetIterable iter env x = Pure.pure x := by intro _; rfl) :
    Ev prog w s₀ A c (eval (.ListComp elt [⟨.Name x px, iter, [], 0⟩] scope pos) env) (CompR n F) := fun h o tk p => by
  rw [eval_ListComp]
  refine c_comprehension (cl := cl) rfl hs hclos hkind hnames ?_
  refine (hi h o).use (fun v h₁ tk₁ z₁ ⟨g₁, y₁, p₁⟩ => ?_) tk p
  have o₁ := o.grow g₁
  refine (Hp.sized (hsrc v (c.fz h₁) o₁.kpfz (fun B' g => p₁ _ (fun a q ha e => g a q (o.newfz a q ha e))) h₁ o₁.base)).use (fun it h₂ tk₂ z₂ q => ?_) tk₁ z₁
  obtain ⟨y₂, g₂, I, fp, wr, S, rfl, W, hS, hwr, hfp, hfl⟩ := q
  refine toC (wpAny_newObj_type (toC (wpAny_newFunctionEnv hcell (by intro y hy; simp at hy) (fun h₄ hns hsb => ?_) hkind)))
  have eC : (h₂.push { cls := .type "list", data := .seq ([] : List Value).toArray }).objs.size = h₂.objs.size + 1 := Heap.size_push ..
  have hns' : h₄.Ns (h₂.objs.size + 1) (fun _ => Option.none) := eC ▸ hns
  have hsb' : Heap.SameBut (h₂.objs.size + 1) ((h₂.push { cls := .type "list", data := .seq ([] : List Value).toArray }).push { cls := .type "dict", data := .dict #[] }) h₄ := eC ▸ hsb
  have z₄ : h₂.objs.size + 2 = h₄.objs.size := by have := hsb'.1; rw [Heap.size_push, eC] at this; omega
  have k₄ : Kp h₂ h₄ := fun b ob e => hsb'.extBut b ob (Nat.ne_of_lt (Nat.lt_succ_of_lt (Heap.lt_size e))) (Heap.get?_push_of_some _ (Heap.get?_push_of_some _ e))
  have hD₄ : h₄.PlainList h₂.objs.size #[] := ⟨0, hsb'.extBut _ _ (Nat.ne_of_lt (Nat.lt_succ_self _)) (Heap.get?_push_of_some _ (Heap.get?_push_size _ rfl))⟩
  have hS₄ : S 0 h₄ := W.frame _ _ _ hS fun b _ ob e => k₄ b ob e
  have old : ∀ b ob, h₁.get? b = some ob → b ∉ [h₂.objs.size + 1] ∧ b ∉ wr ∧ b ≠ h₂.objs.size ∧ h₄.get? b = some ob := fun b ob e => by
    have lt := Heap.lt_size (g₂ b ob e)
    refine ⟨fun q => ?_, fun q => ?_, Nat.ne_of_lt lt, k₄ b ob (g₂ b ob e)⟩
    · rw [List.mem_singleton.mp q] at lt; exact absurd lt (Nat.not_lt.mpr (Nat.le_succ _))
    · rw [hwr b q] at e; cases e
  have loop : Hc prog w s₀ A (.compLoop (.ListComp elt [⟨.Name x px, iter, [], 0⟩] scope pos) 0 (.ref I) (.ref h₂.objs.size) (compEnvC scope cl (h₂.objs.size + 1) env))
      (fun f h' => f = .next ∧ (∃ m, h'.Ns (h₂.objs.size + 1) m) ∧ ∀ h'', Heap.SameBut (h₂.objs.size + 1) h' h'' → Post h (CompR n F) (.ref h₂.objs.size) h'') h₄ := by
    refine comp_core (own := [h₂.objs.size + 1]) (P := P) (S := S) (F := F) W (h₂.objs.size + 2) (fun h => ∃ m, h.Ns (h₂.objs.size + 1) m) (fun v h => ∃ m, h.Ns (h₂.objs.size + 1) m ∧ m x = some v) hn ?_ ?_ ?_ ?_ ?_ ?_ ?_ ?_ ?_ hS₄ hD₄ ⟨_, hns'⟩ (by omega) ?_
    · intro q; exact absurd (List.mem_singleton.mp q) (Nat.ne_of_lt (Nat.lt_succ_self _))
    · intro q; exact absurd (hfl _ q) (Nat.lt_irrefl _)
    · intro b hb q; rw [List.mem_singleton.mp hb] at q; exact absurd (hfl _ q) (Nat.not_lt.mpr (Nat.le_succ _))
    · rintro b (hb | hb | hb)
      · rw [List.mem_singleton.mp hb]; exact Nat.lt_succ_self _
      · exact Nat.lt_of_lt_of_le (hfl b (W.sub b hb)) (by omega)
      · rw [hb]; exact Nat.lt_succ_of_lt (Nat.lt_succ_self _)
    · rintro h h' ⟨m, hm⟩ k; exact ⟨m, hm.at' fun ob e => k _ (.head _) ob e⟩
    · rintro v h h' ⟨m, hm, e⟩ k; exact ⟨m, hm.at' fun ob e => k _ (.head _) ob e, e⟩
    · rintro v h ⟨m, hm, _⟩; exact ⟨m, hm⟩
    · rintro h v ⟨m, hm⟩ tk p
      refine c_assign_Name (toC (wpAny_storeName_local (env := compEnvC scope cl (h₂.objs.size + 1) env) (lookup_relabel_local hx) hm (fun h' hn' hs' => ⟨h', _, rfl, ⟨_, hn', by simp⟩, fun b ob hb e => hs'.extBut b ob (fun q => hb (q ▸ .head _)) e⟩) (by simp [compEnvC, relabel, hkind])))
    · rintro i v h hi hP ⟨m, hm, hmx⟩ hk hz
      have kB : Kp h₁ (hideAll h [h₂.objs.size + 1]) := fun b ob e => by
        obtain ⟨a1, a2, a3, a4⟩ := old b ob e
        exact hideAll_get _ (hk b ob a1 a2 a3 a4) a1
      refine helt (hideAll h [h₂.objs.size + 1]) (h₂.objs.size + 1) i v (o₁.grow kB) hi hP h ⟨fun b ob e => of_hideAll _ e, ⟨m, hm, fun y u e => ?_⟩, (fun _ hp => nomatch hp), by simp [Cx.adr], fun a ha => hideAll_none _ (by simpa [Cx.adr] using ha)⟩
      rw [List.lookup_cons] at e
      cases hy : y == x with
      | true => rw [hy] at e; cases e; have q : y = x := by simpa using hy
                rw [q]; exact hmx
      | false => rw [hy] at e; cases e
    · rintro h' ys hE hD hys hF hk hz
      refine ⟨rfl, hE, fun h'' hs'' => ⟨fun b ob e => ?_, ?_, ?_⟩⟩
      · obtain ⟨a1, a2, a3, a4⟩ := old b ob (g₁ b ob e)
        exact hs''.extBut b ob (fun q => a1 (q ▸ .head _)) (hk b ob a1 a2 a3 a4)
      · have : h''.objs.size = h'.objs.size := hs''.1
        omega
      · refine comp_ends (sz := h₂.objs.size + 2) (h₂ := h₂) ?_ (Nat.le_trans y₁ y₂) hys (by omega) fun j y e H hH => hF j y e H fun a ob ha eo => hH a ob ha (hs''.extBut a ob (Nat.ne_of_gt (Nat.lt_of_lt_of_le (Nat.lt_succ_self _) ha)) eo)
        obtain ⟨ep, e⟩ := hD; exact ⟨ep, hs''.extBut _ _ (Nat.ne_of_lt (Nat.lt_succ_self _)) e⟩
  have start : Hc prog w s₀ A (.compStart (.ListComp elt [⟨.Name x px, iter, [], 0⟩] scope pos) 0 (.ref I) (.ref h₂.objs.size) (compEnvC scope cl (h₂.objs.size + 1) env))
      (fun f h' => f = .next ∧ (∃ m, h'.Ns (h₂.objs.size + 1) m) ∧ ∀ h'', Heap.SameBut (h₂.objs.size + 1) h' h'' → Post h (CompR n F) (.ref h₂.objs.size) h'') h₄ := fun t q =>
    cc_compStart_list (loop t q) (toC (W.self 0 _ _ _ hS₄ (loop t q)))
  have ce : ({ newEnv scope (h₂.push { cls := .type "list", data := .seq ([] : List Value).toArray }).objs.size env.globals cl env.qual Option.none .none (some env) builtinsNs with scope := relabel scope env } : Env) = compEnvC scope cl (h₂.objs.size + 1) env := by
    rw [eC]; rfl
  show codeC (model prog w) A (.compStart _ 0 (.ref I) (.ref h₂.objs.size) { newEnv scope (h₂.push { cls := .type "list", data := .seq ([] : List Value).toArray }).objs.size env.globals cl env.qual Option.none .none (some env) builtinsNs with scope := relabel scope env })
    (fun _ s' => ∃ m, s'.heap.Ns (h₂.push { cls := .type "list", data := .seq ([] : List Value).toArray }).objs.size m ∧ ∀ h', Heap.SameBut (h₂.push { cls := .type "list", data := .seq ([] : List Value).toArray }).objs.size s'.heap h' → ∃ h'' tk', ({ s' with heap := h' } : Shared) = St s₀ h'' tk' ∧ Post h (CompR n F) (.ref h₂.objs.size) h'') (St s₀ h₄ tk₂)
  rw [ce, eC]
  refine start.use (fun f h' tk' z' q => ?_) tk₂ z₂
  obtain ⟨rfl, hm, hq⟩ := q
  obtain ⟨m, hm⟩ := hm
  exact ⟨m, hm, fun h'' hs'' => ⟨h'', tk', rfl, hq h'' hs''⟩⟩

theorem newEnv_one {scope : Scope} {globals : Addr} {cl : List (Str × Addr)} {qual x : Str} {M : Model} {E : Value → Shared → Prop} {s : Shared} {Q : Env → Shared → Prop}
    (hone : ∀ k, cellsFrom k scope.names cl = (x, k) :: cl) (hpush : ∀ h, pushCells h scope.names = h.push { cls := .type "cell", data := .cell Option.none })
    (hQ : Q (newEnv scope s.heap.objs.size globals ((x, s.heap.objs.size + 1) :: cl) qual Option.none .none (some env) builtinsNs) { s with heap := (s.heap.push { cls := .type "dict", data := .dict #[] }).push { cls := .type "cell", data := .cell Option.none } }) :
    wpAny M A (newFunctionEnv scope globals cl [] qual Option.none .none (some env)) Q E s := by
  simp only [newFunctionEnv, Option.isSome_some, if_true]
  refine wpAny_bind (wpAny_alloc ?_)
  refine wpAny_bind (wpAny_layCells _ (fun name kind cells => by cases hkc : kind == NameKind.cell <;> simp [hkc]) _ _ _ _ ?_)
  rw [hone, hpush]
  refine wpAny_bind ?_
  rw [List.forIn_nil]
  refine wpAny_pure (wpAny_pure ?_)
  simp only [Heap.size_push]
  exact hQ

/-- a comprehension whose name is a cell of its own block -/
theorem Ev.compC {elt iter : Expr} {x : Str} {px pos : Pos} {scope : Scope} {cl : List (Str × Addr)} {n : Nat} {P : Nat → Value → Prop} {F : Nat → Value → Heap → Prop} {P₁ : Value → Heap → Prop}
    (hi : Ev prog w s₀ A c (eval iter env) P₁) (hsrc : ∀ v B, Kp c.B B → Up P₁ v B → Src prog w s₀ A { c with B := B } v n P) (hn : n ≤ sizeLine)
    (helt : ∀ B C cc i v ob, c.Ok B → i < n → P i v → ob.data = .cell (some v) → Ev prog w s₀ A ⟨B, C, [], [(cc, ob)]⟩ (eval elt (compEnvC scope ((x, cc) :: cl) C env)) (F i))
    (hclos : closureFor scope env = Pure.pure cl) (hkind : scope.kind = .function) (hnames : ∀ y ∈ scope.names, y.2 = .local → scope.names.lookup y.1 = some .local)
    (hone : ∀ k, cellsFrom k scope.names cl = (x, k) :: cl) (hpush : ∀ h, pushCells h scope.names = h.push { cls := .type "cell", data := .cell Option.none })
    (hx : ∀ C cc, (compEnvC scope ((x, cc) :: cl) C env).kindOf x = some .cell)
    (hs : ∀ x, foldedSetIterable iter env x = Pure.pure x := by intro _; rfl) :
    Ev prog w s₀ A c (eval (.ListComp elt [⟨.Name x px, iter, [], 0⟩] scope pos) env) (CompR n F) := fun h o tk p => by
  rw [eval_ListComp]
  refine c_comprehension (cl := cl) rfl hs hclos hkind hnames ?_
  refine (hi h o).use (fun v h₁ tk₁ z₁ ⟨g₁, y₁, p₁⟩ => ?_) tk p
  have o₁ := o.grow g₁
  refine (Hp.sized (hsrc v (c.fz h₁) o₁.kpfz (fun B' g => p₁ _ (fun a q ha e => g a q (o.newfz a q ha e))) h₁ o₁.base)).use (fun it h₂ tk₂ z₂ q => ?_) tk₁ z₁
  obtain ⟨y₂, g₂, I, fp, wr, S, rfl, W, hS, hwr, hfp, hfl⟩ := q
  refine toC (wpAny_newObj_type (toC (newEnv_one (env := env) hone hpush ?_)))
  have eC : (h₂.push { cls := .type "list", data := .seq ([] : List Value).toArray }).objs.size = h₂.objs.size + 1 := Heap.size_push ..
  obtain ⟨h₄, e₄⟩ : ∃ h₄, h₄ = ((h₂.push { cls := .type "list", data := .seq ([] : List Value).toArray }).push { cls := .type "dict", data := .dict #[] }).push { cls := .type "cell", data := .cell Option.none } := ⟨_, rfl⟩
  have hns' : h₄.Ns (h₂.objs.size + 1) (fun _ => Option.none) := by
    have q := (Heap.Ns.new (h₂.push { cls := .type "list", data := .seq ([] : List Value).toArray }) (.type "dict")).push { cls := .type "cell", data := .cell Option.none }
    rw [eC] at q; rw [e₄]; exact q
  have hcl : h₄.IsCell (h₂.objs.size + 2) Option.none := by
    rw [e₄]
    refine ⟨{ cls := .type "cell", data := .cell Option.none }, ?_, rfl⟩
    have q := Heap.get?_push_size ((h₂.push { cls := .type "list", data := .seq ([] : List Value).toArray }).push { cls := .type "dict", data := .dict #[] }) (o := { cls := .type "cell", data := .cell Option.none }) rfl
    rw [Heap.size_push, eC] at q; exact q
  have z₄ : h₂.objs.size + 3 = h₄.objs.size := by rw [e₄, Heap.size_push, Heap.size_push, eC]
  have k₄ : Kp h₂ h₄ := fun b ob e => by rw [e₄]; exact Heap.get?_push_of_some _ (Heap.get?_push_of_some _ (Heap.get?_push_of_some _ e))
  have hD₄ : h₄.PlainList h₂.objs.size #[] := ⟨0, by rw [e₄]; exact Heap.get?_push_of_some _ (Heap.get?_push_of_some _ (Heap.get?_push_size _ rfl))⟩
  have hS₄ : S 0 h₄ := W.frame _ _ _ hS fun b _ ob e => k₄ b ob e
  have n1 : ∀ b, b ∈ [h₂.objs.size + 1, h₂.objs.size + 2] → b = h₂.objs.size + 1 ∨ b = h₂.objs.size + 2 := fun b hb => by simpa using hb
  have old : ∀ b ob, h₁.get? b = some ob → b ∉ [h₂.objs.size + 1, h₂.objs.size + 2] ∧ b ∉ wr ∧ b ≠ h₂.objs.size ∧ h₄.get? b = some ob := fun b ob e => by
    have lt : b < h₂.objs.size := Heap.lt_size (g₂ b ob e)
    refine ⟨fun q => ?_, fun q => ?_, Nat.ne_of_lt lt, k₄ b ob (g₂ b ob e)⟩
    · rcases n1 b q with q | q <;> rw [q] at lt
      · exact absurd lt (Nat.not_lt.mpr (Nat.le_succ _))
      · exact absurd lt (Nat.not_lt.mpr (Nat.le_add_right _ _))
    · rw [hwr b q] at e; cases e
  have loop : Hc prog w s₀ A (.compLoop (.ListComp elt [⟨.Name x px, iter, [], 0⟩] scope pos) 0 (.ref I) (.ref h₂.objs.size) (compEnvC scope ((x, h₂.objs.size + 2) :: cl) (h₂.objs.size + 1) env))
      (fun f h' => f = .next ∧ (∃ m, h'.Ns (h₂.objs.size + 1) m) ∧ ∀ h'', Heap.SameBut (h₂.objs.size + 1) h' h'' → Post h (CompR n F) (.ref h₂.objs.size) h'') h₄ := by
    refine comp_core (own := [h₂.objs.size + 1, h₂.objs.size + 2]) (P := P) (S := S) (F := F) W (h₂.objs.size + 3) (fun h => (∃ m, h.Ns (h₂.objs.size + 1) m) ∧ ∃ u, h.IsCell (h₂.objs.size + 2) u) (fun v h => (∃ m, h.Ns (h₂.objs.size + 1) m) ∧ h.IsCell (h₂.objs.size + 2) (some v)) hn ?_ ?_ ?_ ?_ ?_ ?_ ?_ ?_ ?_ hS₄ hD₄ ⟨⟨_, hns'⟩, _, hcl⟩ (by omega) ?_
    · intro q; rcases n1 _ q with q | q
      · exact absurd q (Nat.ne_of_lt (Nat.lt_succ_self _))
      · exact absurd q (Nat.ne_of_lt (Nat.lt_succ_of_lt (Nat.lt_succ_self _)))
    · intro q; exact absurd (hfl _ q) (Nat.lt_irrefl _)
    · intro b hb q; rcases n1 b hb with e | e <;> rw [e] at q
      · exact absurd (hfl _ q) (Nat.not_lt.mpr (Nat.le_succ _))
      · exact absurd (hfl _ q) (Nat.not_lt.mpr (Nat.le_add_right _ _))
    · rintro b (hb | hb | hb)
      · rcases n1 b hb with e | e <;> rw [e]
        · exact Nat.lt_succ_of_lt (Nat.lt_succ_self _)
        · exact Nat.lt_succ_self _
      · exact Nat.lt_of_lt_of_le (hfl b (W.sub b hb)) (Nat.le_add_right _ _)
      · rw [hb]; exact Nat.lt_succ_of_lt (Nat.lt_succ_of_lt (Nat.lt_succ_self _))
    · rintro h h' ⟨⟨m, hm⟩, u, ob, ho, hd⟩ k; exact ⟨⟨m, hm.at' fun ob e => k _ (.head _) ob e⟩, u, ob, k _ (.tail _ (.head _)) ob ho, hd⟩
    · rintro v h h' ⟨⟨m, hm⟩, ob, ho, hd⟩ k; exact ⟨⟨m, hm.at' fun ob e => k _ (.head _) ob e⟩, ob, k _ (.tail _ (.head _)) ob ho, hd⟩
    · rintro v h ⟨hm, hc⟩; exact ⟨hm, _, hc⟩
    · rintro h v ⟨⟨m, hm⟩, u, hu⟩ tk p
      refine c_assign_Name (toC (wpAny_storeName_cell (env := compEnvC scope ((x, h₂.objs.size + 2) :: cl) (h₂.objs.size + 1) env) (c := h₂.objs.size + 2) (by show (relabel scope env).kind = _; exact hkind) (hx _ _) (by show List.lookup x ((x, _) :: cl) = _; simp) hu fun h' hc' hs' => ⟨h', _, rfl, ⟨⟨m, hm.sameBut hs' (Nat.ne_of_lt (Nat.lt_succ_self _))⟩, hc'⟩, fun b ob hb e => hs'.extBut b ob (fun q => hb (q ▸ .tail _ (.head _))) e⟩))
    · rintro i v h hi hP ⟨⟨m, hm⟩, ob, ho, hd⟩ hk hz
      have kB : Kp h₁ (hideAll h [h₂.objs.size + 1, h₂.objs.size + 2]) := fun b ob e => by
        obtain ⟨a1, a2, a3, a4⟩ := old b ob e
        exact hideAll_get _ (hk b ob a1 a2 a3 a4) a1
      refine helt (hideAll h [h₂.objs.size + 1, h₂.objs.size + 2]) (h₂.objs.size + 1) (h₂.objs.size + 2) i v ob (o₁.grow kB) hi hP hd h ⟨fun b ob e => of_hideAll _ e, ⟨m, hm, fun y u e => by cases e⟩, fun q hq => ?_, ?_, fun a ha => hideAll_none _ (by simpa [Cx.adr] using ha)⟩
      · have hq' : q = (h₂.objs.size + 2, ob) := by simpa using hq
        rw [hq']; exact ho
      · simp [Cx.adr]
    · rintro h' ys ⟨hE, u, hu⟩ hD hys hF hk hz
      refine ⟨rfl, hE, fun h'' hs'' => ⟨fun b ob e => ?_, ?_, ?_⟩⟩
      · obtain ⟨a1, a2, a3, a4⟩ := old b ob (g₁ b ob e)
        exact hs''.extBut b ob (fun q => a1 (q ▸ .head _)) (hk b ob a1 a2 a3 a4)
      · have : h''.objs.size = h'.objs.size := hs''.1
        omega
      · refine comp_ends (sz := h₂.objs.size + 3) (h₂ := h₂) ?_ (Nat.le_trans y₁ y₂) hys (by omega) fun j y e H hH => hF j y e H fun a ob ha eo => hH a ob ha (hs''.extBut a ob (Nat.ne_of_gt (Nat.lt_of_lt_of_le (Nat.lt_succ_of_lt (Nat.lt_succ_self _)) ha)) eo)
        obtain ⟨ep, e⟩ := hD; exact ⟨ep, hs''.extBut _ _ (Nat.ne_of_lt (Nat.lt_succ_self _)) e⟩
  have start : Hc prog w s₀ A (.compStart (.ListComp elt [⟨.Name x px, iter, [], 0⟩] scope pos) 0 (.ref I) (.ref h₂.objs.size) (compEnvC scope ((x, h₂.objs.size + 2) :: cl) (h₂.objs.size + 1) env))
      (fun f h' => f = .next ∧ (∃ m, h'.Ns (h₂.objs.size + 1) m) ∧ ∀ h'', Heap.SameBut (h₂.objs.size + 1) h' h'' → Post h (CompR n F) (.ref h₂.objs.size) h'') h₄ := fun t q =>
    cc_compStart_list (loop t q) (toC (W.self 0 _ _ _ hS₄ (loop t q)))
  have ce : ({ newEnv scope (h₂.push { cls := .type "list", data := .seq ([] : List Value).toArray }).objs.size env.globals ((x, (h₂.push { cls := .type "list", data := .seq ([] : List Value).toArray }).objs.size + 1) :: cl) env.qual Option.none .none (some env) builtinsNs with scope := relabel scope env } : Env) = compEnvC scope ((x, h₂.objs.size + 2) :: cl) (h₂.objs.size + 1) env := by
    rw [eC]; rfl
  show codeC (model prog w) A (.compStart _ 0 (.ref I) (.ref h₂.objs.size) { newEnv scope (h₂.push { cls := .type "list", data := .seq ([] : List Value).toArray }).objs.size env.globals ((x, (h₂.push { cls := .type "list", data := .seq ([] : List Value).toArray }).objs.size + 1) :: cl) env.qual Option.none .none (some env) builtinsNs with scope := relabel scope env })
    (fun _ s' => ∃ m, s'.heap.Ns (h₂.push { cls := .type "list", data := .seq ([] : List Value).toArray }).objs.size m ∧ ∀ h', Heap.SameBut (h₂.push { cls := .type "list", data := .seq ([] : List Value).toArray }).objs.size s'.heap h' → ∃ h'' tk', ({ s' with heap := h' } : Shared) = St s₀ h'' tk' ∧ Post h (CompR n F) (.ref h₂.objs.size) h'') (St s₀ (((h₂.push { cls := .type "list", data := .seq ([] : List Value).toArray }).push { cls := .type "dict", data := .dict #[] }).push { cls := .type "cell", data := .cell Option.none }) tk₂)
  rw [ce, eC, ← e₄]
  refine start.use (fun f h' tk' z' q => ?_) tk₂ z₂
  obtain ⟨rfl, hm, hq⟩ := q
  obtain ⟨m, hm⟩ := hm
  exact ⟨m, hm, fun h'' hs'' => ⟨h'', tk', rfl, hq h'' hs''⟩⟩
end
end Mine
end QComp

section QFn
open PySem PySem.W PyProof.Rows
set_option linter.unusedVariables false
set_option maxRecDepth 100000
namespace Mine
def SubM : List (Str × Value) → (Str → Option Value) → Prop
  | [], _ => True
  | (x, v) :: r, m => m x = some v ∧ SubM r m
theorem SubM.get {m : Str → Option Value} : ∀ {ρ : List (Str × Value)}, SubM ρ m → ∀ x v, ρ.lookup x = some v → m x = some v
  | [], _, _, _, e => by cases e
  | (n, u) :: r, ⟨h, hr⟩, x, v, e => by
    rw [List.lookup_cons] at e
    cases hx : x == n with
    | true => rw [hx] at e; have q : x = n := by simpa using hx
              subst q; cases e; exact h
    | false => rw [hx] at e; exact hr.get x v e

section
variable {prog : Program} {w : World} {s₀ : Shared} {A : Around} {α β : Type} {c : Cx} {env : Env}
theorem EvH.callKC {h : Heap} {a : Addr} {k : Nat} {name : Str} {args : List Value} {binds ρ : List (Str × Value)} {P : Value → Heap → Prop} (F : FnK h a k name) (lim : h.NoLimit) (hroom : A.depth < recursionLimit)
    (hbind : ∀ doc pm an cdv ct, bindArgs (fnK k name doc pm an cdv ct) ⟨args, []⟩ = Pure.pure binds)
    (hρ : ∀ L cd, SubM ρ (bindL (envX name (top k).2.2 L a cd (cellsFrom (L + 1) (top k).2.2.names [])).kindOf binds fun _ => Option.none))
    (hcm : ∀ L cd n, bindC (envX name (top k).2.2 L a cd (cellsFrom (L + 1) (top k).2.2.names [])).kindOf binds (fun _ => Option.none) n = Option.none)
    (hloc : ∀ x ∈ binds, (top k).2.2.names.lookup x.1 = some .local) (hnd : ((cellsFrom 0 (top k).2.2.names []).map (·.1)).Nodup)
    (hco : (top k).2.2.isCoroutine = false) (hgen : (top k).2.2.isGenerator = false) (hk : (top k).2.2.kind = .function)
    (H : ∀ L cd (g : Addr → Obj), h.objs.size ≤ L → (∀ p ∈ cellsFrom (L + 1) (top k).2.2.names [], (g p.2).data = .cell Option.none) →
      Ex prog w s₀ (A.deeper (envX name (top k).2.2 L a cd (cellsFrom (L + 1) (top k).2.2.names []))) ⟨h, L, ρ, (cellsFrom (L + 1) (top k).2.2.names []).map fun p => (p.2, g p.2)⟩
        (execs (top k).2.1 (envX name (top k).2.2 L a cd (cellsFrom (L + 1) (top k).2.2.names []))) (RetQ h P)) :
    EvH prog w s₀ A h (call (.ref a) args) P := fun tk p => by
  obtain ⟨o, doc, pm, an, cdv, ct, ho, hd, hc⟩ := F
  refine c_call (cc_call_function (fd := fnK k name doc pm an cdv ct) (body := (top k).2.1) hroom ho hd hco hgen rfl hc ?_)
  rw [hbind doc pm an cdv ct]
  refine c_pure (c_with_toks (n := 1) p (toC (wpAny_newFunctionEnv_cells hk (fun x hx => .inl (hloc x hx)) fun env he s₁ X hz₁ => ?_)))
  subst he
  refine ⟨lim.keeps X.toInCall.keep, cc_func ?_⟩
  obtain ⟨h₁, tk₁, rfl, hk₁⟩ := X.done
  have X' : InCallC (St s₀ h tk) h.objs.size (bindL (envX name (top k).2.2 h.objs.size a cdv (cellsFrom (h.objs.size + 1) (top k).2.2.names [])).kindOf binds fun _ => Option.none) (cellsFrom (h.objs.size + 1) (top k).2.2.names [])
      (bindC (envX name (top k).2.2 h.objs.size a cdv (cellsFrom (h.objs.size + 1) (top k).2.2.names [])).kindOf binds fun _ => Option.none) { (St s₀ h tk) with heap := h₁, toks := tk₁ } := X
  have hlk : ∀ q ∈ cellsFrom (h.objs.size + 1) (top k).2.2.names [], h₁.IsCell q.2 Option.none := fun q hq => by
    have := X'.cell q.1 q.2 (lookup_of_mem_nodup (cellsFrom_names (top k).2.2.names 0 (h.objs.size + 1) [] [] rfl ▸ hnd) hq)
    rwa [hcm] at this
  have ok : Cx.Ok ⟨h, h.objs.size, ρ, (cellsFrom (h.objs.size + 1) (top k).2.2.names []).map fun q => (q.2, (h₁.get? q.2).getD default)⟩ h₁ := by
    refine ⟨hk₁, ⟨_, X'.toInCall.ns, (hρ _ _).get⟩, fun q hq => ?_, ?_, fun b hb => ?_⟩
    · obtain ⟨q', hq', rfl⟩ := List.mem_map.mp hq
      obtain ⟨ob, e, _⟩ := hlk q' hq'
      show h₁.get? q'.2 = some ((h₁.get? q'.2).getD default)
      rw [e]; rfl
    · show (h.objs.size :: ((cellsFrom (h.objs.size + 1) (top k).2.2.names []).map fun q => (q.2, (h₁.get? q.2).getD default)).map (·.1)).Nodup
      rw [List.map_map]
      refine List.nodup_cons.mpr ⟨fun m => ?_, ?_⟩
      · obtain ⟨q, hq, e⟩ := List.mem_map.mp m
        have := X'.above q.1 q.2 hq
        have e' : q.2 = h.objs.size := e
        rw [e'] at this; exact absurd this (Nat.lt_irrefl _)
      · exact List.pairwise_map.mpr X'.apart
    · cases q : h.get? b with
      | none => rfl
      | some ob =>
        exfalso
        have lt := Heap.lt_size q
        have hb' : b = h.objs.size ∨ ∃ q ∈ cellsFrom (h.objs.size + 1) (top k).2.2.names [], q.2 = b := by
          rcases List.mem_cons.mp hb with e | m
          · exact .inl e
          · rw [List.map_map] at m
            obtain ⟨q, hq, e⟩ := List.mem_map.mp m
            exact .inr ⟨q, hq, e⟩
        rcases hb' with e | ⟨q, hq, e⟩
        · exact absurd lt (e ▸ Nat.lt_irrefl _)
        · have := X'.above q.1 q.2 hq
          rw [e] at this
          exact absurd this (Nat.not_lt.mpr (Nat.le_of_lt lt))
  have hz : 0 < tk₁ := hz₁
  show wpC (model prog w) (A.deeper (envX name (top k).2.2 h.objs.size a cdv (cellsFrom (h.objs.size + 1) (top k).2.2.names []))) (execs (top k).2.1 (envX name (top k).2.2 h.objs.size a cdv (cellsFrom (h.objs.size + 1) (top k).2.2.names []))) _ (St s₀ h₁ tk₁)
  refine (H h.objs.size cdv (fun b => (h₁.get? b).getD default) (Nat.le_refl _) (fun q hq => ?_) h₁ ok).use (fun f h₂ tk₂ _ q => ?_) _ hz
  · obtain ⟨ob, e, hd⟩ := hlk q hq
    show ((h₁.get? q.2).getD default).data = _
    rw [e]; exact hd
  · obtain ⟨v, rfl, q⟩ := q
    exact ⟨v, rfl, h₂, tk₂, rfl, q⟩
end
end Mine
end QFn

section QLine
open PySem PySem.W PyProof.Rows
set_option linter.unusedVariables false
set_option maxRecDepth 100000
namespace Mine
def bi (b : Bool) : Int := if b then 1 else 0
/-- a list of the n bits of f -/
def BitsL (n : Nat) (f : Nat → Bool) (v : Value) (H : Heap) : Prop := ∃ a vs ep, v = .ref a ∧ H.get? a = some (lst vs ep) ∧ IntsAre vs ((List.range n).map fun j => bi (f j))
theorem ints_of : ∀ {vs : List Value} {ns : List Int}, vs.length = ns.length → (∀ (i : Nat) (y : Value) (x : Int), vs[i]? = some y → ns[i]? = some x → ∃ t, y = Value.int x t) → IntsAre vs ns
  | [], [], _, _ => .nil
  | [], _ :: _, h, _ => by simp at h
  | _ :: _, [], h, _ => by simp at h
  | v :: vs, n :: ns, h, k => by
    obtain ⟨t, rfl⟩ := k 0 v n rfl rfl
    exact .cons n t (ints_of (by simpa using h) fun i y x e e' => k (i + 1) y x (by simpa using e) (by simpa using e'))
theorem bits_of_list {n : Nat} {ns : List Int} (hl : ns.length = n) (hb : ∀ x ∈ ns, x = 0 ∨ x = 1) : ns = (List.range n).map fun j => bi (decide (ns.getD j 0 = 1)) := by
  apply List.ext_getElem
  · simp [hl]
  · intro i h1 h2
    simp only [List.getElem_map, List.getElem_range]
    have e : ns.getD i 0 = ns[i] := by simp [List.getD, h1]
    rw [e]
    rcases hb _ (List.getElem_mem h1) with q | q <;> rw [q] <;> decide

section
variable {prog : Program} {w : World} {s₀ : Shared} {A : Around} {α β : Type} {c : Cx} {env : Env} {Q : Flow → Heap → Prop} {rest : List Stmt}
/-- x = e where x is a cell of the frame's own -/
theorem Ex.assignC {x : Str} {e : Expr} {pos pos' : Pos} {P : Value → Heap → Prop} {a : Addr} {ob : Obj} {u : Option Value} (pre post : List (Addr × Obj)) (hμ : c.μ = pre ++ (a, ob) :: post) (hob : ob.data = .cell u) (he : Ev prog w s₀ A c (eval e env) P)
    (k : ∀ v B ob', Kp c.B B → Up P v B → ob'.data = .cell (some v) → Ex prog w s₀ A { c with B := B, μ := pre ++ (a, ob') :: post } (execs rest env) Q)
    (hc : env.cells.lookup x = some a := by rfl) (hk : env.scope.kind = .function := by rfl) (hx : env.kindOf x = some .cell := by rfl) (hs : swapsWith e (some (.Name x pos')) pos.line env = pure false := by rfl) :
    Ex prog w s₀ A c (execs (.Assign [.Name x pos'] e pos :: rest) env) Q := Ex.cons fun h o tk p => by
  refine c_Assign_Name ((he h o).use (fun v h₁ tk₁ z ⟨g₁, _, p₁⟩ => ?_) tk p) hs
  have o₁ := o.grow g₁
  have hm : (a, ob) ∈ c.μ := by rw [hμ]; simp
  refine toC (wpAny_storeName_cell hk hx hc ⟨ob, o₁.own _ hm, hob⟩ fun h₂ hv hs₂ => ?_)
  obtain ⟨ob', e', d'⟩ := hv
  have hμ' : ({ c with B := c.fz h₁ } : Cx).μ = pre ++ (a, ob) :: post := hμ
  exact ⟨h₂, tk₁, rfl, k v (c.fz h₁) ob' o₁.kpfz (fun B' g => p₁ _ (fun a q ha e => g a q (o.newfz a q ha e))) d' h₂ (Ok.updated (c := { c with B := c.fz h₁ }) o₁.base hμ' hs₂ e')⟩
theorem own_cell {a : Addr} {ob : Obj} {v : Value} (hm : (a, ob) ∈ c.μ) (hd : ob.data = .cell (some v)) : ∀ h, c.Ok h → h.IsCell a (some v) := fun h o => ⟨ob, o.own _ hm, hd⟩

theorem src_range1 {r : Addr} {t u x : Tok} {n : Nat} (hh : A.handled = none) (hn : n ≤ 1000) (hr : IsRange c.B r 0 n 1 t u x) : Src prog w s₀ A c (.ref r) n (fun i v => ∃ t, v = .int i t) :=
  (Src.range hh hr (small_one (by omega) (by omega) (by omega) (by omega)) (by rw [rangeSize_one]; split <;> omega)).mono fun i v ⟨t, e⟩ => ⟨t, by rw [e]; simp⟩

theorem Then.ret {h₀ : Heap} {P : Value → Heap → Prop} {t : Sem Flow} (e : Ex prog w s₀ A c t (RetQ h₀ P)) : Ex prog w s₀ A c t (Then prog w s₀ A env rest (RetQ h₀ P)) :=
  e.mono fun f h ⟨v, e, q⟩ => by subst e; exact ⟨v, rfl, q⟩
def NewI (ns : List Int) (v : Value) (H : Heap) : Prop := ∃ a vs, v = .ref a ∧ H.get? a = some (lst vs 0) ∧ IntsAre vs ns
theorem Ev.addNN {l r : Expr} {pos : Pos} {ns ms : List Int} (hl : Ev prog w s₀ A c (eval l env) (NewI ns)) (hr : ∀ B, Kp c.B B → Ev prog w s₀ A { c with B := B } (eval r env) (NewI ms)) (hz : ns.length + ms.length ≤ 1000) :
    Ev prog w s₀ A c (eval (.BinOp l .Add r pos) env) (NewI (ns ++ ms)) :=
  Ev.addL hl hr fun a b B g u v => by
    obtain ⟨x, vs, rfl, hx, hI⟩ := u.here
    obtain ⟨y, ws, rfl, hy, hJ⟩ := v.here
    exact ⟨x, y, vs, ws, rfl, rfl, fun h o => ⟨isList_lst (o.keep _ _ hx), isList_lst (o.keep _ _ hy)⟩, by rw [hI.length, hJ.length]; exact Nat.le_trans hz (by decide), fun q H e _ _ => ⟨q, vs ++ ws, rfl, e, hI.append hJ⟩⟩

set_option maxHeartbeats 2000000 in
theorem line_ok {h : Heap} {num : Int} {n : Nat} {t u : Tok} (am : Amb h) (gd : Gd 1 A) (hlo : 7 ≤ n) (hhi : n ≤ 13) :
    EvH prog w s₀ A h (call (.ref aLine) [.int num t, .int n u]) (fun v H => ∃ f, BitsL n f v H) := by
  refine EvH.callKC (binds := [(Str.ofString "number", .int num t), (Str.ofString "size", .int n u)]) (ρ := [(Str.ofString "number", .int num t), (Str.ofString "size", .int n u)]) am.fLine am.lim (by have := gd.dp; omega)
    (fun _ _ _ _ _ => rfl) (fun _ _ => ⟨rfl, rfl, trivial⟩) (fun _ _ _ => rfl) (locs rfl) (by decide) rfl rfl rfl fun L cd g hL hg => ?_
  have hg' : (g (L + 1)).data = .cell none := hg (Str.ofString "rest", L + 1) (by simp [show cellsFrom (L + 1) (top 5).2.2.names [] = [(Str.ofString "rest", L + 1)] from rfl])
  refine Ex.assignI (Ev.mod (Ev.isInt (Ev.local rfl)) Ev.int (by decide)) fun t₁ => ?_
  refine Ex.assignC (a := L + 1) [] [] rfl hg' (Ev.mod (Ev.fdiv (Ev.isInt (Ev.local rfl)) Ev.int (by decide) (PyProof.noPylong_small (by decide))) Ev.int (by decide)) ?_
  rintro _ B ob g₁ up hob
  obtain ⟨t₂, rfl⟩ := up.here
  have am₁ : Amb B := am.keeps g₁
  generalize hrest : ((num.fdiv 4).fmod 65536) = rst at hob
  have hr0 : 0 ≤ rst ∧ rst < 65536 := by
    rw [← hrest, fmod_eq _ (by decide)]; omega
  generalize hkind : num.fmod 4 = kd
  have hk0 : 0 ≤ kd ∧ kd < 4 := by
    rw [← hkind, fmod_eq _ (by decide)]; omega
  have hcell : ∀ B', ∀ h, Cx.Ok ⟨B', L, setL (Str.ofString "kind") (.int kd t₁) [(Str.ofString "number", .int num t), (Str.ofString "size", .int n u)], [(L + 1, ob)]⟩ h → h.IsCell (L + 1) (some (.int rst t₂)) :=
    fun B' h o => own_cell (c := ⟨B', L, _, [(L + 1, ob)]⟩) (.head _) hob h o
  refine Ex.ifS (Ev.eqI (Ev.isInt (Ev.local rfl)) Ev.int) (fun hb => ?_) (fun hb => Ex.nilThen ?_)
  · refine Then.ret (Ex.ret (P' := CompR n fun i y _ => ∃ t, y = .int (bi (decide ((rst.fdiv (2 ^ i)).fmod 2 = 1))) t) ?_ g₁ hL ?_)
    · refine Ev.comp (P := fun i v => ∃ t, v = .int i t) (cl := [(Str.ofString "rest", L + 1)]) (P₁ := fun v H => ∃ r t u x, v = .ref r ∧ IsRange H r 0 n 1 t u x) (Ev.range1 (Ev.blt am₁ rfl) (Ev.isInt (Ev.local rfl))) ?_ (Nat.le_trans hhi (by decide)) ?_ rfl rfl (by decide) (by decide) (by decide)
      · rintro v B' g' u'
        obtain ⟨r, t1, t2, t3, rfl, hr⟩ := u'.here
        exact src_range1 gd.hh (by omega) hr
      · rintro B' C i v o hi ⟨ti, rfl⟩
        have hcB := own_cell (.head _) hob B' o
        have hv : ∀ h, Cx.Ok ⟨B', C, [(Str.ofString "place", .int i ti)], []⟩ h → h.IsCell (L + 1) (some (.int rst t₂)) := fun h o => hcB.keeps o.keep
        have hp2 : ((2 : Int) ^ ((i : Int)).toNat) = 2 ^ i := by simp
        have hpw : (2 : Int) ^ i = ((2 ^ i : Nat) : Int) := by simp
        have hle : 2 ^ i ≤ 2 ^ 13 := Nat.pow_le_pow_right (by decide) (by omega)
        have hpos : 0 < 2 ^ i := Nat.pow_pos (by decide)
        refine (Ev.mod (Ev.fdiv (Ev.isInt (Ev.cell (a := L + 1) (v := .int rst t₂) hv)) (Ev.pow Ev.int (Ev.isInt (Ev.local rfl)) (by omega) (by rw [show Builtin.Int.intBits 2 = 2 by decide]; omega)) (by rw [hp2, hpw]; omega) (PyProof.noPylong_small (by rw [hp2, hpw]; simp only [Int.natAbs_natCast]; omega))) Ev.int (by decide)).mono ?_
        rintro v H ⟨tv, rfl⟩
        refine ⟨tv, ?_⟩
        rw [hp2]
        have : (rst.fdiv (2 ^ i)).fmod 2 = 0 ∨ (rst.fdiv (2 ^ i)).fmod 2 = 1 := by rw [fmod_eq _ (by decide)]; omega
        rcases this with e | e <;> rw [e] <;> rfl
    · rintro v H _ ⟨D, vs, ep, rfl, hD, hlen, hF⟩
      refine ⟨fun i => decide ((rst.fdiv (2 ^ i)).fmod 2 = 1), D, vs, ep, rfl, hD, ints_of (by simp [hlen]) fun i y x e e' => ?_⟩
      have hi : i < n := by have := (List.getElem?_eq_some_iff.mp e).1; omega
      rw [get_mr _ _ _ hi] at e'
      cases e'
      exact hF i y e
  refine Ex.ifS (Ev.eqI (Ev.isInt (Ev.local rfl)) Ev.int) (fun hb3 => ?_) (fun hb3 => Ex.nilThen ?_)
  · obtain ⟨ca, cb, va, vb, hch, ha, hIa, hb', hIb⟩ := am₁.chains
    refine Then.ret (Ex.ret (P' := fun v H => ∃ a vs, v = .ref a ∧ H.get? a = some (lst (slicePick vs.toArray none (some (n : Int)) none).toList 0) ∧ ∃ ns, IntsAre vs ns ∧ n ≤ ns.length ∧ ∀ x ∈ ns, x = 0 ∨ x = 1) ?_ g₁ hL ?_)
    · refine Ev.cutL (P₀ := fun v H => ∃ a vs, v = .ref a ∧ H.get? a = some (lst vs 0) ∧ ∃ ns, IntsAre vs ns ∧ n ≤ ns.length ∧ ns.length ≤ 1000 ∧ ∀ x ∈ ns, x = 0 ∨ x = 1) ?_ ?_ Ev.partN (Ev.part (Ev.isInt (Ev.local rfl)))
      · have h3 : 0 ≤ rst.fmod 3 ∧ rst.fmod 3 < 3 := by rw [fmod_eq _ (by decide)]; omega
        have h2 : (rst.fdiv 3).fmod 2 = 0 ∨ (rst.fdiv 3).fmod 2 = 1 := by rw [fmod_eq _ (by decide)]; omega
        have hz : ∀ x ∈ List.replicate (rst.fmod 3).toNat (0 : Int), x = 0 ∨ x = 1 := fun x hx => .inl (List.eq_of_mem_replicate hx)
        obtain ⟨y, wsA, nsA, hix, hIs, hJ, hl13, hbit⟩ : ∃ y wsA nsA, (#[Value.ref ca, Value.ref cb])[((rst.fdiv 3).fmod 2).toNat]? = some (.ref y) ∧ B.IsList y wsA ∧ IntsAre wsA.toList nsA ∧ nsA.length = 13 ∧ ∀ x ∈ nsA, x = 0 ∨ x = 1 := by
          rcases h2 with e | e
          · exact ⟨ca, va, _, by rw [e]; rfl, ha, hIa, rfl, by decide⟩
          · exact ⟨cb, vb, _, by rw [e]; rfl, hb', hIb, rfl, by decide⟩
        refine Ev.addL (P₁ := NewI (List.replicate (rst.fmod 3).toNat 0)) (P₂ := Is (.ref y)) (Ev.mulL (Ev.listI (Ev.intsCons Ev.int Ev.intsNil) (by decide)) (Ev.mod (Ev.isInt (Ev.cell (a := L + 1) (hcell B))) Ev.int (by decide)) (by omega) (by omega)) (fun B' g' => ?_) ?_
        · exact Ev.itemL (Ev.glob (am₁.keeps g') rfl) (fun h o => Heap.IsList.kp hch (g'.trans o.keep)) (Ev.mod (Ev.fdiv (Ev.isInt (Ev.cell (a := L + 1) (hcell B'))) Ev.int (by decide) (PyProof.noPylong_small (by decide))) Ev.int (by decide)) (by omega) hix (by simp)
        · rintro a b B' g' u' v'
          obtain ⟨x, vs, rfl, hx, hI⟩ := u'.here
          have e := v'.here
          subst e
          refine ⟨x, y, vs, wsA.toList, rfl, rfl, fun h o => ⟨isList_lst (o.keep _ _ hx), by simpa using Heap.IsList.kp hIs (g'.trans o.keep)⟩, ?_, fun q H e _ _ => ⟨q, _, rfl, e, _, hI.append hJ, ?_, ?_, ?_⟩⟩
          · rw [hI.length, hJ.length]; simp only [List.length_replicate, hl13]; exact Nat.le_trans (show _ ≤ 100 by omega) (by decide)
          · simp only [List.length_append, List.length_replicate, hl13]; omega
          · simp only [List.length_append, List.length_replicate, hl13]; omega
          · intro z hz'
            rcases List.mem_append.mp hz' with q | q
            · exact hz z q
            · exact hbit z q
      · rintro v B' g' u'
        obtain ⟨a, vs, rfl, ha', ns, hI, h1, h2, h3⟩ := u'.here
        exact ⟨a, vs, rfl, fun h o => isList_lst (o.keep _ _ ha'), ⟨ns, hI, h1, h3⟩, by rw [hI.length]; exact Nat.le_trans h2 (by decide)⟩
    · rintro v H _ ⟨a, vs, rfl, ha', ns, hI, h1, h3⟩
      rw [slicePick_upto'] at ha'
      have hl : (ns.take n).length = n := by rw [List.length_take]; omega
      refine ⟨fun j => decide ((ns.take n).getD j 0 = 1), a, vs.take n, 0, rfl, by simpa using ha', ?_⟩
      rw [← bits_of_list hl fun x hx => h3 x (List.mem_of_mem_take hx)]
      exact hI.take n
  have hn6 : (n : Int) - 6 ≠ 0 := by omega
  refine Ex.assignI (Ev.mod (Ev.isInt (Ev.cell (a := L + 1) (hcell B))) (Ev.sub (Ev.isInt (Ev.local rfl)) Ev.int) hn6) fun t₃ => ?_
  have hbf : 0 ≤ rst.fmod ((n : Int) - 6) ∧ rst.fmod ((n : Int) - 6) < n - 6 := by
    rw [fmod_eq _ (by omega)]
    exact ⟨Int.emod_nonneg _ (by omega), Int.emod_lt_of_pos _ (by omega)⟩
  generalize rst.fmod ((n : Int) - 6) = bf at hbf
  have hkd : kd - 1 = 0 ∨ kd - 1 = 1 := by
    have h1 : kd ≠ 0 := by simpa using hb
    have h2 : kd ≠ 3 := by simpa using hb3
    omega
  refine Ex.ret (P' := NewI ((List.replicate bf.toNat (kd - 1) ++ [1, 0, 1, 1, 1, 0, 1]) ++ List.replicate ((n : Int) - 7 - bf).toNat (kd - 1))) ?_ g₁ hL ?_
  · refine Ev.addNN (Ev.addNN (Ev.mulL (Ev.listI (Ev.intsCons (Ev.sub (Ev.isInt (Ev.local rfl)) Ev.int) Ev.intsNil) (show 1 ≤ 1000 by decide)) (Ev.isInt (Ev.local rfl)) (by omega) (by omega)) (fun B' g' => ?_) ?_) (fun B' g' => ?_) ?_
    · exact Ev.listI (Ev.intsCons Ev.int (Ev.intsCons Ev.int (Ev.intsCons Ev.int (Ev.intsCons Ev.int (Ev.intsCons Ev.int (Ev.intsCons Ev.int (Ev.intsCons Ev.int Ev.intsNil))))))) (by decide)
    · simp only [List.length_replicate, List.length_cons, List.length_nil]; omega
    · exact Ev.mulL (Ev.listI (Ev.intsCons (Ev.sub (Ev.isInt (Ev.local rfl)) Ev.int) Ev.intsNil) (show 1 ≤ 1000 by decide)) (Ev.sub (Ev.sub (Ev.isInt (Ev.local rfl)) Ev.int) (Ev.isInt (Ev.local rfl))) (by omega) (by omega)
    · simp only [List.length_append, List.length_replicate, List.length_cons, List.length_nil]; omega
  · rintro v H _ ⟨a, vs, rfl, ha', hI⟩
    refine ⟨fun j => decide (((List.replicate bf.toNat (kd - 1) ++ [1, 0, 1, 1, 1, 0, 1]) ++ List.replicate ((n : Int) - 7 - bf).toNat (kd - 1)).getD j 0 = 1), a, vs, 0, rfl, ha', ?_⟩
    rw [← bits_of_list (by simp only [List.length_append, List.length_replicate, List.length_cons, List.length_nil]; omega) ?_]
    · exact hI
    · intro x hx
      rcases List.mem_append.mp hx with q | q
      · rcases List.mem_append.mp q with q | q
        · rw [List.eq_of_mem_replicate q]; exact hkd
        · have h7 : ∀ x ∈ ([1, 0, 1, 1, 1, 0, 1] : List Int), x = 0 ∨ x = 1 := by decide
          exact h7 x q
      · rw [List.eq_of_mem_replicate q]; exact hkd
end
end Mine
end QLine

section QHead
open PySem PySem.W PySem.Calls PyProof.Rows
set_option linter.unusedVariables false
set_option maxRecDepth 100000
namespace Mine

theorem clean_caller : Clean ⟨.builtin "claim.caller" {}, none, none, [], none⟩ := ⟨by decide +kernel, fun x hx => nomatch hx⟩
theorem ends_bothC {prog : Program} {w : World} {t : Sem Fin} {s : Shared} {R : Result → Shared → Prop} (hreg : s.asleep)
    (h : wpC (model prog w) callerA t (fun fin s' => ∃ f, fin = .done f ∧ (R (.ok f) s' ∧ leftWithCleanup s'.gens = false)) s) :
    ∃ n r s' s'', runN (denote table) prog w n s ⟨t, .builtin "claim.caller" {}, default, []⟩ = .halted (outcomeOf r) s' ∧
      schedN (denote table) prog w n (.single s ⟨t, .builtin "claim.caller" {}, default, []⟩) = .halted (outcomeOf r) s' ∧ s'.forget = s''.forget ∧ R r s'' := by
  have hw : Sem.wp (model prog w) ⟨.builtin "claim.caller" {}, none, none, [], none⟩ t (Sem.finPost (model prog w) ⟨.builtin "claim.caller" {}, none, none, [], none⟩ fun r s' => R r s' ∧ leftWithCleanup s'.gens = false) (fun e _ s' => R (.error e) s' ∧ leftWithCleanup s'.gens = false) default s :=
    Sem.wp_mono _ _ t (fun fin p' s' h' => by obtain ⟨f, rfl, hf⟩ := h'; exact hf) (fun _ _ _ h' => h'.elim) default s (h _ default caller_in clean_caller)
  obtain ⟨n, r, s₁, s₂, hs, hn, hfo, hR⟩ := wp_halts_full (M := model prog w) (R := R) hreg hw
  exact ⟨n, r, s₂, s₁, hn, hs, hfo, hR⟩

theorem callFromC {c : ClaimW} {tree : List Value → Sem Fin} {w : World} {s : Shared} {free : Addr → Prop} {gens : Prop} {kept : Heap → Prop} (hz : s.asleep) (hgens : s.gens = #[])
    (hspec : ∀ args, c.pre args = true → WData.layableAll args = true →
      ∀ ord : List DictEntry → List DictEntry, (∀ l, (ord l).Perm l) →
      ∃ vs s₁, layAllW c.records (classAt s.heap) w.params ord args s = some (vs, s₁) ∧
        wpC (model c.prog w) callerA (tree vs) (fun fin s' => ∃ f, fin = .done f ∧ (c.Ends s args vs s₁ (.ok f) s' ∧ s'.os = s.os ∧ AllBare s'.gens ∧ kept s'.heap)) s₁) :
    c.CallFrom (fun vs => ⟨tree vs, .builtin "claim.caller" {}, default, []⟩) w free gens kept s := by
  intro args hpre hlay ord hord
  obtain ⟨vs, s₁, hlaid, hcode⟩ := hspec args hpre hlay ord hord
  have hal := layAllW_rest _ _ _ hlaid
  obtain ⟨k, r, s', s'', hrun, hsched, hfo, hcase, hos, hkp⟩ := ends_bothC (prog := c.prog) (w := w) (t := tree vs) (s := s₁)
    (R := fun r s' => c.Ends s args vs s₁ r s' ∧ s'.os = s.os ∧ kept s'.heap)
    (Shared.asleep_of_life hal.2.2.2 hz)
    (c_mono hcode (by
      rintro fin s' ⟨f, e, h1, h2, h3, h4⟩
      exact ⟨f, e, ⟨h1, h2, h4⟩, leftWithCleanup_false_of_bare h3⟩))
  obtain ⟨eh, _, _, eo, _⟩ := Shared.forget_eq hfo
  have hcase := hcase.congr eh
  have hkp : kept s'.heap := by first | exact eh ▸ hkp | (rw [eh] at hkp; exact hkp) | (rw [← eh] at hkp; exact hkp)
  rw [← eo] at hos
  have hlife : s'.heap.life = s.heap.life := (runN_life _ _ _ hrun).trans hal.2.2.2
  refine ⟨vs, s₁, hlaid, k, _, s', hsched, ?_, (fun _ i x hx => by rw [hgens] at hx; simp at hx), hkp, by rw [hlife], Shared.rest_eq hos⟩
  rcases hcase with ⟨v, er, d1, d2, d3, d4, d5⟩ | ⟨e, ob, cls, er, d1, d2, d3, d4, d5⟩
  · exact .inl ⟨v, by rw [er]; rfl, d1, d2, d3, fun b o y _ => d4 b o y, d5⟩
  · exact .inr ⟨e, ob, cls, by rw [er]; rfl, d1, d2, d3, d4, fun b o y _ => d5 b o y⟩

/-- what the walk has to show: from the caller's own stack, no raise -/
abbrev WalkC (q : Program) (loose : List Str) (XP : (Str → Option Value) → Heap → Prop) (YP : World → Heap → Prop) (r : RowW) (d : DefRec) (kwd : List (Str × Expr)) : Prop :=
  ∀ (w : World) (s₀ s₁ : Shared) (mg mb : Str → Option Value), Ground q loose r.records XP w s₀ mg mb s₁.heap → YP w s₁.heap → ∀ (a : Addr) (o : Obj) (pm cd doc dV kV : Value), s₁.heap.get? a = some o →
    o.data = .func { docDef d.name d.params d.body d.scope pm cd doc with defaults := dV, kwdefaults := kV } → s₁.heap.CodeRec cd d.name → Dflts mg s₁.heap d.params kwd dV kV → mg d.name = some (.ref a) → s₁.gens = #[] →
    ∀ (args : List WData) (vals : List Value) (as : List Addr), r.claim.pre args = true → WData.layableAll args = true → ReadsAllW r.records (classAt s₀.heap) s₁.heap vals args as → WellAll w.params s₁.heap vals args → (∀ a ∈ as, (a == sysModules) = false) →
      wpC (model r.prog w) callerA (PySem.call (.ref a) vals) (fun v s' => GoodWG r.claim (classAt s₀.heap) (ExcName.means s₀.heap) args s₁ (.ok (.ret v)) s') s₁

theorem PySem.W.holds_open {r : OpenRow} {q : Program} {loose : List Str} {Xt : Shared → Bool} {XP : (Str → Option Value) → Heap → Prop} {α : Type} {Yf : Shared → α} {Ya : World → α} {YP : World → Heap → Prop} {d : DefRec} {kwd : List (Str × Expr)} {N : Nat}
    (left : LeftO r.prog q loose Xt Yf Ya N) (hY : ∀ w s, Yf s = Ya w → YP w s.heap) (hYk : ∀ w h h', YP w h → (∀ b o, h.get? b = some o → h'.get? b = some o) → YP w h')
    (hX : ∀ s, Xt s = true → XP (s.heap.nsMap mainGlobals) s.heap) (hXk : ∀ mg h h', XP mg h → (∀ b o, h.get? b = some o → h'.get? b = some o) → XP mg h')
    (hdef : defOf q r.name = some (d, kwd)) (hp : r.prog.theDef r.name = some (d.params, d.body, d.scope)) (hk : kwWritten? d.params.kwonlyargs d.params.kw_defaults = some kwd) (hRf : ∀ s, Xt s = true → RecFacts r.records s.heap) (hwr : (!r.writes || r.records.isEmpty) = true)
    (k1 : r.wellSaid = true) (ok : (chainsOk q && opensWell r.prog && (frees r.toRowW && r.within.isEmpty)) = true) (hb : r.prog.bare) (hw : r.toRowW.promised)
    (call : WalkC q loose XP YP r.toRowW d kwd) : r.Holds := by
  refine ⟨k1, hw, ?_⟩
  show r.toRowW.claim.HoldsOpenBy (fun vs => ⟨(do match ← nsGet mainNs r.name with
      | some f => do ret (← PySem.call f vs)
      | none => unsupported "claim.caller:no-such-global" : Sem Fin), .builtin "claim.caller" {}, default, []⟩) _ _ _
  obtain ⟨ok, k5⟩ := Bool.and_eq_true_iff.mp ok
  obtain ⟨hch, o1⟩ := Bool.and_eq_true_iff.mp ok
  obtain ⟨k5, k6⟩ := Bool.and_eq_true_iff.mp k5
  obtain ⟨hsame, hu, ha, hap, hm⟩ := frees_parts k5
  refine ⟨⟨hb, o1, by show r.makers.map _ = []; rw [hm]; rfl⟩, hw.witness, fun w => ⟨(left.behind hX hch w).1, fun s' hs' => ?_⟩⟩
  obtain ⟨s₀, hf, hg0, s, hT, hz, hgens, hg, G00, y⟩ := (left.behind (XP := fun mg h => XP mg h ∧ RecFacts r.records h) (fun s hs => ⟨hX s hs, hRf s hs⟩) hch w).2 s' hs'
  have G0 : Ground q loose [] XP w s (s.heap.nsMap mainGlobals) (s.heap.nsMap builtinsNs) s.heap := ⟨G00.T, G00.B, G00.D, G00.TE, G00.TD, G00.W, G00.X.1, G00.cls, G00.has, G00.apart, G00.once, G00.K⟩
  have RF := G00.X.2
  have hT' := hT
  refine ⟨s₀, hf, hg0, s, hT, (fun n hn => ?_), RF.1, RF.2.1, ?_⟩
  · obtain rfl : n = r.name := by split at hn <;> simp_all
    exact pinned_of_view hg G0 hdef hp hk
  have hgens : s.gens = #[] := Array.eq_empty_of_size_eq_zero (beq_iff_eq.mp hgens)
  have G : Ground q loose r.records XP w s _ _ s.heap := RF.ground G0
  refine callFromC (c := r.toRowW.claim) hz hgens fun args hpre hlay ord hord => ?_
  obtain ⟨⟨vs, s₁⟩, hlaid⟩ := Option.isSome_iff_exists.mp (layAllW_isSome (P := w.params) (ord := ord) G.has args r.args s (pre_splitW hpre).1)
  have keeps := layAllW_keeps _ _ _ hlaid
  have hal := layAllW_rest _ _ _ hlaid
  obtain ⟨as, hrd, hin, hold⟩ := reads_layAllW hord _ _ _ hlaid hlay s₁.heap (fun _ _ e => e)
  have L : Laid r.records w s s₁ args vs as := ⟨⟨ord, hord, hlaid⟩, hrd, hin, hold, keeps, hal.1.trans hgens, hal.2.2.1⟩
  have G₁ := G.keeps hXk keeps
  obtain ⟨a, o, pm, cd, doc, dV, kV, h1, h2, h3, h4, h5⟩ := G₁.fn hdef
  have h := call w s s₁ _ _ G₁ (hYk _ _ _ (hY w s y) keeps) a o pm cd doc dV kV h2 h3 h4 h5 (defOf_name hdef ▸ h1) L.gens args vs as hpre hlay L.reads L.well (L.low G.low)
  have hi := ident_freeW hu ha hap
  have hwi : r.claim.within = [] := List.isEmpty_iff.mp k6
  refine ⟨vs, s₁, hlaid, c_bind (toC (wpAny_nsGet G₁.T.g ?_))⟩
  rw [h1]
  refine fun Γ p hΓ cl => c_bind (c_mono h fun v s' g => c_pure ⟨_, rfl, ?_⟩) Γ p hΓ cl
  have z := g.laid (c := r.toRowW.claim) hsame hwi hi L
  exact ⟨z.1, z.2.1, z.2.2, fun q => ⟨namesKept_of hT' hg _ keeps g.2.1.old, noTable hwr q⟩⟩
end Mine
end QHead

section QBaA
open PySem PySem.W PySem.Calls PyProof.Rows
set_option linter.unusedVariables false
set_option maxRecDepth 100000
namespace Mine
open Builtin
theorem mro_ba : mroOf (.type "bytearray") = pure [.type "bytearray", .type "object"] := by rw [mroOf_type]; kernel_rfl
theorem new_ba : typeLookup (.type "bytearray") "__new__" = pure (some (.builtin "bytearray.__new__")) := by rw [typeLookup_type, builtinLookup_eq_fast]; kernel_rfl
theorem slot_ba_init : Slot "bytearray" "__init__" "bytearray.__init__" := Slot.of (owner := "bytearray") (n := "__init__") (by rw [typeLookup_type, builtinLookup_eq_fast]; kernel_rfl) (by decide +kernel) (by decide +kernel) (by decide +kernel) (Or.inl (by decide +kernel)) (by rw [isSubtype_type]; kernel_rfl)
theorem called_ba : TypeCalled "bytearray" "bytearray.__new__" "bytearray.__init__" :=
  ⟨by decide +kernel, by decide +kernel, ⟨_, _, mro_ba⟩, madeBy_type mro_ba new_ba (by decide +kernel), by decide +kernel, by rw [isSubtype_type]; kernel_rfl, slot_ba_init⟩
theorem typeCall_ba (x : Value) : checkTypeCall "bytearray" ⟨[x], []⟩ = pure () := by kernel_rfl
theorem newCall_ba (x : Value) : checkBuiltinCall "bytearray.__new__" ⟨[.type "bytearray", x], []⟩ = pure () := by kernel_rfl
theorem entry_ba_new : entryFor table "bytearray.__new__" = some «list.__new__» := entryFor_alias (id' := "list.__new__") (by kernel_rfl) (by first | rfl | decide +kernel) (by decide +kernel) (by kernel_rfl)
theorem entry_ba_init : entryFor table "bytearray.__init__" = some «bytearray.__init__» := entryFor_of_tree (by kernel_rfl)
theorem args_ba_init (o x : Value) : argsOk "bytearray.__init__" ⟨[o, x], []⟩ := by kernel_rfl
def ba (b : Array UInt8) : Obj := { cls := .type "bytearray", data := .bytearray b }
section
variable {prog : Program} {w : World} {A : Around} {E : Value → Shared → Prop} {s : Shared}
set_option maxHeartbeats 4000000 in
theorem code_ba_new (a : Value) {Q₁ : Value → Shared → Prop} (h : Q₁ (.ref s.heap.objs.size) { s with heap := s.heap.push (ba #[]) }) :
    codeAny (model prog w) A (.call (.builtin "bytearray.__new__") ⟨[.type "bytearray", a], []⟩) (wants Q₁ E) s := by
  refine codeAny_of_tree ?_
  show wpAny _ A.in1 (do checkBuiltinCall "bytearray.__new__" ⟨[.type "bytearray", a], []⟩; again (.builtin "bytearray.__new__" ⟨[.type "bytearray", a], []⟩)) _ _ s
  refine wpAny_bind (wpAny_of_eq (newCall_ba a) (wpAny_pure ⟨plainId_quiet called_ba.plain _, codeAny_builtin_stack entry_ba_new rfl fun p st => ?_⟩))
  rw [Around.under_plainId called_ba.plain _]
  have hsub := called_ba.sub
  have hown : ("bytearray.__new__".splitOn ".__new__").headD "" = "bytearray" := by rw [split_bytearray]; rfl
  obtain ⟨hp, g, d, tk, os⟩ := s
  simp only [hown]
  wp_walk
  exact h
end
section
variable {prog : Program} {w : World} {A : Around} {s : Shared}
theorem cc_builtin {id : String} {args : Args} {b : Builtin} {R : Flow → Shared → Prop} (hh : heldIds.contains id = false) (hb : entryFor table id = some b)
    (h : wpC (model prog w) (A.under (.builtin id args)) (b args) (fun fin s' => match fin with | .done f => R f s' | .again c' => c'.quiet = true ∧ codeC (model prog w) A c' R s') s) : codeC (model prog w) A (.builtin id args) R s := by
  refine cc_of_tree hh ?_
  show wpC _ _ (match entryFor table id with | some b => b args | none => unsupported ((withoutEnding? id "#data").getD id)) _ s
  rw [hb]; exact h
theorem cc_call_builtin {id : String} {args : Args} {b : Builtin} {R : Flow → Shared → Prop} (hq : plainId id = true) (hh : heldIds.contains id = false) (hb : entryFor table id = some b)
    (h : wpC (model prog w) A.in1 (checkBuiltinCall id args) (fun _ s₁ => wpC (model prog w) A.in1 (b args) (fun fin s' => match fin with | .done f => R f s' | .again c' => c'.quiet = true ∧ codeC (model prog w) A c' R s') s₁) s) : codeC (model prog w) A (.call (.builtin id) args) R s := by
  refine cc_of_tree rfl ?_
  show wpC _ A.in1 (do checkBuiltinCall id args; again (.builtin id args)) _ s
  refine c_bind (c_mono h (fun _ s₁ h₁ => c_pure (And.intro (plainId_quiet hq args) (cc_builtin hh hb ?_))))
  rw [Around.under_plainId hq args]; exact h₁
set_option maxHeartbeats 4000000 in
theorem c_ba (x : Value) {Q : Value → Shared → Prop}
  (h : codeC (model prog w) A.in1 (.call (.builtin "bytearray.__init__") ⟨[.ref s.heap.objs.size, x], []⟩) (fun f s' => f = .ret .none ∧ Q (.ref s.heap.objs.size) s') { s with heap := s.heap.push (ba #[]) }) :
  wpC (model prog w) A (call (.type "bytearray") [x]) Q s := by
  refine c_call (cc_of_tree (by rfl) ?_)
  show wpC _ _ (callAny (.type "bytearray") _) _ _
  refine c_pure ⟨Code.quiet_builtin _ (by decide +kernel), cc_builtin (b := «type.__call__») (by decide +kernel) F.entry_type_call ?_⟩
  rw [Around.under_plain (weight_type_call_type "bytearray" [x] []) rfl]
  unfold «type.__call__»
  simp only [called_ba.notType, called_ba.canCreate, typeCall_ba, mro_ba, called_ba.made, pure_bind, Bool.false_eq_true, if_false, List.isEmpty_cons]
  refine c_bind (c_holding (c_call ?_))
  refine cc_mono (R := fun f s' => f = .ret (.ref s.heap.objs.size) ∧ s' = { s with heap := s.heap.push (ba #[]) }) (cc_of_any (codeAny_mono (code_ba_new x (E := fun _ _ => False) (Q₁ := fun v s' => v = .ref s.heap.objs.size ∧ s' = { s with heap := s.heap.push (ba #[]) }) ⟨rfl, rfl⟩) fun r s' hr => ?_)) ?_
  · cases r with
    | error e => exact hr.elim
    | ok fl =>
      cases fl with
      | ret v => exact ⟨_, rfl, by rw [hr.1], hr.2⟩
      | _ => exact hr.elim
  rintro f s₁ ⟨rfl, rfl⟩
  refine ⟨_, rfl, ?_⟩
  have hT : Shared.TypeIs { s with heap := s.heap.push (ba #[]) } (.ref s.heap.objs.size) "bytearray" := ⟨_, Heap.get?_push_size _ rfl, rfl⟩
  refine c_bind (toC (wpAny_isInstance hT called_ba.sub ?_))
  simp only [Bool.not_true, Bool.false_eq_true, if_false]
  refine c_bind (c_holding ?_)
  simp only [callSpecial?]
  refine c_bind (toC (wpAny_specialOf hT slot_ba_init.lookup ?_))
  simp only [slot_ba_init.bind]
  refine c_holding (c_bind (c_pure (c_bind (c_call (cc_mono h ?_)))))
  rintro f s₂ ⟨rfl, hq⟩
  exact ⟨_, rfl, c_pure (c_pure ⟨_, rfl, hq⟩)⟩

theorem wp_stackC {α : Type} {k : List (Code × Pos) → Sem α} {Q : α → Shared → Prop} (h : ∀ st, (∀ x ∈ st, Held x.1 = false) → wpC (model prog w) A (k st) Q s) : wpC (model prog w) A (stack >>= k) Q s := fun Γ p hΓ cl => by
  show Sem.wp _ Γ (Sem.bind stack k) _ _ p s
  unfold stack
  rw [Sem.wp_bind, Sem.wp_stack]
  refine h ((Γ.code, p) :: Γ.below) (fun x hx => ?_) Γ p hΓ cl
  rcases List.mem_cons.mp hx with rfl | hx
  · exact cl.1
  · exact cl.2 x hx
theorem dif_no {c : Prop} [Decidable c] {t : c → Bool} {e : ¬ c → Bool} (hc : ¬ c) (h : ¬ (e hc = true)) : ¬ ((if q : c then t q else e q) = true) := by rw [dif_neg hc]; exact h
theorem c_exported {v : Value} {Q : Bool → Shared → Prop} (h : Q false s) : wpC (model prog w) A (Bytes.exported v) Q s := by
  unfold Bytes.exported
  refine wp_stackC fun st hst => c_of_eq (a := false) ?_ h
  show (pure (st.any _) : Sem Bool) = pure false
  congr 1
  rw [List.any_eq_false]
  intro x hx
  have hh := hst x hx
  obtain ⟨cd, ps⟩ := x
  cases cd with
  | builtin id args =>
    have hid : heldIds.contains id = false := hh
    obtain ⟨pos, kw⟩ := args
    have ne : ∀ y ∈ heldIds, id ≠ y := fun y hy e => by subst e; rw [List.contains_iff_mem.mpr hy] at hid; cases hid
    have n1 := ne "bytearray.__contains__" (by decide +kernel)
    have n2 := ne "bytearray.__mod__" (by decide +kernel)
    have n3 := ne "bytearray.__rmod__" (by decide +kernel)
    have n4 := ne "_struct.pack_into.held" (by decide +kernel)
    have n5 := ne "bytearray.find.held" (by decide +kernel)
    have n6 : Bytes.decodersThatHold.contains id = false := by
      cases e : Bytes.decodersThatHold.contains id with
      | false => rfl
      | true => exact absurd rfl (ne id (List.mem_append_left _ (List.contains_iff_mem.mp e)))
    delta PySem.Builtin.Bytes.exported.match_1
    refine dif_no n1 ?_
    refine dif_no n2 ?_
    refine dif_no n3 ?_
    refine dif_no n4 ?_
    refine dif_no n5 ?_
    cases pos with
    | nil => exact Bool.false_ne_true
    | cons u pos => exact fun q => absurd ((Bool.and_eq_true_iff.mp q).2.symm.trans n6) (by decide)
  | _ => exact Bool.false_ne_true
end
end Mine
end QBaA

section QBa
open PySem PySem.W PySem.Calls PyProof.Rows
set_option linter.unusedVariables false
set_option maxRecDepth 100000
namespace Mine
open Builtin
section
variable {prog : Program} {w : World} {A : Around} {s : Shared}
theorem ba_upd {h : Heap} {a : Addr} {b : Array UInt8} {f : Array UInt8 → Array UInt8} (e : h.get? a = some (ba b)) : (h.update a (Obj.mapBytearray f)).get? a = some (ba (f b)) := Heap.get?_update_self _ e rfl
theorem wp_baWrite {E : Value → Shared → Prop} {a : Addr} {b : Array UInt8} {f : Array UInt8 → Array UInt8} {Q : Unit → Shared → Prop} (e : s.heap.get? a = some (ba b)) (hz : (f b).size ≤ sizeLine) (h : Q () { s with heap := s.heap.update a (Obj.mapBytearray f) }) :
    wpAny (model prog w) A (Bytes.write (.ref a) f) Q E s := by
  show wpAny _ _ (updateBytearray a f) _ _ _
  unfold updateBytearray
  refine wpAny_bind (wpAny_load e ?_)
  show wpAny _ _ (update a (Obj.mapBytearray f) >>= fun _ => lookBehind a) _ _ _
  refine wpAny_bind (wpAny_update e ?_)
  unfold lookBehind
  refine wpAny_bind (wpAny_loadPart (ba_upd e) ?_)
  have : (ba (f b)).data.pastItsLine = none := by show (if (f b).size > sizeLine then some "bytearray:memory" else none) = none; rw [if_neg (Nat.not_lt.mpr hz)]
  rw [this]
  exact wpAny_pure h
theorem rel_ba : typeLookup (.type "bytearray") "__release_buffer__" = pure (some (.builtin "bytearray.__release_buffer__")) := by rw [typeLookup_type, builtinLookup_eq_fast]; kernel_rfl
theorem typ_ba {a : Addr} {b : Array UInt8} (e : s.heap.get? a = some (ba b)) : s.TypeIs (.ref a) "bytearray" := ⟨_, e, rfl⟩
theorem wp_slotOwn {E : Value → Shared → Prop} {a : Addr} {b : Array UInt8} {name : String} {Q : Bool → Shared → Prop} (e : s.heap.get? a = some (ba b)) (hl : typeLookup (.type "bytearray") (name : Str) = pure (some (.builtin ("bytearray." ++ name))))
    (hend : ("bytearray." ++ name).endsWith ("." ++ name) = true) (hdrop : ("bytearray." ++ name).dropRight (name.length + 1) = "bytearray") (h : Q true s) : wpAny (model prog w) A (Bytes.slotIsOwn (.ref a) name) Q E s := by
  unfold Bytes.slotIsOwn
  refine wpAny_bind (wpAny_specialOf (typ_ba e) hl ?_)
  simp only [hend, hdrop, Bool.not_true, Bool.false_eq_true, if_false]
  exact wpAny_isInstance (typ_ba e) called_ba.sub h
theorem wp_ownRelease {E : Value → Shared → Prop} {a : Addr} {b : Array UInt8} {Q : Bool → Shared → Prop} (e : s.heap.get? a = some (ba b)) (h : Q false s) : wpAny (model prog w) A (Bytes.ownRelease (.ref a)) Q E s := by
  unfold Bytes.ownRelease
  exact wpAny_bind (wp_slotOwn e rel_ba (by decide +kernel) (by decide +kernel) (wpAny_pure h))
theorem wp_exportsOf {E : Value → Shared → Prop} {a : Addr} {b : Array UInt8} {Q : Nat → Shared → Prop} (e : s.heap.get? a = some (ba b)) (h : Q 0 s) : wpAny (model prog w) A (Bytes.exportsOf (.ref a)) Q E s :=
  wpAny_bind (wpAny_load e (wpAny_pure h))
theorem wp_payload {E : Value → Shared → Prop} {a : Addr} {b : Array UInt8} {Q : Array UInt8 → Shared → Prop} (e : s.heap.get? a = some (ba b)) (h : Q b s) : wpAny (model prog w) A (Bytes.payload (.ref a)) Q E s := by
  unfold Bytes.payload
  exact wpAny_bind (wpAny_bind (wpAny_load e (wpAny_pure (wpAny_pure h))))
theorem c_notOut {a : Addr} {b : Array UInt8} {Q : Bool → Shared → Prop} (e : s.heap.get? a = some (ba b)) (h : Q false s) : wpC (model prog w) A (Bytes.exported (.ref a) <||> (do return (← Bytes.exportsOf (.ref a)) > 0)) Q s := by
  show wpC _ _ (Bytes.exported (.ref a) >>= fun r => _) _ _
  refine c_bind (c_exported ?_)
  exact toC (wpAny_bind (wp_exportsOf e (wpAny_pure h)))
theorem noBuf_list : typeLookup (.type "list") "__buffer__" = pure none := by rw [typeLookup_type, builtinLookup_eq_fast]; kernel_rfl
theorem noBuf_tuple : typeLookup (.type "tuple") "__buffer__" = pure none := by rw [typeLookup_type, builtinLookup_eq_fast]; kernel_rfl
theorem noIdx_list : typeLookup (.type "list") "__index__" = pure none := by rw [typeLookup_type, builtinLookup_eq_fast]; kernel_rfl
theorem noIdx_tuple : typeLookup (.type "tuple") "__index__" = pure none := by rw [typeLookup_type, builtinLookup_eq_fast]; kernel_rfl
theorem wp_noBuffer {E : Value → Shared → Prop} {v : Value} {T id : String} {fl : Bool} {Q : Option (Array UInt8) → Shared → Prop} (hT : s.TypeIs v T) (hl : typeLookup (.type T) "__buffer__" = pure none) (h : Q none s) : wpAny (model prog w) A (Bytes.buffer? id v fl) Q E s := by
  unfold Bytes.buffer?
  refine wpAny_bind (wpAny_specialOf hT hl ?_)
  exact wpAny_bind (wpAny_specialOf hT hl (wpAny_pure h))
/-- bytes of small ints -/
def bytesOf (ns : List Int) : Array UInt8 := (ns.map fun i => i.toNat.toUInt8).toArray
theorem take_ints {p : Value → Bool} (hp : ∀ i t, 0 ≤ i → i < 256 → p (.int i t) = true) : ∀ {vs : List Value} {ns : List Int}, IntsAre vs ns → (∀ n ∈ ns, 0 ≤ n ∧ n < 256) → vs.takeWhile p = vs
  | _, _, .nil, _ => rfl
  | _, _, .cons n t r, hb => by
    have h0 := hb n List.mem_cons_self
    rw [List.takeWhile_cons, hp n t h0.1 h0.2, take_ints hp r fun m hm => hb m (List.mem_cons_of_mem _ hm)]
    rfl
theorem map_ints {f : Value → Option UInt8} (hf : ∀ i t, f (.int i t) = some i.toNat.toUInt8) : ∀ {vs : List Value} {ns : List Int}, IntsAre vs ns → vs.filterMap f = ns.map fun i => i.toNat.toUInt8
  | _, _, .nil => rfl
  | _, _, .cons _ _ r => by rw [List.filterMap_cons]; simp only [hf, List.map_cons]; rw [map_ints hf r]
theorem c_yes {α : Type} {c : Prop} [Decidable c] {t u : Sem α} {Q : α → Shared → Prop} (hc : c) (h : wpC (model prog w) A t Q s) : wpC (model prog w) A (if c then t else u) Q s := by rw [if_pos hc]; exact h
theorem c_no {α : Type} {c : Prop} [Decidable c] {t u : Sem α} {Q : α → Shared → Prop} (hc : ¬ c) (h : wpC (model prog w) A u Q s) : wpC (model prog w) A (if c then t else u) Q s := by rw [if_neg hc]; exact h
theorem wp_asStr_seq {E : Value → Shared → Prop} {x : Addr} {o : Obj} {vs : Array Value} {k : Nat} {Q : Option Str → Shared → Prop} (ho : s.heap.get? x = some o) (hd : o.data = .seq vs k) (h : Q none s) : wpAny (model prog w) A (asStr? (.ref x)) Q E s := by
  refine wpAny_bind (wpAny_load ho ?_)
  rw [hd]
  exact wpAny_pure h
set_option maxHeartbeats 2000000 in
theorem init_seq {a x : Addr} {o : Obj} {T : String} {vs : Array Value} {k : Nat} {ns : List Int} {R : Flow → Shared → Prop} (e : s.heap.get? a = some (ba #[])) (ho : s.heap.get? x = some o) (hcls : o.cls = .type T) (hd : o.data = .seq vs k)
    (hT : T = "list" ∨ T = "tuple") (hi : typeLookup (.type T) "__index__" = pure none) (hbf : typeLookup (.type T) "__buffer__" = pure none) (hax : a ≠ x) (hns : IntsAre vs.toList ns) (hb : ∀ n ∈ ns, 0 ≤ n ∧ n < 256) (hz : ns.length ≤ 1000)
    (h : ∀ h', h'.get? a = some (ba (bytesOf ns)) → Heap.SameBut a s.heap h' → R (.ret .none) { s with heap := h' }) :
   wpC (model prog w) A («bytearray.__init__» ⟨[.ref a, .ref x], []⟩) (fun fin s' => ∃ f, fin = .done f ∧ R f s') s := by
  have hb1 : Bytes.bindOptional "bytearray.__init__" "bytearray" ["source", "encoding", "errors"] [.ref x] [] = pure [some (.ref x), none, none] := by rfl
  have hc : ∀ y, Bytes.checkCodecArg "bytearray.__init__" "bytearray" y none = pure () := fun _ => rfl
  show wpC _ _ (Bytes.ownRelease (.ref a) >>= _) _ _
  refine c_bind (toC (wp_ownRelease e ?_))
  refine c_bind (c_of_eq hb1 ?_)
  refine c_bind (c_of_eq (hc _) (c_bind (c_of_eq (hc _) ?_)))
  refine c_bind (c_notOut e ?_)
  refine c_bind (toC (wp_baWrite e (by show (0:Nat) ≤ _; exact Nat.zero_le _) ?_))
  have e₁ := ba_upd (f := fun _ => #[]) e
  have ho₁ : (s.heap.update a (Obj.mapBytearray fun _ => #[])).get? x = some o := Heap.get?_update_of_ne _ hax ho
  have hT₁ : Shared.TypeIs { s with heap := s.heap.update a (Obj.mapBytearray fun _ => #[]) } (.ref x) T := ⟨o, ho₁, hcls⟩
  refine c_bind (toC (wp_asStr_seq ho₁ hd ?_))
  refine c_bind (c_of_eq (a := ()) rfl ?_)
  refine c_bind (toC (wpAny_specialOf hT₁ hi ?_))
  refine c_bind (toC (wp_noBuffer hT₁ hbf ?_))
  refine c_bind (toC (wpAny_typeOf hT₁ ?_))
  have hcond : (Value.type T == Value.type "list" || Value.type T == Value.type "tuple") = true := by rcases hT with rfl | rfl <;> decide
  refine c_yes hcond ?_
  refine c_bind (toC (wpAny_seqItems ho₁ hd ?_))
  have hlen : vs[vs.toList.length]? = none := by simp
  dsimp only
  rw [take_ints (by intro i t h0 h1; simp [h0, h1]) hns hb, map_ints (by intro i t; rfl) hns]
  simp only [hlen]
  refine c_bind (toC (wpAny_rule ?_))
  refine c_bind (toC (wp_baWrite e₁ ?_ ?_))
  · show (List.toArray _).size ≤ sizeLine
    rw [sizeLine_eq]; simp; omega
  refine c_pure ⟨_, rfl, h _ (ba_upd e₁) ?_⟩
  exact (Heap.SameBut.update ..).trans (Heap.SameBut.update ..)
set_option maxHeartbeats 2000000 in
theorem init_int {a : Addr} {n : Int} {t : Tok} {R : Flow → Shared → Prop} (e : s.heap.get? a = some (ba #[])) (hn : 0 < n) (hn' : n ≤ 1000)
    (h : ∀ h', h'.get? a = some (ba (Array.replicate n.toNat 0)) → Heap.SameBut a s.heap h' → R (.ret .none) { s with heap := h' }) :
   wpC (model prog w) A («bytearray.__init__» ⟨[.ref a, .int n t], []⟩) (fun fin s' => ∃ f, fin = .done f ∧ R f s') s := by
  have hb1 : Bytes.bindOptional "bytearray.__init__" "bytearray" ["source", "encoding", "errors"] [.int n t] [] = pure [some (.int n t), none, none] := by rfl
  have hc : ∀ y, Bytes.checkCodecArg "bytearray.__init__" "bytearray" y none = pure () := fun _ => rfl
  have hstr : asStr? (.int n t) = pure none := rfl
  have hidx : (asIndex (.int n t)).attempt = pure (.ok n) := rfl
  have hfit : Bytes.fitsIndex n = true := by unfold Bytes.fitsIndex; simp; omega
  have h1 : ¬ n < 0 := by omega
  have h2 : (n == 2 ^ 63 - 1) = false := by rw [beq_eq_false_iff_ne]; omega
  have h3 : Bytes.tooLong n.toNat = false := KBy.tooLong_not (by omega)
  show wpC _ _ (Bytes.ownRelease (.ref a) >>= _) _ _
  refine c_bind (toC (wp_ownRelease e ?_))
  refine c_bind (c_of_eq hb1 ?_)
  refine c_bind (c_of_eq (hc _) (c_bind (c_of_eq (hc _) ?_)))
  refine c_bind (c_notOut e ?_)
  refine c_bind (toC (wp_baWrite e (by show (0:Nat) ≤ _; exact Nat.zero_le _) ?_))
  have e₁ := ba_upd (f := fun _ => #[]) e
  refine c_bind (c_of_eq hstr ?_)
  refine c_bind (c_of_eq (a := ()) rfl ?_)
  refine c_bind (toC (wpAny_specialOf (T := "int") (typeIs_int _ _ _) F.slot_int_index.lookup ?_))
  refine c_bind (c_of_eq hidx ?_)
  refine c_no (by rw [hfit]; decide) ?_
  refine c_no h1 ?_
  refine c_no (by rw [h2]; decide) ?_
  refine c_no (by rw [h3]; decide) ?_
  refine c_bind (toC (wpAny_rule ?_))
  refine c_yes hn ?_
  refine c_bind (toC (wp_baWrite e₁ ?_ ?_))
  · rw [sizeLine_eq]; simp; omega
  refine c_pure ⟨_, rfl, h _ (ba_upd e₁) ?_⟩
  exact (Heap.SameBut.update ..).trans (Heap.SameBut.update ..)

theorem heap_push_same {h h' : Heap} {o : Obj} (x : Heap.SameBut h.objs.size (h.push o) h') : Kp h h' := fun b ob eb => by
  rw [x.2 b (Nat.ne_of_lt (Heap.lt_size eb))]; exact Heap.get?_push_of_some _ eb
end
section
variable {prog : Program} {w : World} {s₀ : Shared} {A : Around}
theorem call_ba_seq {h : Heap} {x : Addr} {o : Obj} {T : String} {vs : Array Value} {k : Nat} {ns : List Int} (ho : h.get? x = some o) (hcls : o.cls = .type T) (hd : o.data = .seq vs k)
    (hT : T = "list" ∨ T = "tuple") (hns : IntsAre vs.toList ns) (hb : ∀ n ∈ ns, 0 ≤ n ∧ n < 256) (hz : ns.length ≤ 1000) :
    EvH prog w s₀ A h (call (.type "bytearray") [.ref x]) (fun v H => ∃ a, v = .ref a ∧ H.get? a = some (ba (bytesOf ns))) := fun tk p => by
  have hi : typeLookup (.type T) "__index__" = pure none := by rcases hT with rfl | rfl <;> first | exact noIdx_list | exact noIdx_tuple
  have hbf : typeLookup (.type T) "__buffer__" = pure none := by rcases hT with rfl | rfl <;> first | exact noBuf_list | exact noBuf_tuple
  refine c_ba _ (cc_call_builtin called_ba.init.plain (by decide +kernel) entry_ba_init (toC (slot_ba_init.check _ _ _ _ _ _ _ _ ⟨_, Heap.get?_push_size _ rfl, rfl⟩ (args_ba_init _ _) ?_)))
  refine c_mono (Q := fun fin s' => ∃ f, fin = .done f ∧ _) (init_seq (s := ⟨h.push (ba #[]), s₀.gens, s₀.drawn, tk, s₀.os⟩) (R := fun f s' => f = .ret .none ∧ ∃ h' tk', s' = St s₀ h' tk' ∧ Post h (fun (v : Value) H => ∃ a, v = .ref a ∧ H.get? a = some (ba (bytesOf ns))) (Value.ref h.objs.size) h') (Heap.get?_push_size _ rfl) (Heap.get?_push_of_some _ ho) hcls hd hT hi hbf (Nat.ne_of_gt (Heap.lt_size ho)) hns hb hz fun h' g sb => ?_) (by rintro _ _ ⟨f, rfl, r⟩; exact r)
  exact ⟨rfl, h', tk, rfl, heap_push_same sb, by rw [sb.1]; show _ ≤ (h.push _).objs.size; rw [Heap.size_push]; exact Nat.le_succ _, fun H n => ⟨_, rfl, n _ _ (Nat.le_refl _) g⟩⟩
theorem call_ba_int {h : Heap} {n : Int} {t : Tok} (hn : 0 < n) (hn' : n ≤ 1000) :
    EvH prog w s₀ A h (call (.type "bytearray") [.int n t]) (fun v H => ∃ a, v = .ref a ∧ H.get? a = some (ba (Array.replicate n.toNat 0))) := fun tk p => by
  refine c_ba _ (cc_call_builtin called_ba.init.plain (by decide +kernel) entry_ba_init (toC (slot_ba_init.check _ _ _ _ _ _ _ _ ⟨_, Heap.get?_push_size _ rfl, rfl⟩ (args_ba_init _ _) ?_)))
  refine c_mono (Q := fun fin s' => ∃ f, fin = .done f ∧ _) (init_int (s := ⟨h.push (ba #[]), s₀.gens, s₀.drawn, tk, s₀.os⟩) (R := fun f s' => f = .ret .none ∧ ∃ h' tk', s' = St s₀ h' tk' ∧ Post h (fun (v : Value) H => ∃ a, v = .ref a ∧ H.get? a = some (ba (Array.replicate n.toNat 0))) (Value.ref h.objs.size) h') (Heap.get?_push_size _ rfl) hn hn' fun h' g sb => ?_) (by rintro _ _ ⟨f, rfl, r⟩; exact r)
  exact ⟨rfl, h', tk, rfl, heap_push_same sb, by rw [sb.1]; show _ ≤ (h.push _).objs.size; rw [Heap.size_push]; exact Nat.le_succ _, fun H n => ⟨_, rfl, n _ _ (Nat.le_refl _) g⟩⟩
end
end Mine
end QBa

section QBaB
open PySem PySem.W PySem.Calls PyProof.Rows
set_option linter.unusedVariables false
set_option maxRecDepth 100000
namespace Mine
open Builtin
theorem slot_ba_get : Slot "bytearray" "__getitem__" "bytearray.__getitem__" := Slot.of (owner := "bytearray") (n := "__getitem__") (by rw [typeLookup_type, builtinLookup_eq_fast]; kernel_rfl) (by decide +kernel) (by decide +kernel) (by decide +kernel) (Or.inl (by decide +kernel)) (by rw [isSubtype_type]; kernel_rfl)
theorem slot_ba_set : Slot "bytearray" "__setitem__" "bytearray.__setitem__" := Slot.of (owner := "bytearray") (n := "__setitem__") (by rw [typeLookup_type, builtinLookup_eq_fast]; kernel_rfl) (by decide +kernel) (by decide +kernel) (by decide +kernel) (Or.inl (by decide +kernel)) (by rw [isSubtype_type]; kernel_rfl)
theorem slot_ba_len : Slot "bytearray" "__len__" "bytearray.__len__" := Slot.of (owner := "bytearray") (n := "__len__") (by rw [typeLookup_type, builtinLookup_eq_fast]; kernel_rfl) (by decide +kernel) (by decide +kernel) (by decide +kernel) (Or.inl (by decide +kernel)) (by rw [isSubtype_type]; kernel_rfl)
theorem slot_ba_iter : Slot "bytearray" "__iter__" "bytearray.__iter__" := Slot.of (owner := "bytearray") (n := "__iter__") (by rw [typeLookup_type, builtinLookup_eq_fast]; kernel_rfl) (by decide +kernel) (by decide +kernel) (by decide +kernel) (Or.inl (by decide +kernel)) (by rw [isSubtype_type]; kernel_rfl)
theorem slot_ba_find : Slot "bytearray" "find" "bytearray.find" := Slot.of (owner := "bytearray") (n := "find") (by rw [typeLookup_type, builtinLookup_eq_fast]; kernel_rfl) (by decide +kernel) (by decide +kernel) (by decide +kernel) (Or.inr (by decide +kernel)) (by rw [isSubtype_type]; kernel_rfl)
theorem slot_bai_next : Slot "bytearray_iterator" "__next__" "bytearray_iterator.__next__" := Slot.of (owner := "bytearray_iterator") (n := "__next__") (by rw [typeLookup_type, builtinLookup_eq_fast]; kernel_rfl) (by decide +kernel) (by decide +kernel) (by decide +kernel) (Or.inl (by decide +kernel)) (by rw [isSubtype_type]; kernel_rfl)
theorem slot_bai_self : Slot "bytearray_iterator" "__iter__" "bytearray_iterator.__iter__" := Slot.of (owner := "bytearray_iterator") (n := "__iter__") (by rw [typeLookup_type, builtinLookup_eq_fast]; kernel_rfl) (by decide +kernel) (by decide +kernel) (by decide +kernel) (Or.inl (by decide +kernel)) (by rw [isSubtype_type]; kernel_rfl)
theorem entry_ba_get : entryFor table "bytearray.__getitem__" = some «bytearray.__getitem__» := entryFor_of_tree (by kernel_rfl)
theorem entry_ba_set : entryFor table "bytearray.__setitem__" = some «bytearray.__setitem__» := entryFor_of_tree (by kernel_rfl)
theorem entry_ba_len : entryFor table "bytearray.__len__" = some «bytearray.__len__» := entryFor_of_tree (by kernel_rfl)
theorem entry_ba_iter : entryFor table "bytearray.__iter__" = some «bytearray.__iter__» := entryFor_of_tree (by kernel_rfl)
theorem entry_ba_find : entryFor table "bytearray.find" = some «bytearray.find» := entryFor_of_tree (by kernel_rfl)
theorem entry_bai_next : entryFor table "bytearray_iterator.__next__" = some «bytearray_iterator.__next__» := entryFor_of_tree (by kernel_rfl)
theorem entry_bai_self : entryFor table "bytearray_iterator.__iter__" = some «dict_keyiterator.__iter__» := entryFor_alias (id' := "dict_keyiterator.__iter__") (by kernel_rfl) (by first | rfl | decide +kernel) (by decide +kernel) (by kernel_rfl)
theorem args_ba_get (a b : Value) : argsOk "bytearray.__getitem__" ⟨[a, b], []⟩ := by unfold argsOk; kernel_rfl
theorem args_ba_set (a b c : Value) : argsOk "bytearray.__setitem__" ⟨[a, b, c], []⟩ := by unfold argsOk; kernel_rfl
theorem args_ba_len (a : Value) : argsOk "bytearray.__len__" ⟨[a], []⟩ := by unfold argsOk; kernel_rfl
theorem args_ba_iter (a : Value) : argsOk "bytearray.__iter__" ⟨[a], []⟩ := by unfold argsOk; kernel_rfl
theorem args_ba_find1 (a b : Value) : argsOk "bytearray.find" ⟨[a, b], []⟩ := by unfold argsOk; kernel_rfl
theorem args_ba_find2 (a b c : Value) : argsOk "bytearray.find" ⟨[a, b, c], []⟩ := by unfold argsOk; kernel_rfl
theorem args_bai_next (a : Value) : argsOk "bytearray_iterator.__next__" ⟨[a], []⟩ := by unfold argsOk; kernel_rfl
theorem args_bai_self (a : Value) : argsOk "bytearray_iterator.__iter__" ⟨[a], []⟩ := by unfold argsOk; kernel_rfl
theorem buf_ba : typeLookup (.type "bytearray") "__buffer__" = pure (some (.builtin "bytearray.__buffer__")) := by rw [typeLookup_type, builtinLookup_eq_fast]; kernel_rfl

section
variable {prog : Program} {w : World} {A : Around} {s : Shared} {E : Value → Shared → Prop} {a : Addr} {b : Array UInt8}
theorem fits_small {k : Int} (h0 : 0 ≤ k) (h1 : k ≤ 1000) : Bytes.fitsIndex k = true := by unfold Bytes.fitsIndex; simp; omega
theorem wp_subscript_int {k : Int} {t : Tok} {Q : Option Int → Shared → Prop} (h0 : 0 ≤ k) (h1 : k ≤ 1000) (h : Q (some k) s) : wpAny (model prog w) A (Bytes.subscript? (.int k t)) Q E s := by
  unfold Bytes.subscript?
  refine wpAny_bind (wpAny_specialOf (T := "int") (typeIs_int _ _ _) F.slot_int_index.lookup ?_)
  have hx : asIndex (.int k t) = pure k := rfl
  simp only [Option.isNone_some, Bool.false_eq_true, if_false, hx, pure_bind, fits_small h0 h1, Bool.not_true]
  exact wpAny_pure h
theorem seqIndex_in {k : Int} {n : Nat} (h0 : 0 ≤ k) (h1 : k < n) : seqIndex? k n = some k.toNat := by
  unfold seqIndex?
  simp [show ¬ k < 0 by omega, h0, h1]
theorem wp_ba_get {k : Int} {t : Tok} {x : UInt8} {Q : Value → Shared → Prop} (e : s.heap.get? a = some (ba b)) (h0 : 0 ≤ k) (h1 : k ≤ 1000) (hx : b[k.toNat]? = some x) (h : Q (.int x.toNat s.toks) { s with toks := s.toks + 1 }) :
    wpAny (model prog w) A (getItem (.ref a) (.int k t)) Q E s := by
  have hk : k < b.size := by have := (Array.getElem?_eq_some_iff.mp hx).1; omega
  refine wpAny_getItem_slot (typ_ba e) (by decide) slot_ba_get (wpAny_call_entry slot_ba_get (typ_ba e) entry_ba_get ?_ (args_ba_get _ _))
  show wpAny _ _ (Bytes.subscript? (.int k t) >>= _) _ _ s
  refine wpAny_bind (wp_subscript_int h0 h1 ?_)
  refine wpAny_bind (wp_payload e ?_)
  rw [seqIndex_in h0 hk]
  simp only [Option.bind_some, hx]
  exact wpAny_bind (wpAny_mkInt (wpAny_pure ⟨_, rfl, h⟩))
theorem wp_ba_set {k x : Int} {t u : Tok} {Q : Unit → Shared → Prop} (e : s.heap.get? a = some (ba b)) (h0 : 0 ≤ k) (h1 : k < b.size) (hz : b.size ≤ 1000) (hx0 : 0 ≤ x) (hx1 : x < 256)
    (h : ∀ h', h'.get? a = some (ba (b.setIfInBounds k.toNat x.toNat.toUInt8)) → Heap.SameBut a s.heap h' → Q () { s with heap := h' }) : wpAny (model prog w) A (setItem (.ref a) (.int k t) (.int x u)) Q E s := by
  unfold setItem
  try with_reducible refine wpAny_holding ?_
  refine wpAny_bind (wpAny_sequenceKey (typ_ba e) (by decide) ?_)
  refine wpAny_bind (wpAny_callSpecial?_slot (name := Str.ofString "__setitem__") (typ_ba e) slot_ba_set (wpAny_call_entry slot_ba_set (typ_ba e) entry_ba_set ?_ (args_ba_set _ _ _)))
  show wpAny _ _ (Bytes.subscript? (.int k t) >>= _) _ _ s
  refine wpAny_bind (wp_subscript_int h0 (by omega) ?_)
  have hbv : Bytes.byteValue (.int x u) = pure x.toNat.toUInt8 := by
    unfold Bytes.byteValue
    have hx : asIndex (.int x u) = pure x := rfl
    have hc : (decide (x < 0) || decide (x ≥ 256)) = false := by simp; omega
    simp only [hx, pure_bind, hc, Bool.false_eq_true, if_false]
  refine wpAny_bind (wpAny_of_eq hbv ?_)
  refine wpAny_bind (wp_payload e ?_)
  rw [seqIndex_in h0 h1]
  refine wpAny_bind (wp_baWrite e (by rw [sizeLine_eq]; simp; omega) ?_)
  exact wpAny_pure ⟨_, rfl, wpAny_pure (h _ (ba_upd e) (Heap.SameBut.update ..))⟩
theorem wp_buffer {id : String} {fl : Bool} {Q : Option (Array UInt8) → Shared → Prop} (e : s.heap.get? a = some (ba b)) (h : Q (some b) s) : wpAny (model prog w) A (Bytes.buffer? id (.ref a) fl) Q E s := by
  unfold Bytes.buffer?
  refine wpAny_bind (wpAny_specialOf (typ_ba e) buf_ba ?_)
  refine wpAny_bind (wp_slotOwn e buf_ba (by decide +kernel) (by decide +kernel) ?_)
  simp only [Bool.not_true, Bool.false_eq_true, if_false]
  refine wpAny_bind (wpAny_specialOf (typ_ba e) buf_ba ?_)
  refine wpAny_bind (wp_ownRelease e ?_)
  simp only [Bool.false_eq_true, if_false]
  exact wpAny_bind (wp_payload e (wpAny_pure h))
/-- what seq.find(sub, lo) answers -/
def findAt (b sub : Array UInt8) (lo : Nat) : Int :=
  match (if (b.size : Int) - lo < sub.size then none else Bytes.find? b sub lo b.size) with
  | some i => (i : Int)
  | none => -1
theorem bound_int {k : Int} {t : Tok} {Q : Option Int → Shared → Prop} (h : Q (some k) s) : wpAny (model prog w) A (Bytes.bound? (some (.int k t))) Q E s := by
  unfold Bytes.bound?
  refine wpAny_bind (wpAny_specialOf (T := "int") (typeIs_int _ _ _) F.slot_int_index.lookup ?_)
  have hx : asIndex (.int k t) = pure k := rfl
  simp only [Option.isNone_some, Bool.false_eq_true, if_false, hx, pure_bind]
  exact wpAny_pure h
theorem search_go {c : Addr} {sub : Array UInt8} {rest : List Value} {lo : Nat} {st : Option Int} {Q : Value → Shared → Prop} (e : s.heap.get? a = some (ba b)) (ec : s.heap.get? c = some (ba sub))
    (hs : selfAndSome (toString Bytes.Kind.bytearray.name ++ toString "." ++ toString "find") "find" 1 3 ⟨.ref a :: .ref c :: rest, []⟩ = pure (.ref a, .ref c :: rest))
    (hst : ∀ (Q : Option Int → Shared → Prop), Q st s → wpAny (model prog w) A (Bytes.bound? (Value.ref c :: rest)[1]?) Q E s) (hsp : (Value.ref c :: rest)[2]? = none) (hlo : st.getD 0 = (lo : Int)) (h : Q (.int (findAt b sub lo) s.toks) { s with toks := s.toks + 1 }) :
    wpAny (model prog w) A («bytearray.find» ⟨.ref a :: .ref c :: rest, []⟩) (fun fin s' => ∃ v, fin = Fin.done (Flow.ret v) ∧ Q v s') E s := by
  unfold «bytearray.find» Bytes.searchM
  refine wpAny_bind ?_
  unfold Bytes.searchArgs
  refine wpAny_bind (wpAny_of_eq hs ?_)
  refine wpAny_bind (hst _ ?_)
  rw [hsp]
  refine wpAny_bind (wpAny_pure ?_)
  refine wpAny_bind (wp_buffer ec ?_)
  refine wpAny_bind (wpAny_pure (wpAny_bind (wp_payload e ?_)))
  have hw : Bytes.window b.size st none = ((lo : Int), (b.size : Int)) := by
    unfold Bytes.window
    simp [hlo]
    omega
  rw [hw]
  refine wpAny_pure ?_
  dsimp only
  unfold findAt at h
  by_cases hc : (b.size : Int) - lo < sub.size
  · rw [if_pos hc] at h ⊢
    exact wpAny_bind (wpAny_rule (wpAny_bind (wpAny_mkInt (wpAny_pure ⟨_, rfl, h⟩))))
  · rw [if_neg hc] at h ⊢
    simp only [Option.bind_some, Int.toNat_natCast, Bool.false_eq_true, if_false]
    cases hf : Bytes.find? b sub lo b.size with
    | none => rw [hf] at h; exact wpAny_bind (wpAny_rule (wpAny_bind (wpAny_mkInt (wpAny_pure ⟨_, rfl, h⟩))))
    | some i => rw [hf] at h; exact wpAny_bind (wpAny_mkInt (wpAny_pure ⟨_, rfl, h⟩))
theorem wp_find2 {c : Addr} {sub : Array UInt8} {k : Nat} {t : Tok} {Q : Value → Shared → Prop} (e : s.heap.get? a = some (ba b)) (ec : s.heap.get? c = some (ba sub)) (h : Q (.int (findAt b sub k) s.toks) { s with toks := s.toks + 1 }) :
    wpAny (model prog w) A (call (.builtin "bytearray.find") [.ref a, .ref c, .int k t]) Q E s :=
  wpAny_call_entry slot_ba_find (typ_ba e) entry_ba_find (search_go (st := some (k : Int)) e ec rfl (fun Q q => bound_int q) rfl rfl h) (args_ba_find2 _ _ _)
theorem wp_find1 {c : Addr} {sub : Array UInt8} {Q : Value → Shared → Prop} (e : s.heap.get? a = some (ba b)) (ec : s.heap.get? c = some (ba sub)) (h : Q (.int (findAt b sub 0) s.toks) { s with toks := s.toks + 1 }) :
    wpAny (model prog w) A (call (.builtin "bytearray.find") [.ref a, .ref c]) Q E s :=
  wpAny_call_entry slot_ba_find (typ_ba e) entry_ba_find (search_go (st := none) e ec rfl (fun Q q => wpAny_pure q) rfl rfl h) (args_ba_find1 _ _)
open KBy in
theorem wp_ba_slice {p : Addr} {l u : Value} {lo hi : Option Int} {Q : Value → Shared → Prop} (e : s.heap.get? a = some (ba b)) (hp : s.heap.IsSliceOf p l u .none) (hl : IsPart l lo) (hu : IsPart u hi) (hz : (picked b lo hi).size ≤ 1000000)
    (h : Q (.ref s.heap.objs.size) { s with heap := s.heap.push (ba (picked b lo hi)) }) : wpAny (model prog w) A (getItem (.ref a) (.ref p)) Q E s := by
  refine wpAny_getItem_slot (typ_ba e) (by decide) slot_ba_get (wpAny_call_entry slot_ba_get (typ_ba e) entry_ba_get ?_ (args_ba_get _ _))
  obtain ⟨o, ho, hc, hd⟩ := hp
  have hT : s.TypeIs (.ref p) "slice" := ⟨o, ho, hc⟩
  show wpAny _ _ (Bytes.subscript? (.ref p) >>= fun r => _) _ _ s
  refine wpAny_bind ?_
  unfold Bytes.subscript?
  refine wpAny_bind (wpAny_specialOf hT slice_no_index (wpAny_pure ?_))
  refine wpAny_bind (wpAny_typeOf hT ?_)
  show wpAny _ _ (Bytes.sliceParts (.ref p) >>= fun r => _) _ _ s
  refine wpAny_bind ?_
  unfold Bytes.sliceParts
  refine wpAny_bind (wpAny_field (x := .none) ho hd rfl ?_)
  kby_none
  refine wpAny_ite (ite_no (show ¬ ((Value.none == rawInt 0) = true) from Bool.false_ne_true) ?_)
  refine wpAny_bind (wpAny_field (x := l) ho hd rfl ?_)
  have go : wpAny (model prog w) A.in1 (sliceIndices (rawPart lo) (rawPart hi) (rawPart none) b.size) (fun r s' => r = sliceBounds lo hi none b.size ∧ s' = s) (fun _ _ => False) s :=
    wpAny_of_eq (sliceIndices_raw lo hi none b.size (fun e => nomatch e)) ⟨rfl, rfl⟩
  cases hl <;> cases hu <;> (first
    | (kby_none; (refine wpAny_bind (wpAny_field (x := .none) ho hd rfl ?_)); kby_none)
    | (kby_none; (refine wpAny_bind (wpAny_field (x := .int _ _) ho hd rfl ?_)); kby_int)
    | (kby_int; (refine wpAny_bind (wpAny_field (x := .none) ho hd rfl ?_)); kby_none)
    | (kby_int; (refine wpAny_bind (wpAny_field (x := .int _ _) ho hd rfl ?_)); kby_int)) <;> refine wpAny_pure ?_
  all_goals
    refine wpAny_bind (wp_payload e ?_)
    refine wpAny_bind (wpAny_mono go (fun r s' hr => ?_) fun _ _ e => e.elim)
    obtain ⟨hr1, hr2⟩ := hr
    subst hr1 hr2
    exact wpAny_bind (wpAny_newObj_type (wpAny_pure ⟨_, rfl, h⟩) (by show Array.size _ ≤ _; rw [sizeLine_eq]; exact Nat.le_trans hz (by omega)))
end
end Mine
end QBaB

section QBaC
open PySem PySem.W PySem.Calls PyProof.Rows
set_option linter.unusedVariables false
set_option maxRecDepth 100000
namespace Mine
open Builtin
def IsBaIter (h : Heap) (I a : Addr) (i : Nat) : Prop := ∃ o, h.get? I = some o ∧ o.cls = .type "bytearray_iterator" ∧ o.data = .fields #[.ref a, .int i 0]
theorem noBool_ba : typeLookup (.type "bytearray") "__bool__" = pure none := by rw [typeLookup_type, builtinLookup_eq_fast]; kernel_rfl
section
variable {prog : Program} {w : World} {A : Around} {s : Shared} {E : Value → Shared → Prop} {a : Addr} {b : Array UInt8}
theorem bai_typ {I : Addr} {i : Nat} (y : IsBaIter s.heap I a i) : s.TypeIs (.ref I) "bytearray_iterator" := let ⟨o, ho, hc, _⟩ := y; ⟨o, ho, hc⟩
theorem pyIter_ba {Q : Value → Shared → Prop} (e : s.heap.get? a = some (ba b)) (hQ : Q (.ref s.heap.objs.size) { s with heap := s.heap.push { cls := .type "bytearray_iterator", data := .fields #[.ref a, .int 0 0] } }) : wpAny (model prog w) A (pyIter (.ref a)) Q E s := by
  refine wpAny_pyIter_slot (typ_ba e) slot_ba_iter (wpAny_call_entry slot_ba_iter (typ_ba e) entry_ba_iter ?_ (args_ba_iter _))
  show wpAny _ _ (do ret (← newFields "bytearray_iterator" [.ref a, rawInt 0])) _ _ s
  exact wpAny_bind (wpAny_newObj_type (wpAny_pure ⟨_, rfl, "bytearray_iterator", _, ⟨_, Heap.get?_push_size _ rfl, rfl⟩, slot_bai_next.lookup, hQ⟩))
theorem pyIter_baSelf {I : Addr} {i : Nat} {Q : Value → Shared → Prop} (hit : IsBaIter s.heap I a i) (h : Q (.ref I) s) : wpAny (model prog w) A (pyIter (.ref I)) Q E s := by
  refine wpAny_pyIter_slot (bai_typ hit) slot_bai_self (wpAny_call_entry slot_bai_self (bai_typ hit) entry_bai_self ?_ (args_bai_self _))
  show wpAny _ _ (ret (.ref I)) _ _ s
  exact wpAny_pure ⟨_, rfl, "bytearray_iterator", _, bai_typ hit, slot_bai_next.lookup, h⟩
theorem bai_item {I : Addr} {i : Nat} {c : UInt8} {Q : Option Value → Shared → Prop} (hit : IsBaIter s.heap I a i) (e : s.heap.get? a = some (ba b)) (hx : b[i]? = some c)
    (hQ : ∀ h', IsBaIter h' I a (i + 1) → Heap.SameBut I s.heap h' → Q (some (.int (c.toNat : Int) s.toks)) { s with heap := h', toks := s.toks + 1 }) : wpAny (model prog w) A (pyNext (.ref I)) Q E s := by
  obtain ⟨o, ho, hc, hd⟩ := id hit
  unfold pyNext
  refine wpAny_bind (wpAny_attempt (wpAny_callSpecial?_slot (name := PySem.Str.ofString "__next__") (bai_typ hit) slot_bai_next
    (wpAny_call_entry slot_bai_next (bai_typ hit) entry_bai_next ?_ (args_bai_next _))))
  show wpAny _ _ (field (.ref I) 0 >>= _) _ _ s
  refine wpAny_bind (wpAny_field ho hd (x := .ref a) rfl ?_)
  refine wpAny_bind (wpAny_load e ?_)
  show wpAny _ _ (field (.ref I) 1 >>= _) _ _ s
  refine wpAny_bind (wpAny_field ho hd (x := .int i 0) rfl ?_)
  simp only [Int.toNat_natCast, hx]
  refine wpAny_bind (wpAny_setField ho hd (by simp) (wpAny_bind (wpAny_mkInt (wpAny_pure ⟨_, rfl, wpAny_pure (hQ _ ?_ (Heap.SameBut.update ..))⟩))))
  exact ⟨_, Heap.get?_update_self _ ho (Obj.isFreed_of_fields (Obj.data_mapFields hd _)), (Obj.cls_mapFields ..).trans hc, by
    rw [Obj.data_mapFields hd]; simp [rawInt]⟩
theorem bai_end {I : Addr} {i : Nat} {Q : Option Value → Shared → Prop} (hh : A.handled = none) (hit : IsBaIter s.heap I a i) (e : s.heap.get? a = some (ba b)) (hx : b[i]? = none)
    (hQ : ∀ h', Heap.ExtBut I s.heap h' → Q none { s with heap := h' }) : wpAny (model prog w) A (pyNext (.ref I)) Q E s := by
  obtain ⟨o, ho, hc, hd⟩ := id hit
  unfold pyNext
  refine wpAny_bind (wpAny_attempt (wpAny_callSpecial?_slot (name := PySem.Str.ofString "__next__") (bai_typ hit) slot_bai_next
    (wpAny_call_entry slot_bai_next (bai_typ hit) entry_bai_next ?_ (args_bai_next _))))
  show wpAny _ _ (field (.ref I) 0 >>= _) _ _ s
  refine wpAny_bind (wpAny_field ho hd (x := .ref a) rfl ?_)
  refine wpAny_bind (wpAny_load e ?_)
  show wpAny _ _ (field (.ref I) 1 >>= _) _ _ s
  refine wpAny_bind (wpAny_field ho hd (x := .int i 0) rfl ?_)
  simp only [Int.toNat_natCast, hx]
  refine wpAny_bind (wpAny_rule (wpAny_bind (wpAny_setField ho hd (by simp) ?_)))
  refine wpAny_bind (wpAny_letGo ?_)
  show wpAny _ _ (newExc (.type "StopIteration") [] >>= _) _ _ _
  refine wpAny_bind ?_
  simp only [newExc, newTuple]
  refine wpAny_bind (wpAny_newObj_type ?_ (by size_fits))
  refine wpAny_bind (m := firstArgMember _ _) (wpAny_of_eq (a := Value.none) (by first | rfl | (simp only [firstArgMember]; rfl)) ?_)
  refine wpAny_newObj_type ?_ (by size_fits)
  simp only [raiseNew]
  refine wpAny_bind (wpAny_handled ?_)
  rw [show A.in1.handled = none from hh]
  refine wpAny_bind (wpAny_pure (wpAny_throw ?_))
  refine wpAny_bind (wpAny_isInstance (T := "StopIteration") (b := true) ⟨_, Heap.get?_push_size _ rfl, rfl⟩ isSubtype_stop ?_)
  exact wpAny_pure (hQ _ (((Heap.SameBut.update ..).extBut.push _).push _))
theorem Walks.ba (hh : A.handled = none) (I a : Addr) (hne : a ≠ I) (b : Array UInt8) :
    Walks prog w A I [I, a] [I] b.size (fun i v => ∃ c u, b[i]? = some c ∧ v = .int (c.toNat : Int) u) (fun i h => IsBaIter h I a i ∧ h.get? a = some (ba b)) where
  sub := fun b hb => by simp at hb; simp [hb]
  frame := fun _ _ _ st hk => ⟨let ⟨o, ho, r⟩ := st.1; ⟨o, hk I (by simp) o ho, r⟩, hk a (by simp) _ st.2⟩
  item := fun i s Q E hi st hQ => by
    refine bai_item st.1 st.2 (c := b[i]) (by simp [hi]) fun h' hit' hs' => ?_
    exact hQ _ h' (s.toks + 1) ⟨_, _, by simp [hi], rfl⟩ ⟨hit', hs'.extBut _ _ hne st.2⟩ fun b o hb e => hs'.extBut b o (fun h => hb (by simp [h])) e
  done := fun s Q E st hQ => bai_end hh st.1 st.2 (by simp) fun h' he' => hQ h' s.toks fun b o hb e => he' b o (fun h => hb (by simp [h])) e
  self := fun _ _ _ _ st hQ => pyIter_baSelf st.1 hQ
theorem wp_len_ba {Q : Value → Shared → Prop} (e : s.heap.get? a = some (ba b)) (h : Q (.int b.size s.toks) { s with toks := s.toks + 1 }) : wpAny (model prog w) A (call (.builtin "bytearray.__len__") [.ref a]) Q E s := by
  refine wpAny_call_entry slot_ba_len (typ_ba e) entry_ba_len ?_ (args_ba_len _)
  show wpAny _ _ (do retInt (← Bytes.payload (.ref a)).size) _ _ s
  exact wpAny_bind (wp_payload e (wpAny_bind (wpAny_mkInt (wpAny_pure ⟨_, rfl, h⟩))))
theorem call_len_ba {Q : Value → Shared → Prop} (e : s.heap.get? a = some (ba b)) (hz : b.size ≤ 1000000) (h : Q (.int b.size (s.toks + 1)) { s with toks := s.toks + 1 + 1 }) : wpAny (model prog w) A (call (.builtin "len") [.ref a]) Q E s :=
  PyProof.Rows.call_len_slot (n := b.size) (typ_ba e) slot_ba_len (fun Q' hq => wp_len_ba e hq) (by omega) (by omega) h
theorem len_body_ba {Q : Value → Shared → Prop} (e : s.heap.get? a = some (ba b)) (hz : b.size ≤ 1000000)
    (h : Q (.int b.size (s.toks + 1)) { s with toks := s.toks + 1 + 1 }) : wpAny (model prog w) A (Builtin.«len» ⟨[.ref a], []⟩) (fun fin s' => ∃ r, fin = .done (.ret r) ∧ Q r s') E s := by
  unfold Builtin.«len»
  refine wpAny_bind (m := oneArg "len" _) (wpAny_pure ?_)
  refine wpAny_bind (m := callSpecial? (.ref a) (Str.ofString "__len__")) (wpAny_callSpecial?_slot (name := Str.ofString "__len__") (typ_ba e) slot_ba_len (wp_len_ba e ?_))
  refine wpAny_bind (wpAny_holding (wpAny_pure ?_))
  refine wpAny_bind (wpAny_letGo ?_)
  show wpAny _ _ (if ((b.size : Nat) : Int) < 0 then _ else _) _ _ _
  rw [if_neg (by omega)]
  show wpAny _ _ (if ((b.size : Nat) : Int) ≥ 2 ^ 63 then _ else _) _ _ _
  rw [if_neg (by omega)]
  exact wpAny_bind (wpAny_mkInt (wpAny_pure ⟨_, rfl, h⟩))
theorem truthy_ba {Q : Bool → Shared → Prop} (e : s.heap.get? a = some (ba b)) (hz : b.size ≤ 1000000) (hp : 0 < b.size) (h : Q true { s with toks := s.toks + 1 + 1 }) : wpAny (model prog w) A (truthy (.ref a)) Q E s := by
  have hne : ((b.size : Int) != 0) = true := bne_iff_ne.mpr (by omega)
  have key : wpAny (model prog w) A (runValue (.builtin "len" ⟨[.ref a], []⟩)) (fun r s' => r = .int b.size (s.toks + 1) ∧ Q true s') E s := by
    refine wpAny_runValue (codeAny_builtin entry_len ?_)
    rw [Around.under_plainId plain_len _]
    exact wpAny_mono (len_body_ba (Q := fun r s' => r = .int b.size (s.toks + 1) ∧ Q true s') e hz ⟨rfl, h⟩)
      (fun fin s' h' => by obtain ⟨r, rfl, hq⟩ := h'; exact hq) fun _ _ e => e
  unfold truthy
  first
    | refine wpAny_bind (wpAny_callSpecial?_none (name := Str.ofString "__bool__") (typ_ba e) noBool_ba ?_)
    | refine wpAny_bind (wpAny_pure (wpAny_bind (wpAny_callSpecial?_none (name := Str.ofString "__bool__") (typ_ba e) noBool_ba ?_)))
  first
    | refine wpAny_bind (wpAny_specialOf (name := Str.ofString "__len__") (typ_ba e) slot_ba_len.lookup ?_)
    | refine wpAny_bind (wpAny_pure (wpAny_bind (wpAny_specialOf (name := Str.ofString "__len__") (typ_ba e) slot_ba_len.lookup ?_)))
  first
    | exact wpAny_bind (wpAny_mono key (fun r s' h' => by obtain ⟨rfl, hq⟩ := h'; exact wpAny_pure (hne ▸ hq)) fun _ _ e => e)
    | exact wpAny_bind (wpAny_pure (wpAny_bind (wpAny_mono key (fun r s' h' => by obtain ⟨rfl, hq⟩ := h'; exact wpAny_pure (hne ▸ hq)) fun _ _ e => e)))
theorem any_ba {Q : Value → Shared → Prop} (hh : A.handled = none) (e : s.heap.get? a = some (ba b)) (h : ∀ h' tk, (∀ c o, s.heap.get? c = some o → h'.get? c = some o) → Q (.bool (b.toList.any (· != 0))) { s with heap := h', toks := tk }) :
    wpAny (model prog w) A (call (.builtin "any") [.ref a]) Q E s := by
  refine call_any_walk (pyIter_ba e ?_)
  have hne : a ≠ s.heap.objs.size := Nat.ne_of_lt (Heap.lt_size e)
  refine ⟨s.heap.objs.size, _, _, _, _, _, fun i => b.getD i 0 != 0, rfl, Walks.ba (A := A.in1) hh _ a hne b, ⟨⟨_, Heap.get?_push_size _ rfl, rfl, rfl⟩, Heap.get?_push_of_some _ e⟩, ?_, ?_⟩
  · rintro i v s' Q' E' ⟨c, u, hc, rfl⟩ hq
    have e2 : ((c.toNat : Int) != 0) = (b.getD i 0 != 0) := by
      have : b.getD i 0 = c := by simp [Array.getD_eq_getD_getElem?, hc]
      rw [this]
      by_cases z : c = 0
      · subst z; rfl
      · have : c.toNat ≠ 0 := fun q => z (UInt8.toNat_inj.mp q)
        rw [bne_iff_ne.mpr z, bne_iff_ne.mpr (by omega)]
    refine PyProof.Rows.truthy_int ?_
    rw [e2]; exact hq
  · intro h' tk hk
    have e3 : (List.range b.size).any (fun i => b.getD i 0 != 0) = b.toList.any (· != 0) := by
      rw [Bool.eq_iff_iff, List.any_eq_true, List.any_eq_true]
      constructor
      · rintro ⟨i, hi, hb⟩
        have hi' : i < b.size := List.mem_range.mp hi
        refine ⟨b[i], Array.mem_toList_iff.mpr (Array.getElem_mem hi'), ?_⟩
        simpa [Array.getD_eq_getD_getElem?, hi'] using hb
      · rintro ⟨x, hx, hb⟩
        obtain ⟨i, hi, rfl⟩ := Array.mem_iff_getElem.mp (Array.mem_toList_iff.mp hx)
        exact ⟨i, List.mem_range.mpr hi, by simpa [Array.getD_eq_getD_getElem?, hi] using hb⟩
    rw [e3]
    refine h h' tk fun c o ec => hk c o (fun m => ?_) (Heap.get?_push_of_some _ ec)
    exact absurd (Heap.lt_size ec) (by rw [List.mem_singleton.mp m]; exact Nat.lt_irrefl _)
theorem hint_ba {Q : Bool → Shared → Prop} (e : s.heap.get? a = some (ba b)) (h : ∀ r tk, Q r { s with toks := tk }) : wpAny (model prog w) A (Builtin.List.listLengthHint (.ref a)) Q E s := by
  unfold Builtin.List.listLengthHint
  refine wpAny_bind (wpAny_specialOf (typ_ba e) slot_ba_len.lookup ?_)
  generalize hid : ("bytearray.__len__" : String) = id0
  wp_delta
  rw [show splitId id0 = some ("bytearray", "__len__") from by subst hid; decide +kernel]
  subst hid
  refine wpAny_bind (wpAny_isInstance (T := "bytearray") (b := true) (typ_ba e) called_ba.sub ?_)
  refine wpAny_ite_split (fun hab => absurd hab (by decide)) (fun _ => ?_)
  refine wpAny_ite_split (fun _ => ?_) (fun hab => absurd (by decide +kernel) hab)
  exact wpAny_bind (wpAny_typeOf (typ_ba e) (wpAny_pure (h _ s.toks)))
theorem extend_ba {R : Result → Shared → Prop} (hh : A.handled = none) (e : s.heap.get? a = some (ba b)) (hlen : b.size ≤ 1000000) (S : Addr) (res : Value) (c₀ : Nat) (hS : s.heap.get? S = some { cls := .type "list", data := .seq #[] c₀ })
    (hR : ∀ h' tk acc' c', (∀ b o, b ≠ S → s.heap.get? b = some o → h'.get? b = some o) → h'.get? S = some { cls := .type "list", dict := none, data := .seq acc' c', slots := #[] } →
      ItemsOf (fun i v => ∃ c u, b[i]? = some c ∧ v = .int (c.toNat : Int) u) acc' b.size → R (.ok (.ret res)) { s with heap := h', toks := tk }) :
    wpAny (model prog w) A.in1 (Builtin.List.listExtendWith (.ref S) (.ref a) res)
      (fun fin s' => match fin with | .done f => R (.ok f) s' | .again c' => c'.quiet = true ∧ codeAny (model prog w) A c' R s') (fun e s' => R (.error e) s') s := by
  have hSa : S ≠ a := fun q => by rw [q, e] at hS; simp [ba] at hS
  have hSlt : S < s.heap.objs.size := Heap.lt_size hS
  have hSI : S ≠ s.heap.objs.size := Nat.ne_of_lt hSlt
  have haI : a ≠ s.heap.objs.size := Nat.ne_of_lt (Heap.lt_size e)
  have hSf : S ∉ [s.heap.objs.size, a] := fun hm => by
    rcases List.mem_cons.mp hm with q | hm
    · exact hSI q
    · exact hSa (List.mem_singleton.mp hm)
  have W := (Walks.ba (prog := prog) (w := w) (A := A.in1) hh s.heap.objs.size a haI b).toS
  have key : ∀ (h : Heap) (c₁ tk : Nat), IsBaIter h s.heap.objs.size a 0 ∧ h.get? a = some (ba b) → (∀ b o, b ≠ S → s.heap.get? b = some o → h.get? b = some o) →
      h.get? S = some { cls := .type "list", data := .seq #[] c₁ } → codeAny (model prog w) A (.builtin "list.extend.loop" ⟨[.ref S, .ref s.heap.objs.size, res], []⟩) R { s with heap := h, toks := tk } := by
    intro h c₁ tk hit hk hS₁
    refine codeAny_extend_loopS W (by rw [sizeLine_eq]; omega) S hSf res b.size 0 _ #[] c₁ rfl (Nat.zero_le _) hit hS₁ (ItemsOf.nil _) fun s' acc' c' hm hS' hacc => ?_
    rw [Moved.eq_with hm]
    refine hR s'.heap s'.toks acc' c' (fun b o hb e => hm.heap b o (fun hmem => ?_) (hk b o hb e)) hS' hacc
    rcases List.mem_cons.mp hmem with e' | hmem
    · exact hb e'
    · exact absurd (Heap.lt_size e) (by rw [List.mem_singleton.mp hmem]; exact Nat.lt_irrefl _)
  unfold Builtin.List.listExtendWith
  refine wpAny_bind (wpAny_typeOf (typ_ba e) ?_)
  have h1 : Builtin.List.listSameRef (.ref S) (.ref a) = false := by simp [Builtin.List.listSameRef, hSa]
  have h2 : (Value.type "bytearray" == Value.type "list") = false := by decide
  have h3 : (Value.type "bytearray" == Value.type "tuple") = false := by decide
  simp only [h1, h2, h3, Bool.or_false, Bool.false_eq_true, if_false]
  refine wpAny_bind (pyIter_ba e ?_)
  refine wpAny_bind (wpAny_holding (hint_ba (Heap.get?_push_of_some _ e) fun r tk₁ => ?_))
  have hit₁ : IsBaIter (s.heap.push { cls := .type "bytearray_iterator", data := .fields #[.ref a, .int 0 0] }) s.heap.objs.size a 0 := ⟨_, Heap.get?_push_size _ rfl, rfl, rfl⟩
  have hS₁ := Heap.get?_push_of_some { cls := .type "bytearray_iterator", data := .fields #[.ref a, .int 0 0] } hS
  have e₁ := Heap.get?_push_of_some { cls := .type "bytearray_iterator", data := .fields #[.ref a, .int 0 0] } e
  refine wpAny_ite_split (fun _ => ?_) (fun _ => wpAny_pure ⟨plainId_quiet F.plain_extend_loop _, key _ c₀ _ ⟨hit₁, e₁⟩ (fun b o _ e => Heap.get?_push_of_some _ e) hS₁⟩)
  refine wpAny_bind (wpAny_rule ?_)
  refine wpAny_bind ?_
  show wpAny _ _ (updateSeq S (·.push .none) >>= fun _ => updateSeq S (·.pop)) _ _ _
  refine wpAny_bind (wpAny_updateSeq hS₁ rfl ?_)
  have hS₂ := Heap.get?_update_self (Obj.mapSeq (·.push Value.none)) hS₁ rfl
  refine wpAny_updateSeq (hz := by seq_fits) hS₂ rfl ?_
  have hS₃ := Heap.get?_update_self (Obj.mapSeq (·.pop)) hS₂ rfl
  refine wpAny_pure ⟨plainId_quiet F.plain_extend_loop _, key _ _ _ ⟨?_, ?_⟩ (fun b o hb e => ?_) hS₃⟩
  · exact ⟨_, (Heap.get?_update_other _ _ hSI).trans ((Heap.get?_update_other _ _ hSI).trans (Heap.get?_push_size _ rfl)), rfl, rfl⟩
  · exact (Heap.get?_update_other _ _ hSa).trans ((Heap.get?_update_other _ _ hSa).trans e₁)
  · exact (Heap.get?_update_other _ _ (Ne.symm hb)).trans ((Heap.get?_update_other _ _ (Ne.symm hb)).trans (Heap.get?_push_of_some _ e))
theorem list_init_ba {R : Result → Shared → Prop} (hh : A.handled = none) (e : s.heap.get? a = some (ba b)) (hlen : b.size ≤ 1000000) (S : Addr) (hS : s.heap.get? S = some { cls := .type "list", data := .seq #[] })
    (hR : ∀ h' tk acc' c', (∀ b o, b ≠ S → s.heap.get? b = some o → h'.get? b = some o) → h'.get? S = some { cls := .type "list", dict := none, data := .seq acc' c', slots := #[] } →
      ItemsOf (fun i v => ∃ c u, b[i]? = some c ∧ v = .int (c.toNat : Int) u) acc' b.size → R (.ok (.ret .none)) { s with heap := h', toks := tk }) :
    wpAny (model prog w) A.in1 (Builtin.«list.__init__» ⟨[.ref S, .ref a], []⟩)
      (fun fin s' => match fin with | .done f => R (.ok f) s' | .again c' => c'.quiet = true ∧ codeAny (model prog w) A c' R s') (fun e s' => R (.error e) s') s := by
  have hSa : S ≠ a := fun q => by rw [q, e] at hS; simp [ba] at hS
  show wpAny _ _ (do let old ← Builtin.List.listItems (.ref S); Builtin.List.listUpdate (.ref S) (fun _ => #[]); letGo old.toList.reverse; Builtin.List.listExtendWith (.ref S) (.ref a) .none) _ _ s
  refine wpAny_bind ?_
  unfold Builtin.List.listItems
  refine wpAny_bind (wpAny_seqItems hS rfl (wpAny_pure ?_))
  show wpAny _ _ (updateSeq S (fun _ => #[]) >>= fun _ => letGo (#[] : Array Value).toList.reverse >>= fun _ => Builtin.List.listExtendWith (.ref S) (.ref a) .none) _ _ s
  refine wpAny_bind (wpAny_updateSeq hS rfl ?_)
  have hS₂ := Heap.get?_update_self (Obj.mapSeq (fun _ => (#[] : Array Value))) hS rfl
  have oth : ∀ b o, b ≠ S → s.heap.get? b = some o → (s.heap.update S (Obj.mapSeq (fun _ => (#[] : Array Value)))).get? b = some o :=
    fun b o hb e => (Heap.get?_update_other _ _ (Ne.symm hb)).trans e
  refine wpAny_bind (wpAny_letGo ?_)
  refine extend_ba hh (oth a _ (Ne.symm hSa) e) hlen S .none _ hS₂ fun h' tk acc' c' hk hS' hacc => ?_
  exact hR h' tk acc' c' (fun b o hb e => hk b o hb (oth b o hb e)) hS' hacc
theorem call_list_ba {Q : Value → Shared → Prop} (hh : A.handled = none) (e : s.heap.get? a = some (ba b)) (hlen : b.size ≤ 1000000)
    (hQ : ∀ h' tk acc' c', (∀ b o, s.heap.get? b = some o → h'.get? b = some o) →
      h'.get? s.heap.objs.size = some { cls := .type "list", dict := none, data := .seq acc' c', slots := #[] } → ItemsOf (fun i v => ∃ c u, b[i]? = some c ∧ v = .int (c.toNat : Int) u) acc' b.size → Q (.ref s.heap.objs.size) { s with heap := h', toks := tk }) :
    wpAny (model prog w) A (call (.type "list") [.ref a]) Q E s := by
  refine callType_codes (Q₁ := fun obj s₁ => obj = .ref s.heap.objs.size ∧ s₁ = { s with heap := s.heap.push { cls := .type "list", data := .seq #[] } }) F.called_list (F.typeCall_list_1 _) F.entry_list_init
    (code_list_new _ ⟨rfl, rfl⟩) fun obj s₁ h₁ => ?_
  obtain ⟨rfl, rfl⟩ := h₁
  have hS : (s.heap.push { cls := .type "list", data := .seq #[] }).get? s.heap.objs.size = some { cls := .type "list", data := .seq #[] } := Heap.get?_push_size _ rfl
  refine ⟨⟨_, hS, rfl⟩, F.args_list_init_2 _ _, list_init_ba (A := A.in1) hh (Heap.get?_push_of_some _ e) hlen _ hS fun h' tk acc' c' hk hS' hacc => ?_⟩
  exact ⟨rfl, hQ h' tk acc' c' (fun b o e => hk b o (Nat.ne_of_lt (Heap.lt_size e)) (Heap.get?_push_of_some _ e)) hS' hacc⟩
end
end Mine
end QBaC

section QClos
open PySem PySem.W PySem.Calls PyProof.Rows
set_option linter.unusedVariables false
set_option maxRecDepth 100000
namespace Mine
section
variable {prog : Program} {w : World} {s₀ : Shared} {A : Around} {α β : Type} {c : Cx} {env : Env}
/-- a call of a function that has free names -/
theorem EvH.callX {h : Heap} {f : Addr} {fo : Obj} {name qual : Str} {params : Arguments} {body : List Stmt} {scope : Scope} {cl : List (Str × Addr)} {doc pm cdv ct : Value} {an : Option Addr} {args : List Value} {binds ρ : List (Str × Value)} {P : Value → Heap → Prop}
    (ho : h.get? f = some fo) (hd : fo.data = .func (fnX name qual params body scope cl .none .none doc pm an cdv ct)) (hc : h.CodeRec cdv qual) (lim : h.NoLimit) (hroom : A.depth < recursionLimit)
    (hbind : bindArgs (fnX name qual params body scope cl .none .none doc pm an cdv ct) ⟨args, []⟩ = Pure.pure binds)
    (hρ : ∀ x v, ρ.lookup x = some v → binds.reverse.lookup x = some v)
    (hcell : ∀ x ∈ scope.names, x.2 ≠ .cell) (hloc : ∀ x ∈ binds, scope.names.lookup x.1 = some .local)
    (hco : scope.isCoroutine = false) (hgen : scope.isGenerator = false) (hk : scope.kind = .function)
    (H : ∀ L, h.objs.size ≤ L → Ex prog w s₀ (A.deeper (envX qual scope L f cdv cl)) ⟨h, L, ρ, []⟩ (execs body (envX qual scope L f cdv cl)) (RetQ h P)) :
    EvH prog w s₀ A h (call (.ref f) args) P := fun tk p => by
  refine c_call (cc_call_function (fd := fnX name qual params body scope cl .none .none doc pm an cdv ct) (body := body) hroom ho hd hco hgen rfl hc ?_)
  rw [hbind]
  refine c_pure (toC (wpAny_newFunctionEnv hcell hloc (fun h₁ hns hsb => ?_) hk))
  have hk₁ : ∀ b ob, h.get? b = some ob → h₁.get? b = some ob := fun b ob e => hsb.extBut b ob (Nat.ne_of_lt (Heap.lt_size e)) (Heap.get?_push_of_some _ e)
  refine ⟨lim.keeps hk₁, cc_func ?_⟩
  have ok : Cx.Ok ⟨h, h.objs.size, ρ, []⟩ h₁ := ⟨hk₁, ⟨_, hns, hρ⟩, (fun _ hp => nomatch hp), by simp [Cx.adr], fun b hb => by
    have hb' : b = h.objs.size := by simpa [Cx.adr] using hb
    rw [hb']; exact Heap.get?_none_of_le (Nat.le_refl _)⟩
  show wpC (model prog w) (A.deeper (envX qual scope h.objs.size f cdv cl)) (execs body (envX qual scope h.objs.size f cdv cl)) _ (St s₀ h₁ (tk + binds.length))
  refine (H h.objs.size (Nat.le_refl _) h₁ ok).use (fun f h₂ tk₂ _ q => ?_) _ (Nat.lt_of_lt_of_le p (Nat.le_add_right _ _))
  obtain ⟨v, rfl, q⟩ := q
  exact ⟨v, rfl, h₂, tk₂, rfl, q⟩

/-- the k-th def lies at a, its code is cdv -/
def FnC (h : Heap) (a : Addr) (k : Nat) (name : Str) (cdv : Value) : Prop :=
  ∃ o doc pm an ct, h.get? a = some o ∧ o.data = .func (fnK k name doc pm an cdv ct) ∧ h.CodeRec cdv name
theorem FnC.keeps {h h' : Heap} {a : Addr} {k : Nat} {name : Str} {cdv : Value} (f : FnC h a k name cdv) (g : Kp h h') : FnC h' a k name cdv :=
  let ⟨o, doc, pm, an, ct, ho, hd, hc⟩ := f; ⟨o, doc, pm, an, ct, g _ _ ho, hd, hc.keeps g⟩
/-- a call of a function with cells that may change one old object -/
theorem Hp.callKB {h B : Heap} {a : Addr} {k : Nat} {name : Str} {cdv : Value} {args : List Value} {binds ρ : List (Str × Value)} {μ₀ : List (Addr × Obj)} {Q : Value → Heap → Prop} (F : FnC h a k name cdv) (lim : h.NoLimit) (hroom : A.depth < recursionLimit)
    (hB : Kp B h) (hμ : ∀ q ∈ μ₀, h.get? q.1 = some q.2 ∧ B.get? q.1 = Option.none) (hμn : (μ₀.map (·.1)).Nodup)
    (hbind : ∀ doc pm an cdv ct, bindArgs (fnK k name doc pm an cdv ct) ⟨args, []⟩ = Pure.pure binds)
    (hρ : ∀ L cd, SubM ρ (bindL (envX name (top k).2.2 L a cd (cellsFrom (L + 1) (top k).2.2.names [])).kindOf binds fun _ => Option.none))
    (hcm : ∀ L cd n, bindC (envX name (top k).2.2 L a cd (cellsFrom (L + 1) (top k).2.2.names [])).kindOf binds (fun _ => Option.none) n = Option.none)
    (hloc : ∀ x ∈ binds, (top k).2.2.names.lookup x.1 = some .local) (hnd : ((cellsFrom 0 (top k).2.2.names []).map (·.1)).Nodup)
    (hco : (top k).2.2.isCoroutine = false) (hgen : (top k).2.2.isGenerator = false) (hk : (top k).2.2.kind = .function)
    (H : ∀ L (g : Addr → Obj), h.objs.size ≤ L → (∀ p ∈ cellsFrom (L + 1) (top k).2.2.names [], (g p.2).data = .cell Option.none) →
      Ex prog w s₀ (A.deeper (envX name (top k).2.2 L a cdv (cellsFrom (L + 1) (top k).2.2.names []))) ⟨B, L, ρ, ((cellsFrom (L + 1) (top k).2.2.names []).map fun p => (p.2, g p.2)) ++ μ₀⟩
        (execs (top k).2.1 (envX name (top k).2.2 L a cdv (cellsFrom (L + 1) (top k).2.2.names []))) (fun f h' => ∃ v, f = .ret v ∧ Q v h')) :
    Hp prog w s₀ A (call (.ref a) args) Q h := fun tk p => by
  obtain ⟨o, doc, pm, an, ct, ho, hd, hc⟩ := F
  refine c_call (cc_call_function (fd := fnK k name doc pm an cdv ct) (body := (top k).2.1) hroom ho hd hco hgen rfl hc ?_)
  rw [hbind doc pm an cdv ct]
  refine c_pure (c_with_toks (n := 1) p (toC (wpAny_newFunctionEnv_cells hk (fun x hx => .inl (hloc x hx)) fun env he s₁ X hz₁ => ?_)))
  subst he
  refine ⟨lim.keeps X.toInCall.keep, cc_func ?_⟩
  obtain ⟨h₁, tk₁, rfl, hk₁⟩ := X.done
  have X' : InCallC (St s₀ h tk) h.objs.size (bindL (envX name (top k).2.2 h.objs.size a cdv (cellsFrom (h.objs.size + 1) (top k).2.2.names [])).kindOf binds fun _ => Option.none) (cellsFrom (h.objs.size + 1) (top k).2.2.names [])
      (bindC (envX name (top k).2.2 h.objs.size a cdv (cellsFrom (h.objs.size + 1) (top k).2.2.names [])).kindOf binds fun _ => Option.none) { (St s₀ h tk) with heap := h₁, toks := tk₁ } := X
  have hlk : ∀ q ∈ cellsFrom (h.objs.size + 1) (top k).2.2.names [], h₁.IsCell q.2 Option.none := fun q hq => by
    have := X'.cell q.1 q.2 (lookup_of_mem_nodup (cellsFrom_names (top k).2.2.names 0 (h.objs.size + 1) [] [] rfl ▸ hnd) hq)
    rwa [hcm] at this
  have hle : ∀ b ∈ μ₀.map (·.1), b < h.objs.size := fun b hb => by
    obtain ⟨q, hq, rfl⟩ := List.mem_map.mp hb
    exact Heap.lt_size (hμ q hq).1
  have ok : Cx.Ok ⟨B, h.objs.size, ρ, ((cellsFrom (h.objs.size + 1) (top k).2.2.names []).map fun q => (q.2, (h₁.get? q.2).getD default)) ++ μ₀⟩ h₁ := by
    refine ⟨hB.trans hk₁, ⟨_, X'.toInCall.ns, (hρ _ _).get⟩, fun q hq => ?_, ?_, fun b hb => ?_⟩
    · rcases List.mem_append.mp hq with hq | hq
      · obtain ⟨q', hq', rfl⟩ := List.mem_map.mp hq
        obtain ⟨ob, e, _⟩ := hlk q' hq'
        show h₁.get? q'.2 = some ((h₁.get? q'.2).getD default)
        rw [e]; rfl
      · exact hk₁ _ _ (hμ q hq).1
    · show (h.objs.size :: (((cellsFrom (h.objs.size + 1) (top k).2.2.names []).map fun q => (q.2, (h₁.get? q.2).getD default)) ++ μ₀).map (·.1)).Nodup
      rw [List.map_append, List.map_map]
      refine List.nodup_cons.mpr ⟨fun m => ?_, List.nodup_append.mpr ⟨List.pairwise_map.mpr X'.apart, hμn, fun x hx y hy e => ?_⟩⟩
      · rcases List.mem_append.mp m with m | m
        · obtain ⟨q, hq, e⟩ := List.mem_map.mp m
          have := X'.above q.1 q.2 hq
          have e' : q.2 = h.objs.size := e
          rw [e'] at this; exact absurd this (Nat.lt_irrefl _)
        · exact absurd (hle _ m) (Nat.lt_irrefl _)
      · obtain ⟨q, hq, e'⟩ := List.mem_map.mp hx
        have := X'.above q.1 q.2 hq
        have e2 : q.2 = x := e'
        have h3 := hle y hy
        rw [e2, e] at this
        exact absurd this (Nat.not_lt.mpr (Nat.le_of_lt h3))
    · have hb' : b = h.objs.size ∨ (∃ q ∈ cellsFrom (h.objs.size + 1) (top k).2.2.names [], q.2 = b) ∨ b ∈ μ₀.map (·.1) := by
        rcases List.mem_cons.mp hb with e | m
        · exact .inl e
        · rw [List.map_append, List.map_map] at m
          rcases List.mem_append.mp m with m | m
          · obtain ⟨q, hq, e⟩ := List.mem_map.mp m
            exact .inr (.inl ⟨q, hq, e⟩)
          · exact .inr (.inr m)
      rcases hb' with e | ⟨q, hq, e⟩ | m
      · cases q : B.get? b with
        | none => rfl
        | some ob => exact absurd (Heap.lt_size (hB _ _ q)) (e ▸ Nat.lt_irrefl _)
      · cases q' : B.get? b with
        | none => rfl
        | some ob =>
          have := X'.above q.1 q.2 hq
          rw [e] at this
          exact absurd this (Nat.not_lt.mpr (Nat.le_of_lt (Heap.lt_size (hB _ _ q'))))
      · obtain ⟨q, hq, rfl⟩ := List.mem_map.mp m
        exact (hμ q hq).2
  have hz : 0 < tk₁ := hz₁
  show wpC (model prog w) (A.deeper (envX name (top k).2.2 h.objs.size a cdv (cellsFrom (h.objs.size + 1) (top k).2.2.names []))) (execs (top k).2.1 (envX name (top k).2.2 h.objs.size a cdv (cellsFrom (h.objs.size + 1) (top k).2.2.names []))) _ (St s₀ h₁ tk₁)
  refine (H h.objs.size (fun b => (h₁.get? b).getD default) (Nat.le_refl _) (fun q hq => ?_) h₁ ok).use (fun f h₂ tk₂ _ q => ?_) _ hz
  · obtain ⟨ob, e, hd⟩ := hlk q hq
    show ((h₁.get? q.2).getD default).data = _
    rw [e]; exact hd
  · obtain ⟨v, rfl, q⟩ := q
    exact ⟨v, rfl, h₂, tk₂, rfl, q⟩

/-- the table of a code's inner codes -/
def TabOk (pos : Pos) (qual : Str) (h : Heap) (ps : Array Value) : Prop := ps = #[] ∨ ∃ c', ps = #[rawInt pos.line, rawInt pos.col, .ref c'] ∧ h.CodeRec (.ref c') qual
variable {Q : Flow → Heap → Prop} {rest : List Stmt}
/-- def inside a frame -/
theorem Ex.nestDef {name : Str} {params : Arguments} {body : List Stmt} {scope : Scope} {pos : Pos} {cc P : Addr} {ps : Array Value} {clos : List (Str × Addr)} {mg : Str → Option Value} (pre post : List (Addr × Obj)) (hμ : c.μ = pre ++ (P, tabObj ps) :: post)
    (htab : ps = #[] ∨ ∃ c', ps = #[rawInt pos.line, rawInt pos.col, .ref c'] ∧ c.B.CodeRec (.ref c') (qualnameIn env name name))
    (hg : c.B.Ns mainGlobals mg) (hcode : env.code = .ref cc) (C : CodeHd c.B cc P) (hb : c.B.BuiltinsAt mg P) (hgP : mainGlobals ≠ P) (hcl : closureFor scope env = Pure.pure clos)
    (k : ∀ f c' doc pm ctv B ps', Kp c.B B → B.get? f = some (fnMade name (qualnameIn env name name) params body scope clos doc pm c' ctv) → B.CodeRec (.ref c') (qualnameIn env name name) →
      ps' = #[rawInt pos.line, rawInt pos.col, .ref c'] → (ps ≠ #[] → ps' = ps) →
      Ex prog w s₀ A { c with B := B, ρ := setL name (.ref f) c.ρ, μ := pre ++ (P, tabObj ps') :: post } (execs rest env) Q)
    (hd0 : params.defaults = [] := by rfl) (hk0 : params.kw_defaults = [] := by rfl) (ha : annTrees params Option.none env = [] := by rfl) (hge0 : env.globals = mainGlobals := by rfl)
    (hL : env.locals = c.L := by rfl) (hk : env.scope.kind = .function := by rfl) (hx : env.kindOf name = some .local := by rfl) :
    Ex prog w s₀ A c (execs (.FunctionDef name params body [] Option.none [] scope Option.none name pos :: rest) env) Q := Ex.cons fun h o tk p => by
  have hm : (P, tabObj ps) ∈ c.μ := by rw [hμ]; simp
  have hP := o.own _ hm
  have hne : ∀ q ∈ pre ++ post, q.1 ≠ P := fun q hq e => by
    have nd := (List.nodup_cons.mp o.nd).2
    rw [hμ, List.map_append, List.map_cons] at nd
    have nd' := List.nodup_append.mp nd
    rcases List.mem_append.mp hq with hq | hq
    · exact nd'.2.2 q.1 (List.mem_map_of_mem hq) P (.head _) e
    · exact (List.nodup_cons.mp nd'.2.1).1 (List.mem_map.mpr ⟨q, hq, e⟩)
  have hLP : c.L ≠ P := fun e => (List.nodup_cons.mp o.nd).1 (List.mem_map.mpr ⟨_, hm, e.symm⟩)
  refine toC (nestDef_K hd0 hk0 ha ?_)
  have fin : ∀ (h' : Heap) (tk' : Nat) (f c' : Addr) (doc pm ctv : Value) (ps' : Array Value), Heap.ExtBut P h h' → h'.get? P = some (tabObj ps') → h'.get? f = some (fnMade name (qualnameIn env name name) params body scope clos doc pm c' ctv) → h.objs.size ≤ f →
      (∃ oc vs t, h'.get? c' = some oc ∧ oc.data = .fields vs ∧ vs[1]? = some (.str (qualnameIn env name name) t) ∧ c' ∉ c.adr) → ps' = #[rawInt pos.line, rawInt pos.col, .ref c'] → (ps ≠ #[] → ps' = ps) →
      wpAny (model prog w) A (storeName env name (.ref f)) (fun _ s'' => ∃ h₂ tk₂, s'' = St s₀ h₂ tk₂ ∧ Then prog w s₀ A env rest Q .next h₂) (fun _ _ => False) (St s₀ h' tk') := by
    intro h' tk' f c' doc pm ctv ps' hx' hP' hf hfs hcr hps hkeep
    have off : ∀ b, c.B.get? b ≠ none → b ≠ P := fun b hb e => hb (e ▸ o.off P (.tail _ (List.mem_map.mpr ⟨_, hm, rfl⟩)))
    have kpB : Kp c.B h' := fun b ob e => hx' b ob (off b (by rw [e]; exact fun q => nomatch q)) (o.keep b ob e)
    obtain ⟨m, hn, hmm⟩ := o.loc
    let c₁ : Cx := { c with μ := pre ++ (P, tabObj ps') :: post }
    have hadr : c₁.adr = c.adr := by unfold Cx.adr; rw [hμ]; simp [c₁]
    have o₁ : c₁.Ok h' := by
      refine ⟨kpB, ⟨m, hn.extBut hx' hLP, hmm⟩, fun q hq => ?_, hadr ▸ o.nd, hadr ▸ o.off⟩
      have hq' : q ∈ pre ++ post ∨ q = (P, tabObj ps') := by
        rcases List.mem_append.mp hq with a | a
        · exact .inl (List.mem_append_left _ a)
        · rcases List.mem_cons.mp a with a | a
          · exact .inr a
          · exact .inl (List.mem_append_right _ a)
      rcases hq' with hq' | rfl
      · refine hx' _ _ (hne q hq') (o.own q ?_)
        rw [hμ]
        rcases List.mem_append.mp hq' with a | a
        · exact List.mem_append_left _ a
        · exact List.mem_append_right _ (.tail _ a)
      · exact hP'
    have fnot : f ∉ c.adr := fun mm => absurd (o.lt f mm) (Nat.not_lt.mpr hfs)
    have o₂ : Cx.Ok { c₁ with B := c₁.fz h' } h' := o₁.base
    obtain ⟨m', hn', hm'⟩ := o₂.loc
    refine wpAny_storeName_local hx (by rw [hL]; exact hn') (fun h₂ hn₂ hs₂ => ?_) (by rw [hk]; rfl)
    rw [hL] at hn₂ hs₂
    obtain ⟨oc, vs, t, e1, e2, e3, e4⟩ := hcr
    refine ⟨h₂, _, rfl, k f c' doc pm ctv (c₁.fz h') ps' o₁.kpfz (hideAll_get _ hf (hadr ▸ fnot)) ⟨c', oc, vs, t, rfl, hideAll_get _ e1 (hadr ▸ e4), e2, e3⟩ hps hkeep h₂ ?_⟩
    exact Ok.stored (c := { c₁ with B := c₁.fz h' }) o₂ hm' hn₂ hs₂
  rcases htab with rfl | ⟨c', rfl, hcr⟩
  · refine makeFunction_K (mg := mg) hcl hge0 (hg.keeps o.keep) hcode (C.keeps o.keep) hP (ps := #[]) trivial rfl hgP (hb.keeps o.keep) fun c' ctv doc h' tk' hx' hge hlt hrec htb => ?_
    obtain ⟨c₂, oc, vs, t, e2, hoc, hd, hv⟩ := hrec
    cases e2
    refine fin _ tk' _ c' doc _ ctv (#[rawInt pos.line, rawInt pos.col, .ref c']) (fun b ob hb e => Heap.get?_push_of_some _ (hx' b ob hb e)) ?_ (Heap.get?_push_size _ rfl) (Nat.le_trans hge (Nat.le_of_lt hlt))
      ⟨oc, vs, t, Heap.get?_push_of_some _ hoc, hd, hv, fun mm => absurd (o.lt c' mm) (Nat.not_lt.mpr hge)⟩ rfl (fun q => absurd rfl q)
    have := Heap.get?_push_of_some (fnMade name (qualnameIn env name name) params body scope clos doc ((mg "__name__").getD .none) c' ctv) htb
    simpa using this
  · obtain ⟨c₂, oc, vs, t, e2, hoc, hd, hv⟩ := hcr
    cases e2
    refine makeFunction_hit (mg := mg) (cv := .ref c') hcl hge0 (hg.keeps o.keep) hcode (C.keeps o.keep) hP (by simp [TriplesOk, rawInt]) (by simp [codeAmong, rawInt]) (hb.keeps o.keep) fun ctv doc h' tk' hk' hsz => ?_
    exact fin _ tk' _ c' doc _ ctv _ (fun b ob _ e => Heap.get?_push_of_some _ (hk' b ob e)) (Heap.get?_push_of_some _ (hk' _ _ hP)) (Heap.get?_push_size _ rfl) hsz
      ⟨oc, vs, t, Heap.get?_push_of_some _ (hk' _ _ (o.keep _ _ hoc)), hd, hv, fun mm => by rw [o.off c' mm] at hoc; cases hoc⟩ rfl (fun _ => rfl)
end
end Mine
end QClos

section QOcc
open PySem PySem.W PySem.Calls PyProof.Rows
set_option linter.unusedVariables false
set_option maxRecDepth 100000
namespace Mine
theorem plainAttrs_ba : PlainAttrs "bytearray" :=
  ⟨⟨"bytearray.__getattribute__", by rw [typeLookup_type, builtinLookup_eq_fast]; kernel_rfl, by decide +kernel⟩, by rw [typeLookup_type, builtinLookup_eq_fast]; kernel_rfl⟩
theorem type_ba_find : typeOf (.builtin "bytearray.find") = pure (.type "method_descriptor") := by show builtinType _ = _; rw [builtinType_eq_fast]; kernel_rfl
section
variable {prog : Program} {w : World} {s₀ : Shared} {A : Around} {c : Cx} {env : Env}
theorem Ev.findM {a : Addr} {b : Array UInt8} {pl : Sem Bool} {h : Heap} (hb : h.get? a = some (ba b)) : EvH prog w s₀ A h (getMethod (.ref a) (Str.ofString "find") pl) (fun fx _ => fx = (.builtin "bytearray.find", [.ref a])) := fun tk p =>
  toC (getMethod_builtin (typ_ba (s := St s₀ h tk) hb) plainAttrs_ba slot_ba_find type_ba_find (fun a' e => by cases e; exact ⟨_, hb, rfl⟩) (stay fun _ => rfl))
/-- seq.find(sub) and seq.find(sub, k) -/
theorem Ev.find1 {ob e : Expr} {apos pos : Pos} {a p : Addr} {b sub : Array UInt8} {pl : Sem Bool} (ho : Ev prog w s₀ A c (eval ob env) (Is (.ref a))) (he : Ev prog w s₀ A c (eval e env) (Is (.ref p))) (ha : ∀ h, c.Ok h → h.get? a = some (ba b)) (hp : ∀ h, c.Ok h → h.get? p = some (ba sub))
    (hcall : eval (.Call (.Attribute ob (Str.ofString "find") apos) [e] [] pos) env = (do
      let ov ← eval ob env
      standAt apos.atName
      let (f, first) ← PySem.holding [ov] (getMethod ov (Str.ofString "find") pl)
      callWith pos f first (backTo pos (starEach [e] env)) []) := by rfl) (hs : starEach [e] env = [(false, eval e env)] := by rfl) :
    Ev prog w s₀ A c (eval (.Call (.Attribute ob (Str.ofString "find") apos) [e] [] pos) env) (VI (findAt b sub 0)) :=
  Ev.meth (P₀ := Is (.ref a)) (R := fun vs H => ∃ v, vs = [v] ∧ Is (.ref p) v H) ho (fun v B g u h o => by have e := u.here; subst e; exact Ev.findM (ha h (Cx.Ok.less (c := { c with B := B }) o g)))
    (fun B g => Ev.args1 (fun h o => he h (Cx.Ok.less (c := { c with B := B }) o g)) hs) (fun v vs B g u r h o tk q => by
      have e := u.here; subst e
      obtain ⟨_, rfl, e⟩ := r.here; subst e
      have o' := Cx.Ok.less (c := { c with B := B }) o g
      exact toC (wp_find1 (ha h o') (hp h o') (stay fun _ _ _ => ⟨_, rfl⟩))) hcall hs rfl
theorem Ev.find2 {ob e e₂ : Expr} {apos pos : Pos} {a p : Addr} {b sub : Array UInt8} {k : Nat} {pl : Sem Bool} (ho : Ev prog w s₀ A c (eval ob env) (Is (.ref a))) (he : Ev prog w s₀ A c (eval e env) (Is (.ref p))) (he₂ : Ev prog w s₀ A c (eval e₂ env) (VI k)) (ha : ∀ h, c.Ok h → h.get? a = some (ba b)) (hp : ∀ h, c.Ok h → h.get? p = some (ba sub))
    (hcall : eval (.Call (.Attribute ob (Str.ofString "find") apos) [e, e₂] [] pos) env = (do
      let ov ← eval ob env
      standAt apos.atName
      let (f, first) ← PySem.holding [ov] (getMethod ov (Str.ofString "find") pl)
      callWith pos f first (backTo pos (starEach [e, e₂] env)) []) := by rfl) (hs : starEach [e, e₂] env = (false, eval e env) :: starEach [e₂] env := by rfl) (hs' : starEach [e₂] env = [(false, eval e₂ env)] := by rfl) (hpl : (backTo pos (starEach [e₂] env)).any (·.1) = false := by rfl) :
    Ev prog w s₀ A c (eval (.Call (.Attribute ob (Str.ofString "find") apos) [e, e₂] [] pos) env) (VI (findAt b sub k)) :=
  Ev.meth (P₀ := Is (.ref a)) (R := fun vs H => ∃ v u, vs = [v, u] ∧ v = .ref p ∧ ∃ t, u = .int k t) ho (fun v B g u h o => by have e := u.here; subst e; exact Ev.findM (ha h (Cx.Ok.less (c := { c with B := B }) o g)))
    (fun B g => Ev.args2 (V₁ := fun v => v = .ref p) (V₂ := fun u => ∃ t, u = .int k t) (fun h o => he h (Cx.Ok.less (c := { c with B := B }) o g)) (fun h o => he₂ h (Cx.Ok.less (c := { c with B := B }) o g)) hs hs') (fun v vs B g u r h o tk q => by
      have e := u.here; subst e
      obtain ⟨_, _, rfl, rfl, t, rfl⟩ := r.here
      have o' := Cx.Ok.less (c := { c with B := B }) o g
      exact toC (wp_find2 (ha h o') (hp h o') (stay fun _ _ _ => ⟨_, rfl⟩))) hcall hs hpl
/-- x in (ints) -/
theorem Ev.inTI {l r : Expr} {pos : Pos} {k : Int} {ys : List Int} {whole : Sem Value} (hl : Ev prog w s₀ A c (eval l env) (VI k)) (hr : Ev prog w s₀ A c (eval r env) (fun v H => ∃ a vs, v = .ref a ∧ H.get? a = some (tup vs 0) ∧ IntsAre vs ys))
    (hm : behindInMarks .In r = false := by with_unfolding_all rfl) : Ev prog w s₀ A c (isTrue (.Compare l [.In] [r] pos) env whole) (Tr (ys.any (· == k))) := fun h o tk p =>
  c_isTrue_Compare1 ((Ev.two₀ (op := fun x y => compareOp .In x y) (P := VB (ys.any (· == k))) (P₁ := VI k) hl (fun B g h o => hr h (Cx.Ok.less (c := { c with B := B }) o g)) (fun a b B g u v h o tk p => by
    obtain ⟨t, rfl⟩ := u.here
    obtain ⟨a, vs, rfl, ha, hS⟩ := v.here
    exact toC (in_tuple_ints (isTup_tup (o.keep _ _ ha)) hS (stay fun _ _ _ => rfl))) h o).use (fun a h₁ tk₁ z q => q.use (fun b' h₂ tk₂ z₂ q₂ => q₂.use (fun u h₃ tk₃ _ ⟨g, z, f⟩ => by
    have e := f h₃ (New.self _ _); subst e; exact toC (wpAny_truthy_bool ⟨h₃, tk₃, rfl, g, z, fun _ _ => rfl⟩)) tk₂ z₂) tk₁ z) tk p) hm
/-- a slice of a bytearray -/
theorem Ev.cutB {value : Expr} {lower upper : Option Expr} {pos p : Pos} {a : Addr} {b : Array UInt8} {lo hi : Option Int} (hv : Ev prog w s₀ A c (eval value env) (Is (.ref a))) (ha : ∀ h, c.Ok h → h.get? a = some (ba b))
    (h1 : Ev prog w s₀ A c (evalPart lower env) (fun v _ => IsPart v lo)) (h2 : Ev prog w s₀ A c (evalPart upper env) (fun v _ => IsPart v hi)) (hz : (KBy.picked b lo hi).size ≤ 1000000)
    (hs : ∀ a r, subscripted (.Slice lower upper none p) false (.ref a) (.ref r) = operate [.ref r, .ref a] (getItem (.ref a) (.ref r)) := by intro _ _; with_unfolding_all rfl) :
    Ev prog w s₀ A c (eval (.Subscript value (.Slice lower upper none p) pos) env) (fun v H => ∃ a, v = .ref a ∧ H.get? a = some (ba (KBy.picked b lo hi))) :=
  Ev.subscr hv (fun B g => Ev.slice (c := { c with B := B }) (fun h o => h1 h (Cx.Ok.less (c := { c with B := B }) o g)) (fun h o => h2 h (Cx.Ok.less (c := { c with B := B }) o g))) fun o i B g u v => by
    have e := u.here; subst e
    obtain ⟨r, vl, vu, rfl, hr, pl, pu⟩ := v.here
    refine ⟨⟨"bytearray", _, _, fun s o => typ_ba (ha _ (Cx.Ok.less (c := { c with B := B }) o g)), slot_ba_get.lookup, hs a r⟩, fun h o tk p => ?_⟩
    exact toC (wp_ba_slice (ha h (Cx.Ok.less (c := { c with B := B }) o g)) ⟨_, o.keep _ _ hr, rfl, rfl⟩ pl pu hz (made rfl fun H e _ _ => ⟨_, rfl, e⟩))
/-- any(bytes just made) -/
theorem Ev.anyB {func e : Expr} {pos : Pos} {b : Array UInt8} (hh : A.handled = none) (hf : Ev prog w s₀ A c (eval func env) (Is (.builtin "any"))) (he : Ev prog w s₀ A c (eval e env) (fun v H => ∃ a, v = .ref a ∧ H.get? a = some (ba b)))
    (hcall : eval (.Call func [e] [] pos) env = (do callWith pos (← eval func env) [] (backTo pos (starEach [e] env)) (backToKw pos (keywordEach [] env))) := by rfl)
    (hs : starEach [e] env = [(false, eval e env)] := by rfl) : Ev prog w s₀ A c (eval (.Call func [e] [] pos) env) (VB (b.toList.any (· != 0))) :=
  Ev.callB hf (Ev.args1 he hs) (fun vs B g u h o => EvH.mono (EvH.flat (V := fun v => v = Value.bool (b.toList.any (· != 0))) fun tk p => by
    obtain ⟨v, rfl, a, rfl, ha⟩ := u.here
    exact toC (any_ba hh (o.keep _ _ ha) fun h' tk' k => ⟨h', tk', rfl, k, rfl⟩)) fun _ _ q _ => q) hcall hs rfl
end

def patB : Array UInt8 := #[1, 0, 1, 1, 1, 0, 1]
def dkB (b : Array UInt8) (lo hi : Int) : Bool := (KBy.picked b (some lo) (some hi)).toList.any (· != 0)
def goodAt (b : Array UInt8) (n i : Int) : Bool :=
  [0, n - 7].any (· == i) || (!(dkB b (max (i - 4) 0) (min i n)) || (!(dkB b (max (i + 7) 0) (min (i + 7 + 4) n)) || false))
def occFrom (b : Array UInt8) (n : Int) : Nat → Int → Int
  | 0, _ => 0
  | k + 1, idx => if idx == -1 then 0 else if goodAt b n idx then 40 + occFrom b n k (findAt b patB (idx + 7).toNat) else occFrom b n k (findAt b patB (idx + 4).toNat)
theorem findAt_in (b sub : Array UInt8) (lo : Nat) : findAt b sub lo = -1 ∨ ((lo : Int) ≤ findAt b sub lo ∧ findAt b sub lo + sub.size ≤ b.size) := by
  unfold findAt
  by_cases hc : (b.size : Int) - lo < sub.size
  · rw [if_pos hc]; exact .inl rfl
  · rw [if_neg hc]
    cases hf : Builtin.Bytes.find? b sub lo b.size with
    | none => exact .inl rfl
    | some i =>
      unfold Builtin.Bytes.find? at hf
      have hm := List.mem_of_find?_eq_some hf
      obtain ⟨j, hj, e⟩ := List.mem_map.mp hm
      have := List.mem_range.mp hj
      refine .inr ⟨?_, ?_⟩ <;> simp only <;> omega
theorem bounds_in (lo hi : Option Int) (n : Nat) : (sliceBounds lo hi none n).2.2 = 1 ∧ 0 ≤ (sliceBounds lo hi none n).1 ∧ (sliceBounds lo hi none n).2.1 ≤ n := by
  cases lo <;> cases hi <;> simp [sliceBounds] <;> omega
theorem picked_le (b : Array UInt8) (lo hi : Option Int) : (KBy.picked b lo hi).size ≤ b.size := by
  obtain ⟨h1, h2, h3⟩ := bounds_in lo hi b.size
  unfold KBy.picked Builtin.Bytes.sliced
  rw [List.size_toArray]
  refine Nat.le_trans (List.length_filterMap_le _ _) (sliceRange_length_le _ _ _ b.size (fun _ => ⟨h2, h3⟩) fun h => ?_)
  rw [h1] at h; exact absurd (by decide) h

def inner : Arguments × List Stmt × Scope := fnParts ((top 2).2.1.getD 1 (.Pass ⟨0, 0, 0, 0⟩))
def innerName : Str := Str.ofString "n3_pattern_occurrences"


section
variable {prog : Program} {w : World} {s₀ : Shared} {A : Around}
set_option maxHeartbeats 4000000 in
theorem occ_ok {h : Heap} {qn : Str} {f q pt cn cs : Addr} {fo : Obj} {b : Array UInt8} {n : Nat} {tn : Tok} {doc pm cdv ct : Value} (am : Amb h) (gd : Gd 1 A) (hlo : 7 ≤ n) (hhi : n ≤ 13)
    (ho : h.get? f = some fo) (hd : fo.data = .func (fnX innerName qn inner.1 inner.2.1 inner.2.2 [(Str.ofString "qr_size", cs), (Str.ofString "n3_pattern", cn)] .none .none doc pm none cdv ct)) (hc : h.CodeRec cdv qn)
    (hq : h.get? q = some (ba b)) (hbn : b.size = n) (hpt : h.get? pt = some (ba patB)) (hcn : h.IsCell cn (some (.ref pt))) (hcs : h.IsCell cs (some (.int n tn))) :
    EvH prog w s₀ A h (call (.ref f) [.ref q]) (VI (occFrom b n 20 (findAt b patB 0))) := by
  refine EvH.callX (binds := [(Str.ofString "seq", .ref q)]) (ρ := [(Str.ofString "seq", .ref q)]) ho hd hc am.lim (by have := gd.dp; omega) rfl (fun x v e => e) (by decide) (locs rfl) rfl rfl rfl fun L hL => ?_
  have vPat : ∀ ρ h', Cx.Ok ⟨h, L, ρ, []⟩ h' → h'.IsCell cn (some (.ref pt)) := fun ρ h' o => hcn.keeps o.keep
  have vN : ∀ ρ h', Cx.Ok ⟨h, L, ρ, []⟩ h' → h'.IsCell cs (some (.int n tn)) := fun ρ h' o => hcs.keeps o.keep
  have vQ : ∀ ρ h', Cx.Ok ⟨h, L, ρ, []⟩ h' → h'.get? q = some (ba b) := fun ρ h' o => o.keep _ _ hq
  have vP : ∀ ρ h', Cx.Ok ⟨h, L, ρ, []⟩ h' → h'.get? pt = some (ba patB) := fun ρ h' o => o.keep _ _ hpt
  have hz : ∀ lo hi, (KBy.picked b lo hi).size ≤ 1000000 := fun lo hi => Nat.le_trans (picked_le _ _ _) (by omega)
  refine Ex.assignI Ev.int fun t₁ => ?_
  refine Ex.assignI (Ev.find1 (Ev.local rfl) (Ev.free (a := cn) (vPat _)) (vQ _) (vP _)) fun t₂ => ?_
  refine Ex.sub (ρ := [(Str.ofString "seq", .ref q), (Str.ofString "count", .int 0 t₁), (Str.ofString "idx", .int (findAt b patB 0) t₂)]) ⟨rfl, rfl, rfl, trivial⟩ ?_
  refine Ex.while_ (fun k ρ bb => ∃ cnt idx t t', ρ = [(Str.ofString "seq", .ref q), (Str.ofString "count", .int cnt t), (Str.ofString "idx", .int idx t')] ∧ cnt + occFrom b n k idx = occFrom b n 20 (findAt b patB 0) ∧ (idx = -1 ∨ (0 ≤ idx ∧ idx + 7 ≤ n ∧ (n : Int) + 1 - idx ≤ k)) ∧ bb = (idx != -1)) 20 (findAt b patB 0 != -1) ?_ ?_ ?_ ?_
  · refine ⟨0, _, t₁, t₂, rfl, by simp, ?_, rfl⟩
    rcases findAt_in b patB 0 with e | ⟨e1, e2⟩
    · exact .inl e
    · refine .inr ⟨by omega, ?_, ?_⟩
      · rw [hbn] at e2; exact e2
      · omega
  · rintro k ρ bb ⟨cnt, idx, t, t', rfl, hsum, hidx, rfl⟩
    exact Ev.neI (Ev.isInt (Ev.local rfl)) (Ev.neg Ev.int)
  · rintro k ρ ⟨cnt, idx, t, t', rfl, hsum, hidx, hb⟩
    have hne : idx ≠ -1 := by simpa using hb.symm
    rcases hidx with e | ⟨i0, i1, i2⟩
    · exact absurd e hne
    obtain ⟨k, rfl⟩ : ∃ m, k = m + 1 := ⟨k - 1, by omega⟩
    have hgo : ∀ (off : Nat) (cnt' : Int), (off : Int) = idx + 7 ∨ (off : Int) = idx + 4 → cnt' + occFrom b n k (findAt b patB off) = occFrom b n 20 (findAt b patB 0) → ∀ t₃ t₄ t₅,
        Ex prog w s₀ (A.deeper (envX qn inner.2.2 L f cdv [(Str.ofString "qr_size", cs), (Str.ofString "n3_pattern", cn)])) ⟨h, L, setL (Str.ofString "idx") (.int (findAt b patB off) t₅) [(Str.ofString "seq", .ref q), (Str.ofString "count", .int cnt' t₃), (Str.ofString "offset", .int off t₄)], []⟩
          (execs [] (envX qn inner.2.2 L f cdv [(Str.ofString "qr_size", cs), (Str.ofString "n3_pattern", cn)])) (fun f h' => f = .next ∧ ∃ m ρ' b', m < k + 1 ∧ (∃ cnt idx t t', ρ' = [(Str.ofString "seq", .ref q), (Str.ofString "count", .int cnt t), (Str.ofString "idx", .int idx t')] ∧ cnt + occFrom b n m idx = occFrom b n 20 (findAt b patB 0) ∧ (idx = -1 ∨ (0 ≤ idx ∧ idx + 7 ≤ n ∧ (n : Int) + 1 - idx ≤ m)) ∧ b' = (idx != -1)) ∧ Cx.Ok ⟨h, L, ρ', []⟩ h') := by
      intro off cnt' hoff hs t₃ t₄ t₅
      refine Ex.nil fun h' o => ⟨rfl, k, _, _, Nat.lt_succ_self k, ⟨cnt', findAt b patB off, t₃, t₅, rfl, hs, ?_, rfl⟩, Cx.Ok.forget o (Sub.get ⟨rfl, rfl, rfl, trivial⟩)⟩
      rcases findAt_in b patB off with e | ⟨e1, e2⟩
      · exact .inl e
      · have e3 : findAt b patB off + 7 ≤ n := by rw [hbn] at e2; exact e2
        exact .inr ⟨by omega, e3, by omega⟩
    have hocc : occFrom b n (k + 1) idx = if goodAt b n idx then 40 + occFrom b n k (findAt b patB (idx + 7).toNat) else occFrom b n k (findAt b patB (idx + 4).toNat) := by
      show (if (idx == -1) = true then 0 else _) = _
      rw [if_neg (by simpa using hne)]
    rw [hocc] at hsum
    refine Ex.assignI (Ev.add (Ev.isInt (Ev.local rfl)) Ev.int) fun t₃ => ?_
    refine Ex.ifS (b := goodAt b n idx) ?_ (fun hg => ?_) (fun hg => ?_)
    · unfold goodAt
      refine Ev.or ?_ fun _ => ?_
      · refine Ev.inTI (Ev.isInt (Ev.local rfl)) ?_
        refine Ev.tupleI (ns := [0, (n : Int) - 7]) ?_ (by simp)
        refine Ev.intsCons Ev.int (Ev.intsCons ?_ Ev.intsNil)
        refine Ev.sub (Ev.isInt (u := tn) ?_) Ev.int
        exact Ev.free (a := cs) (vN _)
      refine Ev.or ?_ fun _ => ?_
      · refine Ev.not (Ev.plain (V := fun v => v = .bool (dkB b (max (idx - 4) 0) (min idx n))) ?_ ?_)
        · refine Ev.anyB gd.hh (Ev.blt am rfl) (Ev.cutB (Ev.local rfl) (vQ _) ?_ ?_ (hz _ _))
          · exact Ev.part (Ev.maxI gd.hh (Ev.blt am rfl) (Ev.sub (Ev.isInt (Ev.local rfl)) Ev.int) Ev.int)
          · refine Ev.part (Ev.minI gd.hh (Ev.blt am rfl) (Ev.isInt (Ev.local rfl)) (Ev.isInt (u := tn) ?_))
            exact Ev.free (a := cs) (vN _)
        · rintro v rfl h' o tk p; exact toC (wpAny_truthy_bool (stay fun _ => rfl))
      refine Ev.or ?_ fun _ => Ev.orNil
      · refine Ev.not (Ev.plain (V := fun v => v = .bool (dkB b (max (idx + 7) 0) (min (idx + 7 + 4) n))) ?_ ?_)
        · refine Ev.anyB gd.hh (Ev.blt am rfl) (Ev.cutB (Ev.local rfl) (vQ _) ?_ ?_ (hz _ _))
          · exact Ev.part (Ev.maxI gd.hh (Ev.blt am rfl) (Ev.isInt (Ev.local rfl)) Ev.int)
          · refine Ev.part (Ev.minI gd.hh (Ev.blt am rfl) (Ev.add (Ev.isInt (Ev.local rfl)) Ev.int) (Ev.isInt (u := tn) ?_))
            exact Ev.free (a := cs) (vN _)
        · rintro v rfl h' o tk p; exact toC (wpAny_truthy_bool (stay fun _ => rfl))
    · rw [hg, if_pos rfl] at hsum
      refine Ex.augI rfl Ev.int fun t₄ => Ex.nilThen ?_
      have he : ((idx + 7).toNat : Int) = idx + 7 := by omega
      refine Ex.sub (ρ := [(Str.ofString "seq", .ref q), (Str.ofString "count", .int (cnt + 40) t₄), (Str.ofString "offset", .int (idx + 7).toNat t₃)]) ⟨rfl, rfl, by rw [he]; rfl, trivial⟩ ?_
      refine Ex.assignI (Ev.find2 (Ev.local rfl) (Ev.free (a := cn) (vPat _)) (Ev.isInt (Ev.local rfl)) (vQ _) (vP _)) fun t₅ => ?_
      exact hgo _ _ (.inl he) (by omega) _ _ _
    · rw [hg, if_neg Bool.false_ne_true] at hsum
      refine Ex.assignI (Ev.add (Ev.isInt (Ev.local rfl)) Ev.int) fun t₄ => Ex.nilThen ?_
      have he : ((idx + 4).toNat : Int) = idx + 4 := by omega
      refine Ex.sub (ρ := [(Str.ofString "seq", .ref q), (Str.ofString "count", .int cnt t), (Str.ofString "offset", .int (idx + 4).toNat t₄)]) ⟨rfl, rfl, by rw [he]; rfl, trivial⟩ ?_
      refine Ex.assignI (Ev.find2 (Ev.local rfl) (Ev.free (a := cn) (vPat _)) (Ev.isInt (Ev.local rfl)) (vQ _) (vP _)) fun t₅ => ?_
      exact hgo _ _ (.inr he) (by omega) _ _ _
  · rintro k ρ ⟨cnt, idx, t, t', rfl, hsum, hidx, hb⟩
    have he : idx = -1 := by simpa using hb.symm
    subst he
    have h0 : occFrom b n k (-1) = 0 := by cases k <;> rfl
    rw [h0] at hsum
    have hs' : cnt = occFrom b n 20 (findAt b patB 0) := by omega
    rw [← hs']
    exact Ex.retF (V := fun v => ∃ t, v = .int cnt t) (Ev.isInt (Ev.local rfl)) (Kp.refl h) hL
end
end Mine
end QOcc

section QMaskR
open PySem PySem.W PySem.Calls PyProof.Rows
set_option linter.unusedVariables false
set_option maxRecDepth 100000
namespace Mine
section
variable {prog : Program} {w : World} {A : Around} {s : Shared} {env : Env}
theorem c_release {vs keep : List Value} {Q : Unit → Shared → Prop} (h : Q () s) : wpC (model prog w) A (release vs keep) Q s := fun Γ p _ _ => by rw [Sem.wp_release]; exact h
theorem c_isTrue_chain {l op₁ op₂ ops r₁ r₂ rs pos whole} {Q : Bool → Shared → Prop}
    (h : wpC (model prog w) A (eval l env) (fun a s₁ => wpC (model prog w) A (testChain pos a (op₁ :: op₂ :: ops) (eval r₁ env :: eval r₂ env :: evalEach rs env)) Q s₁) s)
    (hm : lastMarks (op₁ :: op₂ :: ops) (r₁ :: r₂ :: rs) = false) : wpC (model prog w) A (isTrue (.Compare l (op₁ :: op₂ :: ops) (r₁ :: r₂ :: rs) pos) env whole) Q s := by
  show wpC _ A (do testChain pos (← eval l env) (op₁ :: op₂ :: ops) (markedEach (op₁ :: op₂ :: ops) (r₁ :: r₂ :: rs) (evalEach (r₁ :: r₂ :: rs) env))) Q s
  rw [markedEach_of_false _ _ _ hm]
  exact c_bind h
theorem c_testLink {pos : Pos} {a : Value} {op op' : CmpOp} {ops : List CmpOp} {r r' : Sem Value} {rs : List (Sem Value)} {Q : Bool → Shared → Prop}
    (h : wpC (model prog w) A r (fun b s₁ => wpC (model prog w) A (compareOp op a b) (fun c s₂ => wpC (model prog w) A (truthy c)
      (fun t s₃ => if t then wpC (model prog w) A (testChain pos b (op' :: ops) (r' :: rs)) Q s₃ else Q false s₃) s₂) s₁) s) :
    wpC (model prog w) A (testChain pos a (op :: op' :: ops) (r :: r' :: rs)) Q s := by
  show wpC _ A (do
    let rv ← holding [a] r
    standAt pos
    let c ← holding [a, rv] (compareOp op a rv)
    release [a, rv] [c]
    if ← holding [c, rv] (truthy c) then testChain pos rv (op' :: ops) (r' :: rs) else pure false) Q s
  refine c_bind (c_holding (c_mono h fun b s₁ h₁ => c_bind (c_standAt (c_bind (c_holding (c_mono h₁ fun c s₂ h₂ => c_bind (c_release (c_bind (c_holding (c_mono h₂ fun t s₃ h₃ => ?_))))))))))
  cases t with
  | false => exact c_pure h₃
  | true => exact h₃
theorem c_testLast {pos : Pos} {a : Value} {op : CmpOp} {r : Sem Value} {Q : Bool → Shared → Prop}
    (h : wpC (model prog w) A r (fun b s₁ => wpC (model prog w) A (compareOp op a b) (fun c s₂ => wpC (model prog w) A (truthy c) Q s₂) s₁) s) : wpC (model prog w) A (testChain pos a [op] [r]) Q s := by
  show wpC _ A (do
    let rv ← holding [a] r
    standAt pos
    let c ← operate [a, rv] (compareOp op a rv)
    holding [c] (truthy c)) Q s
  exact c_bind (c_holding (c_mono h fun b s₁ h₁ => c_bind (c_standAt (c_bind (c_operate (c_mono h₁ fun c s₂ h₂ => c_holding h₂))))))
theorem c_Assert {test : Expr} {msg : Option Expr} {pos : Pos} {Q : Flow → Shared → Prop}
    (h : wpC (model prog w) A (isTrue test env (eval test env)) (fun b s₁ => b = true ∧ Q .next s₁) s) : wpC (model prog w) A (exec (.Assert test msg pos) env) Q s := by
  rw [arm_exec_Assert]
  refine c_bind (c_standAt (c_bind (c_mono h fun b s₁ h₁ => ?_)))
  obtain ⟨rfl, hq⟩ := h₁
  exact c_pure hq
end
section
variable {prog : Program} {w : World} {s₀ : Shared} {A : Around} {c : Cx} {env : Env} {Q : Flow → Heap → Prop} {rest : List Stmt}
theorem Ev.testLast {pos : Pos} {x y : Int} {t : Tok} {r : Sem Value} (hr : Ev prog w s₀ A c r (VI y)) : Ev prog w s₀ A c (testChain pos (.int x t) [.Eq] [r]) (Tr (x == y)) := fun h o tk p =>
  c_testLast ((hr h o).use (fun b h₁ tk₁ z ⟨g₁, z₁, p₁⟩ => by
    obtain ⟨u, rfl⟩ := p₁ _ (New.self _ _)
    exact toC (PyProof.Rows.eq_int (toC (wpAny_truthy_bool ⟨h₁, _, rfl, g₁, z₁, fun _ _ => rfl⟩)))) tk p)
theorem Ev.testLink {pos : Pos} {x y : Int} {t : Tok} {r r' : Sem Value} {op' : CmpOp} {ops : List CmpOp} {rs : List (Sem Value)} {d : Bool} (hr : Ev prog w s₀ A c r (VI y)) (hk : ∀ u, Ev prog w s₀ A c (testChain pos (.int y u) (op' :: ops) (r' :: rs)) (Tr d)) :
    Ev prog w s₀ A c (testChain pos (.int x t) (.Eq :: op' :: ops) (r :: r' :: rs)) (Tr ((x == y) && d)) := fun h o tk p =>
  c_testLink ((hr h o).use (fun b h₁ tk₁ z ⟨g₁, z₁, p₁⟩ => by
    obtain ⟨u, rfl⟩ := p₁ _ (New.self _ _)
    refine toC (PyProof.Rows.eq_int (toC (wpAny_truthy_bool ?_)))
    cases hxy : x == y with
    | false => exact ⟨h₁, _, rfl, g₁, z₁, fun _ _ => rfl⟩
    | true => exact ((hk u) h₁ (o.grow g₁)).use (fun b' h₂ tk₂ _ ⟨g₂, z₂, p₂⟩ => ⟨h₂, tk₂, rfl, g₁.trans g₂, Nat.le_trans z₁ z₂, fun H n => (p₂ h₂ (New.self _ _) : b' = d)⟩) _ z) tk p)
/-- a == b == c == d -/
theorem Ev.chain3 {l r₁ r₂ r₃ : Expr} {pos : Pos} {x₀ x₁ x₂ x₃ : Int} {whole : Sem Value} (hl : Ev prog w s₀ A c (eval l env) (VI x₀)) (h1 : Ev prog w s₀ A c (eval r₁ env) (VI x₁)) (h2 : Ev prog w s₀ A c (eval r₂ env) (VI x₂)) (h3 : Ev prog w s₀ A c (eval r₃ env) (VI x₃))
    (hm : lastMarks [.Eq, .Eq, .Eq] [r₁, r₂, r₃] = false := by with_unfolding_all rfl) : Ev prog w s₀ A c (isTrue (.Compare l [.Eq, .Eq, .Eq] [r₁, r₂, r₃] pos) env whole) (Tr ((x₀ == x₁) && ((x₁ == x₂) && (x₂ == x₃)))) := fun h o tk p => by
  refine c_isTrue_chain ((hl h o).use (fun a h₁ tk₁ z ⟨g₁, z₁, p₁⟩ => ?_) tk p) hm
  obtain ⟨u, rfl⟩ := p₁ _ (New.self _ _)
  exact ((Ev.testLink h1 fun u => Ev.testLink h2 fun u => Ev.testLast (r := eval r₃ env) h3) h₁ (o.grow g₁)).use (fun b h₂ tk₂ _ ⟨g₂, z₂, p₂⟩ => ⟨h₂, tk₂, rfl, g₁.trans g₂, Nat.le_trans z₁ z₂, fun H n => p₂ h₂ (New.self _ _)⟩) tk₁ z
theorem Ex.assertS {test : Expr} {msg : Option Expr} {pos : Pos} (ht : Ev prog w s₀ A c (isTrue test env (eval test env)) (Tr true)) (k : Ex prog w s₀ A c (execs rest env) Q) : Ex prog w s₀ A c (execs (.Assert test msg pos :: rest) env) Q := Ex.cons fun h o tk p => by
  refine c_Assert ((ht h o).use (fun v h₁ tk₁ z ⟨g₁, _, p₁⟩ => ⟨p₁ _ (New.self _ _), h₁, tk₁, rfl, k h₁ (o.grow g₁)⟩) tk p)
/-- an item of a bytearray -/
theorem Ev.itemB {value slice : Expr} {pos : Pos} {a : Addr} {b : Array UInt8} {k : Int} {x : UInt8} (hv : Ev prog w s₀ A c (eval value env) (Is (.ref a))) (hb : ∀ h, c.Ok h → h.get? a = some (ba b))
    (hi : Ev prog w s₀ A c (eval slice env) (VI k)) (h0 : 0 ≤ k) (h1 : k ≤ 1000) (hx : b[k.toNat]? = some x)
    (hs : ∀ u, subscripted slice false (.ref a) (.int k u) = operate [.ref a, .int k u] (getItem (.ref a) (.int k u)) := by intro _; with_unfolding_all rfl) : Ev prog w s₀ A c (eval (.Subscript value slice pos) env) (VI x.toNat) :=
  Ev.subscr (P₁ := VI k) hv (fun B g h o => hi h (Cx.Ok.less (c := { c with B := B }) o g)) fun o i B g u v => by
    have e := u.here; subst e
    obtain ⟨t, rfl⟩ := v.here
    refine ⟨⟨"bytearray", _, _, fun s o => typ_ba (hb s.heap (Cx.Ok.less (c := { c with B := B }) o g)), slot_ba_get.lookup, hs t⟩, fun h o tk p => ?_⟩
    exact toC (wp_ba_get (hb h (Cx.Ok.less (c := { c with B := B }) o g)) h0 h1 hx (stay fun _ _ _ => ⟨_, rfl⟩))
/-- xs[i] = v for an own bytearray -/
theorem Ex.setItemB {o i value : Expr} {pos pos' : Pos} {a : Addr} {b : Array UInt8} {k x : Int} (pre post : List (Addr × Obj)) (hμ : c.μ = pre ++ (a, ba b) :: post) (hval : Ev prog w s₀ A c (eval value env) (VI x)) (ho : Ev prog w s₀ A c (eval o env) (Is (.ref a)))
    (hi : Ev prog w s₀ A c (eval i env) (VI k)) (h0 : 0 ≤ k) (hk : k < b.size) (hz : b.size ≤ 1000) (hx0 : 0 ≤ x) (hx1 : x < 256) (kk : Ex prog w s₀ A { c with μ := pre ++ (a, ba (b.setIfInBounds k.toNat x.toNat.toUInt8)) :: post } (execs rest env) Q)
    (hs : swapsWith value (some (.Subscript o i pos')) pos.line env = pure false := by rfl) : Ex prog w s₀ A c (execs (.Assign [.Subscript o i pos'] value pos :: rest) env) Q := Ex.cons fun h ok tk p => by
  refine c_Assign_Subscript ((hval h ok).use (fun v h₁ tk₁ z ⟨g₁, _, p₁⟩ => (ho h₁ (ok.grow g₁)).use (fun ov h₂ tk₂ z₂ ⟨g₂, _, p₂⟩ => (hi h₂ ((ok.grow g₁).grow g₂)).use (fun iv h₃ tk₃ z₃ ⟨g₃, _, p₃⟩ => ?_) tk₂ z₂) tk₁ z) tk p) hs
  obtain ⟨t, rfl⟩ := p₁ _ (New.self _ _)
  have e := p₂ _ (New.self _ _); subst e
  obtain ⟨t', rfl⟩ := p₃ _ (New.self _ _)
  have o₃ := ((ok.grow g₁).grow g₂).grow g₃
  have hm : (a, ba b) ∈ c.μ := by rw [hμ]; simp
  refine toC (wp_ba_set (o₃.own _ hm) h0 hk hz hx0 hx1 fun h' e' hs' => ?_)
  exact ⟨h', tk₃, rfl, kk h' (Ok.updated o₃ hμ hs' e')⟩
/-- bytearray(x) -/
theorem Ev.baNew {func e : Expr} {pos : Pos} {ns : List Int} {P₁ : Value → Heap → Prop} (hf : Ev prog w s₀ A c (eval func env) (Is (.type "bytearray"))) (he : Ev prog w s₀ A c (eval e env) P₁)
    (hs' : ∀ v B, Kp c.B B → Up P₁ v B → ∃ x T vs k, v = .ref x ∧ (T = "list" ∨ T = "tuple") ∧ IntsAre vs.toList ns ∧ ∀ h, Cx.Ok { c with B := B } h → ∃ o, h.get? x = some o ∧ o.cls = .type T ∧ o.data = .seq vs k) (hb : ∀ n ∈ ns, 0 ≤ n ∧ n < 256) (hz : ns.length ≤ 1000)
    (hcall : eval (.Call func [e] [] pos) env = (do callWith pos (← eval func env) [] (backTo pos (starEach [e] env)) (backToKw pos (keywordEach [] env))) := by rfl)
    (hs : starEach [e] env = [(false, eval e env)] := by rfl) : Ev prog w s₀ A c (eval (.Call func [e] [] pos) env) (fun v H => ∃ a, v = .ref a ∧ H.get? a = some (ba (bytesOf ns))) :=
  Ev.callT hf (Ev.args1 he hs) (fun vs B g u h o => by
    obtain ⟨v, rfl, _⟩ := u.here
    have u' : Up P₁ v B := fun B' g' => by obtain ⟨v', e', q⟩ := u B' g'; cases e'; exact q
    obtain ⟨x, T, ws, k, rfl, hT, hI, ho⟩ := hs' v B g u'
    obtain ⟨ob, e1, e2, e3⟩ := ho h o
    exact (call_ba_seq e1 e2 e3 hT hI hb hz).mono fun _ _ q _ => q) hcall hs rfl
theorem Ev.baInt {func e : Expr} {pos : Pos} {n : Int} (hf : Ev prog w s₀ A c (eval func env) (Is (.type "bytearray"))) (he : Ev prog w s₀ A c (eval e env) (VI n)) (h0 : 0 < n) (h1 : n ≤ 1000)
    (hcall : eval (.Call func [e] [] pos) env = (do callWith pos (← eval func env) [] (backTo pos (starEach [e] env)) (backToKw pos (keywordEach [] env))) := by rfl)
    (hs : starEach [e] env = [(false, eval e env)] := by rfl) : Ev prog w s₀ A c (eval (.Call func [e] [] pos) env) (fun v H => ∃ a o, v = .ref a ∧ H.get? a = some o ∧ o = ba (Array.replicate n.toNat 0)) :=
  Ev.callT hf (Ev.args1 he hs) (fun vs B g u h o => by
    obtain ⟨v, rfl, t, rfl⟩ := u.here
    exact (call_ba_int h0 h1).mono fun _ _ ⟨a, e, q⟩ _ => ⟨a, _, e, q, rfl⟩) hcall hs rfl
/-- floats -/
def VF (x : UInt64) : Value → Heap → Prop := fun v _ => ∃ t, v = .float x t
theorem fits_int {n : Int} (h0 : 0 ≤ n) (h1 : n ≤ 1000) : n.natAbs < 2 ^ 1023 := Nat.lt_of_le_of_lt (show n.natAbs ≤ 1000 by omega) (Nat.lt_of_lt_of_le (show 1000 < 2 ^ 10 by decide) (Nat.pow_le_pow_right (by decide) (by decide)))
theorem Ev.floatI {func e : Expr} {pos : Pos} {n : Int} (hf : Ev prog w s₀ A c (eval func env) (Is (.type "float"))) (he : Ev prog w s₀ A c (eval e env) (VI n)) (h0 : 0 ≤ n) (h1 : n ≤ 1000)
    (hcall : eval (.Call func [e] [] pos) env = (do callWith pos (← eval func env) [] (backTo pos (starEach [e] env)) (backToKw pos (keywordEach [] env))) := by rfl)
    (hs : starEach [e] env = [(false, eval e env)] := by rfl) : Ev prog w s₀ A c (eval (.Call func [e] [] pos) env) (VF (Float64.ofInt n)) :=
  Ev.callT hf (Ev.args1 he hs) (fun vs B g u h o tk p => by
    obtain ⟨v, rfl, t, rfl⟩ := u.here
    exact toC (call_float_int_fits (fits_int h0 h1) (stay fun _ _ => ⟨_, rfl⟩))) hcall hs rfl
theorem Ev.divFI {l r : Expr} {pos : Pos} {x : UInt64} {n : Int} (hl : Ev prog w s₀ A c (eval l env) (VF x)) (hr : Ev prog w s₀ A c (eval r env) (VI n)) (h0 : 0 < n) (h1 : n ≤ 1000) : Ev prog w s₀ A c (eval (.BinOp l .Div r pos) env) (VF (Float64.div x (Float64.ofInt n))) :=
  Ev.binF hl hr fun a b ⟨_, ea⟩ ⟨_, eb⟩ h o tk p => by
    subst ea eb
    exact toC (AutoFloatOps.truediv_fi_2 (Float64.ofInt_fits (fits_int (by omega) h1)) (fun z => absurd ((Flt.isZero_ofInt n).mp z) (by omega)) (stay fun _ => ⟨_, rfl⟩))
theorem Ev.mulFI {l r : Expr} {pos : Pos} {x : UInt64} {n : Int} (hl : Ev prog w s₀ A c (eval l env) (VF x)) (hr : Ev prog w s₀ A c (eval r env) (VI n)) (h0 : 0 ≤ n) (h1 : n ≤ 1000) : Ev prog w s₀ A c (eval (.BinOp l .Mult r pos) env) (VF (Float64.mul x (Float64.ofInt n))) :=
  Ev.binF hl hr fun a b ⟨_, ea⟩ ⟨_, eb⟩ h o tk p => by subst ea eb; exact toC (mul_fi_fits (fits_int h0 h1) (stay fun _ => ⟨_, rfl⟩))
theorem Ev.subFI {l r : Expr} {pos : Pos} {x : UInt64} {n : Int} (hl : Ev prog w s₀ A c (eval l env) (VF x)) (hr : Ev prog w s₀ A c (eval r env) (VI n)) (h0 : 0 ≤ n) (h1 : n ≤ 1000) : Ev prog w s₀ A c (eval (.BinOp l .Sub r pos) env) (VF (Float64.sub x (Float64.ofInt n))) :=
  Ev.binF hl hr fun a b ⟨_, ea⟩ ⟨_, eb⟩ h o tk p => by subst ea eb; exact toC (sub_fi_fits (fits_int h0 h1) (stay fun _ => ⟨_, rfl⟩))
theorem Ev.absF {func e : Expr} {pos : Pos} {x : UInt64} (hf : Ev prog w s₀ A c (eval func env) (Is (.builtin "abs"))) (he : Ev prog w s₀ A c (eval e env) (VF x))
    (hcall : eval (.Call func [e] [] pos) env = (do callWith pos (← eval func env) [] (backTo pos (starEach [e] env)) (backToKw pos (keywordEach [] env))) := by rfl)
    (hs : starEach [e] env = [(false, eval e env)] := by rfl) : Ev prog w s₀ A c (eval (.Call func [e] [] pos) env) (VF (Float64.abs x)) :=
  Ev.callB hf (Ev.args1 he hs) (fun vs B g u h o tk p => by
    obtain ⟨v, rfl, t, rfl⟩ := u.here
    exact toC (Flt.call_abs_float (stay fun _ _ => ⟨_, rfl⟩))) hcall hs rfl
theorem Ev.intF {func e : Expr} {pos : Pos} {x : UInt64} (hh : A.handled = none) (hf : Ev prog w s₀ A c (eval func env) (Is (.type "int"))) (he : Ev prog w s₀ A c (eval e env) (VF x)) (h1 : Float64.isNaN x = false) (h2 : Float64.isInf x = false)
    (hcall : eval (.Call func [e] [] pos) env = (do callWith pos (← eval func env) [] (backTo pos (starEach [e] env)) (backToKw pos (keywordEach [] env))) := by rfl)
    (hs : starEach [e] env = [(false, eval e env)] := by rfl) : Ev prog w s₀ A c (eval (.Call func [e] [] pos) env) (VI (Flt.toInt Float64.truncOf x)) :=
  Ev.callT hf (Ev.args1 he hs) (fun vs B g u h o tk p => by
    obtain ⟨v, rfl, t, rfl⟩ := u.here
    exact toC (Flt.call_int_float3 hh (fun z => by rw [h1] at z; cases z) (fun z => by rw [h2] at z; cases z) fun _ => stay fun _ _ => ⟨_, rfl⟩)) hcall hs rfl
theorem Ev.truthI {e : Expr} {x : Int} {t : Sem Value} (he : Ev prog w s₀ A c t (VI x)) (hs : isTrue e env t = (do let v ← t; standAt e.pos; PySem.holding [v] (truthy v)) := by rfl) : Ev prog w s₀ A c (isTrue e env t) (Tr (x != 0)) :=
  Ev.plain (V := fun v => ∃ t, v = .int x t) he (fun v ⟨_, e⟩ h o tk p => by subst e; exact toC (PyProof.Rows.truthy_int (stay fun _ => rfl))) hs
end
def f4 (n d : Int) : UInt64 := Float64.div (Float64.abs (Float64.sub (Float64.mul (Float64.div (Float64.ofInt d) (Float64.ofInt (n ^ 2))) (Float64.ofInt 100)) (Float64.ofInt 50))) (Float64.ofInt 5)
def ok4 (n : Int) (d : Nat) : Bool := !Float64.isNaN (f4 n d) && !Float64.isInf (f4 n d) && (Flt.toInt Float64.truncOf (f4 n d) == 10 * (2 * (d : Int) - n * n).natAbs / (n * n))
theorem ok7 : (List.range 50).all (ok4 7) = true := by decide +kernel
theorem ok9 : (List.range 82).all (ok4 9) = true := by decide +kernel
theorem ok11 : (List.range 122).all (ok4 11) = true := by decide +kernel
theorem ok13 : (List.range 170).all (ok4 13) = true := by decide +kernel
end Mine
end QMaskR

section QMask
open PySem PySem.W PySem.Calls PyProof.Rows
set_option linter.unusedVariables false
set_option maxRecDepth 100000
namespace Mine
def bt (c : Bool) : UInt8 := if c then 1 else 0
theorem bt_int (c : Bool) : ((bt c).toNat : Int) = bi c := by cases c <;> rfl
theorem bi_bt (c : Bool) : (bi c).toNat.toUInt8 = bt c := by cases c <;> rfl
theorem bi01 (c : Bool) : 0 ≤ bi c ∧ bi c < 256 := by cases c <;> decide
def bitsA (n : Nat) (g : Nat → Bool) : Array UInt8 := ((List.range n).map fun j => bt (g j)).toArray
theorem bitsA_size (n : Nat) (g : Nat → Bool) : (bitsA n g).size = n := by simp [bitsA]
theorem bitsA_get {n : Nat} (g : Nat → Bool) {j : Nat} (h : j < n) : (bitsA n g)[j]? = some (bt (g j)) := by simp [bitsA, h]
theorem bitsA_of {n : Nat} {g : Nat → Bool} {a : Array UInt8} (hs : a.size = n) (h : ∀ k, k < n → a[k]? = some (bt (g k))) : a = bitsA n g := by
  apply Array.ext
  · rw [hs, bitsA_size]
  · intro i h1 h2
    have e1 := h i (by omega)
    have e2 := bitsA_get g (j := i) (n := n) (by omega)
    rw [Array.getElem?_eq_getElem h1] at e1
    rw [Array.getElem?_eq_getElem h2] at e2
    exact Option.some.inj (e1.trans e2.symm)
theorem bytesOf_bits (n : Nat) (g : Nat → Bool) : bytesOf ((List.range n).map fun j => bi (g j)) = bitsA n g := by
  unfold bytesOf bitsA
  congr 1
  rw [List.map_map]
  apply List.map_congr_left
  intro j _
  exact bi_bt (g j)
/-- a picture: n rows of n bits -/
structure Pic (h : Heap) (M : Addr) (n : Nat) (b : Nat → Nat → Bool) (R : Nat → Addr) : Prop where
  tup : IsTup h M ((List.range n).map fun i => Value.ref (R i)).toArray
  row : ∀ i, i < n → h.get? (R i) = some (ba (bitsA n (b i)))
theorem IsTup.kp {h h' : Heap} {a : Addr} {v : Array Value} (x : IsTup h a v) (g : Kp h h') : IsTup h' a v := let ⟨o, e, r⟩ := x; ⟨o, g _ _ e, r⟩
theorem Pic.keeps {h h' : Heap} {M : Addr} {n : Nat} {b : Nat → Nat → Bool} {R : Nat → Addr} (p : Pic h M n b R) (g : Kp h h') : Pic h' M n b R := ⟨IsTup.kp p.tup g, fun i hi => g _ _ (p.row i hi)⟩

/-- the counters, in plain -/
def prev (g : Nat → Bool) (j : Nat) : Int := if j = 0 then -1 else bi (g (j - 1))
def same (g : Nat → Bool) (j : Nat) : Bool := bi (g j) == prev g j
def pend (c : Int) : Int := if 5 ≤ c then c - 2 else 0
def cnt (g : Nat → Bool) : Nat → Int
  | 0 => 0
  | j + 1 => if same g j then cnt g j + 1 else 1
def fl (g : Nat → Bool) : Nat → Int
  | 0 => 0
  | j + 1 => fl g j + if same g j then 0 else pend (cnt g j)
def dk (g : Nat → Bool) : Nat → Int
  | 0 => 0
  | j + 1 => dk g j + bi (g j)
def sqT (b : Nat → Nat → Bool) (i j : Nat) : Bool :=
  decide (i ≠ 0) && (((j : Int) != 0) && (((bi (b i j) == prev (b i) j) && ((prev (b i) j == bi (b (i - 1) j)) && (bi (b (i - 1) j) == bi (b (i - 1) (j - 1))))) && true))
def s2 (b : Nat → Nat → Bool) (i : Nat) : Nat → Int
  | 0 => 0
  | j + 1 => s2 b i j + if sqT b i j then 3 else 0
def colOf (b : Nat → Nat → Bool) (i : Nat) : Nat → Bool := fun k => b k i
def occV (n : Nat) (g : Nat → Bool) : Int := occFrom (bitsA n g) n 20 (findAt (bitsA n g) patB 0)
def S1 (b : Nat → Nat → Bool) (n : Nat) : Nat → Int
  | 0 => 0
  | i + 1 => S1 b n i + (fl (b i) n + pend (cnt (b i) n)) + (fl (colOf b i) n + pend (cnt (colOf b i) n))
def S2 (b : Nat → Nat → Bool) (n : Nat) : Nat → Int
  | 0 => 0
  | i + 1 => S2 b n i + s2 b i n
def S3 (b : Nat → Nat → Bool) (n : Nat) : Nat → Int
  | 0 => 0
  | i + 1 => S3 b n i + occV n (b i) + occV n (colOf b i)
def Dk (b : Nat → Nat → Bool) (n : Nat) : Nat → Int
  | 0 => 0
  | i + 1 => Dk b n i + dk (b i) n

def forBody : Stmt → List Stmt
  | .For _ _ b _ _ => b
  | _ => []
def outerBody : List Stmt := forBody ((top 2).2.1.getD 11 (.Pass ⟨0, 0, 0, 0⟩))
def innerBody : List Stmt := forBody (outerBody.getD 5 (.Pass ⟨0, 0, 0, 0⟩))
abbrev eM (L : Addr) (cdv : Value) : Env := envX (Str.ofString "mask_scores") (top 2).2.2 L aMask cdv [(Str.ofString "qr_size", L + 2), (Str.ofString "n3_pattern", L + 1)]
abbrev rhoO (M f s1 s2 s3 r d last col : Value) : List (Str × Value) :=
  [(Str.ofString "matrix", M), (Str.ofString "n3_pattern_occurrences", f), (Str.ofString "score_n1", s1), (Str.ofString "score_n2", s2), (Str.ofString "score_n3", s3), (Str.ofString "qr_module_range", r), (Str.ofString "dark_module_counter", d), (Str.ofString "last_row", last), (Str.ofString "n3_column", col)]
abbrev rhoI (M f s1 s2 s3 r d last col i row prp pcp cr cc : Value) : List (Str × Value) :=
  rhoO M f s1 s2 s3 r d last col ++ [(Str.ofString "i", i), (Str.ofString "row", row), (Str.ofString "row_prev_bit", prp), (Str.ofString "col_prev_bit", pcp), (Str.ofString "n1_row_counter", cr), (Str.ofString "n1_col_counter", cc)]
abbrev rhoB (M f s1 s2 s3 r d last col i row prp pcp cr cc j rb cb : Value) : List (Str × Value) :=
  rhoI M f s1 s2 s3 r d last col i row prp pcp cr cc ++ [(Str.ofString "j", j), (Str.ofString "row_current_bit", rb), (Str.ofString "col_current_bit", cb)]

section
variable {prog : Program} {w : World} {s₀ : Shared} {A : Around} {c : Cx} {env : Env}
theorem Ev.itemBit {value slice : Expr} {pos : Pos} {a : Addr} {n : Nat} {g : Nat → Bool} {k : Nat} (hv : Ev prog w s₀ A c (eval value env) (Is (.ref a))) (hb : ∀ h, c.Ok h → h.get? a = some (ba (bitsA n g)))
    (hi : Ev prog w s₀ A c (eval slice env) (VI k)) (hk : k < n) (hn : n ≤ 13)
    (hs : ∀ u, subscripted slice false (.ref a) (.int k u) = operate [.ref a, .int k u] (getItem (.ref a) (.int k u)) := by intro _; with_unfolding_all rfl) : Ev prog w s₀ A c (eval (.Subscript value slice pos) env) (VI (bi (g k))) :=
  (Ev.itemB hv hb hi (by omega) (by omega) (bitsA_get g (by simpa using hk)) hs).mono fun v H ⟨t, e⟩ => ⟨t, by rw [e, bt_int]; simp⟩
theorem Ev.itemPic {value slice : Expr} {pos : Pos} {M : Addr} {n : Nat} {R : Nat → Addr} {k : Nat} (hv : Ev prog w s₀ A c (eval value env) (Is (.ref M))) (hb : ∀ h, c.Ok h → IsTup h M ((List.range n).map fun i => Value.ref (R i)).toArray)
    (hi : Ev prog w s₀ A c (eval slice env) (VI k)) (hk : k < n) (hn : n ≤ 13)
    (hs : ∀ u, subscripted slice false (.ref M) (.int k u) = operate [.ref M, .int k u] (getItem (.ref M) (.int k u)) := by intro _; with_unfolding_all rfl) : Ev prog w s₀ A c (eval (.Subscript value slice pos) env) (Is (.ref (R k))) :=
  Ev.itemT hv hb hi (by omega) (by simp [hk]) (by simp; omega) hs

set_option maxHeartbeats 4000000 in
theorem inner_turn {B : Heap} {L M f r col : Addr} {n i j : Nat} {b : Nat → Nat → Bool} {R : Nat → Addr} {μt : List (Addr × Obj)} {arr : Array UInt8} {cdv : Value} {t1 t2 t4 ti tp tq tr tc tj : Tok} {v3 lastV : Value}
    (hhi : n ≤ 13) (pic : Pic B M n b R) (hi : i < n) (hj : j < n) (hsz : arr.size = n) (harr : ∀ k, k < j → arr[k]? = some (bt (b k i))) (hlast : (i = 0 ∧ lastV = .none) ∨ (0 < i ∧ lastV = .ref (R (i - 1)))) :
    Ex prog w s₀ A ⟨B, L, setL (Str.ofString "j") (.int j tj) (rhoI (.ref M) (.ref f) (.int (S1 b n i + fl (b i) j + fl (colOf b i) j) t1) (.int (S2 b n i + s2 b i j) t2) v3 (.ref r) (.int (Dk b n i + dk (b i) j) t4) lastV (.ref col) (.int i ti) (.ref (R i)) (.int (prev (b i) j) tp) (.int (prev (colOf b i) j) tq) (.int (cnt (b i) j) tr) (.int (cnt (colOf b i) j) tc)), (col, ba arr) :: μt⟩
      (execs innerBody (eM L cdv)) (fun fl' h => fl' = .next ∧ ∃ ρ' μ', (∃ t1 t2 t4 tp tq tr tc arr', ρ' = rhoI (.ref M) (.ref f) (.int (S1 b n i + fl (b i) (j + 1) + fl (colOf b i) (j + 1)) t1) (.int (S2 b n i + s2 b i (j + 1)) t2) v3 (.ref r) (.int (Dk b n i + dk (b i) (j + 1)) t4) lastV (.ref col) (.int i ti) (.ref (R i)) (.int (prev (b i) (j + 1)) tp) (.int (prev (colOf b i) (j + 1)) tq) (.int (cnt (b i) (j + 1)) tr) (.int (cnt (colOf b i) (j + 1)) tc) ∧
        μ' = (col, ba arr') :: μt ∧ arr'.size = n ∧ ∀ k, k < j + 1 → arr'[k]? = some (bt (b k i))) ∧ μ'.map (·.1) = col :: μt.map (·.1) ∧ Cx.Ok ⟨B, L, ρ', μ'⟩ h) := by
  have vRow : ∀ k, k < n → ∀ ρ μ h', Cx.Ok ⟨B, L, ρ, μ⟩ h' → h'.get? (R k) = some (ba (bitsA n (b k))) := fun k hk ρ μ h' o => o.keep _ _ (pic.row k hk)
  have vTup : ∀ ρ μ h', Cx.Ok ⟨B, L, ρ, μ⟩ h' → IsTup h' M ((List.range n).map fun i => Value.ref (R i)).toArray := fun ρ μ h' o => IsTup.kp pic.tup o.keep
  refine Ex.assignI (Ev.itemBit (Ev.local rfl) (vRow i hi _ _) (Ev.isInt (Ev.local rfl)) hj hhi) fun trb => ?_
  refine Ex.assignI (Ev.itemBit (g := b j) (Ev.itemPic (Ev.local rfl) (vTup _ _) (Ev.isInt (Ev.local rfl)) hj hhi) (vRow j hj _ _) (Ev.isInt (Ev.local rfl)) hi hhi) fun tcb => ?_
  refine Ex.setItemB (b := arr) [] μt rfl (Ev.isInt (Ev.local rfl)) (Ev.local rfl) (Ev.isInt (Ev.local rfl)) (by omega) (by omega) (by omega) (bi01 _).1 (bi01 _).2 ?_
  refine Ex.augI rfl (Ev.isInt (Ev.local rfl)) fun t4' => ?_
  rw [bi_bt, show Dk b n i + dk (b i) j + bi (b i j) = Dk b n i + dk (b i) (j + 1) from by show _ = Dk b n i + (dk (b i) j + bi (b i j)); omega]
  have harr' : ∀ k, k < j + 1 → (arr.setIfInBounds ((j : Int)).toNat (bt (b j i)))[k]? = some (bt (b k i)) := fun k hk => by
    simp only [Int.toNat_natCast]
    by_cases e : k = j
    · subst e; simp [hsz, hj]
    · rw [Array.getElem?_setIfInBounds_ne (by omega)]; exact harr k (by omega)
  have hsz' : (arr.setIfInBounds ((j : Int)).toNat (bt (b j i))).size = n := by simp [hsz]
  generalize arr.setIfInBounds ((j : Int)).toNat (bt (b j i)) = arr' at harr' hsz'
  -- the row's counter
  refine Ex.ifJ (b := same (b i) j) (J := fun ρ => ∃ t1 tr, ρ = rhoB (.ref M) (.ref f) (.int (S1 b n i + fl (b i) (j + 1) + fl (colOf b i) j) t1) (.int (S2 b n i + s2 b i j) t2) v3 (.ref r) (.int (Dk b n i + dk (b i) (j + 1)) t4') lastV (.ref col) (.int i ti) (.ref (R i)) (.int (prev (b i) j) tp) (.int (prev (colOf b i) j) tq) (.int (cnt (b i) (j + 1)) tr) (.int (cnt (colOf b i) j) tc) (.int j tj) (.int (bi (b i j)) trb) (.int (bi (b j i)) tcb)) ?_ (fun hs => ?_) (fun hs => ?_) ?_
  · exact Ev.eqI (Ev.isInt (Ev.local rfl)) (Ev.isInt (Ev.local rfl))
  · have e1 : fl (b i) (j + 1) = fl (b i) j := by show fl (b i) j + (if same (b i) j then 0 else _) = _; rw [hs]; simp
    have e2 : cnt (b i) (j + 1) = cnt (b i) j + 1 := by show (if same (b i) j then _ else _) = _; rw [hs]; rfl
    rw [e1, e2]
    refine Ex.augI rfl Ev.int fun tr' => ?_
    exact Ex.joinEnd _ (by repeat (first | exact trivial | refine ⟨rfl, ?_⟩)) ⟨t1, tr', rfl⟩
  · have e1 : fl (b i) (j + 1) = fl (b i) j + pend (cnt (b i) j) := by show fl (b i) j + (if same (b i) j then 0 else _) = _; rw [hs]; rfl
    have e2 : cnt (b i) (j + 1) = 1 := by show (if same (b i) j then _ else _) = _; rw [hs]; rfl
    rw [e1, e2]
    refine Ex.ifS (b := decide ((5 : Int) ≤ cnt (b i) j)) (Ev.geI (Ev.isInt (Ev.local rfl)) Ev.int) (fun h5 => ?_) (fun h5 => Ex.nilThen ?_)
    · have hp : pend (cnt (b i) j) = cnt (b i) j - 2 := if_pos (by simpa using h5)
      rw [hp, show S1 b n i + (fl (b i) j + (cnt (b i) j - 2)) + fl (colOf b i) j = S1 b n i + fl (b i) j + fl (colOf b i) j + (cnt (b i) j - 2) by omega]
      refine Ex.augI rfl (Ev.sub (Ev.isInt (Ev.local rfl)) Ev.int) fun t1' => Ex.nilThen ?_
      refine Ex.assignI Ev.int fun tr' => ?_
      exact Ex.joinEnd _ (by repeat (first | exact trivial | refine ⟨rfl, ?_⟩)) ⟨t1', tr', rfl⟩
    · have hp : pend (cnt (b i) j) = 0 := if_neg (by simpa using h5)
      rw [hp, Int.add_zero]
      refine Ex.assignI Ev.int fun tr' => ?_
      exact Ex.joinEnd _ (by repeat (first | exact trivial | refine ⟨rfl, ?_⟩)) ⟨t1, tr', rfl⟩
  rintro _ ⟨t1, tr, rfl⟩
  -- the column's counter
  refine Ex.ifJ (b := same (colOf b i) j) (J := fun ρ => ∃ t1 tc, ρ = rhoB (.ref M) (.ref f) (.int (S1 b n i + fl (b i) (j + 1) + fl (colOf b i) (j + 1)) t1) (.int (S2 b n i + s2 b i j) t2) v3 (.ref r) (.int (Dk b n i + dk (b i) (j + 1)) t4') lastV (.ref col) (.int i ti) (.ref (R i)) (.int (prev (b i) j) tp) (.int (prev (colOf b i) j) tq) (.int (cnt (b i) (j + 1)) tr) (.int (cnt (colOf b i) (j + 1)) tc) (.int j tj) (.int (bi (b i j)) trb) (.int (bi (b j i)) tcb)) ?_ (fun hs => ?_) (fun hs => ?_) ?_
  · exact Ev.eqI (Ev.isInt (Ev.local rfl)) (Ev.isInt (Ev.local rfl))
  · have e1 : fl (colOf b i) (j + 1) = fl (colOf b i) j := by show fl (colOf b i) j + (if same (colOf b i) j then 0 else _) = _; rw [hs]; simp
    have e2 : cnt (colOf b i) (j + 1) = cnt (colOf b i) j + 1 := by show (if same (colOf b i) j then _ else _) = _; rw [hs]; rfl
    rw [e1, e2]
    refine Ex.augI rfl Ev.int fun tr' => ?_
    exact Ex.joinEnd _ (by repeat (first | exact trivial | refine ⟨rfl, ?_⟩)) ⟨t1, tr', rfl⟩
  · have e1 : fl (colOf b i) (j + 1) = fl (colOf b i) j + pend (cnt (colOf b i) j) := by show fl (colOf b i) j + (if same (colOf b i) j then 0 else _) = _; rw [hs]; rfl
    have e2 : cnt (colOf b i) (j + 1) = 1 := by show (if same (colOf b i) j then _ else _) = _; rw [hs]; rfl
    rw [e1, e2]
    refine Ex.ifS (b := decide ((5 : Int) ≤ cnt (colOf b i) j)) (Ev.geI (Ev.isInt (Ev.local rfl)) Ev.int) (fun h5 => ?_) (fun h5 => Ex.nilThen ?_)
    · have hp : pend (cnt (colOf b i) j) = cnt (colOf b i) j - 2 := if_pos (by simpa using h5)
      rw [hp, ← Int.add_assoc (S1 b n i + fl (b i) (j + 1))]
      refine Ex.augI rfl (Ev.sub (Ev.isInt (Ev.local rfl)) Ev.int) fun t1' => Ex.nilThen ?_
      refine Ex.assignI Ev.int fun tr' => ?_
      exact Ex.joinEnd _ (by repeat (first | exact trivial | refine ⟨rfl, ?_⟩)) ⟨t1', tr', rfl⟩
    · have hp : pend (cnt (colOf b i) j) = 0 := if_neg (by simpa using h5)
      rw [hp, Int.add_zero]
      refine Ex.assignI Ev.int fun tr' => ?_
      exact Ex.joinEnd _ (by repeat (first | exact trivial | refine ⟨rfl, ?_⟩)) ⟨t1, tr', rfl⟩
  rintro _ ⟨t1, tc, rfl⟩
  -- the squares
  refine Ex.ifJ (b := sqT b i j) (J := fun ρ => ∃ t2, ρ = rhoB (.ref M) (.ref f) (.int (S1 b n i + fl (b i) (j + 1) + fl (colOf b i) (j + 1)) t1) (.int (S2 b n i + s2 b i (j + 1)) t2) v3 (.ref r) (.int (Dk b n i + dk (b i) (j + 1)) t4') lastV (.ref col) (.int i ti) (.ref (R i)) (.int (prev (b i) j) tp) (.int (prev (colOf b i) j) tq) (.int (cnt (b i) (j + 1)) tr) (.int (cnt (colOf b i) (j + 1)) tc) (.int j tj) (.int (bi (b i j)) trb) (.int (bi (b j i)) tcb)) ?_ (fun hs => ?_) (fun hs => ?_) ?_
  · unfold sqT
    refine Ev.and ?_ fun hb => ?_
    · rcases hlast with ⟨e, rfl⟩ | ⟨e, rfl⟩
      · refine Ev.plain (V := fun v => v = .none) (Ev.local rfl) ?_
        rintro v rfl h o tk p
        exact c_of_eq (a := false) rfl (by rw [e]; exact stay fun _ => rfl)
      · refine Ev.plain (V := fun v => v = .ref (R (i - 1))) (Ev.local rfl) ?_
        rintro v rfl h o tk p
        refine toC (truthy_ba (vRow (i - 1) (by omega) _ _ h o) (by rw [bitsA_size]; omega) (by rw [bitsA_size]; omega) ?_)
        rw [show decide (i ≠ 0) = true from decide_eq_true (by omega)]
        exact ⟨h, _, rfl, Kp.refl h, Nat.le_refl _, fun _ _ => rfl⟩
    · have hi0 : i ≠ 0 := by simpa using hb
      obtain ⟨h0, rfl⟩ : 0 < i ∧ lastV = .ref (R (i - 1)) := by
        rcases hlast with ⟨e, _⟩ | e
        · exact absurd e hi0
        · exact e
      refine Ev.and (Ev.truthI (Ev.isInt (Ev.local rfl))) fun hb2 => ?_
      have hj0 : j ≠ 0 := by
        intro e; subst e; simp at hb2
      refine Ev.and ?_ fun _ => Ev.andNil
      refine Ev.chain3 (Ev.isInt (Ev.local rfl)) (Ev.isInt (Ev.local rfl)) ?_ ?_
      · exact Ev.itemBit (g := b (i - 1)) (Ev.local rfl) (vRow (i - 1) (by omega) _ _) (Ev.isInt (Ev.local rfl)) hj hhi
      · have hjc : ((j - 1 : Nat) : Int) = (j : Int) - 1 := by omega
        refine Ev.itemBit (g := b (i - 1)) (k := j - 1) (Ev.local rfl) (vRow (i - 1) (by omega) _ _) ?_ (by omega) hhi
        rw [hjc]
        exact Ev.sub (Ev.isInt (Ev.local rfl)) Ev.int
  · have e1 : s2 b i (j + 1) = s2 b i j + 3 := by show s2 b i j + (if sqT b i j then _ else _) = _; rw [hs]; rfl
    rw [e1, ← Int.add_assoc]
    refine Ex.augI rfl Ev.int fun t2' => ?_
    exact Ex.joinEnd _ (by repeat (first | exact trivial | refine ⟨rfl, ?_⟩)) ⟨t2', rfl⟩
  · have e1 : s2 b i (j + 1) = s2 b i j := by show s2 b i j + (if sqT b i j then _ else _) = _; rw [hs]; simp
    rw [e1]
    exact Ex.joinEnd _ (by repeat (first | exact trivial | refine ⟨rfl, ?_⟩)) ⟨t2, rfl⟩
  rintro _ ⟨t2, rfl⟩
  refine Ex.assignF (V := fun v => v = .int (bi (b i j)) trb) (Ev.local rfl) ?_
  rintro _ rfl
  refine Ex.assignF (V := fun v => v = .int (bi (b j i)) tcb) (Ev.local rfl) ?_
  rintro _ rfl
  refine Ex.turnEnd (J := fun ρ' μ' => ∃ t1 t2 t4 tp tq tr tc arr', ρ' = _ ∧ μ' = _ ∧ _) _ ?_ ⟨t1, t2, t4', trb, tcb, tr, tc, arr', rfl, rfl, hsz', harr'⟩ rfl (Kp.refl B)
  repeat (first | exact trivial | refine ⟨rfl, ?_⟩)
end
end Mine
end QMask

section QMaskB
open PySem PySem.W PySem.Calls PyProof.Rows
set_option linter.unusedVariables false
set_option maxRecDepth 100000
namespace Mine
section
variable {prog : Program} {w : World} {s₀ : Shared} {A : Around} {c : Cx} {env : Env}
/-- a call of the inner function by its name -/
theorem Ev.callOcc {func e : Expr} {pos : Pos} {f q pt cn cs : Addr} {fo : Obj} {n : Nat} {g : Nat → Bool} {tn : Tok} {doc pm cdv ct : Value} {qn : Str} (am : Amb c.B) (gd : Gd 1 A) (hlo : 7 ≤ n) (hhi : n ≤ 13)
    (ho : c.B.get? f = some fo) (hd : fo.data = .func (fnX innerName qn inner.1 inner.2.1 inner.2.2 [(Str.ofString "qr_size", cs), (Str.ofString "n3_pattern", cn)] .none .none doc pm none cdv ct)) (hc : c.B.CodeRec cdv qn)
    (hpt : c.B.get? pt = some (ba patB)) (hq : ∀ h, c.Ok h → h.get? q = some (ba (bitsA n g))) (hcn : ∀ h, c.Ok h → h.IsCell cn (some (.ref pt))) (hcs : ∀ h, c.Ok h → h.IsCell cs (some (.int n tn)))
    (hf : Ev prog w s₀ A c (eval func env) (Is (.ref f))) (he : Ev prog w s₀ A c (eval e env) (Is (.ref q)))
    (hcall : eval (.Call func [e] [] pos) env = (do callWith pos (← eval func env) [] (backTo pos (starEach [e] env)) (backToKw pos (keywordEach [] env))) := by rfl)
    (hs : starEach [e] env = [(false, eval e env)] := by rfl) : Ev prog w s₀ A c (eval (.Call func [e] [] pos) env) (VI (occV n g)) :=
  Ev.callR hf (fun h o => ⟨fo, _, o.keep _ _ ho, hd⟩) (Ev.args1 he hs) (fun vs B k u h o => by
    obtain ⟨v, rfl, e⟩ := u.here; subst e
    have o' := Cx.Ok.less (c := { c with B := B }) o k
    exact (occ_ok (am.keeps o'.keep) gd hlo hhi (o'.keep _ _ ho) hd (hc.keeps o'.keep) (hq h o') (bitsA_size n g) (o'.keep _ _ hpt) (hcn h o') (hcs h o')).mono fun _ _ q _ => q) hcall hs

theorem Ex.flush {nm sn : Str} {p1 p2 p3 p4 p5 p6 p7 p8 p9 : Pos} {k0 k1 : Nat} {s cv : Int} {ts tc : Tok} {rest : List Stmt} {Q : Flow → Heap → Prop} (hs : c.ρ.lookup sn = some (.int s ts)) (hc : c.ρ.lookup nm = some (.int cv tc))
    (k : ∀ t, Ex prog w s₀ A { c with ρ := setL sn (.int (s + pend cv) t) c.ρ } (execs rest env) Q)
    (hL : env.locals = c.L := by rfl) (hk : env.scope.kind = .function := by rfl) (hx : env.kindOf sn = some .local := by rfl) (hx' : env.kindOf nm = some .local := by rfl) (hd : (nm == ("__debug__" : Str)) = false := by decide) :
    Ex prog w s₀ A c (execs (.If (.Compare (.Name nm p1) [.GtE] [.Constant (.int 5) k0 p2] p3) [.AugAssign (.Name sn p4) .Add (.BinOp (.Name nm p5) .Sub (.Constant (.int 2) k1 p6) p7) p8] [] p9 :: rest) env) Q := by
  refine Ex.ifS (b := decide ((5 : Int) ≤ cv)) (Ev.geI (Ev.isInt (Ev.local hc hL hk hx' hd)) Ev.int) (fun h5 => ?_) (fun h5 => Ex.nilThen ?_)
  · have hp : pend cv = cv - 2 := if_pos (by simpa using h5)
    rw [hp] at k
    exact Ex.augI hs (Ev.sub (Ev.isInt (Ev.local hc hL hk hx' hd)) Ev.int) (fun t => Ex.nilThen (k t)) hL hk hx
  · have hp : pend cv = 0 := if_neg (by simpa using h5)
    rw [hp, Int.add_zero] at k
    refine fun h o => k ts h (o.forget fun y v e => ?_)
    rcases lookup_setL e with ⟨rfl, rfl⟩ | ⟨_, q⟩
    · exact hs
    · exact q

set_option maxHeartbeats 4000000 in
theorem outer_turn {B : Heap} {L M f r col pt : Addr} {fo oS oN : Obj} {n i : Nat} {b : Nat → Nat → Bool} {R : Nat → Addr} {μt : List (Addr × Obj)} {arr : Array UInt8} {cdv cdf doc pm ct : Value} {qn : Str} {t1 t2 t3 t4 ti tn x1 x2 x3 : Tok} {lastV : Value}
    (am : Amb B) (gd : Gd 1 A) (hlo : 7 ≤ n) (hhi : n ≤ 13) (pic : Pic B M n b R) (hi : i < n) (hsz : arr.size = n) (hlast : (i = 0 ∧ lastV = .none) ∨ (0 < i ∧ lastV = .ref (R (i - 1))))
    (hr : IsRange B r 0 n 1 x1 x2 x3)
    (ho : B.get? f = some fo) (hd : fo.data = .func (fnX innerName qn inner.1 inner.2.1 inner.2.2 [(Str.ofString "qr_size", L + 2), (Str.ofString "n3_pattern", L + 1)] .none .none doc pm none cdf ct)) (hc : B.CodeRec cdf qn) (hpt : B.get? pt = some (ba patB))
    (hoS : oS.data = .cell (some (.int n tn))) (hoN : oN.data = .cell (some (.ref pt))) (hμS : (L + 2, oS) ∈ μt) (hμN : (L + 1, oN) ∈ μt) :
    Ex prog w s₀ A ⟨B, L, setL (Str.ofString "i") (.int i ti) (rhoO (.ref M) (.ref f) (.int (S1 b n i) t1) (.int (S2 b n i) t2) (.int (S3 b n i) t3) (.ref r) (.int (Dk b n i) t4) lastV (.ref col)), (col, ba arr) :: μt⟩
      (execs outerBody (eM L cdv)) (fun fl' h => fl' = .next ∧ ∃ ρ' μ', (∃ t1 t2 t3 t4 arr', ρ' = rhoO (.ref M) (.ref f) (.int (S1 b n (i + 1)) t1) (.int (S2 b n (i + 1)) t2) (.int (S3 b n (i + 1)) t3) (.ref r) (.int (Dk b n (i + 1)) t4) (.ref (R i)) (.ref col) ∧
        μ' = (col, ba arr') :: μt ∧ arr'.size = n) ∧ μ'.map (·.1) = col :: μt.map (·.1) ∧ Cx.Ok ⟨B, L, ρ', μ'⟩ h) := by
  have vTup : ∀ ρ μ h', Cx.Ok ⟨B, L, ρ, μ⟩ h' → IsTup h' M ((List.range n).map fun i => Value.ref (R i)).toArray := fun ρ μ h' o => IsTup.kp pic.tup o.keep
  refine Ex.assignF (V := fun v => v = .ref (R i)) (Ev.itemPic (Ev.local rfl) (vTup _ _) (Ev.isInt (Ev.local rfl)) hi hhi) ?_
  rintro _ rfl
  refine Ex.assignI (Ev.neg Ev.int) fun tp => ?_
  refine Ex.assignI (Ev.neg Ev.int) fun tq => ?_
  refine Ex.assignI Ev.int fun tr => ?_
  refine Ex.assignI Ev.int fun tc => ?_
  refine Ex.sub (ρ := rhoI (.ref M) (.ref f) (.int (S1 b n i + fl (b i) 0 + fl (colOf b i) 0) t1) (.int (S2 b n i + s2 b i 0) t2) (.int (S3 b n i) t3) (.ref r) (.int (Dk b n i + dk (b i) 0) t4) lastV (.ref col) (.int i ti) (.ref (R i)) (.int (prev (b i) 0) tp) (.int (prev (colOf b i) 0) tq) (.int (cnt (b i) 0) tr) (.int (cnt (colOf b i) 0) tc)) ?_ ?_
  · have z1 : S1 b n i + fl (b i) 0 + fl (colOf b i) 0 = S1 b n i := by show S1 b n i + 0 + 0 = _; omega
    have z2 : S2 b n i + s2 b i 0 = S2 b n i := Int.add_zero _
    have z3 : Dk b n i + dk (b i) 0 = Dk b n i := Int.add_zero _
    rw [z1, z2, z3]
    repeat (first | exact trivial | refine ⟨rfl, ?_⟩)
  refine Ex.for_ (P := fun k v => ∃ t, v = .int k t) (P₁ := Is (.ref r)) (n := n) (fun j ρ μ => ∃ t1 t2 t4 tp tq tr tc arr', ρ = rhoI (.ref M) (.ref f) (.int (S1 b n i + fl (b i) j + fl (colOf b i) j) t1) (.int (S2 b n i + s2 b i j) t2) (.int (S3 b n i) t3) (.ref r) (.int (Dk b n i + dk (b i) j) t4) lastV (.ref col) (.int i ti) (.ref (R i)) (.int (prev (b i) j) tp) (.int (prev (colOf b i) j) tq) (.int (cnt (b i) j) tr) (.int (cnt (colOf b i) j) tc) ∧
        μ = (col, ba arr') :: μt ∧ arr'.size = n ∧ ∀ k, k < j → arr'[k]? = some (bt (b k i))) (Ev.local rfl) ?_ ?_ ?_ ?_
  · rintro v B' g' u'
    have e := u'.here; subst e
    exact src_range1 gd.hh (by omega) (g' _ _ hr)
  · exact ⟨t1, t2, t4, tp, tq, tr, tc, arr, rfl, rfl, hsz, fun k hk => absurd hk (Nat.not_lt_zero _)⟩
  · rintro j v ρ μ B' hj ⟨tj, rfl⟩ ⟨t1, t2, t4, tp, tq, tr, tc, arr', rfl, rfl, hsz', harr'⟩ _ g'
    exact inner_turn hhi (pic.keeps g') hi hj hsz' harr' hlast
  rintro ρ μ ⟨t1, t2, t4, tp, tq, tr, tc, arr', rfl, rfl, hsz', harr'⟩ _
  have earr : arr' = bitsA n (colOf b i) := bitsA_of hsz' harr'
  subst earr
  have vN : ∀ ρ h', Cx.Ok ⟨B, L, ρ, (col, ba (bitsA n (colOf b i))) :: μt⟩ h' → h'.IsCell (L + 1) (some (.ref pt)) := fun ρ h' o => own_cell (c := ⟨B, L, ρ, (col, ba (bitsA n (colOf b i))) :: μt⟩) (.tail _ hμN) hoN h' o
  have vS : ∀ ρ h', Cx.Ok ⟨B, L, ρ, (col, ba (bitsA n (colOf b i))) :: μt⟩ h' → h'.IsCell (L + 2) (some (.int n tn)) := fun ρ h' o => own_cell (c := ⟨B, L, ρ, (col, ba (bitsA n (colOf b i))) :: μt⟩) (.tail _ hμS) hoS h' o
  have vR : ∀ ρ h', Cx.Ok ⟨B, L, ρ, (col, ba (bitsA n (colOf b i))) :: μt⟩ h' → h'.get? (R i) = some (ba (bitsA n (b i))) := fun ρ h' o => o.keep _ _ (pic.row i hi)
  have vC : ∀ ρ h', Cx.Ok ⟨B, L, ρ, (col, ba (bitsA n (colOf b i))) :: μt⟩ h' → h'.get? col = some (ba (bitsA n (colOf b i))) := fun ρ h' o => o.own _ (.head _)
  refine Ex.assignF (V := fun v => v = .ref (R i)) (Ev.local rfl) ?_
  rintro _ rfl
  refine Ex.augI rfl (Ev.callOcc (g := b i) am gd hlo hhi ho hd hc hpt (vR _) (vN _) (vS _) (Ev.local rfl) (Ev.local rfl)) fun t3' => ?_
  refine Ex.augI rfl (Ev.callOcc (g := colOf b i) am gd hlo hhi ho hd hc hpt (vC _) (vN _) (vS _) (Ev.local rfl) (Ev.local rfl)) fun t3' => ?_
  refine Ex.flush rfl rfl fun t1' => ?_
  refine Ex.flush rfl rfl fun t1' => ?_
  have e1 : S1 b n (i + 1) = S1 b n i + fl (b i) n + fl (colOf b i) n + pend (cnt (b i) n) + pend (cnt (colOf b i) n) := by
    show S1 b n i + (fl (b i) n + pend (cnt (b i) n)) + (fl (colOf b i) n + pend (cnt (colOf b i) n)) = _; omega
  refine Ex.sub (ρ := rhoO (.ref M) (.ref f) (.int (S1 b n i + fl (b i) n + fl (colOf b i) n + pend (cnt (b i) n) + pend (cnt (colOf b i) n)) t1') (.int (S2 b n i + s2 b i n) t2) (.int (S3 b n i + occV n (b i) + occV n (colOf b i)) t3') (.ref r) (.int (Dk b n i + dk (b i) n) t4) (.ref (R i)) (.ref col)) ?_ ?_
  · repeat (first | exact trivial | refine ⟨rfl, ?_⟩)
  · show Ex prog w s₀ A ⟨B, L, _, (col, ba (bitsA n (colOf b i))) :: μt⟩ (execs [] _) _
    rw [e1]
    exact Ex.nil fun h o => ⟨rfl, _, _, ⟨t1', t2, t3', t4, bitsA n (colOf b i), rfl, rfl, bitsA_size _ _⟩, rfl, o⟩
end
end Mine
end QMaskB

section QMaskC
open PySem PySem.W PySem.Calls PyProof.Rows
set_option linter.unusedVariables false
set_option maxRecDepth 100000
namespace Mine
def qnM : Str := qualnameIn (eM 0 .none) innerName innerName
theorem qn_eq (L : Addr) (cdv : Value) : qualnameIn (eM L cdv) innerName innerName = qnM := by unfold qnM; rfl
def n4 (n : Nat) : Prop := n = 7 ∨ n = 9 ∨ n = 11 ∨ n = 13
theorem n4.lo {n : Nat} (h : n4 n) : 7 ≤ n := by rcases h with rfl | rfl | rfl | rfl <;> decide
theorem n4.hi {n : Nat} (h : n4 n) : n ≤ 13 := by rcases h with rfl | rfl | rfl | rfl <;> decide
theorem dk_in (g : Nat → Bool) : ∀ j, 0 ≤ dk g j ∧ dk g j ≤ j
  | 0 => ⟨Int.le_refl _, Int.le_refl _⟩
  | j + 1 => by
    have ih := dk_in g j
    have e : dk g (j + 1) = dk g j + bi (g j) := rfl
    have h2 : 0 ≤ bi (g j) ∧ bi (g j) ≤ 1 := by cases g j <;> decide
    rw [e]; omega
theorem Dk_in (b : Nat → Nat → Bool) (n : Nat) : ∀ i, 0 ≤ Dk b n i ∧ Dk b n i ≤ i * n
  | 0 => ⟨Int.le_refl _, by simp [Dk]⟩
  | i + 1 => by
    have ih := Dk_in b n i
    have e : Dk b n (i + 1) = Dk b n i + dk (b i) n := rfl
    have h2 := dk_in (b i) n
    rw [e]
    have e2 : ((i + 1 : Nat) : Int) * n = i * n + n := by rw [Int.natCast_add, Int.add_mul]; simp
    rw [e2]; omega
theorem share_ok {n : Nat} {d : Int} (h4 : n4 n) (h0 : 0 ≤ d) (h1 : d ≤ (n : Int) * n) : Float64.isNaN (f4 n d) = false ∧ Float64.isInf (f4 n d) = false ∧ Flt.toInt Float64.truncOf (f4 n d) = 10 * (2 * d - (n : Int) * n).natAbs / ((n : Int) * n) := by
  obtain ⟨k, rfl⟩ := Int.eq_ofNat_of_zero_le h0
  have key : ok4 n k = true := by
    rcases h4 with rfl | rfl | rfl | rfl
    · exact List.all_eq_true.mp ok7 k (List.mem_range.mpr (by omega))
    · exact List.all_eq_true.mp ok9 k (List.mem_range.mpr (by omega))
    · exact List.all_eq_true.mp ok11 k (List.mem_range.mpr (by omega))
    · exact List.all_eq_true.mp ok13 k (List.mem_range.mpr (by omega))
  unfold ok4 at key
  simp only [Bool.and_eq_true, Bool.not_eq_true', beq_iff_eq] at key
  exact ⟨key.1.1, key.1.2, key.2⟩
def shareV (b : Nat → Nat → Bool) (n : Nat) : Int := 10 * (10 * (2 * Dk b n n - (n : Int) * n).natAbs / ((n : Int) * n))
structure AmbM (h : Heap) : Prop where
  fn : FnC h aMask 2 (Str.ofString "mask_scores") (.ref 27)
  hd : CodeHd h 27 23
  bi : ∃ mg, h.Ns mainGlobals mg ∧ h.BuiltinsAt mg 23
theorem AmbM.keeps {h h' : Heap} (m : AmbM h) (g : Kp h h') : AmbM h' := ⟨m.fn.keeps g, m.hd.keeps g, let ⟨mg, a, b⟩ := m.bi; ⟨mg, a.keeps g, b.keeps g⟩⟩

section
variable {prog : Program} {w : World} {s₀ : Shared} {A : Around} {c : Cx} {env : Env}
theorem Ex.retG {e : Expr} {pos : Pos} {rest : List Stmt} {P' : Value → Heap → Prop} {Q : Value → Heap → Prop} (he : Ev prog w s₀ A c (eval e env) P')
    (k : ∀ v h h₁, c.Ok h → c.Ok h₁ → Kp h h₁ → (∀ H, New h h₁ H → P' v H) → Q v h₁) : Ex prog w s₀ A c (execs (.Return (some e) pos :: rest) env) (fun f h' => ∃ v, f = .ret v ∧ Q v h') := Ex.cons fun h o tk p =>
  c_Return_some ((he h o).use (fun v h₁ tk₁ z ⟨g₁, z₁, p₁⟩ => ⟨h₁, tk₁, rfl, v, rfl, k v h h₁ o (o.grow g₁) g₁ p₁⟩) tk p)
set_option maxHeartbeats 4000000 in
theorem mask_core {h B : Heap} {ps : Array Value} {M : Addr} {R : Nat → Addr} {b : Nat → Nat → Bool} {n : Nat} {tw th : Tok} (am : Amb B) (amM : AmbM B) (hB : Kp B h) (hP : h.get? 23 = some (tabObj ps)) (hBP : B.get? 23 = none)
    (htab : ps = #[] ∨ ∃ c', ps = #[rawInt (7 : Nat), rawInt (4 : Nat), .ref c'] ∧ B.CodeRec (.ref c') qnM) (gd : Gd 2 A) (h4 : n4 n) (pic : Pic B M n b R) :
    Hp prog w s₀ A (call (.ref aMask) [.ref M, .int n tw, .int n th]) (fun v h' => Kp B h' ∧ (∃ ps', h'.get? 23 = some (tabObj ps') ∧ (∃ c', ps' = #[rawInt (7 : Nat), rawInt (4 : Nat), .ref c'] ∧ h'.CodeRec (.ref c') qnM) ∧ (ps ≠ #[] → ps' = ps)) ∧
      ∃ D vs, v = .ref D ∧ h'.get? D = some (tup vs 0) ∧ h.objs.size ≤ D ∧ IntsAre vs [S1 b n n, S2 b n n, S3 b n n, shareV b n]) h := by
  have hlo := h4.lo
  have hhi := h4.hi
  refine Hp.callKB (B := B) (μ₀ := [(23, tabObj ps)]) (binds := [(Str.ofString "matrix", .ref M), (Str.ofString "width", .int n tw), (Str.ofString "height", .int n th)]) (ρ := [(Str.ofString "matrix", .ref M), (Str.ofString "width", .int n tw), (Str.ofString "height", .int n th)])
    (amM.fn.keeps hB) (am.lim.keeps hB) (by have := gd.dp; omega) hB (fun q hq => by rw [List.mem_singleton.mp hq]; exact ⟨hP, hBP⟩) (by simp) (fun _ _ _ _ _ => rfl) (fun _ _ => ⟨rfl, rfl, rfl, trivial⟩) (fun _ _ _ => rfl) (locs rfl) (by decide) rfl rfl rfl fun L g hL hg => ?_
  have hgS : (g (L + 2)).data = .cell none := hg (Str.ofString "qr_size", L + 2) (.head _)
  have hgN : (g (L + 1)).data = .cell none := hg (Str.ofString "n3_pattern", L + 1) (.tail _ (.head _))
  have gd₁ : Gd 1 (A.deeper (eM L (.ref 27))) := gd.deeper _
  show Ex prog w s₀ (A.deeper (eM L (.ref 27))) ⟨B, L, _, [(L + 2, g (L + 2)), (L + 1, g (L + 1)), (23, tabObj ps)]⟩ (execs (top 2).2.1 (eM L (.ref 27))) _
  refine Ex.assignC (a := L + 1) (P := fun v H => ∃ a, v = .ref a ∧ H.get? a = some (ba patB)) [(L + 2, g (L + 2))] [(23, tabObj ps)] rfl hgN ?_ ?_
  · refine Ev.baNew (ns := [1, 0, 1, 1, 1, 0, 1]) (P₁ := fun v H => ∃ a vs, v = .ref a ∧ H.get? a = some (tup vs 0) ∧ IntsAre vs [1, 0, 1, 1, 1, 0, 1]) (Ev.blt am rfl) ?_ ?_ (by decide) (by decide)
    · exact Ev.tupleI (Ev.intsCons Ev.int (Ev.intsCons Ev.int (Ev.intsCons Ev.int (Ev.intsCons Ev.int (Ev.intsCons Ev.int (Ev.intsCons Ev.int (Ev.intsCons Ev.int Ev.intsNil))))))) (by decide)
    · rintro v B' g' u'
      obtain ⟨a, vs, rfl, ha, hI⟩ := u'.here
      exact ⟨a, "tuple", vs.toArray, 0, rfl, .inr rfl, hI, fun h o => ⟨_, o.keep _ _ ha, rfl, rfl⟩⟩
  rintro _ B₁ oN g₁ up₁ hoN
  obtain ⟨pt, rfl, hpt⟩ := up₁.here
  obtain ⟨mg, hmg, hbl⟩ := amM.bi
  refine Ex.nestDef (ps := ps) (P := 23) (cc := 27) (mg := mg) (clos := [(Str.ofString "qr_size", L + 2), (Str.ofString "n3_pattern", L + 1)]) [(L + 2, g (L + 2)), (L + 1, oN)] [] rfl ?_ (hmg.keeps g₁) rfl (amM.hd.keeps g₁) (hbl.keeps g₁) (by decide) rfl ?_
  · rcases htab with e | ⟨c', e, q⟩
    · exact .inl e
    · exact .inr ⟨c', e, q.keeps g₁⟩
  intro f c' doc pm ctv B₂ ps' g₂ hf hcr hps hkeep
  have am₂ : Amb B₂ := am.keeps (g₁.trans g₂)
  refine Ex.assignI Ev.int fun t1 => ?_
  refine Ex.assignI Ev.int fun t2 => ?_
  refine Ex.assignI Ev.int fun t3 => ?_
  refine Ex.assertS ?_ ?_
  · refine Ev.mono (P := Tr ((n : Int) == (n : Int))) ?_ fun v H e => ?_
    · exact Ev.eqI (Ev.isInt (Ev.local rfl)) (Ev.isInt (Ev.local rfl))
    · rw [show v = ((n : Int) == n) from e]; exact beq_self_eq_true _
  refine Ex.assignC (a := L + 2) (P := Is (.int n tw)) [] [(L + 1, oN), (23, tabObj ps')] rfl hgS (Ev.local rfl) ?_
  rintro _ B₃ oS g₃ up₃ hoS
  have e := up₃.here; subst e
  have vS : ∀ B' ρ μ h', Cx.Ok ⟨B', L, ρ, (L + 2, oS) :: μ⟩ h' → h'.IsCell (L + 2) (some (.int n tw)) := fun B' ρ μ h' o => own_cell (c := ⟨B', L, ρ, (L + 2, oS) :: μ⟩) (.head _) hoS h' o
  have am₃ : Amb B₃ := am₂.keeps g₃
  refine Ex.assign (Ev.range1 (n := n) (Ev.blt am₃ rfl) (Ev.isInt (u := tw) (Ev.cell (a := L + 2) (vS _ _ _)))) ?_
  rintro _ B₄ g₄ up₄
  obtain ⟨r, x1, x2, x3, rfl, hr⟩ := up₄.here
  have am₄ : Amb B₄ := am₃.keeps g₄
  refine Ex.assignI Ev.int fun t4 => ?_
  refine Ex.assignF (V := fun v => v = .none) Ev.cNone ?_
  rintro _ rfl
  refine Ex.assignOwn (Φ := fun o => o = ba (Array.replicate n 0)) ?_ ?_
  · refine (Ev.baInt (n := n) (Ev.blt am₄ rfl) (Ev.isInt (u := tw) (Ev.cell (a := L + 2) (vS _ _ _))) (by omega) (by omega)).mono ?_
    rintro v H ⟨a, o, e1, e2, e3⟩
    exact ⟨a, o, e1, e2, by rw [e3]; simp⟩
  rintro col _ hcolL rfl
  have kall : Kp B B₄ := g₁.trans (g₂.trans (g₃.trans g₄))
  have k24 : Kp B₂ B₄ := g₃.trans g₄
  refine Ex.sub (ρ := rhoO (.ref M) (.ref f) (.int (S1 b n 0) t1) (.int (S2 b n 0) t2) (.int (S3 b n 0) t3) (.ref r) (.int (Dk b n 0) t4) .none (.ref col)) ?_ ?_
  · repeat (first | exact trivial | refine ⟨rfl, ?_⟩)
  show Ex prog w s₀ (A.deeper (eM L (.ref 27))) ⟨B₄, L, rhoO (.ref M) (.ref f) (.int (S1 b n 0) t1) (.int (S2 b n 0) t2) (.int (S3 b n 0) t3) (.ref r) (.int (Dk b n 0) t4) .none (.ref col), (col, ba (Array.replicate n 0)) :: [(L + 2, oS), (L + 1, oN), (23, tabObj ps')]⟩ _ _
  have pic₄ := pic.keeps kall
  have hfd := k24 _ _ hf
  have hcr₄ := hcr.keeps k24
  have hpt₄ := (g₂.trans k24) _ _ hpt
  refine Ex.for_ (P := fun k v => ∃ t, v = .int k t) (P₁ := Is (.ref r)) (n := n) (fun i ρ μ => ∃ t1 t2 t3 t4 arr lastV, ρ = rhoO (.ref M) (.ref f) (.int (S1 b n i) t1) (.int (S2 b n i) t2) (.int (S3 b n i) t3) (.ref r) (.int (Dk b n i) t4) lastV (.ref col) ∧
        μ = (col, ba arr) :: [(L + 2, oS), (L + 1, oN), (23, tabObj ps')] ∧ arr.size = n ∧ ((i = 0 ∧ lastV = .none) ∨ (0 < i ∧ lastV = .ref (R (i - 1))))) (Ev.local rfl) ?_ ?_ ?_ ?_
  · rintro v B' g' u'
    have e := u'.here; subst e
    exact src_range1 gd₁.hh (by omega) (g' _ _ hr)
  · exact ⟨t1, t2, t3, t4, _, _, rfl, rfl, by simp, .inl ⟨rfl, rfl⟩⟩
  · rintro i v ρ μ B' hi ⟨ti, rfl⟩ ⟨t1, t2, t3, t4, arr, lastV, rfl, rfl, hsz, hlast⟩ _ g'
    refine Ex.mono (outer_turn (am₄.keeps g') gd₁ hlo hhi (pic₄.keeps g') hi hsz hlast (g' _ _ hr) (g' _ _ hfd) rfl (hcr₄.keeps g') (g' _ _ hpt₄) hoS hoN (.head _) (.tail _ (.head _))) ?_
    rintro fl' h' ⟨e, ρ', μ', ⟨t1, t2, t3, t4, arr', e1, e2, e3⟩, e4, ok⟩
    exact ⟨e, ρ', μ', ⟨t1, t2, t3, t4, arr', _, e1, e2, e3, .inr ⟨Nat.succ_pos i, rfl⟩⟩, e4, ok⟩
  rintro ρ μ ⟨t1, t2, t3, t4, arr, lastV, rfl, rfl, hsz, hlast⟩ _
  show Ex prog w s₀ (A.deeper (eM L (.ref 27))) ⟨B₄, L, rhoO (.ref M) (.ref f) (.int (S1 b n n) t1) (.int (S2 b n n) t2) (.int (S3 b n n) t3) (.ref r) (.int (Dk b n n) t4) lastV (.ref col), (col, ba arr) :: [(L + 2, oS), (L + 1, oN), (23, tabObj ps')]⟩ _ _
  have vS' : ∀ ρ h', Cx.Ok ⟨B₄, L, ρ, (col, ba arr) :: [(L + 2, oS), (L + 1, oN), (23, tabObj ps')]⟩ h' → h'.IsCell (L + 2) (some (.int n tw)) := fun ρ h' o => own_cell (c := ⟨B₄, L, ρ, (col, ba arr) :: [(L + 2, oS), (L + 1, oN), (23, tabObj ps')]⟩) (.tail _ (.head _)) hoS h' o
  have hDk := Dk_in b n n
  have hnn : (n : Int) * n ≤ 1000 := by rcases h4 with rfl | rfl | rfl | rfl <;> decide
  have hpw : (n : Int) ^ 2 ≤ 1000 ∧ 0 < (n : Int) ^ 2 := by rcases h4 with rfl | rfl | rfl | rfl <;> decide
  have hib : (Builtin.Int.intBits n : Int) * 2 ≤ 2 ^ 27 := by rcases h4 with rfl | rfl | rfl | rfl <;> decide
  obtain ⟨q1, q2, q3⟩ := share_ok h4 hDk.1 hDk.2
  refine Ex.assignF (V := fun v => ∃ t, v = .float (Float64.div (Float64.ofInt (Dk b n n)) (Float64.ofInt ((n : Int) ^ 2))) t) ?_ ?_
  · refine Ev.divFI (Ev.floatI (Ev.blt am₄ rfl) (Ev.isInt (Ev.local rfl)) hDk.1 (by omega)) ?_ hpw.2 hpw.1
    exact Ev.pow (x := n) (y := 2) (Ev.isInt (u := tw) (Ev.cell (a := L + 2) (vS' _))) Ev.int (by decide) hib
  rintro _ ⟨t5, rfl⟩
  refine Ex.assignI (i := shareV b n) ?_ fun t6 => ?_
  · unfold shareV
    rw [← q3]
    refine Ev.mul Ev.int (Ev.intF gd₁.hh (Ev.blt am₄ rfl) ?_ q1 q2) (IntMulOk.of_left (by decide))
    refine Ev.divFI (Ev.absF (Ev.blt am₄ rfl) ?_) Ev.int (by decide) (by decide)
    refine Ev.subFI (Ev.mulFI ?_ Ev.int (by decide) (by decide)) Ev.int (by decide) (by decide)
    exact (Ev.local (v := .float _ t5) rfl).mono fun v H e => ⟨t5, e⟩
  refine Ex.retG (P' := fun v H => ∃ a vs, v = .ref a ∧ H.get? a = some (tup vs 0) ∧ IntsAre vs [S1 b n n, S2 b n n, S3 b n n, shareV b n]) ?_ ?_
  · exact Ev.tupleI (Ev.intsCons (Ev.isInt (Ev.local rfl)) (Ev.intsCons (Ev.isInt (Ev.local rfl)) (Ev.intsCons (Ev.isInt (Ev.local rfl)) (Ev.intsCons (Ev.isInt (Ev.local rfl)) Ev.intsNil)))) (by simp)
  intro v h₅ h₆ ok₅ ok₆ k56 hv
  obtain ⟨D, vs, rfl, hD, hI⟩ := hv _ (cut_new h₅ h₆)
  obtain ⟨hge, hD'⟩ := cut_get hD
  have hL5 : L < h₅.objs.size := ok₅.lt L (.head _)
  refine ⟨kall.trans ok₆.keep, ⟨ps', ok₆.own (23, tabObj ps') (.tail _ (.tail _ (.tail _ (.head _)))), ⟨c', hps, hcr₄.keeps ok₆.keep⟩, hkeep⟩, D, vs, rfl, hD', ?_, hI⟩
  exact Nat.le_trans hL (Nat.le_trans (Nat.le_of_lt hL5) hge)
end
end Mine
end QMaskC

section QEval
open PySem PySem.W PySem.Calls PyProof.Rows
set_option linter.unusedVariables false
set_option maxRecDepth 100000
namespace Mine
section
variable {prog : Program} {w : World} {s₀ : Shared} {A : Around} {c : Cx} {env : Env}
theorem sum_tup {h : Heap} {t : Addr} {vs : List Value} {ns : List Int} (hh : A.handled = none) (ht : h.get? t = some (tup vs 0)) (hi : IntsAre vs ns) : EvH prog w s₀ A h (call (.builtin "sum") [.ref t]) (VI ns.sum) :=
  EvH.flat (V := fun (v : Value) => ∃ t, v = .int ns.sum t) fun tk p => by
    have hl : h.IsTuple t vs.toArray := ⟨_, ht, rfl, 0, rfl⟩
    obtain ⟨xs, hx⟩ := hi.allInts.items
    have hn : numsOf vs.toArray.toList = ns := by rw [show vs.toArray.toList = vs from rfl, hi.numsOf]
    rw [hx] at hl hn
    rw [nums_intItems] at hn
    refine toC (ktm_sumG hh hl fun h' tk' t' k => ⟨h', tk', rfl, k, t', ?_⟩)
    rw [preSum_eq, List.take_of_length_le (by simp), hn]
/-- mask_scores when its inner code is known: nothing old is changed -/
theorem mask_hit {h B : Heap} {c' : Addr} {M : Addr} {R : Nat → Addr} {b : Nat → Nat → Bool} {n : Nat} {tw th : Tok} (am : Amb B) (amM : AmbM B) (hB : Kp B h) (hBP : B.get? 23 = none) (hP : h.get? 23 = some (tabObj #[rawInt (7 : Nat), rawInt (4 : Nat), .ref c'])) (hc : B.CodeRec (.ref c') qnM) (gd : Gd 2 A) (h4 : n4 n) (pic : Pic B M n b R) :
    EvH prog w s₀ A h (call (.ref aMask) [.ref M, .int n tw, .int n th]) (fun v H => ∃ D vs, v = .ref D ∧ H.get? D = some (tup vs 0) ∧ IntsAre vs [S1 b n n, S2 b n n, S3 b n n, shareV b n]) := by
  have kB : Kp B (hideAll h [23]) := fun a o e => hideAll_get _ (hB a o e) (fun m => by rw [List.mem_singleton.mp m, hBP] at e; cases e)
  refine EvH.grown (Hp.mono (mask_core (am.keeps kB) (amM.keeps kB) (fun a o e => of_hideAll _ e) hP (hideAll_none _ (.head _)) (.inr ⟨c', rfl, hc.keeps kB⟩) gd h4 (pic.keeps kB)) ?_)
  rintro v h' ⟨k, ⟨ps', hp', _, hsame⟩, D, vs, rfl, hD, hge, hI⟩
  refine ⟨fun a o e => ?_, fun H nw => ⟨D, vs, rfl, nw _ _ hge hD, hI⟩⟩
  by_cases q : a = 23
  · subst q
    rw [hP] at e; cases e
    rw [hp', hsame (by simp)]
  · exact k a o (hideAll_get _ e (fun m => q (List.mem_singleton.mp m)))
set_option maxHeartbeats 2000000 in
theorem eval_ok {h B : Heap} {c' : Addr} {M : Addr} {R : Nat → Addr} {b : Nat → Nat → Bool} {n : Nat} {tw th : Tok} (am : Amb B) (amM : AmbM B) (hB : Kp B h) (hBP : B.get? 23 = none) (hP : h.get? 23 = some (tabObj #[rawInt (7 : Nat), rawInt (4 : Nat), .ref c'])) (hc : B.CodeRec (.ref c') qnM) (gd : Gd 3 A) (h4 : n4 n) (pic : Pic B M n b R) :
    EvH prog w s₀ A h (call (.ref aEval) [.ref M, .int n tw, .int n th]) (VI [S1 b n n, S2 b n n, S3 b n n, shareV b n].sum) := by
  refine EvH.callK (binds := [(Str.ofString "matrix", .ref M), (Str.ofString "width", .int n tw), (Str.ofString "height", .int n th)]) (ρ := [(Str.ofString "matrix", .ref M), (Str.ofString "width", .int n tw), (Str.ofString "height", .int n th)]) (am.fEval.keeps hB) (am.lim.keeps hB) (by have := gd.dp; omega)
    (fun _ _ _ _ _ => rfl) (Sub.get ⟨rfl, rfl, rfl, trivial⟩) (by decide) (locs rfl) rfl rfl rfl fun L cd hL => ?_
  have gd₁ : Gd 2 (A.deeper (envX (Str.ofString "evaluate_mask") (top 1).2.2 L aEval cd [])) := gd.deeper _
  refine Ex.retF (V := fun v => ∃ t, v = .int [S1 b n n, S2 b n n, S3 b n n, shareV b n].sum t) ?_ (Kp.refl h) hL
  refine Ev.callB (id := "sum") (R := fun vs H => ∃ v, vs = [v] ∧ ∃ D ws, v = .ref D ∧ H.get? D = some (tup ws 0) ∧ IntsAre ws [S1 b n n, S2 b n n, S3 b n n, shareV b n]) (Ev.blt (am.keeps hB) rfl) (Ev.args1 ?_) ?_
  · refine Ev.callR (f := aMask) (R := fun vs _ => ∃ v u x, vs = [v, u, x] ∧ v = .ref M ∧ u = .int n tw ∧ x = .int n th) (Ev.glob (am.keeps hB) rfl) ?_ (Ev.args3 (V₁ := fun v => v = .ref M) (V₂ := fun v => v = .int n tw) (V₃ := fun v => v = .int n th) (Ev.local rfl) (Ev.local rfl) (Ev.local rfl)) ?_
    · intro h' o
      obtain ⟨ob, doc, pm, an, ct, e1, e2, _⟩ := amM.fn
      exact ⟨ob, _, o.keep _ _ (hB _ _ e1), e2⟩
    · intro vs B' g u h' o
      obtain ⟨_, _, _, rfl, rfl, rfl, rfl⟩ := u.here
      have k := hB.trans (g.trans o.keep)
      exact (mask_hit am amM k hBP ((g.trans o.keep) _ _ hP) hc gd₁ h4 pic).mono fun _ _ q _ => q
  · intro vs B' g u h' o
    obtain ⟨_, rfl, D, ws, rfl, hD, hI⟩ := u.here
    exact (sum_tup gd₁.hh (o.keep _ _ hD) hI).mono fun _ _ q _ => q
end
end Mine
end QEval

section QUsed
open PySem PySem.W PySem.Calls PyProof.Rows
set_option linter.unusedVariables false
set_option maxRecDepth 100000
namespace Mine
section
variable {prog : Program} {w : World} {s₀ : Shared} {A : Around} {c : Cx} {env : Env}
/-- the block of a comprehension whose name is a cell -/
theorem compC_go {elt iter : Expr} {x : Str} {px pos : Pos} {scope : Scope} {cl : List (Str × Addr)} {n : Nat} {P : Nat → Value → Prop} {F : Nat → Value → Heap → Prop} {P₁ : Value → Heap → Prop} {POST : Value → Flow → Shared → Prop} {h : Heap}
    (hi : Ev prog w s₀ A c (eval iter env) P₁) (hsrc : ∀ v B, Kp c.B B → Up P₁ v B → Src prog w s₀ A { c with B := B } v n P) (hn : n ≤ sizeLine)
    (helt : ∀ B C cc i v ob, c.Ok B → i < n → P i v → ob.data = .cell (some v) → Ev prog w s₀ A ⟨B, C, [], [(cc, ob)]⟩ (eval elt (compEnvC scope ((x, cc) :: cl) C env)) (F i))
    (hkind : scope.kind = .function)
    (hone : ∀ k, cellsFrom k scope.names cl = (x, k) :: cl) (hpush : ∀ h, pushCells h scope.names = h.push { cls := .type "cell", data := .cell Option.none })
    (hx : ∀ C cc, (compEnvC scope ((x, cc) :: cl) C env).kindOf x = some .cell) (o : c.Ok h)
    (hPOST : ∀ D f h' tk', 0 < tk' → Post h (CompR n F) (.ref D) h' → POST (.ref D) f (St s₀ h' tk')) (tk : Nat) (p : 0 < tk) :
    wpC (model prog w) A (eval iter env) (fun x₀ s₁ => wpC (model prog w) A (pyIter x₀) (fun it s₂ => wpC (model prog w) A (newList []) (fun acc s₃ =>
      wpC (model prog w) A (newFunctionEnv scope env.globals cl [] env.qual Option.none .none (some env)) (fun cenv s₄ =>
        codeC (model prog w) A (.compStart (.ListComp elt [⟨.Name x px, iter, [], 0⟩] scope pos) 0 it acc { cenv with scope := relabel scope env }) (POST acc) s₄) s₃) s₂) s₁) (St s₀ h tk) := by
  refine (hi h o).use (fun v h₁ tk₁ z₁ ⟨g₁, y₁, p₁⟩ => ?_) tk p
  have o₁ := o.grow g₁
  refine (Hp.sized (hsrc v (c.fz h₁) o₁.kpfz (fun B' g => p₁ _ (fun a q ha e => g a q (o.newfz a q ha e))) h₁ o₁.base)).use (fun it h₂ tk₂ z₂ q => ?_) tk₁ z₁
  obtain ⟨y₂, g₂, I, fp, wr, S, rfl, W, hS, hwr, hfp, hfl⟩ := q
  refine toC (wpAny_newObj_type (toC (newEnv_one (env := env) hone hpush ?_)))
  have eC : (h₂.push { cls := .type "list", data := .seq ([] : List Value).toArray }).objs.size = h₂.objs.size + 1 := Heap.size_push ..
  obtain ⟨h₄, e₄⟩ : ∃ h₄, h₄ = ((h₂.push { cls := .type "list", data := .seq ([] : List Value).toArray }).push { cls := .type "dict", data := .dict #[] }).push { cls := .type "cell", data := .cell Option.none } := ⟨_, rfl⟩
  have hns' : h₄.Ns (h₂.objs.size + 1) (fun _ => Option.none) := by
    have q := (Heap.Ns.new (h₂.push { cls := .type "list", data := .seq ([] : List Value).toArray }) (.type "dict")).push { cls := .type "cell", data := .cell Option.none }
    rw [eC] at q; rw [e₄]; exact q
  have hcl : h₄.IsCell (h₂.objs.size + 2) Option.none := by
    rw [e₄]
    refine ⟨{ cls := .type "cell", data := .cell Option.none }, ?_, rfl⟩
    have q := Heap.get?_push_size ((h₂.push { cls := .type "list", data := .seq ([] : List Value).toArray }).push { cls := .type "dict", data := .dict #[] }) (o := { cls := .type "cell", data := .cell Option.none }) rfl
    rw [Heap.size_push, eC] at q; exact q
  have z₄ : h₂.objs.size + 3 = h₄.objs.size := by rw [e₄, Heap.size_push, Heap.size_push, eC]
  have k₄ : Kp h₂ h₄ := fun b ob e => by rw [e₄]; exact Heap.get?_push_of_some _ (Heap.get?_push_of_some _ (Heap.get?_push_of_some _ e))
  have hD₄ : h₄.PlainList h₂.objs.size #[] := ⟨0, by rw [e₄]; exact Heap.get?_push_of_some _ (Heap.get?_push_of_some _ (Heap.get?_push_size _ rfl))⟩
  have hS₄ : S 0 h₄ := W.frame _ _ _ hS fun b _ ob e => k₄ b ob e
  have n1 : ∀ b, b ∈ [h₂.objs.size + 1, h₂.objs.size + 2] → b = h₂.objs.size + 1 ∨ b = h₂.objs.size + 2 := fun b hb => by simpa using hb
  have old : ∀ b ob, h₁.get? b = some ob → b ∉ [h₂.objs.size + 1, h₂.objs.size + 2] ∧ b ∉ wr ∧ b ≠ h₂.objs.size ∧ h₄.get? b = some ob := fun b ob e => by
    have lt : b < h₂.objs.size := Heap.lt_size (g₂ b ob e)
    refine ⟨fun q => ?_, fun q => ?_, Nat.ne_of_lt lt, k₄ b ob (g₂ b ob e)⟩
    · rcases n1 b q with q | q <;> rw [q] at lt
      · exact absurd lt (Nat.not_lt.mpr (Nat.le_succ _))
      · exact absurd lt (Nat.not_lt.mpr (Nat.le_add_right _ _))
    · rw [hwr b q] at e; cases e
  have loop : Hc prog w s₀ A (.compLoop (.ListComp elt [⟨.Name x px, iter, [], 0⟩] scope pos) 0 (.ref I) (.ref h₂.objs.size) (compEnvC scope ((x, h₂.objs.size + 2) :: cl) (h₂.objs.size + 1) env))
      (fun f h' => f = .next ∧ (∃ m, h'.Ns (h₂.objs.size + 1) m) ∧ ∀ h'', Heap.SameBut (h₂.objs.size + 1) h' h'' → Post h (CompR n F) (.ref h₂.objs.size) h'') h₄ := by
    refine comp_core (own := [h₂.objs.size + 1, h₂.objs.size + 2]) (P := P) (S := S) (F := F) W (h₂.objs.size + 3) (fun h => (∃ m, h.Ns (h₂.objs.size + 1) m) ∧ ∃ u, h.IsCell (h₂.objs.size + 2) u) (fun v h => (∃ m, h.Ns (h₂.objs.size + 1) m) ∧ h.IsCell (h₂.objs.size + 2) (some v)) hn ?_ ?_ ?_ ?_ ?_ ?_ ?_ ?_ ?_ hS₄ hD₄ ⟨⟨_, hns'⟩, _, hcl⟩ (by omega) ?_
    · intro q; rcases n1 _ q with q | q
      · exact absurd q (Nat.ne_of_lt (Nat.lt_succ_self _))
      · exact absurd q (Nat.ne_of_lt (Nat.lt_succ_of_lt (Nat.lt_succ_self _)))
    · intro q; exact absurd (hfl _ q) (Nat.lt_irrefl _)
    · intro b hb q; rcases n1 b hb with e | e <;> rw [e] at q
      · exact absurd (hfl _ q) (Nat.not_lt.mpr (Nat.le_succ _))
      · exact absurd (hfl _ q) (Nat.not_lt.mpr (Nat.le_add_right _ _))
    · rintro b (hb | hb | hb)
      · rcases n1 b hb with e | e <;> rw [e]
        · exact Nat.lt_succ_of_lt (Nat.lt_succ_self _)
        · exact Nat.lt_succ_self _
      · exact Nat.lt_of_lt_of_le (hfl b (W.sub b hb)) (Nat.le_add_right _ _)
      · rw [hb]; exact Nat.lt_succ_of_lt (Nat.lt_succ_of_lt (Nat.lt_succ_self _))
    · rintro h h' ⟨⟨m, hm⟩, u, ob, ho, hd⟩ k; exact ⟨⟨m, hm.at' fun ob e => k _ (.head _) ob e⟩, u, ob, k _ (.tail _ (.head _)) ob ho, hd⟩
    · rintro v h h' ⟨⟨m, hm⟩, ob, ho, hd⟩ k; exact ⟨⟨m, hm.at' fun ob e => k _ (.head _) ob e⟩, ob, k _ (.tail _ (.head _)) ob ho, hd⟩
    · rintro v h ⟨hm, hc⟩; exact ⟨hm, _, hc⟩
    · rintro h v ⟨⟨m, hm⟩, u, hu⟩ tk p
      refine c_assign_Name (toC (wpAny_storeName_cell (env := compEnvC scope ((x, h₂.objs.size + 2) :: cl) (h₂.objs.size + 1) env) (c := h₂.objs.size + 2) (by show (relabel scope env).kind = _; exact hkind) (hx _ _) (by show List.lookup x ((x, _) :: cl) = _; simp) hu fun h' hc' hs' => ⟨h', _, rfl, ⟨⟨m, hm.sameBut hs' (Nat.ne_of_lt (Nat.lt_succ_self _))⟩, hc'⟩, fun b ob hb e => hs'.extBut b ob (fun q => hb (q ▸ .tail _ (.head _))) e⟩))
    · rintro i v h hi hP ⟨⟨m, hm⟩, ob, ho, hd⟩ hk hz
      have kB : Kp h₁ (hideAll h [h₂.objs.size + 1, h₂.objs.size + 2]) := fun b ob e => by
        obtain ⟨a1, a2, a3, a4⟩ := old b ob e
        exact hideAll_get _ (hk b ob a1 a2 a3 a4) a1
      refine helt (hideAll h [h₂.objs.size + 1, h₂.objs.size + 2]) (h₂.objs.size + 1) (h₂.objs.size + 2) i v ob (o₁.grow kB) hi hP hd h ⟨fun b ob e => of_hideAll _ e, ⟨m, hm, fun y u e => by cases e⟩, fun q hq => ?_, ?_, fun a ha => hideAll_none _ (by simpa [Cx.adr] using ha)⟩
      · have hq' : q = (h₂.objs.size + 2, ob) := by simpa using hq
        rw [hq']; exact ho
      · simp [Cx.adr]
    · rintro h' ys ⟨hE, u, hu⟩ hD hys hF hk hz
      refine ⟨rfl, hE, fun h'' hs'' => ⟨fun b ob e => ?_, ?_, ?_⟩⟩
      · obtain ⟨a1, a2, a3, a4⟩ := old b ob (g₁ b ob e)
        exact hs''.extBut b ob (fun q => a1 (q ▸ .head _)) (hk b ob a1 a2 a3 a4)
      · have : h''.objs.size = h'.objs.size := hs''.1
        omega
      · refine comp_ends (sz := h₂.objs.size + 3) (h₂ := h₂) ?_ (Nat.le_trans y₁ y₂) hys (by omega) fun j y e H hH => hF j y e H fun a ob ha eo => hH a ob ha (hs''.extBut a ob (Nat.ne_of_gt (Nat.lt_of_lt_of_le (Nat.lt_succ_of_lt (Nat.lt_succ_self _)) ha)) eo)
        obtain ⟨ep, e⟩ := hD; exact ⟨ep, hs''.extBut _ _ (Nat.ne_of_lt (Nat.lt_succ_self _)) e⟩
  have start : Hc prog w s₀ A (.compStart (.ListComp elt [⟨.Name x px, iter, [], 0⟩] scope pos) 0 (.ref I) (.ref h₂.objs.size) (compEnvC scope ((x, h₂.objs.size + 2) :: cl) (h₂.objs.size + 1) env))
      (fun f h' => f = .next ∧ (∃ m, h'.Ns (h₂.objs.size + 1) m) ∧ ∀ h'', Heap.SameBut (h₂.objs.size + 1) h' h'' → Post h (CompR n F) (.ref h₂.objs.size) h'') h₄ := fun t q =>
    cc_compStart_list (loop t q) (toC (W.self 0 _ _ _ hS₄ (loop t q)))
  have ce : ({ newEnv scope (h₂.push { cls := .type "list", data := .seq ([] : List Value).toArray }).objs.size env.globals ((x, (h₂.push { cls := .type "list", data := .seq ([] : List Value).toArray }).objs.size + 1) :: cl) env.qual Option.none .none (some env) builtinsNs with scope := relabel scope env } : Env) = compEnvC scope ((x, h₂.objs.size + 2) :: cl) (h₂.objs.size + 1) env := by
    rw [eC]; rfl
  show codeC (model prog w) A (.compStart _ 0 (.ref I) (.ref h₂.objs.size) { newEnv scope (h₂.push { cls := .type "list", data := .seq ([] : List Value).toArray }).objs.size env.globals ((x, (h₂.push { cls := .type "list", data := .seq ([] : List Value).toArray }).objs.size + 1) :: cl) env.qual Option.none .none (some env) builtinsNs with scope := relabel scope env })
    (POST (.ref h₂.objs.size)) (St s₀ (((h₂.push { cls := .type "list", data := .seq ([] : List Value).toArray }).push { cls := .type "dict", data := .dict #[] }).push { cls := .type "cell", data := .cell Option.none }) tk₂)
  rw [ce, ← e₄]
  refine start.use (fun f h' tk' z' q => ?_) tk₂ z₂
  obtain ⟨rfl, _, hq⟩ := q
  exact hPOST _ _ h' tk' z' (hq h' ⟨rfl, fun _ _ => rfl⟩)
end
section
variable {prog : Program} {w : World} {A : Around} {s : Shared} {env : Env}
theorem c_rule {id : String} {Q : Unit → Shared → Prop} (h : Q () s) : wpC (model prog w) A (rule id) Q s := toC (wpAny_rule h)
theorem c_comprehension_used {e : Expr} {scope : Scope} {pos : Pos} {newAcc first : Sem Value} {g : Comprehension} {gs : List Comprehension} {cl : List (Str × Addr)} {x : Str} {u : Value → Sem Unit} {Q : Value → Shared → Prop}
    (hcl : clausesOf e = g :: gs) (hs : ∀ x, foldedSetIterable g.iter env x = pure x) (hclos : closureFor scope env = pure cl)
    (hv : (scope.names.filter fun x => (x.2 == .local || x.2 == .cell) && x.1 != (".0" : Str)) = [(x, .cell)])
    (h : wpC (model prog w) A first (fun x s₁ => wpC (model prog w) A (pyIter x) (fun it s₂ => wpC (model prog w) A newAcc (fun acc s₃ =>
      wpC (model prog w) A (newFunctionEnv scope env.globals cl [] env.qual none .none (some env)) (fun cenv s₄ =>
        codeC (model prog w) A (.compStart e 0 it acc { cenv with scope := relabel scope env }) (fun _ s' => wpC (model prog w) A (u acc) (fun _ s'' => Q .none s'') s') s₄) s₃) s₂) s₁) s) :
    wpC (model prog w) A (comprehension e scope env pos newAcc false first (some u)) Q s := by
  unfold comprehension
  rw [hclos, hcl]
  refine c_bind (c_mono h fun x s₁ h₁ => c_bind (c_standAt (c_bind (c_of_eq (hs x) (c_bind (c_holding (c_mono h₁ fun it s₂ h₂ =>
    c_bind (c_standAt (c_bind (c_mono h₂ fun acc s₃ h₃ => c_bind (c_pure (c_bind (c_mono h₃ fun cenv s₄ h₄ => ?_)))))))))))))
  dsimp only
  refine c_holding (c_bind (c_attempt (c_holding (c_run (cc_mono h₄ fun r s' hr => ?_)))))
  refine c_bind (c_rule (c_bind (c_holding (c_mono hr fun _ s'' q => ?_))))
  rw [hv]
  have hl : ∀ (ce : Env) (co : List (Str × NameKind) → List Value) (y : Str), wpC (model prog w) A (comprehension.letGo ce co [(y, .cell)]) (fun _ s₃ => s₃ = s'') s'' := fun ce co y => by
    unfold comprehension.letGo
    refine c_bind (c_holding ?_)
    rw [if_neg (by decide)]
    refine c_point ?_
    unfold comprehension.letGo
    exact c_pure rfl
  refine c_bind (c_mono (hl _ _ _) fun _ s₃ e => ?_)
  subst e
  exact c_pure q
end
section
variable {prog : Program} {w : World} {s₀ : Shared} {A : Around} {c : Cx} {env : Env} {Q : Flow → Heap → Prop} {rest : List Stmt}
/-- y = [.. for x in ..] where x is a cell and the stores are exchanged -/
theorem Ex.assignUsedC {elt iter : Expr} {x y : Str} {px pos py ps : Pos} {scope : Scope} {cl : List (Str × Addr)} {n : Nat} {P : Nat → Value → Prop} {F : Nat → Value → Heap → Prop} {P₁ : Value → Heap → Prop}
    (hi : Ev prog w s₀ A c (eval iter env) P₁) (hsrc : ∀ v B, Kp c.B B → Up P₁ v B → Src prog w s₀ A { c with B := B } v n P) (hn : n ≤ sizeLine)
    (helt : ∀ B C cc i v ob, c.Ok B → i < n → P i v → ob.data = .cell (some v) → Ev prog w s₀ A ⟨B, C, [], [(cc, ob)]⟩ (eval elt (compEnvC scope ((x, cc) :: cl) C env)) (F i))
    (k : ∀ v B, Kp c.B B → Up (CompR n F) v B → Ex prog w s₀ A { c with B := B, ρ := setL y v c.ρ } (execs rest env) Q)
    (hclos : closureFor scope env = Pure.pure cl) (hkind : scope.kind = .function)
    (hone : ∀ k, cellsFrom k scope.names cl = (x, k) :: cl) (hpush : ∀ h, pushCells h scope.names = h.push { cls := .type "cell", data := .cell Option.none })
    (hx : ∀ C cc, (compEnvC scope ((x, cc) :: cl) C env).kindOf x = some .cell)
    (hv : (scope.names.filter fun x => (x.2 == .local || x.2 == .cell) && x.1 != (".0" : Str)) = [(x, .cell)])
    (hs : ∀ x, foldedSetIterable iter env x = Pure.pure x := by intro _; rfl) (hsw : swapsWith (.ListComp elt [⟨.Name x px, iter, [], 0⟩] scope pos) (some (.Name y py)) ps.line env = Pure.pure true := by rfl)
    (hL : env.locals = c.L := by rfl) (hk : env.scope.kind = .function := by rfl) (hy : env.kindOf y = some .local := by rfl) :
    Ex prog w s₀ A c (execs (.Assign [.Name y py] (.ListComp elt [⟨.Name x px, iter, [], 0⟩] scope pos) ps :: rest) env) Q := Ex.cons fun h o tk p => by
  rw [exec_Assign_Name_used y py _ ps hsw]
  refine c_bind (c_standAt (c_bind ?_))
  show wpC _ _ (comprehension (.ListComp elt [⟨.Name x px, iter, [], 0⟩] scope pos) scope env (firstIterPos [⟨.Name x px, iter, [], 0⟩] pos) (newList []) false (eval iter env) (some (PySem.assign (.Name y py) env)) >>= fun _ => Pure.pure ()) _ _
  refine c_bind (c_comprehension_used (cl := cl) rfl hs hclos hv ?_)
  refine compC_go hi hsrc hn helt hkind hone hpush hx o (fun D f h' tk' z ⟨g, zz, pp⟩ => ?_) tk p
  have o₁ := o.grow g
  refine c_assign_Name ((Hp.store (c := { c with B := c.fz h' }) o₁.base hL hk hy).use (fun _ h₂ tk₂ z₂ q => ?_) tk' z)
  refine c_pure (c_pure ⟨h₂, tk₂, rfl, ?_⟩)
  exact k (.ref D) (c.fz h') o₁.kpfz (fun B' gg => pp _ (fun a q ha e => gg a q (o.newfz a q ha e))) h₂ q.1
end
end Mine
end QUsed

section QLawR
open PySem PySem.W PySem.Calls PyProof.Rows
set_option linter.unusedVariables false
set_option maxRecDepth 100000
namespace Mine
section
variable {prog : Program} {w : World} {s₀ : Shared} {A : Around} {c : Cx} {env : Env} {Q : Flow → Heap → Prop} {rest : List Stmt}
/-- a list of texts -/
def StrL (xs : List Str) (v : Value) (H : Heap) : Prop := ∃ a vs ep, v = .ref a ∧ H.get? a = some (lst vs ep) ∧ StrsAre vs xs
theorem strs_of : ∀ {vs : List Value} {xs : List Str}, vs.length = xs.length → (∀ (i : Nat) (y : Value) (x : Str), vs[i]? = some y → xs[i]? = some x → ∃ t, y = Value.str x t) → StrsAre vs xs
  | [], [], _, _ => .nil
  | [], _ :: _, h, _ => by simp at h
  | _ :: _, [], h, _ => by simp at h
  | v :: vs, n :: ns, h, k => by
    obtain ⟨t, rfl⟩ := k 0 v n rfl rfl
    exact .cons n t (strs_of (by simpa using h) fun i y x e e' => k (i + 1) y x (by simpa using e) (by simpa using e'))
theorem Ev.strI {func e : Expr} {pos : Pos} {a : Int} (hf : Ev prog w s₀ A c (eval func env) (Is (.type "str"))) (he : Ev prog w s₀ A c (eval e env) (VI a)) (ha : a.natAbs.log2 < 1920)
    (hcall : eval (.Call func [e] [] pos) env = (do callWith pos (← eval func env) [] (backTo pos (starEach [e] env)) (backToKw pos (keywordEach [] env))) := by rfl)
    (hs : starEach [e] env = [(false, eval e env)] := by rfl) : Ev prog w s₀ A c (eval (.Call func [e] [] pos) env) (VS (toString a)) :=
  Ev.callT hf (Ev.args1 he hs) (fun vs B g u h o tk p => by
    obtain ⟨v, rfl, t, rfl⟩ := u.here
    exact toC (P.str_of_int ha (stay fun _ _ => ⟨_, rfl⟩))) hcall hs rfl
theorem Ev.joinS {ob e : Expr} {apos pos : Pos} {x : Str} {ys : List Str} {P₁ : Value → Heap → Prop} {pl : Sem Bool} (ho : Ev prog w s₀ A c (eval ob env) (VS x)) (he : ∀ B, Kp c.B B → Ev prog w s₀ A { c with B := B } (eval e env) P₁)
    (hp : ∀ v B, Kp c.B B → Up P₁ v B → ∃ D vs, v = .ref D ∧ StrsAre vs ys ∧ ∀ h, Cx.Ok { c with B := B } h → h.IsList D vs.toArray) (hz : (ys.map (·.length)).sum + ys.length * x.length ≤ 16777216)
    (hcall : eval (.Call (.Attribute ob (Str.ofString "join") apos) [e] [] pos) env = (do
      let ov ← eval ob env
      standAt apos.atName
      let (f, first) ← PySem.holding [ov] (getMethod ov (Str.ofString "join") pl)
      callWith pos f first (backTo pos (starEach [e] env)) []) := by rfl) (hs : starEach [e] env = [(false, eval e env)] := by rfl) :
    Ev prog w s₀ A c (eval (.Call (.Attribute ob (Str.ofString "join") apos) [e] [] pos) env) (VS (Txt.join x ys)) :=
  Ev.meth (P₀ := VS x) (R := fun vs H => ∃ v, vs = [v] ∧ P₁ v H) ho (fun v B g u h o tk p => by
      obtain ⟨t, rfl⟩ := u.here
      exact toC (getMethod_builtin (typeIs_str _ _ _) F.plainAttrs_str F.slot_str_join F.type_str_join (fun a e => by cases e) (stay fun _ => rfl)))
    (fun B g => Ev.args1 (he B g) hs) (fun v vs B g u r h o tk q => by
      obtain ⟨t, rfl⟩ := u.here
      obtain ⟨v, rfl, _⟩ := r.here
      have r' : Up P₁ v B := fun B' g' => by obtain ⟨v', e', q⟩ := r B' g'; cases e'; exact q
      obtain ⟨D, ws, rfl, hS, hL⟩ := hp v B g r'
      exact toC (join_list (hL h o) (by simpa using hS) hz fun t' k => ⟨h, k, rfl, Kp.refl h, Nat.le_refl _, fun _ _ _ _ => ⟨_, rfl⟩⟩)) hcall hs rfl
theorem Ev.countC {ob e : Expr} {apos pos : Pos} {x y : Str} {pl : Sem Bool} (ho : Ev prog w s₀ A c (eval ob env) (VS x)) (he : Ev prog w s₀ A c (eval e env) (VS y))
    (hcall : eval (.Call (.Attribute ob (Str.ofString "count") apos) [e] [] pos) env = (do
      let ov ← eval ob env
      standAt apos.atName
      let (f, first) ← PySem.holding [ov] (getMethod ov (Str.ofString "count") pl)
      callWith pos f first (backTo pos (starEach [e] env)) []) := by rfl) (hs : starEach [e] env = [(false, eval e env)] := by rfl) :
    Ev prog w s₀ A c (eval (.Call (.Attribute ob (Str.ofString "count") apos) [e] [] pos) env) (VI (Txt.count x y)) :=
  Ev.meth (P₀ := VS x) (R := fun vs H => ∃ v, vs = [v] ∧ VS y v H) ho (fun v B g u h o tk p => by obtain ⟨t, rfl⟩ := u.here; exact toC (GM.count (stay fun _ => rfl)))
    (fun B g => Ev.args1 (fun h o => he h (Cx.Ok.less (c := { c with B := B }) o g)) hs) (fun v vs B g u r h o tk q => by
      obtain ⟨t, rfl⟩ := u.here
      obtain ⟨_, rfl, t', rfl⟩ := r.here
      exact toC (SC.count (stay fun _ _ _ => ⟨_, rfl⟩))) hcall hs rfl
theorem Ev.absI {func e : Expr} {pos : Pos} {a : Int} (hf : Ev prog w s₀ A c (eval func env) (Is (.builtin "abs"))) (he : Ev prog w s₀ A c (eval e env) (VI a))
    (hcall : eval (.Call func [e] [] pos) env = (do callWith pos (← eval func env) [] (backTo pos (starEach [e] env)) (backToKw pos (keywordEach [] env))) := by rfl)
    (hs : starEach [e] env = [(false, eval e env)] := by rfl) : Ev prog w s₀ A c (eval (.Call func [e] [] pos) env) (VI a.natAbs) :=
  Ev.callB hf (Ev.args1 he hs) (fun vs B g u h o tk p => by
    obtain ⟨v, rfl, t, rfl⟩ := u.here
    refine toC (call_abs_int fun u' tk' => ⟨h, tk', rfl, Kp.refl h, Nat.le_refl _, fun _ _ _ => ⟨u', ?_⟩⟩)
    congr 1
    split <;> omega) hcall hs rfl
theorem Ev.itemS {value slice : Expr} {pos : Pos} {x : Str} {k : Nat} {ch : Nat} (hv : Ev prog w s₀ A c (eval value env) (VS x)) (hi : Ev prog w s₀ A c (eval slice env) (VI k)) (hk : k ≤ 1000) (hc : x.cps[k]? = some ch)
    (hs : ∀ t u, subscripted slice false (.str x t) (.int k u) = operate [.str x t, .int k u] (getItem (.str x t) (.int k u)) := by intro _ _; with_unfolding_all rfl) : Ev prog w s₀ A c (eval (.Subscript value slice pos) env) (VS ⟨#[ch]⟩) :=
  Ev.subscr (P₀ := VS x) (P₁ := VI k) hv (fun B g h o => hi h (Cx.Ok.less (c := { c with B := B }) o g)) fun o i B g u v => by
    obtain ⟨t, rfl⟩ := u.here
    obtain ⟨t', rfl⟩ := v.here
    refine ⟨⟨"str", _, _, fun s o => typeIs_str _ _ _, F.slot_str_getitem.lookup, hs t t'⟩, fun h o tk p => ?_⟩
    refine toC (getItem_str (by simp; omega) ?_ (stay fun _ _ _ => ⟨_, rfl⟩))
    have hl : k < x.length := (Array.getElem?_eq_some_iff.mp hc).1
    rw [seqIndex_in (by omega) (by omega)]
    simpa using hc
end
section
open AutoSeq1 (wpAny_loadPart')
variable {prog : Program} {w : World} {A : Around} {E : Value → Shared → Prop} {s : Shared}
theorem collect_sz {Q : List Value → Shared → Prop} (it : Addr) {T : String} {o : Obj} {items : Array Value} {n : Nat} (hT : T = "list" ∨ T = "tuple")
    (ho : s.heap.get? it = some o) (hc : o.cls = .type T) (hd : o.data = .seq items n)
    (hQ : ∀ h', s.heap.objs.size ≤ h'.objs.size → (∀ b o', s.heap.get? b = some o' → h'.get? b = some o') → Q items.toList { s with heap := h' }) (hsz : items.size ≤ sizeLine) :
    wpAny (model prog w) A (collect (.ref it)) Q E s := fun Γ p hΓ =>
  Sem.wp_mono _ Γ _ (fun a p' s' ⟨z, h', e1, e2, k⟩ => by subst e1 e2; exact hQ h' z k) (fun _ _ _ x => x) p s
    (wp_size _ Γ _ _ _ _ p s (Nat.le_refl _) (wpAny_collect_seq (E := E) (Q := fun a s' => ∃ h', a = items.toList ∧ s' = { s with heap := h' } ∧ ∀ b o', s.heap.get? b = some o' → h'.get? b = some o') it hT ho hc hd (fun h' k => ⟨h', rfl, rfl, k⟩) hsz Γ p hΓ))
theorem meets_tup (l : Addr) (o : Obj) (items : Array Value) (n : Nat) (hc : o.cls = .type "list") (hd : o.data = .seq items n) (hsz : items.size ≤ sizeLine) :
    Meets (Builtin.«tuple.__new__» ⟨[.type "tuple", .ref l], []⟩)
      (fun _ R s => s.heap.get? l = some o ∧ ∀ h' : Heap, s.heap.objs.size ≤ h'.objs.size → (∀ b o', s.heap.get? b = some o' → h'.get? b = some o') → R (.ok (.ret (.ref h'.objs.size))) { s with heap := h'.push { cls := .type "tuple", data := .seq items } }) :=
  .of_wp fun prog w A R s h => by
    obtain ⟨hp, g, d, tk, os⟩ := s; obtain ⟨ht, h⟩ := h
    have hsub := sub_tuple_self
    have hinit := init_tuple_lookup
    have hmh := madeHere_tuple
    have hT : Shared.TypeIs ⟨hp, g, d, tk, os⟩ (.ref l) "list" := ⟨o, ht, hc⟩
    wp_walk using wpAny_loadPart' ht, wpAny_typeOf hT, collect_sz (hsz := hsz) l (.inl rfl) ht hc hd
    intro h' hz hk
    show wpAny _ _ (Builtin.Tuple.tupleExact items.toList.toArray >>= fun v => ret v) _ _ _
    unfold Builtin.Tuple.tupleExact
    refine wpAny_bind (wpAny_newObj_type ?_ (by show items.toList.toArray.size ≤ sizeLine; simpa using hsz))
    refine wpAny_pure ⟨_, rfl, ?_⟩
    have e : items.toList.toArray = items := by simp
    rw [e]
    exact h h' hz hk
theorem call_tup {l : Addr} {items : Array Value} {Q : Value → Shared → Prop} (hl : s.heap.IsList l items)
    (h : ∀ h' : Heap, s.heap.objs.size ≤ h'.objs.size → (∀ b o', s.heap.get? b = some o' → h'.get? b = some o') → Q (.ref h'.objs.size) { s with heap := h'.push { cls := .type "tuple", data := .seq items } })
    (hsz : items.size ≤ sizeLine) : wpAny (model prog w) A (call (.type "tuple") [.ref l]) Q E s := by
  obtain ⟨o, ho, hc, n, hd⟩ := hl
  exact callType_new F.called_tuple (by decide) (F.typeCall_tuple_1 _) (F.newCall_tuple_1 _) (fun obj => F.args_object_init_2 obj _) F.entry_tuple_new
    (meets_tup l o items n hc hd hsz) ⟨ho, fun h' hz hk => ⟨⟨_, Heap.get?_push_size _ rfl, rfl⟩, h h' hz hk⟩⟩
end
section
variable {prog : Program} {w : World} {s₀ : Shared} {A : Around} {c : Cx} {env : Env} {Q : Flow → Heap → Prop} {rest : List Stmt}
theorem Ev.tupL {func e : Expr} {pos : Pos} {P₁ : Value → Heap → Prop} {Φ : List Value → Heap → Prop} (hf : Ev prog w s₀ A c (eval func env) (Is (.type "tuple"))) (he : Ev prog w s₀ A c (eval e env) P₁)
    (hp : ∀ v H, P₁ v H → ∃ D vs ep, v = .ref D ∧ H.get? D = some (lst vs ep) ∧ vs.length ≤ 1000 ∧ Φ vs H)
    (hcall : eval (.Call func [e] [] pos) env = (do callWith pos (← eval func env) [] (backTo pos (starEach [e] env)) (backToKw pos (keywordEach [] env))) := by rfl)
    (hs : starEach [e] env = [(false, eval e env)] := by rfl) : Ev prog w s₀ A c (eval (.Call func [e] [] pos) env) (fun v H => ∃ T vs, v = .ref T ∧ H.get? T = some (tup vs 0) ∧ Φ vs H) :=
  fun h o tk p => c_Call ((hf h o).use (fun v h₁ tk₁ z ⟨g₁, z₁, p₁⟩ => by
    have e := p₁ _ (New.self _ _); subst e
    refine c_callWith_type ((Ev.args1 he hs h₁ (o.grow g₁)).use (fun vs h₂ tk₂ z₂ ⟨g₂, y₂, p₂⟩ => ?_) tk₁ z) hs rfl
    obtain ⟨v, rfl, q⟩ := p₂ _ (cut_new h₁ h₂)
    obtain ⟨D, ws, ep, rfl, hD, hz, _⟩ := hp v _ q
    obtain ⟨hge, hD'⟩ := cut_get hD
    refine toC (call_tup (isList_lst hD') (fun h' z' k => ?_) (by rw [List.size_toArray, sizeLine_eq]; omega))
    refine ⟨_, tk₂, rfl, fun b ob e => Heap.get?_push_of_some _ (k b ob (g₂ _ _ (g₁ _ _ e))), by rw [Heap.size_push]; exact Nat.le_succ_of_le (Nat.le_trans z₁ (Nat.le_trans y₂ z')), fun H n => ?_⟩
    have nH : New h₁ h₂ H := fun a q ha e => n a q (Nat.le_trans z₁ ha) (Heap.get?_push_of_some _ (k a q e))
    obtain ⟨v', e', q'⟩ := p₂ H nH
    cases e'
    obtain ⟨D', ws', ep', e1, e2, _, e4⟩ := hp _ H q'
    cases e1
    have e5 := nH D _ hge hD'
    rw [e5] at e2
    have e6 : ws = ws' := by
      have := Option.some.inj e2
      simp only [lst, Obj.mk.injEq, Data.seq.injEq] at this
      simpa using this.2.2.1.1
    subst e6
    exact ⟨_, ws, rfl, n _ _ (Nat.le_trans z₁ (Nat.le_trans y₂ z')) (Heap.get?_push_size _ rfl), e4⟩) tk p) hcall
end
end Mine
end QLawR

section QZip
open PySem PySem.W PySem.Calls PyProof.Rows
set_option linter.unusedVariables false
set_option maxRecDepth 100000
namespace Mine
section
variable {prog : Program} {w : World} {s₀ : Shared} {A : Around} {c : Cx} {env : Env} {Q : Flow → Heap → Prop} {rest : List Stmt}
theorem Hp.pair {a b : Str} {pa pb pos : Pos} {k : Nat} {T : Addr} {x y : Value} {h : Heap} (hh : A.handled = none) (o : c.Ok h) (hT : h.IsTuple T #[x, y]) (hL : env.locals = c.L) (hk : env.scope.kind = .function) (ha : env.kindOf a = some .local) (hb : env.kindOf b = some .local) :
    Hp prog w s₀ A (assign (.Tuple [.Name a pa, .Name b pb] k pos) env (.ref T)) (fun _ h' => Cx.Ok { c with ρ := setL b y (setL a x c.ρ) } h' ∧ ∀ q ob, q ≠ c.L → h.get? q = some ob → h'.get? q = some ob) h := fun tk p => by
  refine toC (wpAny_assign_Tuple hh hT rfl rfl fun h₁ he => ?_)
  have k₁ : Kp h h₁ := fun q ob e => he q ob (Nat.ne_of_lt (Heap.lt_size e)) e
  have o₁ := o.grow k₁
  obtain ⟨m, hn, hm⟩ := o₁.loc
  refine assignInOrder_cons ?_
  show wpAny _ _ (assign (.Name a pa) env x) _ _ _
  rw [PySem.assign_Name]
  refine wpAny_bind (wpAny_standAt (wpAny_bindName (wpAny_storeName_local ha (by rw [hL]; exact hn) (fun h₂ hn₂ hs₂ => ?_) (by rw [hk]; rfl))))
  rw [hL] at hn₂ hs₂
  have o₂ := Ok.stored o₁ hm hn₂ hs₂
  obtain ⟨m', hn', hm'⟩ := o₂.loc
  refine assignInOrder_cons ?_
  show wpAny _ _ (assign (.Name b pb) env y) _ _ _
  rw [PySem.assign_Name]
  refine wpAny_bind (wpAny_standAt (wpAny_bindName (wpAny_storeName_local hb (by rw [hL]; exact hn') (fun h₃ hn₃ hs₃ => ?_) (by rw [hk]; rfl))))
  rw [hL] at hn₃ hs₃
  refine assignInOrder_nil ⟨h₃, _, rfl, Ok.stored o₂ hm' hn₃ hs₃, fun q ob hq e => ?_⟩
  rw [hs₃.2 q hq, hs₂.2 q hq]
  exact k₁ q ob e
/-- for a, b in (an iterator of pairs that the head of the loop makes) -/
theorem Ex.forT {a b : Str} {pa pb pt pos : Pos} {k : Nat} {iter : Expr} {body : List Stmt} {n : Nat} {Pt : Nat → Array Value → Prop} (J : Nat → List (Str × Value) → List (Addr × Obj) → Prop) (hh : A.handled = none)
    (hsrc : ∀ h, c.Ok h → Hp prog w s₀ A (eval iter env) (fun v h₁ => Kp h h₁ ∧ ∃ I fp wr S Mid, v = .ref I ∧ WalksT prog w A I fp wr n Pt S Mid ∧ S 0 h₁ ∧ (∀ q ∈ wr, h.objs.size ≤ q) ∧ (∀ q ∈ fp, q ∉ c.adr)) h)
    (hpt : ∀ i vals, Pt i vals → ∃ x y, vals = #[x, y])
    (h0 : J 0 c.ρ c.μ)
    (turn : ∀ i x y ρ μ B, i < n → Pt i #[x, y] → J i ρ μ → μ.map (·.1) = c.μ.map (·.1) → Kp c.B B → Ex prog w s₀ A ⟨B, c.L, setL b y (setL a x ρ), μ⟩ (execs body env) (fun f h => f = .next ∧ ∃ ρ' μ', J (i + 1) ρ' μ' ∧ μ'.map (·.1) = c.μ.map (·.1) ∧ Cx.Ok ⟨B, c.L, ρ', μ'⟩ h))
    (done : ∀ ρ μ, J n ρ μ → μ.map (·.1) = c.μ.map (·.1) → Ex prog w s₀ A { c with ρ := ρ, μ := μ } (execs rest env) Q)
    (hL : env.locals = c.L := by rfl) (hk : env.scope.kind = .function := by rfl) (ha : env.kindOf a = some .local := by rfl) (hb : env.kindOf b = some .local := by rfl) (hs : ∀ x, foldedSetIterable iter env x = pure x := by intro _; rfl) :
    Ex prog w s₀ A c (execs (.For (.Tuple [.Name a pa, .Name b pb] k pt) iter body [] pos :: rest) env) Q := Ex.cons fun h o tk p => by
  refine c_For ((hsrc h o).use (fun v h₁ tk₁ z q => ?_) tk p) hs
  obtain ⟨g₁, I, fp, wr, S, Mid, rfl, W, hS, hwr, hfp⟩ := q
  refine toC (W.self 0 _ _ _ hS ?_)
  have o₁ := o.grow g₁
  have hwB : ∀ q ∈ wr, c.B.get? q = none := fun q hq => by
    cases e : c.B.get? q with
    | none => rfl
    | some ob => exact absurd (Heap.lt_size (o.keep q ob e)) (Nat.not_lt.mpr (hwr q hq))
  have hwa : ∀ q ∈ wr, q ∉ c.adr := fun q hq => hfp q (W.sub q hq)
  refine cc_forLoop (fun kk s => ∃ i ρ μ h' tk', kk = n + 1 - i ∧ i ≤ n ∧ s = St s₀ h' tk' ∧ 0 < tk' ∧ J i ρ μ ∧ μ.map (·.1) = c.μ.map (·.1) ∧ Cx.Ok ⟨c.B, c.L, ρ, μ⟩ h' ∧ S i h') ?_ (n + 1)
    ⟨0, c.ρ, c.μ, h₁, tk₁, rfl, Nat.zero_le _, rfl, z, h0, rfl, o₁, hS⟩
  rintro kk s ⟨i, ρ, μ, h', tk', rfl, hin, rfl, z', hJ, hμ, o', hS'⟩
  have adr : (⟨c.B, c.L, ρ, μ⟩ : Cx).adr = c.adr := by show c.L :: μ.map (·.1) = c.L :: c.μ.map (·.1); rw [hμ]
  by_cases hlt : i < n
  · refine c_with_toks (n := 1) z' (toC (W.item i _ _ _ hlt hS' fun T vals h₃ tk₃ hP hTs hT hM hk₃ z₃ => ?_))
    obtain ⟨x, y, rfl⟩ := hpt i vals hP
    have o₃ : Cx.Ok ⟨c.B, c.L, ρ, μ⟩ h₃ := o'.exceptOf hk₃ hwB (fun q hq => adr ▸ hwa q hq)
    refine toC (W.go _ _ _ i T _ _ _ hM fun h₄ hS₄ hk₄ => ?_)
    have o₄ : Cx.Ok ⟨c.B, c.L, ρ, μ⟩ h₄ := o₃.exceptOf hk₄ hwB (fun q hq => adr ▸ hwa q hq)
    have hT₄ : h₄.IsTuple T #[x, y] := by
      obtain ⟨ob, e, r⟩ := hT
      exact ⟨ob, hk₄ T ob (W.apart i T h₃ hM) e, r⟩
    refine (Hp.pair (c := ⟨c.B, c.L, ρ, μ⟩) hh o₄ hT₄ hL hk ha hb).use (fun _ h₅ tk₅ z₅ q₅ => ?_) tk₃ z₃
    obtain ⟨o₅, hs₅⟩ := q₅
    have hS₅ : S (i + 1) h₅ := W.frame _ _ _ hS₄ fun q hq ob e => hs₅ q ob (fun e' => hfp q hq (e' ▸ .head _)) e
    have B₅ := o₅.base
    refine (turn i x y ρ μ _ hlt hP hJ hμ o₅.kpfz h₅ B₅).use (fun f h₆ tk₆ z₆ q₆ => ?_) tk₅ z₅
    obtain ⟨rfl, ρ', μ', hJ', hμ', o₆⟩ := q₆
    refine ⟨rfl, n + 1 - (i + 1), by omega, i + 1, ρ', μ', h₆, tk₆, rfl, hlt, rfl, z₆, hJ', hμ', o₆.less o₅.kpfz, W.frame _ _ _ hS₅ fun q hq ob e => o₆.keep q ob (hideAll_get _ e fun qm => hfp q hq ?_)⟩
    have q' : q ∈ (⟨c.B, c.L, ρ, μ⟩ : Cx).adr := qm
    rw [adr] at q'
    exact q'
  · have e : i = n := by omega
    subst e
    refine c_with_toks (n := 1) z' (toC (W.done _ _ _ hS' fun h₃ tk₃ hk₃ z₃ => ?_))
    have o₃ : Cx.Ok ⟨c.B, c.L, ρ, μ⟩ h₃ := o'.exceptOf hk₃ hwB (fun q hq => adr ▸ hwa q hq)
    exact toC (wpAny_execs_nil ⟨h₃, tk₃, rfl, done ρ μ hJ hμ h₃ o₃⟩)
end
end Mine
end QZip

section QLawA
open PySem PySem.W PySem.Calls PyProof.Rows
set_option linter.unusedVariables false
set_option maxRecDepth 100000
namespace Mine
def RowsL (n : Nat) (b : Nat → Nat → Bool) (v : Value) (H : Heap) : Prop := CompR n (fun i y H => BitsL n (b i) y H) v H
theorem BitsL.kp {n : Nat} {f : Nat → Bool} {v : Value} {h h' : Heap} (x : BitsL n f v h) (g : Kp h h') : BitsL n f v h' := let ⟨a, vs, ep, e, q, r⟩ := x; ⟨a, vs, ep, e, g _ _ q, r⟩
theorem RowsL.kp {n : Nat} {b : Nat → Nat → Bool} {v : Value} {h h' : Heap} (x : RowsL n b v h) (g : Kp h h') : RowsL n b v h' := let ⟨D, vs, ep, e, q, l, r⟩ := x; ⟨D, vs, ep, e, g _ _ q, l, fun i y ey => (r i y ey).kp g⟩
theorem rows_choose {n : Nat} {v : Value} {H : Heap} (x : CompR n (fun _ y H => ∃ f, BitsL n f y H) v H) : ∃ b, RowsL n b v H := by
  obtain ⟨D, vs, ep, e, q, l, r⟩ := x
  have key : ∀ i : Nat, ∃ f : Nat → Bool, ∀ y, vs[i]? = some y → BitsL n f y H := fun i => by
    cases hv : vs[i]? with
    | none => exact ⟨fun _ => false, fun y e => by cases e⟩
    | some y => obtain ⟨f, hf⟩ := r i y hv; exact ⟨f, fun y' e => by cases e; exact hf⟩
  exact ⟨fun i => (key i).choose, D, vs, ep, e, q, l, fun i y ey => (key i).choose_spec y ey⟩
abbrev eL (L a : Addr) (cdv : Value) : Env := envX (Str.ofString "law") (top 8).2.2 L a cdv [(Str.ofString "lines", L + 4), (Str.ofString "rows", L + 3), (Str.ofString "numbers", L + 2), (Str.ofString "size", L + 1)]
def asgVal : Stmt → Expr
  | .Assign _ e _ => e
  | .If _ (.Assign _ e _ :: _) _ _ => e
  | _ => .Constant .none 0 ⟨0, 0, 0, 0⟩
def lawSt (k : Nat) : Stmt := (top 8).2.1.getD k (.Pass ⟨0, 0, 0, 0⟩)
/-- the cells of law that stand -/
structure LawC (h : Heap) (L : Addr) (n : Nat) (tn : Tok) : Prop where
  size : h.IsCell (L + 1) (some (.int n tn))
section
variable {prog : Program} {w : World} {s₀ : Shared} {A : Around} {c : Cx} {env : Env}
/-- an item of a frozen list of ints -/
theorem Ev.itemI {value slice : Expr} {pos : Pos} {a : Addr} {vs : List Value} {ns : List Int} {k x : Int} (hv : Ev prog w s₀ A c (eval value env) (Is (.ref a))) (hl : ∀ h, c.Ok h → h.IsList a vs.toArray) (hI : IntsAre vs ns)
    (hi : Ev prog w s₀ A c (eval slice env) (VI k)) (h0 : 0 ≤ k) (hx : ns[k.toNat]? = some x) (hz : ns.length ≤ 1000000)
    (hs : ∀ u, subscripted slice false (.ref a) (.int k u) = operate [.ref a, .int k u] (getItem (.ref a) (.int k u)) := by intro _; with_unfolding_all rfl) : Ev prog w s₀ A c (eval (.Subscript value slice pos) env) (VI x) := by
  obtain ⟨t, ht⟩ := hI.get _ _ hx
  exact (Ev.itemL (x := .int x t) hv hl hi h0 (by simpa using ht) (by rw [List.size_toArray, hI.length]; exact hz) hs).mono fun v H e => ⟨t, e⟩
set_option maxHeartbeats 4000000 in
/-- rows, from the numbers -/
theorem rows_first {L a nb : Addr} {cdv : Value} {n : Nat} {tn : Tok} {vs : List Value} {ms : List Int} (am : Amb c.B) (gd : Gd 2 A) (hlo : 7 ≤ n) (hhi : n ≤ 13)
    (hS : ∀ h, c.Ok h → h.IsCell (L + 1) (some (.int n tn))) (hN : ∀ h, c.Ok h → h.IsCell (L + 2) (some (.ref nb))) (hnb : c.B.IsList nb vs.toArray) (hI : IntsAre vs ms) (hm0 : 0 < ms.length) (hm1 : ms.length ≤ 1000) :
    Ev prog w s₀ A c (eval (asgVal (lawSt 4)) (eL L a cdv)) (CompR n (fun _ y H => ∃ f, BitsL n f y H)) := by
  refine Ev.comp (P := fun i v => ∃ t, v = .int i t) (cl := [(Str.ofString "size", L + 1), (Str.ofString "numbers", L + 2)]) (P₁ := fun v H => ∃ r t u x, v = .ref r ∧ IsRange H r 0 n 1 t u x) (Ev.range1 (Ev.blt am rfl) (Ev.isInt (u := tn) (Ev.cell (a := L + 1) hS))) ?_ (Nat.le_trans hhi (by decide)) ?_ rfl rfl (by decide) (by decide) (by decide)
  · rintro v B' g' u'
    obtain ⟨r, t1, t2, t3, rfl, hr⟩ := u'.here
    exact src_range1 gd.hh (by omega) hr
  · rintro B' C i v o hi ⟨ti, rfl⟩
    have amB : Amb B' := am.keeps o.keep
    have vS : ∀ h, Cx.Ok ⟨B', C, [(Str.ofString "i", .int i ti)], []⟩ h → h.IsCell (L + 1) (some (.int n tn)) := fun h o' => (hS B' o).keeps o'.keep
    have vN : ∀ h, Cx.Ok ⟨B', C, [(Str.ofString "i", .int i ti)], []⟩ h → h.IsCell (L + 2) (some (.ref nb)) := fun h o' => (hN B' o).keeps o'.keep
    have hl : B'.IsList nb vs.toArray := Heap.IsList.kp hnb o.keep
    have hlen : vs.toArray.size = ms.length := by rw [List.size_toArray, hI.length]
    have hm : ((ms.length : Nat) : Int) ≠ 0 := by omega
    have hmod : ((i : Int)).fmod (ms.length : Int) = ((i % ms.length : Nat) : Int) := by rw [Int.fmod_eq_emod_of_nonneg _ (by omega)]; simp
    have hlt : i % ms.length < ms.length := Nat.mod_lt _ hm0
    refine Ev.callR (f := aLine) (R := fun vs _ => ∃ v u, vs = [v, u] ∧ (∃ x t, v = .int x t) ∧ u = .int n tn) (Ev.glob amB rfl) ?_ (Ev.args2 (V₁ := fun v => ∃ x t, v = .int x t) (V₂ := fun v => v = .int n tn) ?_ (Ev.cell (a := L + 1) vS)) ?_
    · intro h o'
      obtain ⟨ob, doc, pm, an, cdv, ct, e1, e2, _⟩ := amB.fLine
      exact ⟨ob, _, o'.keep _ _ e1, e2⟩
    · refine Ev.mono (Ev.add (x := ms.getD (i % ms.length) 0) (y := ((i : Int)).fdiv (ms.length : Int)) ?_ ?_) fun v H ⟨t, e⟩ => ⟨_, t, e⟩
      · refine Ev.itemI (a := nb) (vs := vs) (ns := ms) (k := ((i % ms.length : Nat) : Int)) (Ev.cell (a := L + 2) vN) (fun h o' => Heap.IsList.kp hl o'.keep) hI ?_ (by omega) ?_ (by omega)
        · rw [← hmod]
          refine Ev.mod (Ev.isInt (Ev.local rfl)) ?_ hm
          rw [← hlen]
          exact Ev.lenL (Ev.blt amB rfl) (Ev.cell (a := L + 2) vN) hl (by omega)
        · rw [Int.toNat_natCast, List.getElem?_eq_getElem hlt, List.getD_eq_getElem?_getD, List.getElem?_eq_getElem hlt]; rfl
      · refine Ev.fdiv (Ev.isInt (Ev.local rfl)) ?_ hm (PyProof.noPylong_small (by simp; omega))
        rw [← hlen]
        exact Ev.lenL (Ev.blt amB rfl) (Ev.cell (a := L + 2) vN) hl (by omega)
    · intro ws B'' g u h o'
      obtain ⟨_, _, rfl, ⟨x, t, rfl⟩, rfl⟩ := u.here
      exact (line_ok (amB.keeps (g.trans o'.keep)) (gd.less (by decide)) hlo hhi).mono fun _ _ q _ => q
/-- a walk over the rows -/
theorem src_rows {n : Nat} {b : Nat → Nat → Bool} {v : Value} {B₀ : Heap} (hh : A.handled = none) (hr : RowsL n b v B₀) (k : Kp B₀ c.B) : Src prog w s₀ A c v n (fun i y => BitsL n (b i) y B₀) := by
  obtain ⟨D, vs, ep, rfl, hD, hlen, hF⟩ := hr
  have := Src.list (prog := prog) (w := w) (s₀ := s₀) (c := c) hh (isList_lst (k _ _ hD))
  rw [List.size_toArray, hlen] at this
  exact this.mono fun i y e => hF i y (by simpa using e)
/-- a bit of a row -/
theorem Ev.itemR {value slice : Expr} {pos : Pos} {y : Value} {n : Nat} {g : Nat → Bool} {k : Nat} (hv : Ev prog w s₀ A c (eval value env) (Is y)) (hb : BitsL n g y c.B) (hi : Ev prog w s₀ A c (eval slice env) (VI k)) (hk : k < n) (hn : n ≤ 13)
    (hs : ∀ a u, subscripted slice false (.ref a) (.int k u) = operate [.ref a, .int k u] (getItem (.ref a) (.int k u)) := by intro _ _; with_unfolding_all rfl) : Ev prog w s₀ A c (eval (.Subscript value slice pos) env) (VI (bi (g k))) := by
  obtain ⟨a, vs, ep, rfl, hl, hI⟩ := hb
  exact Ev.itemI hv (fun h o => isList_lst (o.keep _ _ hl)) hI hi (by omega) (by rw [Int.toNat_natCast]; exact get_mr _ _ _ hk) (by simp; omega) (hs a)
set_option maxHeartbeats 4000000 in
/-- rows, turned about the diagonal -/
theorem rows_turn {L a : Addr} {cdv rv : Value} {n : Nat} {tn : Tok} {b : Nat → Nat → Bool} (am : Amb c.B) (hh : A.handled = none) (hlo : 7 ≤ n) (hhi : n ≤ 13)
    (hS : ∀ h, c.Ok h → h.IsCell (L + 1) (some (.int n tn))) (hR : ∀ h, c.Ok h → h.IsCell (L + 3) (some rv)) (hr : RowsL n b rv c.B) :
    Ev prog w s₀ A c (eval (asgVal (lawSt 5)) (eL L a cdv)) (RowsL n (fun j => colOf b j)) := by
  refine Ev.compC (P := fun i v => ∃ t, v = .int i t) (cl := [(Str.ofString "rows", L + 3)]) (P₁ := fun v H => ∃ r t u x, v = .ref r ∧ IsRange H r 0 n 1 t u x) (Ev.range1 (Ev.blt am rfl) (Ev.isInt (u := tn) (Ev.cell (a := L + 1) hS))) ?_ (Nat.le_trans hhi (by decide)) ?_ rfl rfl (by decide) (fun _ => rfl) (fun _ => rfl) (fun _ _ => rfl)
  · rintro v B' g' u'
    obtain ⟨r, t1, t2, t3, rfl, hr⟩ := u'.here
    exact src_range1 hh (by omega) hr
  · rintro B' C cc j v ob o hj ⟨tj, rfl⟩ hob
    have vR : ∀ h, Cx.Ok ⟨B', C, [], [(cc, ob)]⟩ h → h.IsCell (L + 3) (some rv) := fun h o' => (hR B' o).keeps o'.keep
    have hrB : RowsL n b rv B' := hr.kp o.keep
    refine (Ev.comp (n := n) (F := fun i y H => ∃ t, y = .int (bi (b i j)) t) (P := fun i y => BitsL n (b i) y B') (cl := [(Str.ofString "j", cc)]) (P₁ := Is rv) (Ev.cell (a := L + 3) vR) ?_ (Nat.le_trans hhi (by decide)) ?_ rfl rfl (by decide) (by decide) (by decide)).mono ?_
    · rintro v B'' g' u'
      have e := u'.here; subst e
      exact src_rows hh hrB g'
    · rintro B'' C' i y o' hi hy
      have vJ : ∀ h, Cx.Ok ⟨B'', C', [(Str.ofString "row", y)], []⟩ h → h.IsCell cc (some (.int j tj)) := fun h o'' => (own_cell (c := ⟨B', C, [], [(cc, ob)]⟩) (.head _) hob B'' o').keeps o''.keep
      exact Ev.itemR (y := y) (Ev.local rfl) (hy.kp o'.keep) (Ev.isInt (u := tj) (Ev.cell (a := cc) vJ)) hj hhi
    · rintro v H ⟨D, vs, ep, rfl, hD, hlen, hF⟩
      refine ⟨D, vs, ep, rfl, hD, ints_of (by simp [hlen]) fun i y x e e' => ?_⟩
      have hi : i < n := by have := (List.getElem?_eq_some_iff.mp e).1; omega
      rw [get_mr _ _ _ hi] at e'
      cases e'
      exact hF i y e
end
end Mine
end QLawA

section QLawB
open PySem PySem.W PySem.Calls PyProof.Rows
set_option linter.unusedVariables false
set_option maxRecDepth 100000
namespace Mine
def cd1 (c : Bool) : Nat := if c then 49 else 48
def txt (n : Nat) (g : Nat → Bool) : Str := ⟨((List.range n).map fun j => cd1 (g j)).toArray⟩
theorem txt_len (n : Nat) (g : Nat → Bool) : (txt n g).length = n := by simp [txt, Str.length]
theorem txt_get {n : Nat} (g : Nat → Bool) {j : Nat} (h : j < n) : (txt n g).cps[j]? = some (cd1 (g j)) := by simp [txt, h]
theorem str_bit (c : Bool) : (Str.ofString (toString (bi c))) = ⟨#[cd1 c]⟩ := by cases c <;> decide +kernel
theorem empty_str : Str.ofString "" = ⟨#[]⟩ := by decide +kernel
theorem join_ones (l : List Bool) : Txt.join (Str.ofString "") (l.map fun c => (⟨#[cd1 c]⟩ : Str)) = ⟨(l.map cd1).toArray⟩ := by
  rw [show Txt.join (Str.ofString "") (l.map fun c => (⟨#[cd1 c]⟩ : Str)) = Str.join ⟨#[]⟩ (l.map fun c => (⟨#[cd1 c]⟩ : Str)) from eq_of_beq (join_closes empty_str)]
  induction l with
  | nil => rfl
  | cons c l ih =>
    rw [List.map_cons, join_nil_cons, ih]
    show (⟨#[cd1 c] ++ (l.map cd1).toArray⟩ : Str) = _
    simp
theorem join_txt (n : Nat) (g : Nat → Bool) : Txt.join (Str.ofString "") ((List.range n).map fun j => (⟨#[cd1 (g j)]⟩ : Str)) = txt n g := by
  have := join_ones ((List.range n).map g)
  rw [List.map_map, List.map_map] at this
  exact this
theorem sum_ones {α : Type} : ∀ l : List α, (l.map fun _ => 1).sum = l.length
  | [] => rfl
  | _ :: l => by rw [List.map_cons, List.sum_cons, sum_ones l, List.length_cons]; omega
theorem get_mrS {α : Type} (f : Nat → α) (n i : Nat) (h : i < n) : ((List.range n).map f)[i]? = some (f i) := by simp [h]
theorem weigh_ones (n : Nat) (g : Nat → Bool) (s : Str) (hs : s.length = 0) (hn : n ≤ 13) : (((List.range n).map fun j => (⟨#[cd1 (g j)]⟩ : Str)).map (·.length)).sum + ((List.range n).map fun j => (⟨#[cd1 (g j)]⟩ : Str)).length * s.length ≤ 16777216 := by
  have e : ((List.range n).map fun j => (⟨#[cd1 (g j)]⟩ : Str)).map (·.length) = (List.range n).map fun _ => 1 := by rw [List.map_map]; rfl
  rw [e, hs]
  have : ((List.range n).map fun _ => 1).sum = n := by rw [sum_ones]; simp
  rw [this]; omega
section
variable {prog : Program} {w : World} {s₀ : Shared} {A : Around} {c : Cx} {env : Env}
theorem src_bits {n : Nat} {g : Nat → Bool} {v : Value} {B₀ : Heap} (hh : A.handled = none) (hr : BitsL n g v B₀) (k : Kp B₀ c.B) : Src prog w s₀ A c v n (fun i y => ∃ t, y = .int (bi (g i)) t) := by
  obtain ⟨D, vs, ep, rfl, hD, hI⟩ := hr
  have hlen : vs.length = n := by rw [hI.length]; simp
  have := Src.list (prog := prog) (w := w) (s₀ := s₀) (c := c) hh (isList_lst (k _ _ hD))
  rw [List.size_toArray, hlen] at this
  refine this.mono fun i y e => ?_
  have e1 : vs[i]? = some y := by simpa using e
  have hi : i < n := by have := (List.getElem?_eq_some_iff.mp e1).1; omega
  obtain ⟨t, ht⟩ := hI.get i _ (get_mr _ _ _ hi)
  rw [e1] at ht; cases ht; exact ⟨t, rfl⟩
/-- the ones of a comprehension are a list of texts -/
theorem comp_strs {n : Nat} {f : Nat → Str} {v : Value} {H : Heap} (x : CompR n (fun i y _ => ∃ t, y = .str (f i) t) v H) : StrL ((List.range n).map f) v H := by
  obtain ⟨D, vs, ep, rfl, hD, hlen, hF⟩ := x
  refine ⟨D, vs, ep, rfl, hD, strs_of (by simp [hlen]) fun i y x e e' => ?_⟩
  have hi : i < n := by have := (List.getElem?_eq_some_iff.mp e).1; omega
  rw [get_mrS _ _ _ hi] at e'
  cases e'
  exact hF i y e
theorem StrL.kp {xs : List Str} {v : Value} {h h' : Heap} (x : StrL xs v h) (g : Kp h h') : StrL xs v h' := let ⟨a, vs, ep, e, q, r⟩ := x; ⟨a, vs, ep, e, g _ _ q, r⟩
set_option maxHeartbeats 4000000 in
theorem lines_ok {L a : Addr} {cdv rv : Value} {n : Nat} {b : Nat → Nat → Bool} (am : Amb c.B) (hh : A.handled = none) (hhi : n ≤ 13)
    (hR : ∀ h, c.Ok h → h.IsCell (L + 3) (some rv)) (hr : RowsL n b rv c.B) :
    Ev prog w s₀ A c (eval (asgVal (lawSt 6)) (eL L a cdv)) (StrL ((List.range n).map fun i => txt n (b i))) := by
  refine Ev.mono (Ev.comp (n := n) (F := fun i y _ => ∃ t, y = .str (txt n (b i)) t) (P := fun i y => BitsL n (b i) y c.B) (cl := []) (P₁ := Is rv) (Ev.cell (a := L + 3) hR) ?_ (Nat.le_trans hhi (by decide)) ?_ rfl rfl (by decide) (by decide) (by decide)) fun v H x => comp_strs x
  · rintro v B' g' u'
    have e := u'.here; subst e
    exact src_rows hh hr g'
  · rintro B' C i y o hi hy
    have amB : Amb B' := am.keeps o.keep
    have hyB : BitsL n (b i) y B' := hy.kp o.keep
    rw [← join_txt n (b i)]
    refine Ev.joinS (ys := (List.range n).map fun j => (⟨#[cd1 (b i j)]⟩ : Str)) (P₁ := StrL ((List.range n).map fun j => (⟨#[cd1 (b i j)]⟩ : Str))) Ev.str ?_ ?_ (weigh_ones n (b i) _ (by decide +kernel) hhi)
    · intro B'' g''
      refine Ev.mono (Ev.comp (n := n) (F := fun j y _ => ∃ t, y = .str (⟨#[cd1 (b i j)]⟩ : Str) t) (P := fun j y => ∃ t, y = .int (bi (b i j)) t) (cl := []) (P₁ := Is y) (Ev.local rfl) ?_ (Nat.le_trans hhi (by decide)) ?_ rfl rfl (by decide) (by decide) (by decide)) fun v H x => comp_strs x
      · rintro v B3 g3 u3
        have e := u3.here; subst e
        exact src_bits hh hyB (g''.trans g3)
      · rintro B3 C3 j z o3 hj ⟨t, rfl⟩
        have k3 : Kp B'' B3 := o3.keep
        refine Ev.mono (Ev.strI (a := bi (b i j)) (Ev.blt (am.keeps (o.keep.trans (g''.trans k3))) rfl) (Ev.isInt (Ev.local rfl)) (by cases b i j <;> decide)) fun v H ⟨t, e⟩ => ⟨t, by rw [e]; congr 1; exact str_bit (b i j)⟩
    · rintro v B'' g'' u
      obtain ⟨D, vs, ep, rfl, hD, hS⟩ := u.here
      exact ⟨D, vs, rfl, hS, fun h o' => isList_lst (o'.keep _ _ hD)⟩
end
end Mine
end QLawB

section QLawC
open PySem PySem.W PySem.Calls PyProof.Rows
set_option linter.unusedVariables false
set_option maxRecDepth 100000
namespace Mine
def PicV (n : Nat) (b : Nat → Nat → Bool) (vs : List Value) (H : Heap) : Prop := vs.length = n ∧ ∀ i y, vs[i]? = some y → ∃ r, y = .ref r ∧ H.get? r = some (ba (bitsA n (b i)))
theorem pic_of {n : Nat} {b : Nat → Nat → Bool} {T : Addr} {vs : List Value} {H : Heap} (hT : H.get? T = some (tup vs 0)) (hp : PicV n b vs H) : ∃ R, Pic H T n b R := by
  obtain ⟨hlen, hF⟩ := hp
  have key : ∀ i : Nat, ∃ r : Addr, ∀ y, vs[i]? = some y → y = .ref r ∧ H.get? r = some (ba (bitsA n (b i))) := fun i => by
    cases hv : vs[i]? with
    | none => exact ⟨0, fun y e => by cases e⟩
    | some y => obtain ⟨r, e1, e2⟩ := hF i y hv; exact ⟨r, fun y' e => by cases e; exact ⟨e1, e2⟩⟩
  obtain ⟨R, hR⟩ : ∃ R : Nat → Addr, ∀ i y, vs[i]? = some y → y = .ref (R i) ∧ H.get? (R i) = some (ba (bitsA n (b i))) := ⟨fun i => (key i).choose, fun i => (key i).choose_spec⟩
  refine ⟨R, ?_, fun i hi => ?_⟩
  · have e : vs = (List.range n).map fun i => Value.ref (R i) := by
      apply List.ext_getElem?
      intro i
      by_cases h : i < n
      · have hi : i < vs.length := by omega
        rw [get_mrS _ _ _ h, List.getElem?_eq_getElem hi, (hR i _ (List.getElem?_eq_getElem hi)).1]
      · rw [List.getElem?_eq_none (by omega), List.getElem?_eq_none (by simp; omega)]
    exact e ▸ isTup_tup hT
  · have hi' : i < vs.length := by omega
    exact (hR i _ (List.getElem?_eq_getElem hi')).2
section
variable {prog : Program} {w : World} {s₀ : Shared} {A : Around} {c : Cx} {env : Env}
/-- a bytearray of a row -/
theorem Ev.baRow {func e : Expr} {pos : Pos} {P₁ : Value → Heap → Prop} {n : Nat} {g : Nat → Bool} (hf : Ev prog w s₀ A c (eval func env) (Is (.type "bytearray"))) (he : Ev prog w s₀ A c (eval e env) P₁) (hp : ∀ v B, Kp c.B B → Up P₁ v B → BitsL n g v B) (hn : n ≤ 13)
    (hcall : eval (.Call func [e] [] pos) env = (do callWith pos (← eval func env) [] (backTo pos (starEach [e] env)) (backToKw pos (keywordEach [] env))) := by rfl)
    (hs : starEach [e] env = [(false, eval e env)] := by rfl) : Ev prog w s₀ A c (eval (.Call func [e] [] pos) env) (fun v H => ∃ r, v = .ref r ∧ H.get? r = some (ba (bitsA n g))) := by
  refine (Ev.baNew (ns := (List.range n).map fun j => bi (g j)) hf he (fun v B k u => ?_) ?_ (by simp; omega) hcall hs).mono fun v H ⟨a, e1, e2⟩ => ⟨a, e1, by rw [e2, bytesOf_bits]⟩
  · obtain ⟨a, vs, ep, rfl, hl, hI⟩ := hp v B k u
    exact ⟨a, "list", vs.toArray, ep, rfl, .inl rfl, hI, fun h o => ⟨_, o.keep _ _ hl, rfl, rfl⟩⟩
  · intro m hm
    obtain ⟨j, _, rfl⟩ := List.mem_map.mp hm
    exact bi01 _
set_option maxHeartbeats 4000000 in
theorem picture_ok {L a : Addr} {cdv rv : Value} {n : Nat} {b : Nat → Nat → Bool} (am : Amb c.B) (hh : A.handled = none) (hhi : n ≤ 13) (hR : ∀ h, c.Ok h → h.IsCell (L + 3) (some rv)) (hr : RowsL n b rv c.B) :
    Ev prog w s₀ A c (eval (asgVal (lawSt 15)) (eL L a cdv)) (fun v H => ∃ T vs, v = .ref T ∧ H.get? T = some (tup vs 0) ∧ PicV n b vs H) := by
  refine Ev.tupL (Φ := PicV n b) (P₁ := CompR n (fun i y H => ∃ r, y = .ref r ∧ H.get? r = some (ba (bitsA n (b i))))) (Ev.blt am rfl) ?_ ?_
  · refine Ev.comp (n := n) (P := fun i y => BitsL n (b i) y c.B) (cl := []) (P₁ := Is rv) (Ev.cell (a := L + 3) hR) ?_ (Nat.le_trans hhi (by decide)) ?_ rfl rfl (by decide) (by decide) (by decide)
    · rintro v B' g' u'
      have e := u'.here; subst e
      exact src_rows hh hr g'
    · rintro B' C i y o hi hy
      have amB : Amb B' := am.keeps o.keep
      have hyB : BitsL n (b i) y B' := hy.kp o.keep
      exact Ev.baRow (P₁ := Is y) (Ev.blt amB rfl) (Ev.local rfl) (fun v B'' g u => by have e := u.here; subst e; exact hyB.kp g) hhi
  · rintro v H ⟨D, vs, ep, rfl, hD, hlen, hF⟩
    exact ⟨D, vs, ep, rfl, hD, by omega, hlen, hF⟩
end
end Mine
end QLawC

section QLawD
open PySem PySem.W PySem.Calls PySem.SeqAt PyProof.Rows
set_option linter.unusedVariables false
set_option maxRecDepth 100000
namespace Mine
def rot (n : Nat) (b : Nat → Nat → Bool) : Nat → Nat → Bool := fun j k => b (n - 1 - k) j
theorem eqAt_bits {A : Around} {s : Shared} {n : Nat} {g : Nat → Bool} {y y' : Value} (hu : A.units < cLine) (h1 : BitsL n g y s.heap) (h2 : BitsL n g y' s.heap) : EqAt A s y y' true := by
  obtain ⟨p, vs, ep, rfl, hp, hI⟩ := h1
  obtain ⟨q, ws, eq, rfl, hq, hJ⟩ := h2
  by_cases e : p = q
  · subst e; exact EqAt.same _
  · have key := RcAt.lists (A := A) (s := s) (e := fun _ => true) (isList_lst hp) (isList_lst hq) (by simp [hI.length, hJ.length]) hu fun j k1 k2 => by
      have hj : j < n := by simp [hI.length] at k1; exact k1
      obtain ⟨t, ht⟩ := hI.get j _ (get_mr _ _ _ hj)
      obtain ⟨t', ht'⟩ := hJ.get j _ (get_mr _ _ _ hj)
      have e1 : vs.toArray[j] = Value.int (bi (g j)) t := by
        have := List.getElem?_eq_some_iff.mp ht; obtain ⟨_, q⟩ := this; simpa using q
      have e2 : ws.toArray[j] = Value.int (bi (g j)) t' := by
        have := List.getElem?_eq_some_iff.mp ht'; obtain ⟨_, q⟩ := this; simpa using q
      rw [e1, e2]
      have := EqAt.int_int (A := A.in1) (s := s) (bi (g j)) t (bi (g j)) t'
      rwa [beq_self_eq_true] at this
    rw [show (List.range vs.toArray.size).all (fun _ => true) = true by simp] at key
    exact EqAt.of_refs e key
section
variable {prog : Program} {w : World} {s₀ : Shared} {A : Around} {c : Cx} {env : Env}
theorem Ev.neRows {l r : Expr} {pos : Pos} {n : Nat} {b : Nat → Nat → Bool} {rv : Value} {whole : Sem Value} (hu : A.units + 20 < cLine) (hl : Ev prog w s₀ A c (eval l env) (RowsL n b)) (hr : ∀ B, Kp c.B B → Ev prog w s₀ A { c with B := B } (eval r env) (Is rv)) (hrv : RowsL n b rv c.B)
    (hm : behindInMarks .NotEq r = false := by with_unfolding_all rfl) : Ev prog w s₀ A c (isTrue (.Compare l [.NotEq] [r] pos) env whole) (Tr false) := fun h o tk p =>
  c_isTrue_Compare1 ((Ev.two₀ (op := fun x y => compareOp .NotEq x y) (P := VB false) hl hr (fun x y B g u v h o tk p => by
    have e := v.here; subst e
    have h1 : RowsL n b x h := (u.here).kp o.keep
    have h2 : RowsL n b y h := (hrv.kp g).kp o.keep
    obtain ⟨D, vs, ep, rfl, hD, hlen, hF⟩ := h1
    obtain ⟨D', ws, ep', rfl, hD', hlen', hF'⟩ := h2
    refine toC (RcNeAt.lists (e := fun _ => true) (isList_lst hD) (isList_lst hD') (by simp [hlen, hlen']) (by omega) (fun j k1 k2 => ?_) prog w _ _ ?_)
    · have k1' : j < vs.length := by simpa using k1
      have k2' : j < ws.length := by simpa using k2
      refine eqAt_bits (n := n) (g := b j) ?_ (hF j _ (by simp [k1'])) (hF' j _ (by simp [k2']))
      show A.in1.units < cLine
      have : A.in1.units ≤ A.units + 10 := by simp [Around.in1]
      omega
    · rw [show (!(List.range vs.toArray.size).all fun _ => true) = false by simp]
      exact stay fun _ _ _ => rfl) h o).use (fun a h₁ tk₁ z q => q.use (fun b' h₂ tk₂ z₂ q₂ => q₂.use (fun u h₃ tk₃ _ ⟨g, z, f⟩ => by
    have e := f h₃ (New.self _ _); subst e; exact toC (wpAny_truthy_bool ⟨h₃, tk₃, rfl, g, z, fun _ _ => rfl⟩)) tk₂ z₂) tk₁ z) tk p) hm
/-- a bit of the rows -/
theorem Ev.itemRC {value s1 s2 : Expr} {p1 p2 : Pos} {rv : Value} {n k j : Nat} {b : Nat → Nat → Bool} (hv : Ev prog w s₀ A c (eval value env) (Is rv)) (hr : RowsL n b rv c.B) (hi : Ev prog w s₀ A c (eval s1 env) (VI k)) (hk : k < n) (hj : Ev prog w s₀ A c (eval s2 env) (VI j)) (hj' : j < n) (hn : n ≤ 13)
    (hs : ∀ a u, subscripted s1 false (.ref a) (.int k u) = operate [.ref a, .int k u] (getItem (.ref a) (.int k u)) := by intro _ _; with_unfolding_all rfl)
    (hs' : ∀ a u, subscripted s2 false (.ref a) (.int j u) = operate [.ref a, .int j u] (getItem (.ref a) (.int j u)) := by intro _ _; with_unfolding_all rfl) : Ev prog w s₀ A c (eval (.Subscript (.Subscript value s1 p1) s2 p2) env) (VI (bi (b k j))) := by
  obtain ⟨D, vs, ep, rfl, hD, hlen, hF⟩ := hr
  have hk' : k < vs.length := by omega
  exact Ev.itemR (y := vs[k]) (Ev.itemL hv (fun h o => isList_lst (o.keep _ _ hD)) hi (by omega) (by simp [hk']) (by simp; omega) (hs D)) (hF k _ (List.getElem?_eq_getElem hk')) hj hj' hn hs'
set_option maxHeartbeats 4000000 in
theorem quarter_ok {L a : Addr} {cdv rv : Value} {n : Nat} {tn : Tok} {b : Nat → Nat → Bool} (am : Amb c.B) (hh : A.handled = none) (h4 : n4 n) (hS : ∀ h, c.Ok h → h.IsCell (L + 1) (some (.int n tn))) (hR : ∀ h, c.Ok h → h.IsCell (L + 3) (some rv)) (hr : RowsL n b rv c.B) :
    Ev prog w s₀ A c (eval (asgVal (lawSt 18)) (eL L a cdv)) (fun v H => ∃ T vs, v = .ref T ∧ H.get? T = some (tup vs 0) ∧ PicV n (rot n b) vs H) := by
  have hhi := h4.hi
  have hlo := h4.lo
  refine Ev.tupL (Φ := PicV n (rot n b)) (P₁ := CompR n (fun j y H => ∃ r, y = .ref r ∧ H.get? r = some (ba (bitsA n (rot n b j))))) (Ev.blt am rfl) ?_ ?_
  · refine Ev.compC (P := fun i v => ∃ t, v = .int i t) (cl := [(Str.ofString "size", L + 1), (Str.ofString "rows", L + 3)]) (P₁ := fun v H => ∃ r t u x, v = .ref r ∧ IsRange H r 0 n 1 t u x) (Ev.range1 (Ev.blt am rfl) (Ev.isInt (u := tn) (Ev.cell (a := L + 1) hS))) ?_ (Nat.le_trans hhi (by decide)) ?_ rfl rfl (by decide) (fun _ => rfl) (fun _ => rfl) (fun _ _ => rfl)
    · rintro v B' g' u'
      obtain ⟨r, t1, t2, t3, rfl, hr⟩ := u'.here
      exact src_range1 hh (by omega) hr
    · rintro B' C cc j v ob o hj ⟨tj, rfl⟩ hob
      have amB : Amb B' := am.keeps o.keep
      have vR : ∀ h, Cx.Ok ⟨B', C, [], [(cc, ob)]⟩ h → h.IsCell (L + 3) (some rv) := fun h o' => (hR B' o).keeps o'.keep
      have vS : ∀ h, Cx.Ok ⟨B', C, [], [(cc, ob)]⟩ h → h.IsCell (L + 1) (some (.int n tn)) := fun h o' => (hS B' o).keeps o'.keep
      have hrB : RowsL n b rv B' := hr.kp o.keep
      refine Ev.baRow (n := n) (g := rot n b j) (P₁ := CompR n (fun i y H => ∃ t, y = .int (bi (rot n b j i)) t)) (Ev.blt amB rfl) ?_ ?_ hhi
      · refine Ev.comp (n := n) (P := fun i v => ∃ t, v = .int ((n : Int) - 1 + i * (-1)) t) (cl := [(Str.ofString "rows", L + 3), (Str.ofString "j", cc)]) (P₁ := fun v H => ∃ r t u q, v = .ref r ∧ IsRange H r ((n : Int) - 1) (-1) (-1) t u q) ?_ ?_ (Nat.le_trans hhi (by decide)) ?_ rfl rfl (by decide) (by decide) (by decide)
        · refine Ev.range3 (Ev.blt amB rfl) (Ev.sub (Ev.isInt (u := tn) (Ev.cell (a := L + 1) vS)) Ev.int) (Ev.neg Ev.int) (Ev.neg Ev.int) (by decide) ?_
          rcases h4 with rfl | rfl | rfl | rfl <;> decide +kernel
        · rintro v B'' g'' u''
          obtain ⟨r, t1, t2, t3, rfl, hr'⟩ := u''.here
          refine Src.range (n := n) hh hr' ?_ ?_
          · rcases h4 with rfl | rfl | rfl | rfl <;> decide +kernel
          · rcases h4 with rfl | rfl | rfl | rfl <;> decide +kernel
        · rintro B'' C' i y o' hi ⟨ti, ey⟩
          rw [show (n : Int) - 1 + i * (-1) = ((n - 1 - i : Nat) : Int) by omega] at ey
          subst ey
          have vJ : ∀ h, Cx.Ok ⟨B'', C', [(Str.ofString "i", .int (((n - 1 - i : Nat)) : Int) ti)], []⟩ h → h.IsCell cc (some (.int j tj)) := fun h o'' => (own_cell (c := ⟨B', C, [], [(cc, ob)]⟩) (.head _) hob B'' o').keeps o''.keep
          have vR' : ∀ h, Cx.Ok ⟨B'', C', [(Str.ofString "i", .int (((n - 1 - i : Nat)) : Int) ti)], []⟩ h → h.IsCell (L + 3) (some rv) := fun h o'' => (vR B'' o').keeps o''.keep
          exact Ev.itemRC (b := b) (Ev.cell (a := L + 3) vR') (hrB.kp o'.keep) (Ev.isInt (Ev.local rfl)) (by omega) (Ev.isInt (u := tj) (Ev.cell (a := cc) vJ)) hj hhi
      · rintro v B'' g'' u''
        obtain ⟨D, vs, ep, rfl, hD, hlen, hF⟩ := u''.here
        refine ⟨D, vs, ep, rfl, hD, ints_of (by simp [hlen]) fun i y x e e' => ?_⟩
        have hi : i < n := by have := (List.getElem?_eq_some_iff.mp e).1; omega
        rw [get_mr _ _ _ hi] at e'
        cases e'
        exact hF i y e
  · rintro v H ⟨D, vs, ep, rfl, hD, hlen, hF⟩
    exact ⟨D, vs, ep, rfl, hD, by omega, hlen, hF⟩
end
end Mine
end QLawD

section QLawE
open PySem PySem.W PySem.Calls PySem.SeqAt PyProof.Rows
set_option linter.unusedVariables false
set_option maxRecDepth 100000
namespace Mine
theorem eqAt_ints {A : Around} {s : Shared} {vs ws : List Value} {ns : List Int} (h1 : IntsAre vs ns) (h2 : IntsAre ws ns) : ∀ j (k1 : j < vs.toArray.size) (k2 : j < ws.toArray.size), EqAt A s vs.toArray[j] ws.toArray[j] true := fun j k1 k2 => by
  have hj : j < ns.length := by rw [← h1.length]; simpa using k1
  obtain ⟨t, ht⟩ := h1.get j _ (List.getElem?_eq_getElem hj)
  obtain ⟨t', ht'⟩ := h2.get j _ (List.getElem?_eq_getElem hj)
  have e1 : vs.toArray[j] = Value.int ns[j] t := by
    have := List.getElem?_eq_some_iff.mp ht; obtain ⟨_, q⟩ := this; simpa using q
  have e2 : ws.toArray[j] = Value.int ns[j] t' := by
    have := List.getElem?_eq_some_iff.mp ht'; obtain ⟨_, q⟩ := this; simpa using q
  rw [e1, e2]
  have := EqAt.int_int (A := A) (s := s) ns[j] t ns[j] t'
  rwa [beq_self_eq_true] at this
section
variable {prog : Program} {w : World} {s₀ : Shared} {A : Around} {c : Cx} {env : Env} {Q : Flow → Heap → Prop} {rest : List Stmt}
/-- if mask_scores(..) != (..): it is not so; the table of inner codes is filled -/
theorem Ex.ifMask {func e₁ e₂ e₃ r : Expr} {pc pq pos : Pos} {body : List Stmt} {n : Nat} {tn : Tok} {T : Addr} {b : Nat → Nat → Bool} {R : Nat → Addr} (pre post : List (Addr × Obj)) (hμ : c.μ = pre ++ (23, tabObj #[]) :: post) (hcells : ∀ q ∈ pre ++ post, ∃ u, q.2.data = .cell u)
    (am : Amb c.B) (amM : AmbM c.B) (gd : Gd 2 A) (h4 : n4 n) (pic : Pic c.B T n b R)
    (hf : Ev prog w s₀ A c (eval func env) (Is (.ref aMask))) (h1 : Ev prog w s₀ A c (eval e₁ env) (Is (.ref T))) (h2 : Ev prog w s₀ A c (eval e₂ env) (Is (.int n tn))) (h3 : Ev prog w s₀ A c (eval e₃ env) (Is (.int n tn)))
    (hr : ∀ μ, Ev prog w s₀ A { c with μ := μ } (eval r env) (fun v H => ∃ a vs, v = .ref a ∧ H.get? a = some (tup vs 0) ∧ IntsAre vs [S1 b n n, S2 b n n, S3 b n n, shareV b n]))
    (k : ∀ B c', Kp c.B B → B.CodeRec (.ref c') qnM → Ex prog w s₀ A { c with B := B, μ := pre ++ (23, tabObj #[rawInt (7 : Nat), rawInt (4 : Nat), .ref c']) :: post } (execs rest env) Q)
    (hcall : eval (.Call func [e₁, e₂, e₃] [] pc) env = (do callWith pc (← eval func env) [] (backTo pc (starEach [e₁, e₂, e₃] env)) (backToKw pc (keywordEach [] env))) := by rfl)
    (hs : starEach [e₁, e₂, e₃] env = (false, eval e₁ env) :: starEach [e₂, e₃] env := by rfl) (hs' : starEach [e₂, e₃] env = (false, eval e₂ env) :: starEach [e₃] env := by rfl) (hs'' : starEach [e₃] env = [(false, eval e₃ env)] := by rfl)
    (hm : behindInMarks .NotEq r = false := by with_unfolding_all rfl) :
    Ex prog w s₀ A c (execs (.If (.Compare (.Call func [e₁, e₂, e₃] [] pc) [.NotEq] [r] pq) body [] pos :: rest) env) Q := Ex.cons fun h o tk p => by
  refine c_If (c_isTrue_Compare1 (c_Call ((hf h o).use (fun v h₁ tk₁ z ⟨g₁, z₁, p₁⟩ => ?_) tk p) hcall) hm)
  have e := p₁ _ (New.self _ _); subst e
  have o₁ := o.grow g₁
  obtain ⟨ob, doc, pm, an, ct, eo, ed, _⟩ := amM.fn
  refine c_callWith_def (o := ob) ed ((Ev.args3 (V₁ := fun v => v = .ref T) (V₂ := fun v => v = .int n tn) (V₃ := fun v => v = .int n tn) h1 h2 h3 hs hs' hs'' h₁ o₁).use (fun vs h₂ tk₂ z₂ ⟨g₂, y₂, p₂⟩ => ⟨g₂ _ _ (o₁.keep _ _ eo), ?_⟩) tk₁ z) hs
  obtain ⟨_, _, _, rfl, rfl, rfl, rfl⟩ := p₂ _ (New.self _ _)
  have o₂ := o₁.grow g₂
  have hmem : (23, tabObj #[]) ∈ c.μ := by rw [hμ]; simp
  have hB23 : c.B.get? 23 = none := o.off 23 (.tail _ (List.mem_map.mpr ⟨_, hmem, rfl⟩))
  have hP : h₂.get? 23 = some (tabObj #[]) := o₂.own _ hmem
  have kB : Kp c.B (hideAll h₂ [23]) := fun q ob e => hideAll_get _ (o₂.keep q ob e) (fun m => by rw [List.mem_singleton.mp m, hB23] at e; cases e)
  refine (mask_core (am.keeps kB) (amM.keeps kB) (fun q ob e => of_hideAll _ e) hP (hideAll_none _ (.head _)) (.inl rfl) gd h4 (pic.keeps kB)).use (fun v h₃ tk₃ z₃ q => ?_) tk₂ z₂
  obtain ⟨k3, ⟨ps', hp', ⟨c', hps, hcr⟩, _⟩, D, vs, rfl, hD, hge, hI⟩ := q
  subst hps
  have k23 : ∀ q ob, q ≠ 23 → h₂.get? q = some ob → h₃.get? q = some ob := fun q ob hq e => k3 q ob (hideAll_get _ e (fun m => hq (List.mem_singleton.mp m)))
  have nd := (List.nodup_cons.mp o.nd).2
  have hne : ∀ q ∈ pre ++ post, q.1 ≠ 23 := fun q hq e => by
    rw [hμ, List.map_append, List.map_cons] at nd
    have nd' := List.nodup_append.mp nd
    rcases List.mem_append.mp hq with hq | hq
    · exact nd'.2.2 q.1 (List.mem_map_of_mem hq) 23 (.head _) e
    · exact (List.nodup_cons.mp nd'.2.1).1 (List.mem_map.mpr ⟨q, hq, e⟩)
  have hLP : c.L ≠ 23 := fun e => (List.nodup_cons.mp o.nd).1 (List.mem_map.mpr ⟨_, hmem, e.symm⟩)
  have o₃ : Cx.Ok { c with μ := pre ++ (23, tabObj #[rawInt (7 : Nat), rawInt (4 : Nat), .ref c']) :: post } h₃ := by
    have hadr : Cx.adr { c with μ := pre ++ (23, tabObj #[rawInt (7 : Nat), rawInt (4 : Nat), .ref c']) :: post } = c.adr := by unfold Cx.adr; rw [hμ]; simp
    obtain ⟨m, hn, hmm⟩ := o₂.loc
    refine ⟨kB.trans k3, ⟨m, hn.at' fun ob e => k23 _ _ hLP e, hmm⟩, fun q hq => ?_, hadr ▸ o.nd, hadr ▸ o.off⟩
    have hq' : q ∈ pre ++ post ∨ q = (23, tabObj #[rawInt (7 : Nat), rawInt (4 : Nat), .ref c']) := by
      rcases List.mem_append.mp hq with a | a
      · exact .inl (List.mem_append_left _ a)
      · rcases List.mem_cons.mp a with a | a
        · exact .inr a
        · exact .inl (List.mem_append_right _ a)
    rcases hq' with hq' | rfl
    · refine k23 _ _ (hne q hq') (o₂.own q ?_)
      rw [hμ]
      rcases List.mem_append.mp hq' with a | a
      · exact List.mem_append_left _ a
      · exact List.mem_append_right _ (.tail _ a)
    · exact hp'
  refine (hr _ h₃ o₃).use (fun u h₄ tk₄ z₄ ⟨g₄, y₄, p₄⟩ => ?_) tk₃ z₃
  obtain ⟨D2, ws, rfl, hD2, hJ⟩ := p₄ _ (New.self _ _)
  refine toC (RcNeAt.tuples (e := fun _ => true) ⟨_, g₄ _ _ hD, rfl, 0, rfl⟩ ⟨_, hD2, rfl, 0, rfl⟩ (by have := gd.un; omega) (eqAt_ints hI hJ) prog w _ _ ?_)
  have hsz : vs.toArray.size = ws.toArray.size := by rw [List.size_toArray, List.size_toArray, hI.length, hJ.length]
  rw [show (!((List.range (min vs.toArray.size ws.toArray.size)).all (fun _ => true) && vs.toArray.size == ws.toArray.size)) = false by rw [hsz]; simp]
  refine toC (wpAny_truthy_bool ?_)
  have o₄ := o₃.grow g₄
  refine toC (wpAny_execs_nil ⟨h₄, tk₄, rfl, ?_⟩)
  refine k (Cx.fz { c with μ := pre ++ (23, tabObj #[rawInt (7 : Nat), rawInt (4 : Nat), .ref c']) :: post } h₄) c' o₄.kpfz ?_ h₄ o₄.base
  obtain ⟨c₂, oc, xs, t, e2, hoc, hd, hv⟩ := hcr
  cases e2
  refine ⟨c', oc, xs, t, rfl, hideAll_get _ (g₄ _ _ hoc) (fun m => ?_), hd, hv⟩
  rcases List.mem_cons.mp m with m | m
  · obtain ⟨mm, ⟨od, es, ep, eo', edt, _⟩, _⟩ := o₃.loc
    have m' : c' = c.L := m
    rw [m', show h₃.get? c.L = some od from eo'] at hoc
    cases hoc
    rw [edt] at hd; cases hd
  · obtain ⟨q, hq, e3⟩ := List.mem_map.mp m
    have own := o₃.own q hq
    rw [e3, hoc] at own
    have hq' : q ∈ pre ++ post ∨ q = (23, tabObj #[rawInt (7 : Nat), rawInt (4 : Nat), .ref c']) := by
      rcases List.mem_append.mp hq with a | a
      · exact .inl (List.mem_append_left _ a)
      · rcases List.mem_cons.mp a with a | a
        · exact .inr a
        · exact .inl (List.mem_append_right _ a)
    rcases hq' with hq' | rfl
    · obtain ⟨u, hu⟩ := hcells q hq'
      rw [← Option.some.inj own, hd] at hu; cases hu
    · have e4 := Option.some.inj own
      rw [e4] at hd
      cases hd
      simp [rawInt] at hv
end
end Mine
end QLawE

section QLawF
open PySem PySem.W PySem.Calls PySem.SeqAt PyProof.Rows
set_option linter.unusedVariables false
set_option maxRecDepth 100000
namespace Mine
def testOf : Stmt → Expr
  | .If t _ _ _ => t
  | .Return (some e) _ => e
  | _ => .Constant .none 0 ⟨0, 0, 0, 0⟩
/-- what the law's end says -/
def Fin1 (B : Heap) (f : Flow) (h' : Heap) : Prop := ∃ v, f = .ret v ∧ (v = .bool true ∧ Kp B h' ∧ ∃ ps', h'.get? 23 = some (tabObj ps'))
section
variable {prog : Program} {w : World} {s₀ : Shared} {A : Around} {c : Cx} {env : Env}
theorem Src.tup {a : Addr} {items : Array Value} (hh : A.handled = none) (hl : IsTup c.B a items) : Src prog w s₀ A c (.ref a) items.size (fun i v => items[i]? = some v) := fun h o tk p => by
  have hl' : h.IsTuple a items := IsTup.kp hl o.keep
  refine toC (wpAny_pyIter_tuple hl' ⟨_, tk, rfl, fun b ob e => Heap.get?_push_of_some _ e, h.objs.size, _, _, _, rfl, Walks.tuple hh h.objs.size a ?_ items, ?_, ?_, ?_, ?_⟩)
  · obtain ⟨ob, e, _⟩ := hl'; exact Nat.ne_of_lt (Heap.lt_size e)
  · exact ⟨⟨_, Heap.get?_push_size _ rfl, rfl, rfl⟩, hl'.at fun o e => Heap.get?_push_of_some _ e⟩
  · intro b hb; rw [List.mem_singleton.mp hb]; exact Heap.get?_none_of_le (Nat.le_refl _)
  · intro b hb hm
    rcases List.mem_cons.mp hb with e | hb
    · exact absurd (o.lt b hm) (e ▸ Nat.lt_irrefl _)
    · rw [List.mem_singleton.mp hb] at hm
      obtain ⟨ob, e, _⟩ := hl
      rw [o.off a hm] at e; cases e
  · intro b hb
    rcases List.mem_cons.mp hb with rfl | hb
    · exact Heap.lt_size (Heap.get?_push_size _ rfl)
    · rw [List.mem_singleton.mp hb]
      obtain ⟨ob, e, _⟩ := hl'
      exact Heap.lt_size (Heap.get?_push_of_some _ e)
/-- list(row) -/
theorem Ev.listB {func e : Expr} {pos : Pos} {r : Addr} {n : Nat} {g : Nat → Bool} (hh : A.handled = none) (hf : Ev prog w s₀ A c (eval func env) (Is (.type "list"))) (he : Ev prog w s₀ A c (eval e env) (Is (.ref r))) (hr : c.B.get? r = some (ba (bitsA n g))) (hn : n ≤ 13)
    (hcall : eval (.Call func [e] [] pos) env = (do callWith pos (← eval func env) [] (backTo pos (starEach [e] env)) (backToKw pos (keywordEach [] env))) := by rfl)
    (hs : starEach [e] env = [(false, eval e env)] := by rfl) : Ev prog w s₀ A c (eval (.Call func [e] [] pos) env) (BitsL n g) :=
  Ev.callT hf (Ev.args1 he hs) (fun vs B k u h o => EvH.grown (fun tk p => by
    obtain ⟨v, rfl, e⟩ := u.here; subst e
    refine toC (call_list_ba hh (o.keep _ _ (k _ _ hr)) (by rw [bitsA_size]; omega) fun h' tk' acc c' kk hS hI => ⟨h', tk', rfl, kk, fun H nw _ => ⟨_, acc.toList, c', rfl, by simpa [lst] using nw _ _ (Nat.le_refl _) hS, ?_⟩⟩)
    rw [bitsA_size] at hI
    refine ints_of (by simp [hI.1]) fun i y x e e' => ?_
    have hi : i < n := by have := (List.getElem?_eq_some_iff.mp e).1; simp [hI.1] at this; exact this
    rw [get_mr _ _ _ hi] at e'
    cases e'
    obtain ⟨q, t, hq, rfl⟩ := hI.2 i y (by simpa using e)
    rw [bitsA_get g hi] at hq
    cases hq
    exact ⟨t, by rw [bt_int]⟩)) hcall hs rfl
set_option maxHeartbeats 4000000 in
theorem same_rows {L a : Addr} {cdv rv : Value} {n : Nat} {b : Nat → Nat → Bool} {T : Addr} {R : Nat → Addr} {whole : Sem Value} (am : Amb c.B) (hh : A.handled = none) (hu : A.units + 20 < cLine) (hhi : n ≤ 13) (hR : ∀ B, Kp c.B B → ∀ h, Cx.Ok { c with B := B } h → h.IsCell (L + 3) (some rv)) (hr : RowsL n b rv c.B)
    (hL : c.L = L) (hP : c.ρ.lookup (Str.ofString "picture") = some (.ref T)) (pic : Pic c.B T n b R) :
    Ev prog w s₀ A c (isTrue (testOf (lawSt 17)) (eL L a cdv) whole) (Tr false) := by
  refine Ev.neRows (n := n) (b := b) (rv := rv) hu ?_ (fun B g => Ev.cell (a := L + 3) (hR B g)) hr
  refine Ev.comp (n := n) (P := fun i y => i < n ∧ y = .ref (R i)) (cl := []) (P₁ := Is (.ref T)) (Ev.local hP hL.symm) ?_ (Nat.le_trans hhi (by decide)) ?_ rfl rfl (by decide) (by decide) (by decide)
  · rintro v B' g' u'
    have e := u'.here; subst e
    have S := Src.tup (prog := prog) (w := w) (s₀ := s₀) (c := { c with B := B' }) hh (IsTup.kp pic.tup g')
    rw [show ((List.range n).map fun i => Value.ref (R i)).toArray.size = n by simp] at S
    refine S.mono fun i y e => ?_
    have e' : ((List.range n).map fun i => Value.ref (R i))[i]? = some y := by simpa using e
    have hi : i < n := by have := (List.getElem?_eq_some_iff.mp e').1; simpa using this
    rw [get_mrS _ _ _ hi] at e'
    cases e'; exact ⟨hi, rfl⟩
  · rintro B' C i y o hi ⟨_, rfl⟩
    have amB : Amb B' := am.keeps o.keep
    exact Ev.listB hh (Ev.blt amB rfl) (Ev.local rfl) (o.keep _ _ (pic.row i hi)) hhi
end
end Mine
end QLawF

section QLawG
open PySem PySem.W PySem.Calls PySem.SeqAt PyProof.Rows
set_option linter.unusedVariables false
set_option maxRecDepth 100000
namespace Mine
def lawFrom (k : Nat) : List Stmt := (top 8).2.1.drop k
section
variable {prog : Program} {w : World} {s₀ : Shared} {A : Around}
set_option maxHeartbeats 8000000 in
theorem tail3 {B₀ B : Heap} {L a : Addr} {cdv rv : Value} {n : Nat} {tn t1 t2 t3 t4 : Tok} {b : Nat → Nat → Bool} {oL oR oN oS : Obj} {uL uN : Option Value} (k0 : Kp B₀ B) (am : Amb B) (amM : AmbM B) (gd : Gd 3 A) (h4 : n4 n)
    (hoS : oS.data = .cell (some (.int n tn))) (hoR : oR.data = .cell (some rv)) (hoL : oL.data = .cell uL) (hoN : oN.data = .cell uN) (hr : RowsL n b rv B)
    (hrot : [S1 (rot n b) n n, S2 (rot n b) n n, S3 (rot n b) n n, shareV (rot n b) n].sum = S1 b n n + S2 b n n + S3 b n n + shareV b n) :
    Ex prog w s₀ A ⟨B, L, [(Str.ofString "runs", .int (S1 b n n) t1), (Str.ofString "squares", .int (S2 b n n) t2), (Str.ofString "heads", .int (S3 b n n) t3), (Str.ofString "share", .int (shareV b n) t4)], [(L + 4, oL), (L + 3, oR), (L + 2, oN), (L + 1, oS), (23, tabObj #[])]⟩
      (execs (lawFrom 15) (eL L a cdv)) (Fin1 B₀) := by
  have hhi := h4.hi
  have vS : ∀ B' ρ x h, Cx.Ok ⟨B', L, ρ, [(L + 4, oL), (L + 3, oR), (L + 2, oN), (L + 1, oS), (23, x)]⟩ h → h.IsCell (L + 1) (some (.int n tn)) := fun B' ρ x h o => own_cell (c := ⟨B', L, ρ, [(L + 4, oL), (L + 3, oR), (L + 2, oN), (L + 1, oS), (23, x)]⟩) (.tail _ (.tail _ (.tail _ (.head _)))) hoS h o
  have vR : ∀ B' ρ x h, Cx.Ok ⟨B', L, ρ, [(L + 4, oL), (L + 3, oR), (L + 2, oN), (L + 1, oS), (23, x)]⟩ h → h.IsCell (L + 3) (some rv) := fun B' ρ x h o => own_cell (c := ⟨B', L, ρ, [(L + 4, oL), (L + 3, oR), (L + 2, oN), (L + 1, oS), (23, x)]⟩) (.tail _ (.head _)) hoR h o
  refine Ex.assign (picture_ok (b := b) (rv := rv) am gd.hh hhi (vR _ _ _) hr) ?_
  rintro _ B₁ g₁ up₁
  obtain ⟨T, vs, rfl, hT, hpv⟩ := up₁.here
  obtain ⟨R, pic⟩ := pic_of hT hpv
  have am₁ := am.keeps g₁
  have amM₁ := amM.keeps g₁
  show Ex prog w s₀ A ⟨B₁, L, setL (Str.ofString "picture") (.ref T) [(Str.ofString "runs", .int (S1 b n n) t1), (Str.ofString "squares", .int (S2 b n n) t2), (Str.ofString "heads", .int (S3 b n n) t3), (Str.ofString "share", .int (shareV b n) t4)], [(L + 4, oL), (L + 3, oR), (L + 2, oN), (L + 1, oS), (23, tabObj #[])]⟩ _ _
  refine Ex.ifMask (T := T) (n := n) (tn := tn) (b := b) (R := R) [(L + 4, oL), (L + 3, oR), (L + 2, oN), (L + 1, oS)] [] rfl ?_ am₁ amM₁ (gd.less (by decide)) h4 pic (Ev.glob am₁ rfl) (Ev.local rfl) (Ev.cell (a := L + 1) (vS _ _ _)) (Ev.cell (a := L + 1) (vS _ _ _)) ?_ ?_
  · intro q hq
    have : q = (L + 4, oL) ∨ q = (L + 3, oR) ∨ q = (L + 2, oN) ∨ q = (L + 1, oS) := by simpa using hq
    rcases this with rfl | rfl | rfl | rfl
    · exact ⟨_, hoL⟩
    · exact ⟨_, hoR⟩
    · exact ⟨_, hoN⟩
    · exact ⟨_, hoS⟩
  · intro μ
    exact Ev.tupleI (Ev.intsCons (Ev.isInt (Ev.local rfl)) (Ev.intsCons (Ev.isInt (Ev.local rfl)) (Ev.intsCons (Ev.isInt (Ev.local rfl)) (Ev.intsCons (Ev.isInt (Ev.local rfl)) Ev.intsNil)))) (by simp)
  intro B₂ c' g₂ hcr
  have am₂ := am₁.keeps g₂
  have amM₂ := amM₁.keeps g₂
  have hr₂ : RowsL n b rv B₂ := hr.kp (g₁.trans g₂)
  show Ex prog w s₀ A ⟨B₂, L, setL (Str.ofString "picture") (.ref T) [(Str.ofString "runs", .int (S1 b n n) t1), (Str.ofString "squares", .int (S2 b n n) t2), (Str.ofString "heads", .int (S3 b n n) t3), (Str.ofString "share", .int (shareV b n) t4)], [(L + 4, oL), (L + 3, oR), (L + 2, oN), (L + 1, oS), (23, tabObj #[rawInt (7 : Nat), rawInt (4 : Nat), .ref c'])]⟩ _ _
  refine Ex.ifS (b := false) (same_rows (b := b) (rv := rv) (T := T) (R := R) am₂ gd.hh (by have := gd.un; omega) hhi (fun B' _ => vR B' _ _) hr₂ rfl rfl (pic.keeps g₂)) (fun e => nomatch e) (fun _ => Ex.nilThen ?_)
  refine Ex.assign (quarter_ok (b := b) (rv := rv) (tn := tn) am₂ gd.hh h4 (vS _ _ _) (vR _ _ _) hr₂) ?_
  rintro _ B₃ g₃ up₃
  obtain ⟨T', vs', rfl, hT', hpv'⟩ := up₃.here
  obtain ⟨R', pic'⟩ := pic_of hT' hpv'
  have am₃ := am₂.keeps g₃
  have amM₃ := amM₂.keeps g₃
  show Ex prog w s₀ A ⟨B₃, L, setL (Str.ofString "quarter") (.ref T') (setL (Str.ofString "picture") (.ref T) [(Str.ofString "runs", .int (S1 b n n) t1), (Str.ofString "squares", .int (S2 b n n) t2), (Str.ofString "heads", .int (S3 b n n) t3), (Str.ofString "share", .int (shareV b n) t4)]), [(L + 4, oL), (L + 3, oR), (L + 2, oN), (L + 1, oS), (23, tabObj #[rawInt (7 : Nat), rawInt (4 : Nat), .ref c'])]⟩ _ _
  refine Ex.retG (P' := VB true) ?_ ?_
  · refine Ev.cmpV (V₁ := fun v => ∃ t, v = .int [S1 (rot n b) n n, S2 (rot n b) n n, S3 (rot n b) n n, shareV (rot n b) n].sum t) (V₂ := fun v => ∃ t, v = .int (S1 b n n + S2 b n n + S3 b n n + shareV b n) t) ?_ ?_ ?_
    · refine Ev.callR (f := aEval) (R := fun vs _ => ∃ v u x, vs = [v, u, x] ∧ v = .ref T' ∧ u = .int n tn ∧ x = .int n tn) (Ev.glob am₃ rfl) ?_ (Ev.args3 (V₁ := fun v => v = .ref T') (V₂ := fun v => v = .int n tn) (V₃ := fun v => v = .int n tn) (Ev.local rfl) (Ev.cell (a := L + 1) (vS _ _ _)) (Ev.cell (a := L + 1) (vS _ _ _))) ?_
      · intro h' o
        obtain ⟨ob, doc, pm, an, cdv, ct, e1, e2, _⟩ := am₃.fEval
        exact ⟨ob, _, o.keep _ _ e1, e2⟩
      · intro ws B' g u h' o
        obtain ⟨_, _, _, rfl, rfl, rfl, rfl⟩ := u.here
        have o' := Cx.Ok.less (c := ⟨B', L, _, [(L + 4, oL), (L + 3, oR), (L + 2, oN), (L + 1, oS), (23, tabObj #[rawInt (7 : Nat), rawInt (4 : Nat), .ref c'])]⟩) o g
        exact (eval_ok (b := rot n b) am₃ amM₃ o'.keep (o'.off 23 (by simp [Cx.adr])) (o'.own (23, tabObj #[rawInt (7 : Nat), rawInt (4 : Nat), .ref c']) (by simp)) (hcr.keeps g₃) gd h4 pic').mono fun _ _ q _ => q
    · exact Ev.add (Ev.add (Ev.add (Ev.isInt (Ev.local rfl)) (Ev.isInt (Ev.local rfl))) (Ev.isInt (Ev.local rfl))) (Ev.isInt (Ev.local rfl))
    · rintro x y ⟨t, rfl⟩ ⟨t', rfl⟩ h o tk p
      refine toC (PyProof.Rows.eq_int ?_)
      rw [hrot, beq_self_eq_true]
      exact stay fun _ => rfl
  · intro v h₅ h₆ ok₅ ok₆ k56 hv
    refine ⟨hv _ (New.self _ _), (k0.trans (g₁.trans (g₂.trans g₃))).trans ok₆.keep, _, ok₆.own (23, tabObj #[rawInt (7 : Nat), rawInt (4 : Nat), .ref c']) (by simp)⟩
end
end Mine
end QLawG

section QZipS
open PySem PySem.W PySem.Calls PySem.SeqAt PyProof.Rows
set_option linter.unusedVariables false
set_option maxRecDepth 100000
namespace Mine
theorem zapart {s l1 l2 : Nat} (h1 : l1 < s) (h2 : l2 < s) : ZipApart (s + 4) (s + 2) (s + 3) s (s + 1) l1 l2 := by
  constructor <;> (show (_ : Nat) ≠ _) <;> omega
section
variable {prog : Program} {w : World} {s₀ : Shared} {A : Around} {c : Cx} {env : Env}
theorem zip_src {func e₁ value : Expr} {k0 : Nat} {pc p1 p2 p3 : Pos} {D : Addr} {vs : List Value} {ep : Nat} (hh : A.handled = none) (hf : Ev prog w s₀ A c (eval func env) (Is (.type "zip"))) (h1 : Ev prog w s₀ A c (eval e₁ env) (Is (.ref D))) (h2 : ∀ B, Kp c.B B → Ev prog w s₀ A { c with B := B } (eval value env) (Is (.ref D)))
    (hD : c.B.get? D = some (lst vs ep)) (hz : vs.length ≤ 1000)
    (hcall : eval (.Call func [e₁, .Subscript value (.Slice (some (.Constant (.int 1) k0 p1)) none none p2) p3] [] pc) env = (do callWith pc (← eval func env) [] (backTo pc (starEach [e₁, .Subscript value (.Slice (some (.Constant (.int 1) k0 p1)) none none p2) p3] env)) (backToKw pc (keywordEach [] env))) := by rfl)
    (hs : starEach [e₁, .Subscript value (.Slice (some (.Constant (.int 1) k0 p1)) none none p2) p3] env = (false, eval e₁ env) :: starEach [.Subscript value (.Slice (some (.Constant (.int 1) k0 p1)) none none p2) p3] env := by rfl)
    (hs' : starEach [.Subscript value (.Slice (some (.Constant (.int 1) k0 p1)) none none p2) p3] env = [(false, eval (.Subscript value (.Slice (some (.Constant (.int 1) k0 p1)) none none p2) p3) env)] := by rfl)
    (hpl : (backTo pc (starEach [.Subscript value (.Slice (some (.Constant (.int 1) k0 p1)) none none p2) p3] env)).any (·.1) = false := by rfl)
    (hsub : ∀ a r, subscripted (.Slice (some (.Constant (.int 1) k0 p1)) none none p2) false (.ref a) (.ref r) = operate [.ref r, .ref a] (getItem (.ref a) (.ref r)) := by intro _ _; with_unfolding_all rfl) :
    ∀ h, c.Ok h → Hp prog w s₀ A (eval (.Call func [e₁, .Subscript value (.Slice (some (.Constant (.int 1) k0 p1)) none none p2) p3] [] pc) env) (fun v h₁ => Kp h h₁ ∧ ∃ I fp wr S Mid, v = .ref I ∧ WalksT prog w A I fp wr (vs.length - 1) (fun i vals => ∃ x y, vs[i]? = some x ∧ vs[i + 1]? = some y ∧ vals = #[x, y]) S Mid ∧ S 0 h₁ ∧ (∀ q ∈ wr, h.objs.size ≤ q) ∧ (∀ q ∈ fp, q ∉ c.adr)) h := fun h o tk p => by
  refine c_Call ((hf h o).use (fun v h₁ tk₁ z ⟨g₁, z₁, p₁⟩ => ?_) tk p) hcall
  have e := p₁ _ (New.self _ _); subst e
  have o₁ := o.grow g₁
  have ha := Ev.argsCons (pos := pc) (P := Is (.ref D)) (R := fun r H => ∃ v, r = [v] ∧ ∃ a ws, v = .ref a ∧ H.get? a = some (lst (slicePick ws.toArray (some 1) none none).toList 0) ∧ ws = vs) h1 (fun B g => Ev.args1 (Ev.cutL (P₀ := Is (.ref D)) (Φ := fun ws => ws = vs) (h2 B g) (fun v B' g' u => by
      have e := u.here; subst e
      exact ⟨D, vs, rfl, fun h o => isList_lst (o.keep _ _ (g' _ _ (g _ _ hD))), rfl, by rw [sizeLine_eq]; omega⟩) (Ev.part Ev.int) Ev.partN hsub) hs') hs
  refine c_callWith_type ((ha h₁ o₁).use (fun ws h₂ tk₂ z₂ ⟨g₂, y₂, p₂⟩ => ?_) tk₁ z) hs hpl
  obtain ⟨_, _, rfl, e, _, rfl, l2, ws, rfl, hl2, rfl⟩ := p₂ _ (cut_new h₁ h₂)
  subst e
  obtain ⟨hge, hl2'⟩ := cut_get hl2
  have o₂ := o₁.grow g₂
  rw [show (slicePick ws.toArray (some 1) none none) = (ws.drop 1).toArray from slicePick_from' ws.toArray 1] at hl2'
  have hDh := o₂.keep _ _ hD
  have d1 : D < h₂.objs.size := Heap.lt_size hDh
  have d2 : l2 < h₂.objs.size := Heap.lt_size hl2'
  refine toC (call_zip_2 (isList_lst hDh) (isList_lst hl2') fun h₃ q1 q2 q3 q4 q5 q6 q7 => ?_)
  have W := WalksT.zip2 (prog := prog) (w := w) (A := A) hh (h₂.objs.size + 4) (h₂.objs.size + 2) (h₂.objs.size + 3) h₂.objs.size (h₂.objs.size + 1) D l2 (zapart d1 d2) ws.toArray (ws.drop 1).toArray
  have hmin : min ws.toArray.size (ws.drop 1).toArray.size = ws.length - 1 := by simp
  rw [hmin] at W
  have hz2 : h.objs.size ≤ h₂.objs.size := Nat.le_trans z₁ y₂
  refine ⟨h₃, tk₂, rfl, fun q ob e => q7 q ob (g₂ _ _ (g₁ _ _ e)), h₂.objs.size + 4, _, _, _, _, rfl, ⟨W.sub, W.frame, fun i s Q E hi st hQ => W.item i s Q E hi st (fun T vals h' tk hP => hQ T vals h' tk ?_), W.go, W.apart, W.done, W.self⟩,
    ⟨q1, q2, ⟨_, _, q3⟩, q4, q5, isList_lst (q7 _ _ hDh), isList_lst (q7 _ _ hl2')⟩, ?_, ?_⟩
  · obtain ⟨x, y, e1, e2, e3⟩ := hP
    refine ⟨x, y, by simpa using e1, ?_, e3⟩
    have : (ws.drop 1)[i]? = some y := by simpa using e2
    rw [List.getElem?_drop] at this
    rw [Nat.add_comm i 1]; exact this
  · intro q hq
    have : q = h₂.objs.size + 4 ∨ q = h₂.objs.size + 3 ∨ q = h₂.objs.size ∨ q = h₂.objs.size + 1 := by simpa using hq
    rcases this with e | e | e | e <;> rw [e]
    · exact Nat.le_trans hz2 (Nat.le_add_right _ _)
    · exact Nat.le_trans hz2 (Nat.le_add_right _ _)
    · exact hz2
    · exact Nat.le_trans hz2 (Nat.le_add_right _ _)
  · intro q hq hm
    have : q = h₂.objs.size + 4 ∨ q = h₂.objs.size + 2 ∨ q = h₂.objs.size + 3 ∨ q = h₂.objs.size ∨ q = h₂.objs.size + 1 ∨ q = D ∨ q = l2 := by simpa using hq
    have lt := o.lt q hm
    rcases this with e | e | e | e | e | e | e
    · rw [e] at lt; exact absurd lt (Nat.not_lt.mpr (Nat.le_trans hz2 (Nat.le_add_right _ _)))
    · rw [e] at lt; exact absurd lt (Nat.not_lt.mpr (Nat.le_trans hz2 (Nat.le_add_right _ _)))
    · rw [e] at lt; exact absurd lt (Nat.not_lt.mpr (Nat.le_trans hz2 (Nat.le_add_right _ _)))
    · rw [e] at lt; exact absurd lt (Nat.not_lt.mpr hz2)
    · rw [e] at lt; exact absurd lt (Nat.not_lt.mpr (Nat.le_trans hz2 (Nat.le_add_right _ _)))
    · rw [e, ] at hm; rw [o.off D hm] at hD; cases hD
    · rw [e] at lt; exact absurd lt (Nat.not_lt.mpr (Nat.le_trans z₁ hge))
end
end Mine
end QZipS

section QLawH
open PySem PySem.W PySem.Calls PySem.SeqAt PyProof.Rows
set_option linter.unusedVariables false
set_option maxRecDepth 100000
namespace Mine
def RunsFit (x : Str) : Prop := (Txt.replace x s01 s0_1).length ≤ 1000 ∧ (Txt.replace (Txt.replace x s01 s0_1) s10 s1_0).length ≤ 1000 ∧
  (Builtin.Str.partsBetween (Txt.replace (Txt.replace x s01 s0_1) s10 s1_0) (Builtin.Str.occurrences (Txt.replace (Txt.replace x s01 s0_1) s10 s1_0) spc 0 (Txt.replace (Txt.replace x s01 s0_1) s10 s1_0).length ((Txt.replace (Txt.replace x s01 s0_1) s10 s1_0).length + 1)) spc.length).length ≤ 1000 ∧ ∀ p ∈ cutS x, p.length ≤ 1000
def acc (f : Str → Int) (zs : List Str) (k : Nat) : Int := ((zs.take k).map f).sum
theorem acc_succ (f : Str → Int) (zs : List Str) (k : Nat) (x : Str) (h : zs[k]? = some x) : acc f zs (k + 1) = acc f zs k + f x := by
  unfold acc; rw [List.take_add_one, h]; simp
def sOne : Str := Str.ofString "1111"
def sqL (x y : Str) (j : Nat) : Bool := [s0000, sOne].any (· == Txt.slice x (some (j : Int)) (some ((j : Int) + 2)) ++ Txt.slice y (some (j : Int)) (some ((j : Int) + 2)))
def rowSq (x y : Str) : Nat → Int
  | 0 => 0
  | j + 1 => rowSq x y j + if sqL x y j then 3 else 0
def sqSum (xs : List Str) (m : Nat) : Nat → Int
  | 0 => 0
  | i + 1 => sqSum xs m i + rowSq (xs.getD i ⟨#[]⟩) (xs.getD (i + 1) ⟨#[]⟩) m
section
variable {prog : Program} {w : World} {s₀ : Shared} {A : Around} {c : Cx} {env : Env}
theorem Src.strL {xs : List Str} {v : Value} {B₀ : Heap} (hh : A.handled = none) (hr : StrL xs v B₀) (k : Kp B₀ c.B) : Src prog w s₀ A c v xs.length (fun i y => ∃ x t, xs[i]? = some x ∧ y = .str x t) := by
  obtain ⟨D, vs, ep, rfl, hD, hS⟩ := hr
  have := Src.list (prog := prog) (w := w) (s₀ := s₀) (c := c) hh (isList_lst (k _ _ hD))
  rw [List.size_toArray, hS.length] at this
  refine this.mono fun i y e => ?_
  obtain ⟨x, t, e1, e2⟩ := hS.item i y (by simpa using e)
  exact ⟨x, t, e2, e1⟩
theorem Ev.callS {func e : Expr} {pos : Pos} {f : Addr} {k : Nat} {nm : Str} {x : Str} {i : Int} (am : Amb c.B) (fn : FnK c.B f k nm) (hc : ∀ h t, Kp c.B h → EvH prog w s₀ A h (call (.ref f) [.str x t]) (VI i)) (hf : Ev prog w s₀ A c (eval func env) (Is (.ref f))) (he : Ev prog w s₀ A c (eval e env) (VS x))
    (hcall : eval (.Call func [e] [] pos) env = (do callWith pos (← eval func env) [] (backTo pos (starEach [e] env)) (backToKw pos (keywordEach [] env))) := by rfl)
    (hs : starEach [e] env = [(false, eval e env)] := by rfl) : Ev prog w s₀ A c (eval (.Call func [e] [] pos) env) (VI i) :=
  Ev.callR hf (fun h o => let ⟨ob, doc, pm, an, cdv, ct, e1, e2, _⟩ := fn; ⟨ob, _, o.keep _ _ e1, e2⟩) (Ev.args1 he hs) (fun vs B g u h o => by
    obtain ⟨v, rfl, t, rfl⟩ := u.here
    exact (hc h t (g.trans o.keep)).mono fun _ _ q _ => q) hcall hs
theorem Ev.isStr' {e : Expr} {x : Str} {t : Tok} (h : Ev prog w s₀ A c (eval e env) (Is (.str x t))) : Ev prog w s₀ A c (eval e env) (VS x) := h.mono fun v H e => ⟨t, e⟩
end
section
variable {prog : Program} {w : World} {s₀ : Shared} {A : Around}
abbrev mu5 (L : Addr) (oL oR oN oS : Obj) : List (Addr × Obj) := [(L + 4, oL), (L + 3, oR), (L + 2, oN), (L + 1, oS), (23, tabObj #[])]
set_option maxHeartbeats 8000000 in
theorem tail2 {B₀ B : Heap} {L a : Addr} {cdv rv lv sv : Value} {n : Nat} {tn : Tok} {b : Nat → Nat → Bool} {oL oR oN oS : Obj} {uN : Option Value} {xs ys : List Str} (k0 : Kp B₀ B) (am : Amb B) (amM : AmbM B) (gd : Gd 3 A) (h4 : n4 n)
    (hoS : oS.data = .cell (some (.int n tn))) (hoR : oR.data = .cell (some rv)) (hoL : oL.data = .cell (some lv)) (hoN : oN.data = .cell uN) (hr : RowsL n b rv B)
    (hlv : StrL xs lv B) (hsv : StrL ys sv B) (hxl : xs.length = n) (hyl : ys.length = n) (htx : ∀ x ∈ xs ++ ys, ∃ g, x = txt n g) (hfit : ∀ g, RunsFit (txt n g))
    (hRUN : acc runsS (xs ++ ys) (n + n) = S1 b n n) (hSQ : sqSum xs (n - 1) (n - 1) = S2 b n n) (hHD : acc (fun x => 40 * headsS x) (xs ++ ys) (n + n) = S3 b n n)
    (hSH : 10 * ((10 * ((2 * (Txt.count (Txt.join (Str.ofString "") xs) (Str.ofString "1") : Int) - (n : Int) * n).natAbs : Int)).fdiv ((n : Int) * n)) = shareV b n)
    (hrot : [S1 (rot n b) n n, S2 (rot n b) n n, S3 (rot n b) n n, shareV (rot n b) n].sum = S1 b n n + S2 b n n + S3 b n n + shareV b n) :
    Ex prog w s₀ A ⟨B, L, [(Str.ofString "sides", sv)], mu5 L oL oR oN oS⟩ (execs (lawFrom 8) (eL L a cdv)) (Fin1 B₀) := by
  have hhi := h4.hi
  have hlo := h4.lo
  have vS : ∀ B' ρ h, Cx.Ok ⟨B', L, ρ, mu5 L oL oR oN oS⟩ h → h.IsCell (L + 1) (some (.int n tn)) := fun B' ρ h o => own_cell (c := ⟨B', L, ρ, mu5 L oL oR oN oS⟩) (.tail _ (.tail _ (.tail _ (.head _)))) hoS h o
  have vL : ∀ B' ρ h, Cx.Ok ⟨B', L, ρ, mu5 L oL oR oN oS⟩ h → h.IsCell (L + 4) (some lv) := fun B' ρ h o => own_cell (c := ⟨B', L, ρ, mu5 L oL oR oN oS⟩) (.head _) hoL h o
  refine Ex.assignI Ev.int fun t1 => ?_
  refine Ex.assignI Ev.int fun t2 => ?_
  refine Ex.sub (ρ := [(Str.ofString "runs", .int (acc runsS (xs ++ ys) 0) t1), (Str.ofString "heads", .int (acc (fun x => 40 * headsS x) (xs ++ ys) 0) t2), (Str.ofString "sides", sv)]) ⟨rfl, rfl, rfl, trivial⟩ ?_
  show Ex prog w s₀ A ⟨B, L, [(Str.ofString "runs", .int (acc runsS (xs ++ ys) 0) t1), (Str.ofString "heads", .int (acc (fun x => 40 * headsS x) (xs ++ ys) 0) t2), (Str.ofString "sides", sv)], mu5 L oL oR oN oS⟩ _ _
  refine Ex.for_ (P := fun i y => ∃ x t, (xs ++ ys)[i]? = some x ∧ y = .str x t) (P₁ := StrL (xs ++ ys)) (n := n + n) (fun k ρ μ => ∃ t1 t2, ρ = [(Str.ofString "runs", .int (acc runsS (xs ++ ys) k) t1), (Str.ofString "heads", .int (acc (fun x => 40 * headsS x) (xs ++ ys) k) t2), (Str.ofString "sides", sv)] ∧ μ = mu5 L oL oR oN oS) ?_ ?_ ?_ ?_ ?_
  · refine Ev.addL (P₁ := Is lv) (P₂ := Is sv) (Ev.cell (a := L + 4) (vL _ _)) (fun B' g' => Ev.local rfl) ?_
    rintro x y B' g' u v
    have e := u.here; subst e
    have e := v.here; subst e
    obtain ⟨D, vs, ep, rfl, hD, hS⟩ := hlv
    obtain ⟨D', ws, ep', rfl, hD', hS'⟩ := hsv
    exact ⟨D, D', vs, ws, rfl, rfl, fun h o => ⟨isList_lst (o.keep _ _ (g' _ _ hD)), isList_lst (o.keep _ _ (g' _ _ hD'))⟩, by rw [hS.length, hS'.length, hxl, hyl, sizeLine_eq]; omega, fun q H e _ _ => ⟨q, _, 0, rfl, e, hS.append' hS'⟩⟩
  · rintro v B' g' u'
    have S := Src.strL (prog := prog) (w := w) (s₀ := s₀) (c := ⟨B', L, [(Str.ofString "runs", .int (acc runsS (xs ++ ys) 0) t1), (Str.ofString "heads", .int (acc (fun x => 40 * headsS x) (xs ++ ys) 0) t2), (Str.ofString "sides", sv)], mu5 L oL oR oN oS⟩) gd.hh u'.here (Kp.refl B')
    rw [List.length_append, hxl, hyl] at S
    exact S
  · exact ⟨t1, t2, rfl, rfl⟩
  · rintro k v ρ μ B' hk ⟨x, t, hx, rfl⟩ ⟨t1, t2, rfl, rfl⟩ _ g'
    have amB : Amb B' := am.keeps g'
    obtain ⟨g, rfl⟩ := htx x (List.mem_of_getElem? hx)
    obtain ⟨f1, f2, f3, f4⟩ := hfit g
    have gd1 : Gd 1 A := gd.less (by decide)
    refine Ex.augI (j := runsS (txt n g)) rfl (Ev.callS amB amB.fRuns (fun h t kk => runs_ok (amB.keeps kk) gd1 (by rw [txt_len]; omega) f1 f2 f3 f4) (Ev.glob amB rfl) (Ev.isStr' (Ev.local rfl))) fun t1' => ?_
    refine Ex.augI (j := 40 * headsS (txt n g)) rfl (Ev.mul Ev.int (Ev.callS amB amB.fHeads (fun h t kk => heads_ok (amB.keeps kk) gd1 (by rw [txt_len]; exact hlo) (by rw [txt_len]; exact hhi)) (Ev.glob amB rfl) (Ev.isStr' (Ev.local rfl))) (IntMulOk.of_left (by decide))) fun t2' => ?_
    refine Ex.sub (ρ := [(Str.ofString "runs", .int (acc runsS (xs ++ ys) k + runsS (txt n g)) t1'), (Str.ofString "heads", .int (acc (fun x => 40 * headsS x) (xs ++ ys) k + 40 * headsS (txt n g)) t2'), (Str.ofString "sides", sv)]) ⟨rfl, rfl, rfl, trivial⟩ ?_
    show Ex prog w s₀ A ⟨B', L, [(Str.ofString "runs", .int (acc runsS (xs ++ ys) k + runsS (txt n g)) t1'), (Str.ofString "heads", .int (acc (fun x => 40 * headsS x) (xs ++ ys) k + 40 * headsS (txt n g)) t2'), (Str.ofString "sides", sv)], mu5 L oL oR oN oS⟩ (execs [] _) _
    refine Ex.nil fun h o => ⟨rfl, _, _, ⟨t1', t2', ?_, rfl⟩, rfl, o⟩
    rw [acc_succ _ _ _ _ hx, acc_succ _ _ _ _ hx]
  rintro ρ μ ⟨t1, t2, rfl, rfl⟩ _
  rw [hRUN, hHD]
  show Ex prog w s₀ A ⟨B, L, [(Str.ofString "runs", .int (S1 b n n) t1), (Str.ofString "heads", .int (S3 b n n) t2), (Str.ofString "sides", sv)], mu5 L oL oR oN oS⟩ _ _
  refine Ex.assignI Ev.int fun t3 => ?_
  refine Ex.sub (ρ := [(Str.ofString "runs", .int (S1 b n n) t1), (Str.ofString "heads", .int (S3 b n n) t2), (Str.ofString "squares", .int (sqSum xs (n - 1) 0) t3)]) ⟨rfl, rfl, rfl, trivial⟩ ?_
  show Ex prog w s₀ A ⟨B, L, [(Str.ofString "runs", .int (S1 b n n) t1), (Str.ofString "heads", .int (S3 b n n) t2), (Str.ofString "squares", .int (sqSum xs (n - 1) 0) t3)], mu5 L oL oR oN oS⟩ _ _
  obtain ⟨D, vs, ep, rfl, hD, hS⟩ := hlv
  have hvl : vs.length = n := by rw [hS.length, hxl]
  refine Ex.forT (n := vs.length - 1) (Pt := fun i vals => ∃ x y, vs[i]? = some x ∧ vs[i + 1]? = some y ∧ vals = #[x, y]) (fun i ρ μ => ∃ t3, ρ = [(Str.ofString "runs", .int (S1 b n n) t1), (Str.ofString "heads", .int (S3 b n n) t2), (Str.ofString "squares", .int (sqSum xs (n - 1) i) t3)] ∧ μ = mu5 L oL oR oN oS) gd.hh ?_ ?_ ?_ ?_ ?_
  · exact zip_src gd.hh (Ev.blt am rfl) (Ev.cell (a := L + 4) (vL _ _)) (fun B' g' => Ev.cell (a := L + 4) (vL _ _)) hD (by omega)
  · rintro i vals ⟨x, y, _, _, e⟩; exact ⟨x, y, e⟩
  · exact ⟨t3, rfl, rfl⟩
  · rintro i x y ρ μ B' hi ⟨x', y', hx, hy, exy⟩ ⟨t3, rfl, rfl⟩ _ g'
    obtain ⟨rfl, rfl⟩ : x = x' ∧ y = y' := by simpa using exy
    obtain ⟨xa, ta, rfl, hxa⟩ := hS.item i _ hx
    obtain ⟨yb, tb, rfl, hyb⟩ := hS.item (i + 1) _ hy
    have amB : Amb B' := am.keeps g'
    have lxa : xa.length = n := by obtain ⟨g, rfl⟩ := htx xa (List.mem_append_left _ (List.mem_of_getElem? hxa)); exact txt_len n g
    have lyb : yb.length = n := by obtain ⟨g, rfl⟩ := htx yb (List.mem_append_left _ (List.mem_of_getElem? hyb)); exact txt_len n g
    have esum : sqSum xs (n - 1) (i + 1) = sqSum xs (n - 1) i + rowSq xa yb (n - 1) := by
      show sqSum xs (n - 1) i + rowSq (xs.getD i ⟨#[]⟩) (xs.getD (i + 1) ⟨#[]⟩) (n - 1) = _
      rw [List.getD_eq_getElem?_getD, List.getD_eq_getElem?_getD, hxa, hyb]; rfl
    refine Ex.sub (ρ := [(Str.ofString "runs", .int (S1 b n n) t1), (Str.ofString "heads", .int (S3 b n n) t2), (Str.ofString "squares", .int (sqSum xs (n - 1) i + rowSq xa yb 0) t3), (Str.ofString "above", .str xa ta), (Str.ofString "below", .str yb tb)]) ⟨rfl, rfl, by rw [show rowSq xa yb 0 = 0 from rfl, Int.add_zero]; rfl, rfl, rfl, trivial⟩ ?_
    refine Ex.for_ (P := fun k v => ∃ t, v = .int k t) (P₁ := fun v H => ∃ r t u x, v = .ref r ∧ IsRange H r 0 ((n - 1 : Nat) : Int) 1 t u x) (n := n - 1) (fun j ρ μ => ∃ t3, ρ = [(Str.ofString "runs", .int (S1 b n n) t1), (Str.ofString "heads", .int (S3 b n n) t2), (Str.ofString "squares", .int (sqSum xs (n - 1) i + rowSq xa yb j) t3), (Str.ofString "above", .str xa ta), (Str.ofString "below", .str yb tb)] ∧ μ = mu5 L oL oR oN oS) ?_ ?_ ⟨t3, rfl, rfl⟩ ?_ ?_
    · rw [show ((n - 1 : Nat) : Int) = (n : Int) - 1 by omega]
      exact Ev.range1 (Ev.blt amB rfl) (Ev.sub (Ev.isInt (u := tn) (Ev.cell (a := L + 1) (vS _ _))) Ev.int)
    · rintro v B'' g'' u''
      obtain ⟨r, a1, a2, a3, rfl, hr'⟩ := u''.here
      exact src_range1 gd.hh (by omega) hr'
    · rintro j v ρ μ B'' hj ⟨tj, rfl⟩ ⟨t3, rfl, rfl⟩ _ g''
      have erow : rowSq xa yb (j + 1) = rowSq xa yb j + if sqL xa yb j then 3 else 0 := rfl
      refine Ex.ifJ (b := sqL xa yb j) (J := fun ρ => ∃ t3, ρ = [(Str.ofString "runs", .int (S1 b n n) t1), (Str.ofString "heads", .int (S3 b n n) t2), (Str.ofString "squares", .int (sqSum xs (n - 1) i + rowSq xa yb (j + 1)) t3), (Str.ofString "above", .str xa ta), (Str.ofString "below", .str yb tb)]) ?_ (fun hb => ?_) (fun hb => ?_) ?_
      · refine Ev.inLS (k := Txt.slice xa (some (j : Int)) (some ((j : Int) + 2)) ++ Txt.slice yb (some (j : Int)) (some ((j : Int) + 2))) (ys := [s0000, sOne]) ?_ ?_
        · refine Ev.addS ?_ ?_ ?_
          · exact Ev.cutS (Ev.isStr' (Ev.local rfl)) (Ev.part (Ev.isInt (Ev.local rfl))) (Ev.part (Ev.add (Ev.isInt (Ev.local rfl)) Ev.int)) (by rw [lxa, sizeLine_eq]; omega)
          · exact Ev.cutS (Ev.isStr' (Ev.local rfl)) (Ev.part (Ev.isInt (Ev.local rfl))) (Ev.part (Ev.add (Ev.isInt (Ev.local rfl)) Ev.int)) (by rw [lyb, sizeLine_eq]; omega)
          · have q1 := Txt.slice_le xa (some (j : Int)) (some ((j : Int) + 2))
            have q2 := Txt.slice_le yb (some (j : Int)) (some ((j : Int) + 2))
            rw [lxa] at q1; rw [lyb] at q2; omega
        · exact Ev.listS (Ev.strsCons Ev.str (Ev.strsCons Ev.str Ev.strsNil)) (by decide)
      · rw [erow, hb, if_pos rfl, ← Int.add_assoc]
        refine Ex.augI rfl Ev.int fun t3' => ?_
        exact Ex.joinEnd _ (by repeat (first | exact trivial | refine ⟨rfl, ?_⟩)) ⟨t3', rfl⟩
      · rw [erow, hb, if_neg Bool.false_ne_true, Int.add_zero]
        exact Ex.joinEnd _ (by repeat (first | exact trivial | refine ⟨rfl, ?_⟩)) ⟨t3, rfl⟩
      rintro _ ⟨t3, rfl⟩
      show Ex prog w s₀ A ⟨B'', L, _, mu5 L oL oR oN oS⟩ (execs [] _) _
      exact Ex.nil fun h o => ⟨rfl, _, _, ⟨t3, rfl, rfl⟩, rfl, o⟩
    · rintro ρ μ ⟨t3, rfl, rfl⟩ _
      show Ex prog w s₀ A ⟨B', L, _, mu5 L oL oR oN oS⟩ (execs [] _) _
      refine Ex.nil fun h o => ⟨rfl, _, _, ⟨t3, rfl, rfl⟩, rfl, Cx.Ok.forget (c := ⟨B', L, [(Str.ofString "runs", .int (S1 b n n) t1), (Str.ofString "heads", .int (S3 b n n) t2), (Str.ofString "squares", .int (sqSum xs (n - 1) i + rowSq xa yb (n - 1)) t3), (Str.ofString "above", .str xa ta), (Str.ofString "below", .str yb tb)], mu5 L oL oR oN oS⟩) o (Sub.get ⟨rfl, rfl, by rw [esum]; rfl, trivial⟩)⟩
  rintro ρ μ ⟨t3, rfl, rfl⟩ _
  rw [show vs.length - 1 = n - 1 by omega, hSQ]
  show Ex prog w s₀ A ⟨B, L, [(Str.ofString "runs", .int (S1 b n n) t1), (Str.ofString "heads", .int (S3 b n n) t2), (Str.ofString "squares", .int (S2 b n n) t3)], mu5 L oL oR oN oS⟩ _ _
  have hsum : (xs.map (·.length)).sum + xs.length * (Str.ofString "").length ≤ 16777216 := by
    have e0 : (Str.ofString "").length = 0 := by decide +kernel
    have e1 : ∀ zs : List Str, (∀ x ∈ zs, x.length = n) → (zs.map (·.length)).sum = zs.length * n := by
      intro zs
      induction zs with
      | nil => intro _; simp
      | cons z zs ih => intro h; rw [List.map_cons, List.sum_cons, ih (fun x hx => h x (List.mem_cons_of_mem _ hx)), h z List.mem_cons_self, List.length_cons, Nat.add_mul]; omega
    rw [e1 xs (fun x hx => by obtain ⟨g, rfl⟩ := htx x (List.mem_append_left _ hx); exact txt_len n g), e0, hxl]
    have : n * n ≤ 169 := by rcases h4 with rfl | rfl | rfl | rfl <;> decide
    omega
  refine Ex.assignI (i := (Txt.count (Txt.join (Str.ofString "") xs) (Str.ofString "1") : Int)) ?_ fun t5 => ?_
  · refine Ev.countC (Ev.joinS (ys := xs) (P₁ := Is (.ref D)) Ev.str (fun B' g' => Ev.cell (a := L + 4) (vL _ _)) ?_ hsum) Ev.str
    rintro v B' g' u
    have e := u.here; subst e
    exact ⟨D, vs, rfl, hS, fun h o => isList_lst (o.keep _ _ (g' _ _ hD))⟩
  have hnb : Builtin.Int.intBits (n : Int) ≤ 64 := by rcases h4 with rfl | rfl | rfl | rfl <;> decide
  have hnz : (n : Int) * n ≠ 0 := by rcases h4 with rfl | rfl | rfl | rfl <;> decide
  have hna : ((n : Int) * n).natAbs ≤ 1000 := by rcases h4 with rfl | rfl | rfl | rfl <;> decide
  refine Ex.assignI (i := shareV b n) ?_ fun t6 => ?_
  · rw [← hSH]
    have eS : ∀ ρ, Ev prog w s₀ A ⟨B, L, ρ, mu5 L oL oR oN oS⟩ (eval (.Name (Str.ofString "size") ⟨0, 0, 0, 0⟩) (eL L a cdv)) (VI n) := fun ρ => Ev.isInt (u := tn) (Ev.cell (a := L + 1) (vS _ _))
    refine Ev.mul Ev.int ?_ (IntMulOk.of_left (by decide))
    refine Ev.fdiv (Ev.mul Ev.int (Ev.absI (Ev.blt am rfl) (Ev.sub (Ev.mul Ev.int (Ev.isInt (Ev.local rfl)) (IntMulOk.of_left (by decide))) (Ev.mul (x := n) (y := n) ?_ ?_ (IntMulOk.of_left hnb)))) (IntMulOk.of_left (by decide))) (Ev.mul (x := n) (y := n) ?_ ?_ (IntMulOk.of_left hnb)) hnz (PyProof.noPylong_small ?_)
    · exact Ev.isInt (u := tn) (Ev.cell (a := L + 1) (vS _ _))
    · exact Ev.isInt (u := tn) (Ev.cell (a := L + 1) (vS _ _))
    · exact Ev.isInt (u := tn) (Ev.cell (a := L + 1) (vS _ _))
    · exact Ev.isInt (u := tn) (Ev.cell (a := L + 1) (vS _ _))
    · omega
  refine Ex.sub (ρ := [(Str.ofString "runs", .int (S1 b n n) t1), (Str.ofString "squares", .int (S2 b n n) t3), (Str.ofString "heads", .int (S3 b n n) t2), (Str.ofString "share", .int (shareV b n) t6)]) ⟨rfl, rfl, rfl, rfl, trivial⟩ ?_
  exact tail3 (n := n) (b := b) k0 am amM gd h4 hoS hoR hoL hoN hr hrot
end
end Mine
end QLawH

section QLawI
open PySem PySem.W PySem.Calls PySem.SeqAt PyProof.Rows
set_option linter.unusedVariables false
set_option maxRecDepth 100000
namespace Mine
def linesOf (n : Nat) (b : Nat → Nat → Bool) : List Str := (List.range n).map fun i => txt n (b i)
def sidesOf (n : Nat) (b : Nat → Nat → Bool) : List Str := (List.range n).map fun i => txt n (colOf b i)
/-- the plain laws -/
structure PlainLaw : Prop where
  fit : ∀ n g, n ≤ 13 → RunsFit (txt n g)
  run : ∀ n b, n4 n → acc runsS (linesOf n b ++ sidesOf n b) (n + n) = S1 b n n
  sq : ∀ n b, n4 n → sqSum (linesOf n b) (n - 1) (n - 1) = S2 b n n
  hd : ∀ n b, n4 n → acc (fun x => 40 * headsS x) (linesOf n b ++ sidesOf n b) (n + n) = S3 b n n
  sh : ∀ n b, n4 n → 10 * ((10 * ((2 * (Txt.count (Txt.join (Str.ofString "") (linesOf n b)) (Str.ofString "1") : Int) - (n : Int) * n).natAbs : Int)).fdiv ((n : Int) * n)) = shareV b n
  turn : ∀ n b, n4 n → [S1 (rot n b) n n, S2 (rot n b) n n, S3 (rot n b) n n, shareV (rot n b) n].sum = S1 b n n + S2 b n n + S3 b n n + shareV b n
theorem ints_all : ∀ {vs : List Value}, (∀ y ∈ vs, ∃ x t, y = Value.int x t) → ∃ ns, IntsAre vs ns
  | [], _ => ⟨[], .nil⟩
  | y :: vs, h => by
    obtain ⟨x, t, rfl⟩ := h y List.mem_cons_self
    obtain ⟨ns, hI⟩ := ints_all fun z hz => h z (List.mem_cons_of_mem _ hz)
    exact ⟨x :: ns, .cons x t hI⟩
theorem IntsAre.mem : ∀ {vs : List Value} {ns : List Int}, IntsAre vs ns → ∀ y ∈ vs, ∃ x t, y = Value.int x t
  | _, _, .nil, y, h => by cases h
  | _, _, .cons n t r, y, h => by
    rcases List.mem_cons.mp h with e | h
    · exact ⟨n, t, e⟩
    · exact IntsAre.mem r y h
theorem pick_mem {items : Array Value} {lo hi st : Option Int} {y : Value} (h : y ∈ (slicePick items lo hi st).toList) : y ∈ items.toList := by
  unfold slicePick at h
  simp only [List.toList_toArray] at h
  obtain ⟨i, _, e⟩ := List.mem_filterMap.mp h
  exact Array.mem_toList_iff.mpr (Array.mem_of_getElem? e)
section
variable {prog : Program} {w : World} {s₀ : Shared} {A : Around} {c : Cx} {env : Env}
/-- a list of ints == [] -/
theorem Ev.eqNil {l : Expr} {pos pl : Pos} {D : Addr} {vs : List Value} {whole : Sem Value} (hu : A.units < cLine) (hl : Ev prog w s₀ A c (eval l env) (Is (.ref D))) (hD : c.B.IsList D vs.toArray)
    (hm : behindInMarks .Eq (.List [] pl) = false := by with_unfolding_all rfl) : Ev prog w s₀ A c (isTrue (.Compare l [.Eq] [.List [] pl] pos) env whole) (Tr (vs.length == 0)) := fun h o tk p =>
  c_isTrue_Compare1 ((Ev.two₀ (op := fun x y => compareOp .Eq x y) (P := VB (vs.length == 0)) (P₁ := Is (.ref D)) (P₂ := fun v H => ∃ a ws, v = .ref a ∧ H.get? a = some (lst ws 0) ∧ IntsAre ws []) hl (fun B g => Ev.listI Ev.intsNil (by decide)) (fun x y B g u v h o tk p => by
    have e := u.here; subst e
    obtain ⟨q, ws, rfl, hq, hI⟩ := v.here
    cases hI
    have h1 : h.IsList D vs.toArray := Heap.IsList.kp hD (g.trans o.keep)
    have h2 : h.IsList q ([] : List Value).toArray := isList_lst (o.keep _ _ hq)
    by_cases hz : vs.length = 0
    · have e0 : vs = [] := List.eq_nil_of_length_eq_zero hz
      subst e0
      exact toC (eq_listAt (e := fun _ => true) h1 h2 rfl hu (fun j k1 k2 => by simp at k1) (stay fun _ _ _ => rfl))
    · refine toC (eq_list_lengthsAt h1 h2 (by simp [hz]) hu ?_)
      rw [show (vs.length == 0) = false by simpa using hz]
      exact stay fun _ _ _ => rfl) h o).use (fun a h₁ tk₁ z q => q.use (fun b' h₂ tk₂ z₂ q₂ => q₂.use (fun u h₃ tk₃ _ ⟨g, z, f⟩ => by
    have e := f h₃ (New.self _ _); subst e; exact toC (wpAny_truthy_bool ⟨h₃, tk₃, rfl, g, z, fun _ _ => rfl⟩)) tk₂ z₂) tk₁ z) tk p) hm
end
end Mine
end QLawI

section QLawJ
open PySem PySem.W PySem.Calls PySem.SeqAt PyProof.Rows
set_option linter.unusedVariables false
set_option maxRecDepth 100000
namespace Mine
section
variable {prog : Program} {w : World} {s₀ : Shared} {A : Around}
abbrev mu5' (L : Addr) (oL oR oN oS : Obj) : List (Addr × Obj) := [(L + 4, oL), (L + 3, oR), (L + 2, oN), (L + 1, oS), (23, tabObj #[])]
set_option maxHeartbeats 8000000 in
/-- from the lines on -/
theorem tail1 (PL : PlainLaw) {B₀ B : Heap} {L a : Addr} {cdv rv : Value} {n : Nat} {tn : Tok} {b : Nat → Nat → Bool} {oL oR oN oS : Obj} {uN uL : Option Value} {ρ : List (Str × Value)} (k0 : Kp B₀ B) (am : Amb B) (amM : AmbM B) (gd : Gd 3 A) (h4 : n4 n)
    (hoS : oS.data = .cell (some (.int n tn))) (hoR : oR.data = .cell (some rv)) (hoL : oL.data = .cell uL) (hoN : oN.data = .cell uN) (hr : RowsL n b rv B) :
    Ex prog w s₀ A ⟨B, L, [], mu5 L oL oR oN oS⟩ (execs (lawFrom 6) (eL L a cdv)) (Fin1 B₀) := by
  have hhi := h4.hi
  have hlo := h4.lo
  have vR : ∀ B' ρ o1 o2 o3 x h, Cx.Ok ⟨B', L, ρ, [(L + 4, o1), (L + 3, oR), (L + 2, o2), (L + 1, o3), x]⟩ h → h.IsCell (L + 3) (some rv) := fun B' ρ o1 o2 o3 x h o => own_cell (c := ⟨B', L, ρ, [(L + 4, o1), (L + 3, oR), (L + 2, o2), (L + 1, o3), x]⟩) (.tail _ (.head _)) hoR h o
  refine Ex.assignC (a := L + 4) [] [(L + 3, oR), (L + 2, oN), (L + 1, oS), (23, tabObj #[])] rfl hoL (lines_ok (b := b) (rv := rv) am gd.hh hhi (vR _ _ _ _ _ _) hr) ?_
  intro lv B₁ oL' g₁ up₁ hoL'
  have hlv : StrL (linesOf n b) lv B₁ := up₁.here
  have am₁ := am.keeps g₁
  have vS : ∀ B' ρ h, Cx.Ok ⟨B', L, ρ, mu5 L oL' oR oN oS⟩ h → h.IsCell (L + 1) (some (.int n tn)) := fun B' ρ h o => own_cell (c := ⟨B', L, ρ, mu5 L oL' oR oN oS⟩) (.tail _ (.tail _ (.tail _ (.head _)))) hoS h o
  have vL : ∀ B' ρ h, Cx.Ok ⟨B', L, ρ, mu5 L oL' oR oN oS⟩ h → h.IsCell (L + 4) (some lv) := fun B' ρ h o => own_cell (c := ⟨B', L, ρ, mu5 L oL' oR oN oS⟩) (.head _) hoL' h o
  show Ex prog w s₀ A ⟨B₁, L, [], mu5 L oL' oR oN oS⟩ _ _
  refine Ex.assignUsedC (P := fun i v => ∃ t, v = .int i t) (n := n) (cl := [(Str.ofString "lines", L + 4)]) (P₁ := fun v H => ∃ r t u x, v = .ref r ∧ IsRange H r 0 n 1 t u x) (F := fun j y _ => ∃ t, y = .str (txt n (colOf b j)) t) (Ev.range1 (Ev.blt am₁ rfl) (Ev.isInt (u := tn) (Ev.cell (a := L + 1) (vS _ _)))) ?_ (Nat.le_trans hhi (by decide)) ?_ ?_ rfl rfl (fun _ => rfl) (fun _ => rfl) (fun _ _ => rfl) (by decide)
  · rintro v B' g' u'
    obtain ⟨r, a1, a2, a3, rfl, hr'⟩ := u'.here
    exact src_range1 gd.hh (by omega) hr'
  · rintro B' C cc j v ob o hj ⟨tj, rfl⟩ hob
    have amB : Amb B' := am₁.keeps o.keep
    have vL' : ∀ h, Cx.Ok ⟨B', C, [], [(cc, ob)]⟩ h → h.IsCell (L + 4) (some lv) := fun h o' => (vL _ _ B' o).keeps o'.keep
    have hlB : StrL (linesOf n b) lv B' := hlv.kp o.keep
    rw [← join_txt n (colOf b j)]
    refine Ev.joinS (ys := (List.range n).map fun i => (⟨#[cd1 (colOf b j i)]⟩ : Str)) (P₁ := StrL ((List.range n).map fun i => (⟨#[cd1 (colOf b j i)]⟩ : Str))) Ev.str ?_ ?_ (weigh_ones n (colOf b j) _ (by decide +kernel) hhi)
    · intro B'' g''
      have vL'' : ∀ h, Cx.Ok ⟨B'', C, [], [(cc, ob)]⟩ h → h.IsCell (L + 4) (some lv) := fun h o' => (vL _ _ B' o).keeps (g''.trans o'.keep)
      refine Ev.mono (Ev.comp (n := n) (F := fun i y _ => ∃ t, y = .str (⟨#[cd1 (colOf b j i)]⟩ : Str) t) (P := fun i y => i < n ∧ ∃ t, y = .str (txt n (b i)) t) (cl := [(Str.ofString "j", cc)]) (P₁ := Is lv) (Ev.cell (a := L + 4) vL'') ?_ (Nat.le_trans hhi (by decide)) ?_ rfl rfl (by decide) (by decide) (by decide)) fun v H x => comp_strs x
      · rintro v B3 g3 u3
        have e := u3.here; subst e
        have S := Src.strL (prog := prog) (w := w) (s₀ := s₀) (c := ⟨B3, C, [], [(cc, ob)]⟩) gd.hh hlB (g''.trans g3)
        rw [show (linesOf n b).length = n by simp [linesOf]] at S
        refine S.mono fun i y ⟨x, t, e1, e2⟩ => ?_
        have hi : i < n := by have := (List.getElem?_eq_some_iff.mp e1).1; simpa [linesOf] using this
        unfold linesOf at e1
        rw [get_mrS _ _ _ hi] at e1
        cases e1
        exact ⟨hi, t, e2⟩
      · rintro B3 C3 i z o3 hi ⟨_, t, rfl⟩
        have vJ : ∀ h, Cx.Ok ⟨B3, C3, [(Str.ofString "line", .str (txt n (b i)) t)], []⟩ h → h.IsCell cc (some (.int j tj)) := fun h o'' => (own_cell (c := ⟨B'', C, [], [(cc, ob)]⟩) (.head _) hob B3 o3).keeps o''.keep
        exact Ev.itemS (k := j) (Ev.isStr' (Ev.local rfl)) (Ev.isInt (u := tj) (Ev.cell (a := cc) vJ)) (by omega) (txt_get (b i) hj)
    · rintro v B'' g'' u
      obtain ⟨D, vs, ep, rfl, hD, hS⟩ := u.here
      exact ⟨D, vs, rfl, hS, fun h o' => isList_lst (o'.keep _ _ hD)⟩
  · intro sv B₂ g₂ up₂
    have hsv : StrL (sidesOf n b) sv B₂ := comp_strs up₂.here
    exact tail2 (n := n) (b := b) (xs := linesOf n b) (ys := sidesOf n b) (k0.trans (g₁.trans g₂)) (am₁.keeps g₂) (amM.keeps (g₁.trans g₂)) gd h4 hoS hoR hoL' hoN (hr.kp (g₁.trans g₂)) (hlv.kp g₂) hsv (by simp [linesOf]) (by simp [sidesOf])
      (fun x hx => by
        rcases List.mem_append.mp hx with hx | hx
        · obtain ⟨i, _, e⟩ := List.mem_map.mp hx; exact ⟨_, e.symm⟩
        · obtain ⟨i, _, e⟩ := List.mem_map.mp hx; exact ⟨_, e.symm⟩) (fun g => PL.fit n g hhi) (PL.run n b h4) (PL.sq n b h4) (PL.hd n b h4) (PL.sh n b h4) (PL.turn n b h4)
end
end Mine
end QLawJ

section QLawK
open PySem PySem.W PySem.Calls PySem.SeqAt PyProof.Rows
set_option linter.unusedVariables false
set_option maxRecDepth 100000
namespace Mine
section
variable {prog : Program} {w : World} {s₀ : Shared} {A : Around}
set_option maxHeartbeats 8000000 in
/-- from the rows on -/
theorem mid4 (PL : PlainLaw) {B₀ B : Heap} {L a nb : Addr} {cdv : Value} {n : Nat} {tn tf : Tok} {f0 : Int} {vs : List Value} {ms : List Int} {oL oR oN oS : Obj} {uR uL : Option Value} (k0 : Kp B₀ B) (am : Amb B) (amM : AmbM B) (gd : Gd 3 A) (h4 : n4 n)
    (hoS : oS.data = .cell (some (.int n tn))) (hoR : oR.data = .cell uR) (hoL : oL.data = .cell uL) (hoN : oN.data = .cell (some (.ref nb))) (hnb : B.IsList nb vs.toArray) (hI : IntsAre vs ms) (hm0 : 0 < ms.length) (hm1 : ms.length ≤ 1000) :
    Ex prog w s₀ A ⟨B, L, [(Str.ofString "first", .int f0 tf)], mu5 L oL oR oN oS⟩ (execs (lawFrom 4) (eL L a cdv)) (Fin1 B₀) := by
  have hhi := h4.hi
  have hlo := h4.lo
  have vS : ∀ B' ρ o1 o2 o3 x h, Cx.Ok ⟨B', L, ρ, [(L + 4, o1), (L + 3, o2), (L + 2, o3), (L + 1, oS), x]⟩ h → h.IsCell (L + 1) (some (.int n tn)) := fun B' ρ o1 o2 o3 x h o => own_cell (c := ⟨B', L, ρ, [(L + 4, o1), (L + 3, o2), (L + 2, o3), (L + 1, oS), x]⟩) (.tail _ (.tail _ (.tail _ (.head _)))) hoS h o
  have vN : ∀ B' ρ o1 o2 o3 x h, Cx.Ok ⟨B', L, ρ, [(L + 4, o1), (L + 3, o2), (L + 2, oN), (L + 1, o3), x]⟩ h → h.IsCell (L + 2) (some (.ref nb)) := fun B' ρ o1 o2 o3 x h o => own_cell (c := ⟨B', L, ρ, [(L + 4, o1), (L + 3, o2), (L + 2, oN), (L + 1, o3), x]⟩) (.tail _ (.tail _ (.head _))) hoN h o
  refine Ex.assignC (a := L + 3) [(L + 4, oL)] [(L + 2, oN), (L + 1, oS), (23, tabObj #[])] rfl hoR (rows_first (n := n) am (gd.less (by decide)) hlo hhi (vS _ _ _ _ _ _) (vN _ _ _ _ _ _) hnb hI hm0 hm1) ?_
  intro rv B₁ oR' g₁ up₁ hoR'
  obtain ⟨b, hr⟩ := rows_choose up₁.here
  have am₁ := am.keeps g₁
  show Ex prog w s₀ A ⟨B₁, L, [(Str.ofString "first", .int f0 tf)], mu5 L oL oR' oN oS⟩ _ _
  have vR : ∀ B' ρ o1 o2 o3 x h, Cx.Ok ⟨B', L, ρ, [(L + 4, o1), (L + 3, oR'), (L + 2, o2), (L + 1, o3), x]⟩ h → h.IsCell (L + 3) (some rv) := fun B' ρ o1 o2 o3 x h o => own_cell (c := ⟨B', L, ρ, [(L + 4, o1), (L + 3, oR'), (L + 2, o2), (L + 1, o3), x]⟩) (.tail _ (.head _)) hoR' h o
  refine Ex.ifS (Ev.eqI (Ev.mod (Ev.fdiv (Ev.isInt (Ev.local rfl)) Ev.int (by decide) (PyProof.noPylong_small (by decide))) Ev.int (by decide)) Ev.int) (fun hb => ?_) (fun hb => Ex.nilThen ?_)
  · refine Ex.assignC (a := L + 3) [(L + 4, oL)] [(L + 2, oN), (L + 1, oS), (23, tabObj #[])] rfl hoR' (rows_turn (n := n) (b := b) am₁ gd.hh hlo hhi (vS _ _ _ _ _ _) (vR _ _ _ _ _ _) hr) ?_
    intro rv' B₂ oR'' g₂ up₂ hoR''
    refine Ex.nilThen (Ex.sub (ρ := []) trivial ?_)
    exact tail1 PL (n := n) (b := fun j => colOf b j) (ρ := []) (k0.trans (g₁.trans g₂)) (am₁.keeps g₂) (amM.keeps (g₁.trans g₂)) gd h4 hoS hoR'' hoL hoN up₂.here
  · refine Ex.sub (ρ := []) trivial ?_
    exact tail1 PL (n := n) (b := b) (ρ := []) (k0.trans g₁) am₁ (amM.keeps g₁) gd h4 hoS hoR' hoL hoN hr
end
end Mine
end QLawK

section QTop
open PySem PySem.W PySem.Calls PySem.SeqAt PyProof.Rows
set_option linter.unusedVariables false
set_option maxRecDepth 100000
namespace Mine
section
variable {M : Model} {A : Around} {E : Value → Shared → Prop} {s : Shared}
theorem newEnv_top {scope : Scope} {globals : Addr} {x : Str} {v : Value} {qual : Str} {func : Option Addr} {code : Value} {builtins : Addr} {Q : Env → Shared → Prop}
    (hk : scope.kind = .function) (hl : scope.names.lookup x = some .local)
    (hQ : ∀ env, env = newEnv scope s.heap.objs.size globals (cellsFrom (s.heap.objs.size + 1) scope.names []) qual func code none builtins →
      ∀ s', InCallC s env.locals (bindL env.kindOf [(x, v)] fun _ => none) env.cells (bindC env.kindOf [(x, v)] fun _ => none) s' → 0 < s'.toks → Q env s') :
    wpAny M A (newFunctionEnv scope globals [] [(x, v)] qual func code none builtins) Q E s := by
  simp only [newFunctionEnv, Option.isSome_none, Bool.false_eq_true, if_false]
  refine wpAny_bind (wpAny_alloc ?_)
  refine wpAny_bind (wpAny_layCells _ (fun name kind cells => by cases hkc : kind == NameKind.cell <;> simp [hkc]) _ _ _ _ ?_)
  have ok := cellsFrom_ok scope.names (s.heap.push { cls := .type "frame", data := .dict #[] }) (s.heap.objs.size + 1) [] ⟨fun _ _ hm => (nomatch hm), List.Pairwise.nil⟩ (by rw [Heap.size_push]; exact Nat.le_refl _)
  rw [Heap.size_push] at ok
  rw [show ({ s with heap := s.heap.push { cls := .type "frame", data := .dict #[] } } : Shared).heap.objs.size = s.heap.objs.size + 1 from Heap.size_push ..]
  have x₀ : InCallC s (newEnv scope s.heap.objs.size globals (cellsFrom (s.heap.objs.size + 1) scope.names []) qual func code none builtins).locals (fun _ => none) (newEnv scope s.heap.objs.size globals (cellsFrom (s.heap.objs.size + 1) scope.names []) qual func code none builtins).cells (fun _ => none) { s with heap := pushCells (s.heap.push { cls := .type "frame", data := .dict #[] }) scope.names } :=
    ⟨⟨⟨_, _, rfl⟩, (Heap.Ns.new s.heap (.type "frame")).keeps (pushCells_keeps _ _), fun b o e => pushCells_keeps _ _ b o (Heap.get?_push_of_some _ e), Nat.le_refl _⟩,
      fun n c hc => (ok.empty n c (PySem.mem_of_lookup hc)).1, ok.apart, fun n c hm => (ok.empty n c hm).2⟩
  refine wpAny_bind ?_
  rw [List.forIn_cons]
  refine wpAny_bind (wpAny_bind (wpAny_storeName_local (env := newEnv scope s.heap.objs.size globals (cellsFrom (s.heap.objs.size + 1) scope.names []) qual func code none builtins) hl x₀.toInCall.ns (fun h' hn' hs' => wpAny_pure ?_) (by show (scope.kind == _ || (scope.kind == _ && _)) = false; rw [hk]; rfl)))
  dsimp only
  rw [List.forIn_nil]
  refine wpAny_pure (wpAny_pure (hQ _ rfl _ ⟨⟨⟨h', _, rfl⟩, ?_, fun b o e => ?_, x₀.toInCall.fresh⟩, fun k c hc => ?_, x₀.apart, x₀.above⟩ (Nat.succ_pos _)))
  · have e1 : bindL (newEnv scope s.heap.objs.size globals (cellsFrom (s.heap.objs.size + 1) scope.names []) qual func code none builtins).kindOf [(x, v)] (fun _ => none) = fun y => if y = x then some v else none := by
      unfold bindL bindL
      rw [if_pos (show (newEnv scope s.heap.objs.size globals (cellsFrom (s.heap.objs.size + 1) scope.names []) qual func code none builtins).kindOf x = some .local from hl)]
    rw [e1]; exact hn'
  · exact hs'.extBut b o (Nat.ne_of_lt (Nat.lt_of_lt_of_le (Heap.lt_size e) x₀.toInCall.fresh)) (x₀.toInCall.keep b o e)
  · have e1 : bindC (newEnv scope s.heap.objs.size globals (cellsFrom (s.heap.objs.size + 1) scope.names []) qual func code none builtins).kindOf [(x, v)] (fun _ => none) = fun _ => none := by
      unfold bindC bindC
      rw [if_pos (show (newEnv scope s.heap.objs.size globals (cellsFrom (s.heap.objs.size + 1) scope.names []) qual func code none builtins).kindOf x = some .local from hl)]
    rw [e1]
    exact (x₀.cell k c hc).sameBut hs' (Nat.ne_of_gt (x₀.above k c (PySem.mem_of_lookup hc)))
end
section
variable {prog : Program} {w : World} {s₀ : Shared} {A : Around} {α β : Type} {c : Cx} {env : Env}
/-- a call of a function with cells that may change one old object -/
theorem callKB_top {h B : Heap} {a : Addr} {k : Nat} {name : Str} {cdv : Value} {args : List Value} {bx : Str} {bv : Value} {ρ : List (Str × Value)} {μ₀ : List (Addr × Obj)} {Q : Value → Heap → Prop} (F : FnC h a k name cdv) (lim : h.NoLimit) (hroom : A.depth < recursionLimit)
    (hB : Kp B h) (hμ : ∀ q ∈ μ₀, h.get? q.1 = some q.2 ∧ B.get? q.1 = Option.none) (hμn : (μ₀.map (·.1)).Nodup)
    (hbind : ∀ doc pm an cdv ct, bindArgs (fnK k name doc pm an cdv ct) ⟨args, []⟩ = Pure.pure [(bx, bv)])
    (hρ : ∀ L cd, SubM ρ (bindL (envX name (top k).2.2 L a cd (cellsFrom (L + 1) (top k).2.2.names [])).kindOf [(bx, bv)] fun _ => Option.none))
    (hcm : ∀ L cd n, bindC (envX name (top k).2.2 L a cd (cellsFrom (L + 1) (top k).2.2.names [])).kindOf [(bx, bv)] (fun _ => Option.none) n = Option.none)
    (hloc : ∀ x ∈ [(bx, bv)], (top k).2.2.names.lookup x.1 = some .local) (hnd : ((cellsFrom 0 (top k).2.2.names []).map (·.1)).Nodup)
    (hco : (top k).2.2.isCoroutine = false) (hgen : (top k).2.2.isGenerator = false) (hk : (top k).2.2.kind = .function)
    (H : ∀ L (g : Addr → Obj), h.objs.size ≤ L → (∀ p ∈ cellsFrom (L + 1) (top k).2.2.names [], (g p.2).data = .cell Option.none) →
      Ex prog w s₀ (A.deeper (envX name (top k).2.2 L a cdv (cellsFrom (L + 1) (top k).2.2.names []))) ⟨B, L, ρ, ((cellsFrom (L + 1) (top k).2.2.names []).map fun p => (p.2, g p.2)) ++ μ₀⟩
        (execs (top k).2.1 (envX name (top k).2.2 L a cdv (cellsFrom (L + 1) (top k).2.2.names []))) (fun f h' => ∃ v, f = .ret v ∧ Q v h')) (tk : Nat) :
    wpC (model prog w) A (call (.ref a) args) (fun v s' => ∃ h' tk', s' = St s₀ h' tk' ∧ Q v h') (St s₀ h tk) := by
  obtain ⟨o, doc, pm, an, ct, ho, hd, hc⟩ := F
  refine c_call (cc_call_function (fd := fnK k name doc pm an cdv ct) (body := (top k).2.1) hroom ho hd hco hgen rfl hc ?_)
  rw [hbind doc pm an cdv ct]
  refine c_pure (toC (newEnv_top hk (hloc _ (.head _)) fun env he s₁ X hz₁ => ?_))
  subst he
  refine ⟨lim.keeps X.toInCall.keep, cc_func ?_⟩
  obtain ⟨h₁, tk₁, rfl, hk₁⟩ := X.done
  have X' : InCallC (St s₀ h tk) h.objs.size (bindL (envX name (top k).2.2 h.objs.size a cdv (cellsFrom (h.objs.size + 1) (top k).2.2.names [])).kindOf [(bx, bv)] fun _ => Option.none) (cellsFrom (h.objs.size + 1) (top k).2.2.names [])
      (bindC (envX name (top k).2.2 h.objs.size a cdv (cellsFrom (h.objs.size + 1) (top k).2.2.names [])).kindOf [(bx, bv)] fun _ => Option.none) { (St s₀ h tk) with heap := h₁, toks := tk₁ } := X
  have hlk : ∀ q ∈ cellsFrom (h.objs.size + 1) (top k).2.2.names [], h₁.IsCell q.2 Option.none := fun q hq => by
    have := X'.cell q.1 q.2 (lookup_of_mem_nodup (cellsFrom_names (top k).2.2.names 0 (h.objs.size + 1) [] [] rfl ▸ hnd) hq)
    rwa [hcm] at this
  have hle : ∀ b ∈ μ₀.map (·.1), b < h.objs.size := fun b hb => by
    obtain ⟨q, hq, rfl⟩ := List.mem_map.mp hb
    exact Heap.lt_size (hμ q hq).1
  have ok : Cx.Ok ⟨B, h.objs.size, ρ, ((cellsFrom (h.objs.size + 1) (top k).2.2.names []).map fun q => (q.2, (h₁.get? q.2).getD default)) ++ μ₀⟩ h₁ := by
    refine ⟨hB.trans hk₁, ⟨_, X'.toInCall.ns, (hρ _ _).get⟩, fun q hq => ?_, ?_, fun b hb => ?_⟩
    · rcases List.mem_append.mp hq with hq | hq
      · obtain ⟨q', hq', rfl⟩ := List.mem_map.mp hq
        obtain ⟨ob, e, _⟩ := hlk q' hq'
        show h₁.get? q'.2 = some ((h₁.get? q'.2).getD default)
        rw [e]; rfl
      · exact hk₁ _ _ (hμ q hq).1
    · show (h.objs.size :: (((cellsFrom (h.objs.size + 1) (top k).2.2.names []).map fun q => (q.2, (h₁.get? q.2).getD default)) ++ μ₀).map (·.1)).Nodup
      rw [List.map_append, List.map_map]
      refine List.nodup_cons.mpr ⟨fun m => ?_, List.nodup_append.mpr ⟨List.pairwise_map.mpr X'.apart, hμn, fun x hx y hy e => ?_⟩⟩
      · rcases List.mem_append.mp m with m | m
        · obtain ⟨q, hq, e⟩ := List.mem_map.mp m
          have := X'.above q.1 q.2 hq
          have e' : q.2 = h.objs.size := e
          rw [e'] at this; exact absurd this (Nat.lt_irrefl _)
        · exact absurd (hle _ m) (Nat.lt_irrefl _)
      · obtain ⟨q, hq, e'⟩ := List.mem_map.mp hx
        have := X'.above q.1 q.2 hq
        have e2 : q.2 = x := e'
        have h3 := hle y hy
        rw [e2, e] at this
        exact absurd this (Nat.not_lt.mpr (Nat.le_of_lt h3))
    · have hb' : b = h.objs.size ∨ (∃ q ∈ cellsFrom (h.objs.size + 1) (top k).2.2.names [], q.2 = b) ∨ b ∈ μ₀.map (·.1) := by
        rcases List.mem_cons.mp hb with e | m
        · exact .inl e
        · rw [List.map_append, List.map_map] at m
          rcases List.mem_append.mp m with m | m
          · obtain ⟨q, hq, e⟩ := List.mem_map.mp m
            exact .inr (.inl ⟨q, hq, e⟩)
          · exact .inr (.inr m)
      rcases hb' with e | ⟨q, hq, e⟩ | m
      · cases q : B.get? b with
        | none => rfl
        | some ob => exact absurd (Heap.lt_size (hB _ _ q)) (e ▸ Nat.lt_irrefl _)
      · cases q' : B.get? b with
        | none => rfl
        | some ob =>
          have := X'.above q.1 q.2 hq
          rw [e] at this
          exact absurd this (Nat.not_lt.mpr (Nat.le_of_lt (Heap.lt_size (hB _ _ q'))))
      · obtain ⟨q, hq, rfl⟩ := List.mem_map.mp m
        exact (hμ q hq).2
  have hz : 0 < tk₁ := hz₁
  show wpC (model prog w) (A.deeper (envX name (top k).2.2 h.objs.size a cdv (cellsFrom (h.objs.size + 1) (top k).2.2.names []))) (execs (top k).2.1 (envX name (top k).2.2 h.objs.size a cdv (cellsFrom (h.objs.size + 1) (top k).2.2.names []))) _ (St s₀ h₁ tk₁)
  refine (H h.objs.size (fun b => (h₁.get? b).getD default) (Nat.le_refl _) (fun q hq => ?_) h₁ ok).use (fun f h₂ tk₂ _ q => ?_) _ hz
  · obtain ⟨ob, e, hd⟩ := hlk q hq
    show ((h₁.get? q.2).getD default).data = _
    rw [e]; exact hd
  · obtain ⟨v, rfl, q⟩ := q
    exact ⟨v, rfl, h₂, tk₂, rfl, q⟩

set_option maxHeartbeats 8000000 in
theorem law_top (PL : PlainLaw) {h B : Heap} {a sc : Addr} {cdv : Value} {vs : List Value} {ns : List Int} (am : Amb B) (amM : AmbM B) (hB : Kp B h) (hP : h.get? 23 = some (tabObj #[])) (hBP : B.get? 23 = none) (fn : FnC h a 8 (Str.ofString "law") cdv) (gd : Gd 4 A)
    (hsc : B.IsList sc vs.toArray) (hI : IntsAre vs ns) (hz : ns.length ≤ 63) :
    ∀ tk, wpC (model prog w) A (call (.ref a) [.ref sc]) (fun v s' => ∃ h' tk', s' = St s₀ h' tk' ∧ (v = .bool true ∧ Kp B h' ∧ ∃ ps', h'.get? 23 = some (tabObj ps'))) (St s₀ h tk) := by
  refine callKB_top (B := B) (μ₀ := [(23, tabObj #[])]) (bx := Str.ofString "script") (bv := .ref sc) (ρ := [(Str.ofString "script", .ref sc)])
    fn (am.lim.keeps hB) (by have := gd.dp; omega) hB (fun q hq => by rw [List.mem_singleton.mp hq]; exact ⟨hP, hBP⟩) (by simp) (fun _ _ _ _ _ => rfl) (fun _ _ => ⟨rfl, trivial⟩) (fun _ _ _ => rfl) (locs rfl) (by decide) rfl rfl rfl fun L g hL hg => ?_
  have hg4 : (g (L + 4)).data = .cell none := hg (Str.ofString "lines", L + 4) (.head _)
  have hg3 : (g (L + 3)).data = .cell none := hg (Str.ofString "rows", L + 3) (.tail _ (.head _))
  have hg2 : (g (L + 2)).data = .cell none := hg (Str.ofString "numbers", L + 2) (.tail _ (.tail _ (.head _)))
  have hg1 : (g (L + 1)).data = .cell none := hg (Str.ofString "size", L + 1) (.tail _ (.tail _ (.tail _ (.head _))))
  have gd₁ : Gd 3 (A.deeper (eL L a cdv)) := gd.deeper _
  show Ex prog w s₀ (A.deeper (eL L a cdv)) ⟨B, L, [(Str.ofString "script", .ref sc)], mu5 L (g (L + 4)) (g (L + 3)) (g (L + 2)) (g (L + 1))⟩ (execs (top 8).2.1 (eL L a cdv)) (Fin1 B)
  have hlen : vs.length = ns.length := hI.length
  obtain ⟨f0, hf0⟩ : ∃ f0, (ns ++ [0])[0]? = some f0 := by cases ns <;> exact ⟨_, rfl⟩
  refine Ex.assignI (i := f0) ?_ fun tf => ?_
  · refine Ev.itemN (ns := ns ++ [0]) (k := 0) ?_ Ev.int (by decide) hf0 (by simp; omega)
    refine (Ev.addL (P₁ := Is (.ref sc)) (P₂ := NewI [0]) (P := NewI (ns ++ [0])) (Ev.local rfl) (fun B' g' => Ev.listI (Ev.intsCons Ev.int Ev.intsNil) (by decide)) ?_).mono fun v H ⟨q, ws, e1, e2, e3⟩ => ⟨q, ws, 0, e1, e2, e3⟩
    rintro x y B' g' u v
    have e := u.here; subst e
    obtain ⟨q, ws, rfl, hq, hJ⟩ := v.here
    exact ⟨sc, q, vs, ws, rfl, rfl, fun h o => ⟨Heap.IsList.kp hsc (g'.trans o.keep), isList_lst (o.keep _ _ hq)⟩, by rw [hlen, hJ.length, sizeLine_eq]; simp; omega, fun q' H e _ _ => ⟨q', _, rfl, e, hI.append hJ⟩⟩
  have hmod : f0.fmod 4 = 0 ∨ f0.fmod 4 = 1 ∨ f0.fmod 4 = 2 ∨ f0.fmod 4 = 3 := by rw [fmod_eq _ (by decide)]; omega
  obtain ⟨n, h4, hn⟩ : ∃ n, n4 n ∧ [(7 : Int), 9, 11, 13][(f0.fmod 4).toNat]? = some (n : Int) := by
    rcases hmod with e | e | e | e <;> rw [e]
    · exact ⟨7, .inl rfl, rfl⟩
    · exact ⟨9, .inr (.inl rfl), rfl⟩
    · exact ⟨11, .inr (.inr (.inl rfl)), rfl⟩
    · exact ⟨13, .inr (.inr (.inr rfl)), rfl⟩
  refine Ex.assignC (a := L + 1) (P := VI n) [(L + 4, g (L + 4)), (L + 3, g (L + 3)), (L + 2, g (L + 2))] [(23, tabObj #[])] rfl hg1 ?_ ?_
  · refine Ev.itemN (ns := [7, 9, 11, 13]) (k := f0.fmod 4) ?_ (Ev.mod (Ev.isInt (Ev.local rfl)) Ev.int (by decide)) (by rcases hmod with e | e | e | e <;> omega) hn (by decide)
    exact (Ev.listI (Ev.intsCons Ev.int (Ev.intsCons Ev.int (Ev.intsCons Ev.int (Ev.intsCons Ev.int Ev.intsNil)))) (by decide)).mono fun v H ⟨q, ws, e1, e2, e3⟩ => ⟨q, ws, 0, e1, e2, e3⟩
  rintro _ B₁ oS g₁ up₁ hoS
  obtain ⟨tn, rfl⟩ := up₁.here
  refine Ex.assignC (a := L + 2) (P := fun v H => ∃ q ws, v = .ref q ∧ H.get? q = some (lst (slicePick ws.toArray (some 1) (some 14) none).toList 0) ∧ ws = vs) [(L + 4, g (L + 4)), (L + 3, g (L + 3))] [(L + 1, oS), (23, tabObj #[])] rfl hg2 ?_ ?_
  · refine Ev.cutL (P₀ := Is (.ref sc)) (Φ := fun ws => ws = vs) (Ev.local rfl) (fun v B' g' u => ?_) (Ev.part Ev.int) (Ev.part Ev.int)
    have e := u.here; subst e
    exact ⟨sc, vs, rfl, fun h o => Heap.IsList.kp hsc (g₁.trans (g'.trans o.keep)), rfl, by rw [hlen, sizeLine_eq]; omega⟩
  rintro _ B₂ oN g₂ up₂ hoN
  obtain ⟨nb, ws, rfl, hnb, rfl⟩ := up₂.here
  have am₂ := am.keeps (g₁.trans g₂)
  have amM₂ := amM.keeps (g₁.trans g₂)
  obtain ⟨ms, hM⟩ := ints_all (vs := (slicePick ws.toArray (some 1) (some 14) none).toList) fun y hy => IntsAre.mem hI y (by simpa using pick_mem hy)
  have hml : ms.length ≤ 63 := by
    have := slicePick_size_le ws.toArray (some 1) (some 14) none
    have e1 : ws.toArray.size = ns.length := by rw [List.size_toArray, hlen]
    have e2 : (slicePick ws.toArray (some 1) (some 14) none).toList.length = (slicePick ws.toArray (some 1) (some 14) none).size := Array.length_toList
    rw [← hM.length]; omega
  have hnbL := isList_lst hnb
  show Ex prog w s₀ (A.deeper (eL L a cdv)) ⟨B₂, L, setL (Str.ofString "first") (.int f0 tf) [(Str.ofString "script", .ref sc)], mu5 L (g (L + 4)) (g (L + 3)) oN oS⟩ _ _
  have vN : ∀ B' ρ o1 o2 o3 x h, Cx.Ok ⟨B', L, ρ, [(L + 4, o1), (L + 3, o2), (L + 2, oN), (L + 1, o3), x]⟩ h → h.IsCell (L + 2) (some (.ref nb)) := fun B' ρ o1 o2 o3 x h o => own_cell (c := ⟨B', L, ρ, [(L + 4, o1), (L + 3, o2), (L + 2, oN), (L + 1, o3), x]⟩) (.tail _ (.tail _ (.head _))) hoN h o
  refine Ex.ifS (Ev.eqNil (D := nb) (vs := (slicePick ws.toArray (some 1) (some 14) none).toList) (by have := gd₁.un; omega) (Ev.cell (a := L + 2) (vN _ _ _ _ _ _)) hnbL) (fun hb => ?_) (fun hb => Ex.nilThen ?_)
  · refine Ex.assignC (a := L + 2) (P := NewI [0]) [(L + 4, g (L + 4)), (L + 3, g (L + 3))] [(L + 1, oS), (23, tabObj #[])] rfl hoN (Ev.listI (Ev.intsCons Ev.int Ev.intsNil) (by decide)) ?_
    rintro _ B₃ oN' g₃ up₃ hoN'
    obtain ⟨q, us, rfl, hq, hJ⟩ := up₃.here
    refine Ex.nilThen (Ex.sub (ρ := [(Str.ofString "first", .int f0 tf)]) ⟨rfl, trivial⟩ ?_)
    exact mid4 PL (n := n) (g₁.trans (g₂.trans g₃)) (am₂.keeps g₃) (amM₂.keeps g₃) gd₁ h4 hoS hg3 hg4 hoN' (isList_lst hq) hJ (by decide) (by decide)
  · refine Ex.sub (ρ := [(Str.ofString "first", .int f0 tf)]) ⟨rfl, trivial⟩ ?_
    exact mid4 PL (n := n) (g₁.trans g₂) am₂ amM₂ gd₁ h4 hoS hg3 hg4 hoN hnbL hM (by
      have : (slicePick ws.toArray (some 1) (some 14) none).toList.length ≠ 0 := by simpa using hb
      rw [← hM.length]; omega) (by omega)
end
end Mine
end QTop

section QPa
open PySem PySem.W PySem.Calls PySem.SeqAt PyProof.Rows
set_option linter.unusedVariables false
set_option maxRecDepth 100000
namespace Mine
/-- sums over the first n -/
def sm (f : Nat → Int) : Nat → Int
  | 0 => 0
  | n + 1 => sm f n + f n
theorem sm_congr {f g : Nat → Int} : ∀ n, (∀ i, i < n → f i = g i) → sm f n = sm g n
  | 0, _ => rfl
  | n + 1, h => by
    show sm f n + f n = sm g n + g n
    rw [sm_congr n fun i hi => h i (by omega), h n (by omega)]
theorem sm_add (f g : Nat → Int) : ∀ n, sm (fun i => f i + g i) n = sm f n + sm g n
  | 0 => rfl
  | n + 1 => by
    show sm (fun i => f i + g i) n + (f n + g n) = (sm f n + f n) + (sm g n + g n)
    rw [sm_add f g n]; omega
theorem sm_mul (a : Int) (f : Nat → Int) : ∀ n, sm (fun i => a * f i) n = a * sm f n
  | 0 => by show (0 : Int) = a * 0; omega
  | n + 1 => by
    show sm (fun i => a * f i) n + a * f n = a * (sm f n + f n)
    rw [sm_mul a f n, Int.mul_add]
theorem sm_zero {f : Nat → Int} : ∀ n, (∀ i, i < n → f i = 0) → sm f n = 0
  | 0, _ => rfl
  | n + 1, h => by
    show sm f n + f n = 0
    rw [sm_zero n fun i hi => h i (by omega), h n (by omega)]; rfl
theorem sm_cat (f : Nat → Int) (d : Nat) : ∀ r, sm f (d + r) = sm f d + sm (fun s => f (d + s)) r
  | 0 => by show sm f d = sm f d + 0; omega
  | r + 1 => by
    show sm f (d + r) + f (d + r) = sm f d + (sm (fun s => f (d + s)) r + f (d + r))
    rw [sm_cat f d r]; omega
theorem sm_first (f : Nat → Int) (r : Nat) : sm f (r + 1) = f 0 + sm (fun s => f (s + 1)) r := by
  have := sm_cat f 1 r
  rw [Nat.add_comm 1 r] at this
  rw [this, sm_congr (g := fun s => f (s + 1)) r fun i _ => by show f (1 + i) = f (i + 1); rw [Nat.add_comm]]
  show (0 + f 0) + _ = _; omega
theorem sm_rev : ∀ (n : Nat) (f : Nat → Int), sm (fun i => f (n - 1 - i)) n = sm f n
  | 0, _ => rfl
  | n + 1, f => by
    rw [sm_first]
    show f (n + 1 - 1 - 0) + sm (fun s => f (n + 1 - 1 - (s + 1))) n = sm f n + f n
    rw [sm_congr (g := fun s => f (n - 1 - s)) n fun i _ => by show f (n + 1 - 1 - (i + 1)) = f (n - 1 - i); congr 1; omega, sm_rev n f]
    show f n + sm f n = sm f n + f n
    omega
theorem sm_swap (f : Nat → Nat → Int) (m : Nat) : ∀ n, sm (fun i => sm (fun j => f i j) m) n = sm (fun j => sm (fun i => f i j) n) m
  | 0 => (sm_zero m fun _ _ => rfl).symm
  | n + 1 => by
    show sm (fun i => sm (fun j => f i j) m) n + sm (fun j => f n j) m = sm (fun j => sm (fun i => f i j) n + f n j) m
    rw [sm_add, sm_swap f m n]
theorem sum_sm (f : Nat → Int) : ∀ n, ((List.range n).map f).sum = sm f n
  | 0 => rfl
  | n + 1 => by
    rw [List.range_succ, List.map_append, List.sum_append, sum_sm f n]
    show sm f n + (f n + 0) = sm f n + f n
    omega

/-! texts -/
open Builtin Builtin.Str StrLaws
def ins (a b : Nat) : List Nat → List Nat
  | x :: y :: l => if x = a ∧ y = b then x :: 32 :: ins a b (y :: l) else x :: ins a b (y :: l)
  | l => l
theorem ins_cons (a b x y : Nat) (l : List Nat) : ins a b (x :: y :: l) = if x = a ∧ y = b then x :: 32 :: ins a b (y :: l) else x :: ins a b (y :: l) := by rw [ins]
theorem at_two (x : Str) (a b i : Nat) : At x ⟨#[a, b]⟩ x.length i ↔ x.cps.toList[i]? = some a ∧ x.cps.toList[i + 1]? = some b := by
  unfold At
  rw [subAt_eq]
  show i + 2 ≤ x.length ∧ (List.take 2 (List.drop i x.cps.toList) == [a, b]) = true ↔ _
  have hl : x.length = x.cps.toList.length := by simp [Str.length]
  rw [hl]
  generalize x.cps.toList = l
  constructor
  · rintro ⟨h1, h2⟩
    have e := eq_of_beq h2
    have e0 : (List.take 2 (List.drop i l))[0]? = some a := by rw [e]; rfl
    have e1 : (List.take 2 (List.drop i l))[1]? = some b := by rw [e]; rfl
    rw [List.getElem?_take_of_lt (by omega), List.getElem?_drop] at e0 e1
    exact ⟨e0, e1⟩
  · rintro ⟨h1, h2⟩
    have h3 := (List.getElem?_eq_some_iff.mp h2).1
    refine ⟨by omega, ?_⟩
    rw [List.drop_eq_getElem_cons (by omega : i < l.length), List.drop_eq_getElem_cons (by omega : i + 1 < l.length)]
    have g1 := (List.getElem?_eq_some_iff.mp h1).2
    have g2 := (List.getElem?_eq_some_iff.mp h2).2
    rw [g1, g2]
    simp
theorem ins_step {a b : Nat} {l : List Nat} {i : Nat} (hi : i < l.length) (h : ¬(l[i]? = some a ∧ l[i + 1]? = some b)) : ins a b (l.drop i) = l[i] :: ins a b (l.drop (i + 1)) := by
  rw [List.drop_eq_getElem_cons hi]
  by_cases h1 : i + 1 < l.length
  · rw [List.drop_eq_getElem_cons h1]
    rw [List.getElem?_eq_getElem hi, List.getElem?_eq_getElem h1] at h
    rw [ins_cons, if_neg (by simpa using h)]
  · rw [List.drop_eq_nil_of_le (by omega : l.length ≤ i + 1)]
    rfl
theorem ins_at {a b : Nat} (hab : b ≠ a) {l : List Nat} {i : Nat} (h1 : l[i]? = some a) (h2 : l[i + 1]? = some b) : ins a b (l.drop i) = a :: 32 :: b :: ins a b (l.drop (i + 2)) := by
  obtain ⟨k1, g1⟩ := List.getElem?_eq_some_iff.mp h1
  obtain ⟨k2, g2⟩ := List.getElem?_eq_some_iff.mp h2
  have e := ins_step (a := a) (b := b) k2 (fun q => hab (Option.some.inj (h2.symm.trans q.1)))
  rw [List.drop_eq_getElem_cons k1, List.drop_eq_getElem_cons k2]
  rw [List.drop_eq_getElem_cons k2] at e
  rw [ins_cons, if_pos ⟨g1, g2⟩, e, g1, g2]
theorem ins_free {x : Str} {a b : Nat} : ∀ (m i : Nat), i + m ≤ x.length → (∀ k, i ≤ k → k < i + m → ¬ At x ⟨#[a, b]⟩ x.length k) → ins a b (x.cps.toList.drop i) = (x.cps.toList.drop i).take m ++ ins a b (x.cps.toList.drop (i + m))
  | 0, i, _, _ => by simp
  | m + 1, i, hl, h => by
    have hi : i < x.cps.toList.length := by simp [Str.length] at hl ⊢; omega
    rw [ins_step hi fun q => h i (by omega) (by omega) ((at_two x a b i).mpr q), ins_free m (i + 1) (by omega) fun k h1 h2 => h k (by omega) (by omega)]
    conv => rhs; rw [List.drop_eq_getElem_cons hi]
    rw [List.take_succ_cons, List.cons_append, show i + 1 + m = i + (m + 1) by omega]
theorem cps_join_cons (z : Str) (p : Str) {ps : List Str} (h : ps ≠ []) : (Str.join z (p :: ps)).cps.toList = p.cps.toList ++ z.cps.toList ++ (Str.join z ps).cps.toList := by
  cases ps with
  | nil => exact absurd rfl h
  | cons q r => show (p ++ z ++ Str.join z (q :: r)).cps.toList = _; simp [PySem.Str.cps_append]
theorem rep_parts {x : Str} {a b : Nat} (hab : b ≠ a) : ∀ (cuts : List Nat) (i f : Nat), i ≤ x.length → ChainG x ⟨#[a, b]⟩ x.length i cuts f → (∀ k, f ≤ k → ¬ At x ⟨#[a, b]⟩ x.length k) →
    (Str.join ⟨#[a, 32, b]⟩ (partsFrom x 2 i cuts)).cps.toList = ins a b (x.cps.toList.drop i)
  | [], i, f, hl, h, hn => by
    have e : f = i := h
    subst e
    show (strSub x f x.length).cps.toList = _
    rw [strSub_toList, ins_free (x.length - f) f (by omega) fun k h1 _ => hn k h1]
    rw [List.drop_eq_nil_of_le (as := x.cps.toList) (by simp [Str.length]; omega : x.cps.toList.length ≤ f + (x.length - f))]
    show _ = _ ++ []
    simp
  | c :: r, i, f, hl, ⟨h1, h2, h3, h4⟩, hn => by
    have hc : c + 2 ≤ x.length := h2.1
    have h4' : ChainG x ⟨#[a, b]⟩ x.length (c + 2) r f := h4
    obtain ⟨p, ps, e⟩ := partsFrom_ne x 2 (c + 2) r
    show (Str.join ⟨#[a, 32, b]⟩ (strSub x i c :: partsFrom x 2 (c + 2) r)).cps.toList = _
    rw [cps_join_cons _ _ (by rw [e]; exact List.cons_ne_nil _ _), rep_parts hab r (c + 2) f hc h4' hn, strSub_toList,
      ins_free (c - i) i (by omega) fun k k1 k2 => h3 k k1 (by omega), show i + (c - i) = c by omega]
    have q := (at_two x a b c).mp h2
    rw [ins_at hab q.1 q.2]
    simp
theorem replace_ins (x : Str) {a b : Nat} (hab : b ≠ a) : (Txt.replace x ⟨#[a, b]⟩ ⟨#[a, 32, b]⟩).cps.toList = ins a b x.cps.toList := by
  obtain ⟨f, h, hn⟩ := occ_tight x ⟨#[a, b]⟩ (show 1 ≤ 2 by decide)
  have key := rep_parts hab _ 0 f (Nat.zero_le _) h hn
  rw [List.drop_zero] at key
  unfold Txt.replace
  rw [show ((⟨#[a, b]⟩ : Str).length == 0) = false from rfl, Bool.false_and, Bool.or_false]
  cases he : (occurrences x ⟨#[a, b]⟩ 0 x.length (x.length + 1)).isEmpty with
  | true =>
    rw [if_pos rfl]
    rw [List.isEmpty_iff.mp he] at key
    rw [← key]
    show _ = (strSub x 0 x.length).cps.toList
    rw [sub_whole]
  | false =>
    rw [if_neg Bool.false_ne_true, glued_eq_join, partsBetween_eq]
    exact key
theorem ins_len (a b : Nat) : ∀ l : List Nat, (ins a b l).length ≤ 2 * l.length
  | [] => by simp [ins]
  | [x] => by simp [ins]
  | x :: y :: l => by
    have := ins_len a b (y :: l)
    rw [ins_cons]
    split
    · simp only [List.length_cons] at this ⊢; omega
    · simp only [List.length_cons] at this ⊢; omega
end Mine
end QPa

section QPb
open PySem PySem.W PySem.Calls PySem.SeqAt PyProof.Rows
set_option linter.unusedVariables false
set_option maxRecDepth 100000
namespace Mine
open Builtin Builtin.Str StrLaws
theorem s01_eq : s01 = ⟨#[48, 49]⟩ := by decide +kernel
theorem s0_1_eq : s0_1 = ⟨#[48, 32, 49]⟩ := by decide +kernel
theorem s10_eq : s10 = ⟨#[49, 48]⟩ := by decide +kernel
theorem s1_0_eq : s1_0 = ⟨#[49, 32, 48]⟩ := by decide +kernel
theorem spc_eq : spc = ⟨#[32]⟩ := by decide +kernel
def sp : Bool → List Bool → List Nat
  | _, [] => []
  | p, y :: l => if p = y then cd1 y :: sp y l else 32 :: cd1 y :: sp y l
theorem ins_hd (a b x : Nat) (l : List Nat) : ∃ T, ins a b (x :: l) = x :: T := by
  cases l with
  | nil => exact ⟨[], by rw [ins]; intro _ _ _ h; cases h⟩
  | cons y l => rw [ins_cons]; split <;> exact ⟨_, rfl⟩
theorem ins_ins : ∀ (l : List Bool) (x : Bool), ins 49 48 (ins 48 49 (cd1 x :: l.map cd1)) = cd1 x :: sp x l
  | [], x => by rfl
  | y :: l, x => by
    have ih := ins_ins l y
    obtain ⟨T, e⟩ := ins_hd 48 49 (cd1 y) (l.map cd1)
    rw [List.map_cons, ins_cons, e]
    rw [e] at ih
    cases x <;> cases y
    · rw [if_neg (by decide), ins_cons, if_neg (by decide), ih]; rfl
    · rw [if_pos (by decide), ins_cons, if_neg (by decide), ins_cons, if_neg (by decide), ih]; rfl
    · rw [if_neg (by decide), ins_cons, if_pos (by decide), ih]; rfl
    · rw [if_neg (by decide), ins_cons, if_neg (by decide), ih]; rfl
theorem txt_list (n : Nat) (g : Nat → Bool) : (txt n g).cps.toList = ((List.range n).map g).map cd1 := by simp [txt]
/-- the scan of the split line -/
def Qs : Nat → List Nat → Int
  | c, [] => pend c
  | c, x :: l => if x = 32 then pend c + Qs 0 l else Qs (c + 1) l
theorem Qs_app : ∀ (p r : List Nat) (c : Nat), 32 ∉ p → Qs c (p ++ r) = Qs (c + p.length) r
  | [], r, c, _ => rfl
  | x :: p, r, c, h => by
    have hx : x ≠ 32 := fun e => h (e ▸ List.mem_cons_self)
    show (if x = 32 then _ else Qs (c + 1) (p ++ r)) = _
    rw [if_neg hx, Qs_app p r (c + 1) fun m => h (List.mem_cons_of_mem _ m), List.length_cons]
    congr 1; omega
theorem ptS_eq (p : Str) : ptS p = pend (p.cps.toList.length : Nat) := by
  unfold ptS pend Str.length
  rw [Array.length_toList]
  by_cases h : 4 < p.cps.size
  · rw [if_pos h, if_pos (by omega)]
  · rw [if_neg h, if_neg (by omega)]
theorem Qs_join : ∀ (ps : List Str), ps ≠ [] → (∀ p ∈ ps, 32 ∉ p.cps.toList) → Qs 0 (Str.join ⟨#[32]⟩ ps).cps.toList = (ps.map ptS).sum
  | [], h, _ => absurd rfl h
  | [p], _, h => by
    show Qs 0 p.cps.toList = ptS p + 0
    have := Qs_app p.cps.toList [] 0 (h p List.mem_cons_self)
    rw [List.append_nil] at this
    rw [this, ptS_eq]
    show pend ((0 + p.cps.toList.length : Nat) : Int) = _
    rw [Nat.zero_add]; omega
  | p :: q :: r, _, h => by
    rw [cps_join_cons _ _ (List.cons_ne_nil _ _), List.append_assoc, Qs_app _ _ _ (h p List.mem_cons_self)]
    show (if (32 : Nat) = 32 then pend ((0 + p.cps.toList.length : Nat) : Int) + Qs 0 (Str.join ⟨#[32]⟩ (q :: r)).cps.toList else _) = ptS p + ((q :: r).map ptS).sum
    rw [if_pos rfl, Qs_join (q :: r) (List.cons_ne_nil _ _) fun y hy => h y (List.mem_cons_of_mem _ hy), ptS_eq, Nat.zero_add]
theorem split_ne (x y : Str) : Txt.split x y ≠ [] := by
  unfold Txt.split
  split
  · exact List.cons_ne_nil _ _
  · split
    · exact List.cons_ne_nil _ _
    · rw [partsBetween_eq]; obtain ⟨p, r, e⟩ := partsFrom_ne x y.length 0 (occurrences x y 0 x.length (x.length + 1)); rw [e]; exact List.cons_ne_nil _ _
theorem runsS_Qs (x : Str) : runsS x = Qs 0 (ins 49 48 (ins 48 49 x.cps.toList)) := by
  unfold runsS cutS
  rw [s01_eq, s0_1_eq, s10_eq, s1_0_eq, spc_eq, ← replace_ins x (by decide), ← replace_ins _ (by decide)]
  generalize Txt.replace (Txt.replace x ⟨#[48, 49]⟩ ⟨#[48, 32, 49]⟩) ⟨#[49, 48]⟩ ⟨#[49, 32, 48]⟩ = y
  rw [← Qs_join _ (split_ne y _) (split_free y 32), join_split]
def Pt : Nat → Bool → List Bool → Int
  | c, _, [] => pend c
  | c, p, y :: l => if p = y then Pt (c + 1) y l else pend c + Pt 1 y l
theorem cd1_ne (c : Bool) : cd1 c ≠ 32 := by cases c <;> decide
theorem Qs_sp : ∀ (l : List Bool) (c : Nat) (p : Bool), Qs c (sp p l) = Pt c p l
  | [], c, p => rfl
  | y :: l, c, p => by
    unfold sp Pt
    by_cases e : p = y
    · rw [if_pos e, if_pos e]
      show (if cd1 y = 32 then _ else Qs (c + 1) (sp y l)) = _
      rw [if_neg (cd1_ne y), Qs_sp l]
    · rw [if_neg e, if_neg e]
      show (if (32 : Nat) = 32 then pend c + (if cd1 y = 32 then _ else Qs (0 + 1) (sp y l)) else _) = _
      rw [if_pos rfl, if_neg (cd1_ne y), Qs_sp l]
/-- the points of a line, as the counters have them -/
def pts (g : Nat → Bool) (n : Nat) : Int := fl g n + pend (cnt g n)
theorem bi_inj {a b : Bool} : bi a = bi b ↔ a = b := by cases a <;> cases b <;> decide
theorem same_succ (g : Nat → Bool) (j : Nat) : same g (j + 1) = decide (g (j + 1) = g j) := by
  unfold same prev
  rw [if_neg (by omega), Bool.eq_iff_iff, beq_iff_eq, decide_eq_true_eq, bi_inj]; rfl
theorem same_zero (g : Nat → Bool) : same g 0 = false := by
  unfold same prev
  rw [if_pos rfl]; cases g 0 <;> decide
theorem cnt_succ (g : Nat → Bool) (j : Nat) : cnt g (j + 1) = if same g j then cnt g j + 1 else 1 := rfl
theorem fl_succ (g : Nat → Bool) (j : Nat) : fl g (j + 1) = fl g j + if same g j then 0 else pend (cnt g j) := rfl
theorem pts_Pt (g : Nat → Bool) : ∀ (m j c : Nat), cnt g (j + 1) = c → fl g (j + 1) + Pt c (g j) ((List.range' (j + 1) m).map g) = pts g (j + 1 + m)
  | 0, j, c, h => by
    show fl g (j + 1) + pend c = fl g (j + 1) + pend (cnt g (j + 1))
    rw [h]
  | m + 1, j, c, h => by
    rw [List.range'_succ, List.map_cons]
    unfold Pt
    have hs := same_succ g j
    have hc := cnt_succ g (j + 1)
    have hf := fl_succ g (j + 1)
    by_cases e : g j = g (j + 1)
    · rw [hs, decide_eq_true e.symm, if_pos rfl] at hc hf
      have := pts_Pt g m (j + 1) (c + 1) (by rw [hc, h]; omega)
      rw [if_pos e, show j + 1 + (m + 1) = j + 1 + 1 + m by omega, ← this, hf]; omega
    · rw [hs, decide_eq_false fun q => e q.symm, if_neg Bool.false_ne_true] at hc hf
      have := pts_Pt g m (j + 1) 1 (by rw [hc]; rfl)
      rw [if_neg e, show j + 1 + (m + 1) = j + 1 + 1 + m by omega, ← this, hf, h]; omega
theorem runs_pts (n : Nat) (g : Nat → Bool) (hn : 1 ≤ n) : runsS (txt n g) = pts g n := by
  obtain ⟨m, rfl⟩ : ∃ m, n = m + 1 := ⟨n - 1, by omega⟩
  have h1 : cnt g (0 + 1) = (1 : Nat) := by rw [cnt_succ, same_zero]; rfl
  have h2 : fl g (0 + 1) = 0 := by rw [fl_succ, same_zero]; rfl
  have key := pts_Pt g m 0 1 h1
  rw [h2] at key
  rw [runsS_Qs, txt_list, List.range_eq_range', List.range'_succ, List.map_cons, List.map_cons, ins_ins]
  show (if cd1 (g 0) = 32 then _ else Qs (0 + 1) (sp (g 0) ((List.range' (0 + 1) m).map g))) = _
  rw [if_neg (cd1_ne _), Qs_sp, show m + 1 = 0 + 1 + m by omega, ← key, Int.zero_add]
/-! windows -/
/-- the window of k that ends ahead of m is of one colour -/
def cend (g : Nat → Bool) (k m : Nat) : Prop := ∀ a, m ≤ a + k → a + 1 < m → g a = g (a + 1)
open Classical in
noncomputable def iota (p : Prop) : Int := if p then 1 else 0
theorem iota_congr {p q : Prop} (h : p ↔ q) : iota p = iota q := by rw [propext h]
theorem iota_true {p : Prop} (h : p) : iota p = 1 := by unfold iota; rw [if_pos h]
theorem iota_false {p : Prop} (h : ¬ p) : iota p = 0 := by unfold iota; rw [if_neg h]
theorem cnt_nn (g : Nat → Bool) : ∀ m, 0 ≤ cnt g m
  | 0 => Int.le_refl _
  | m + 1 => by
    rw [cnt_succ]; split
    · exact Int.add_nonneg (cnt_nn g m) (by decide)
    · decide
theorem cast_le_succ (k : Nat) (c : Int) : ((k + 1 : Nat) : Int) ≤ c + 1 ↔ (k : Int) ≤ c := by omega
theorem cnt_ge (g : Nat → Bool) : ∀ (m k : Nat), ((k : Int) ≤ cnt g m ↔ k ≤ m ∧ cend g k m)
  | m, 0 => ⟨fun _ => ⟨Nat.zero_le _, fun a h1 h2 => absurd h2 (Nat.not_lt.mpr (Nat.le_succ_of_le h1))⟩, fun _ => cnt_nn g m⟩
  | 0, k + 1 => ⟨fun h => absurd h (by show ¬ ((k + 1 : Nat) : Int) ≤ 0; omega), fun h => absurd h.1 (Nat.not_succ_le_zero _)⟩
  | m + 1, k + 1 => by
    rw [cnt_succ]
    have ih := cnt_ge g m k
    cases m with
    | zero =>
      rw [same_zero, if_neg Bool.false_ne_true]
      refine ⟨fun h => ⟨Nat.succ_le_succ (by omega), fun a _ h2 => absurd h2 (by omega)⟩, fun h => ?_⟩
      have := h.1; omega
    | succ m =>
      rw [same_succ]
      by_cases e : g (m + 1) = g m
      · rw [decide_eq_true e, if_pos rfl, cast_le_succ, ih]
        refine ⟨fun h => ⟨Nat.succ_le_succ h.1, fun a h1 h2 => ?_⟩, fun h => ⟨Nat.le_of_succ_le_succ h.1, fun a h1 h2 => h.2 a (Nat.succ_le_succ h1) (Nat.lt_succ_of_lt h2)⟩⟩
        rcases Nat.eq_or_lt_of_le (Nat.le_of_lt_succ h2) with q | q
        · rw [Nat.succ.inj q]; exact e.symm
        · exact h.2 a (Nat.le_of_succ_le_succ h1) q
      · rw [decide_eq_false e, if_neg Bool.false_ne_true]
        cases k with
        | zero => exact ⟨fun _ => ⟨Nat.succ_le_succ (Nat.zero_le _), fun a h1 h2 => absurd (Nat.le_of_succ_le_succ h1) (by omega)⟩, fun _ => Int.le_refl _⟩
        | succ k => exact ⟨fun h => absurd h (by omega), fun h => absurd (h.2 m (by omega) (Nat.lt_succ_self _)).symm e⟩
theorem pend_step (c : Int) (h : 0 ≤ c) : pend (c + 1) = pend c + (3 * iota ((5 : Nat) ≤ c + 1) - 2 * iota ((6 : Nat) ≤ c + 1)) := by
  unfold pend
  by_cases a : c + 1 < 5
  · rw [if_neg (by omega), if_neg (by omega), iota_false (by omega), iota_false (by omega)]; rfl
  · by_cases b : c + 1 < 6
    · rw [if_pos (by omega), if_neg (by omega), iota_true (by omega), iota_false (by omega)]; omega
    · rw [if_pos (by omega), if_pos (by omega), iota_true (by omega), iota_true (by omega)]; omega
theorem pts_win (g : Nat → Bool) : ∀ n, pts g n = sm (fun m => 3 * iota ((5 : Nat) ≤ cnt g (m + 1)) - 2 * iota ((6 : Nat) ≤ cnt g (m + 1))) n
  | 0 => rfl
  | n + 1 => by
    show fl g (n + 1) + pend (cnt g (n + 1)) = sm _ n + (3 * iota ((5 : Nat) ≤ cnt g (n + 1)) - 2 * iota ((6 : Nat) ≤ cnt g (n + 1)))
    rw [← pts_win g n]
    show _ = fl g n + pend (cnt g n) + (3 * iota ((5 : Nat) ≤ cnt g (n + 1)) - 2 * iota ((6 : Nat) ≤ cnt g (n + 1)))
    have hc := cnt_succ g n
    have hf := fl_succ g n
    cases e : same g n with
    | true =>
      rw [e, if_pos rfl] at hc hf
      rw [hf, hc, pend_step _ (cnt_nn g n), Int.add_zero, Int.add_assoc]
    | false =>
      rw [e, if_neg Bool.false_ne_true] at hc hf
      rw [hf, hc, iota_false (by decide), iota_false (by decide), show pend 1 = 0 by decide]; rfl
noncomputable def wins (k : Nat) (g : Nat → Bool) (r : Nat) : Int := sm (fun s => iota (cend g k (k + s))) r
theorem sm_wins (g : Nat → Bool) (d r : Nat) : sm (fun m => iota (((d + 1 : Nat) : Int) ≤ cnt g (m + 1))) (d + r) = wins (d + 1) g r := by
  rw [sm_cat, sm_zero d fun i hi => iota_false fun q => by have := ((cnt_ge g _ _).mp q).1; omega]
  unfold wins
  rw [Int.zero_add]
  refine sm_congr r fun i hi => iota_congr ?_
  rw [cnt_ge, show d + i + 1 = d + 1 + i from Nat.succ_add_eq_add_succ d i ▸ rfl]
  exact ⟨fun h => h.2, fun h => ⟨Nat.le_add_right _ _, h⟩⟩
theorem pts_wins (g : Nat → Bool) (r : Nat) : pts g (5 + r) = 3 * wins 5 g (r + 1) - 2 * wins 6 g r := by
  have e5 := sm_wins g 4 (r + 1)
  have e6 := sm_wins g 5 r
  rw [show 4 + (r + 1) = 5 + r by omega] at e5
  rw [pts_win, ← e5, ← e6]
  have := sm_add (fun m => 3 * iota (((5 : Nat) : Int) ≤ cnt g (m + 1))) (fun m => -2 * iota (((6 : Nat) : Int) ≤ cnt g (m + 1))) (5 + r)
  rw [sm_mul, sm_mul] at this
  rw [Int.sub_eq_add_neg, ← Int.neg_mul, ← this]
  exact sm_congr _ fun i _ => by show _ = _ + _; rw [Int.sub_eq_add_neg, ← Int.neg_mul]
/-- one line is the other one, read from behind -/
def Rev (n : Nat) (g f : Nat → Bool) : Prop := ∀ a b, a + b + 1 = n → g a = f b
theorem Rev.symm {n : Nat} {g f : Nat → Bool} (h : Rev n g f) : Rev n f g := fun a b e => (h b a (by rw [Nat.add_comm b a]; exact e)).symm
def rv (n : Nat) (g : Nat → Bool) : Nat → Bool := fun i => g (n - 1 - i)
theorem rev_rv (n : Nat) (g : Nat → Bool) : Rev n g (rv n g) := fun a b e => by unfold rv; rw [show n - 1 - b = a by omega]
theorem cend_rev {n k m m' : Nat} {g f : Nat → Bool} (h : Rev n g f) (hm : k ≤ m) (e : m + m' = n + k) (q : cend g k m) : cend f k m' := fun a h1 h2 => by
  obtain ⟨b, hb⟩ := Nat.exists_eq_add_of_le (show a + 2 ≤ n by omega)
  subst hb
  rw [← h (b + 1) a (by omega), ← h b (a + 1) (by omega)]
  exact (q b (by omega) (by omega)).symm
theorem wins_rev {k r : Nat} {g f : Nat → Bool} (h : Rev (k + r) g f) : wins (k + 1) g r = wins (k + 1) f r := by
  unfold wins
  rw [← sm_rev r fun s => iota (cend f (k + 1) (k + 1 + s))]
  refine sm_congr r fun i hi => iota_congr ?_
  obtain ⟨j, rfl⟩ := Nat.exists_eq_add_of_lt hi
  rw [show i + j + 1 - 1 - i = j by omega]
  exact ⟨cend_rev h (Nat.le_add_right _ _) (by omega), cend_rev h.symm (Nat.le_add_right _ _) (by omega)⟩
theorem pts_rv (n : Nat) (g : Nat → Bool) (hn : 6 ≤ n) : pts (rv n g) n = pts g n := by
  obtain ⟨r, rfl⟩ := Nat.exists_eq_add_of_le (Nat.le_of_succ_le hn)
  have h := rev_rv (5 + r) g
  have h4 : Rev (4 + (r + 1)) g (rv (5 + r) g) := by rw [show 4 + (r + 1) = 5 + r by omega]; exact h
  rw [pts_wins, pts_wins]
  exact congr (congrArg _ (congrArg _ (wins_rev (k := 4) h4).symm)) (congrArg _ (wins_rev (k := 5) h).symm)
theorem S1_sm (b : Nat → Nat → Bool) (n : Nat) : ∀ i, S1 b n i = sm (fun i => pts (b i) n) i + sm (fun i => pts (colOf b i) n) i
  | 0 => rfl
  | i + 1 => by
    show S1 b n i + pts (b i) n + pts (colOf b i) n = (sm _ i + pts (b i) n) + (sm _ i + pts (colOf b i) n)
    rw [S1_sm b n i]; omega
theorem S1_turn (b : Nat → Nat → Bool) (n : Nat) (hn : 6 ≤ n) : S1 (rot n b) n n = S1 b n n := by
  rw [S1_sm, S1_sm]
  have e1 : sm (fun i => pts (rot n b i) n) n = sm (fun i => pts (colOf b i) n) n := sm_congr n fun i _ => pts_rv n (colOf b i) hn
  have e2 : sm (fun i => pts (colOf (rot n b) i) n) n = sm (fun i => pts (b i) n) n := sm_rev n fun i => pts (b i) n
  rw [e1, e2]; omega
theorem acc_all (f : Str → Int) (n : Nat) (b : Nat → Nat → Bool) : acc f (linesOf n b ++ sidesOf n b) (n + n) = sm (fun i => f (txt n (b i))) n + sm (fun i => f (txt n (colOf b i))) n := by
  unfold acc
  rw [List.take_of_length_le (by simp [linesOf, sidesOf]), List.map_append, List.sum_append]
  unfold linesOf sidesOf
  rw [List.map_map, List.map_map, ← sum_sm, ← sum_sm]; rfl
theorem run_law (n : Nat) (b : Nat → Nat → Bool) (hn : 1 ≤ n) : acc runsS (linesOf n b ++ sidesOf n b) (n + n) = S1 b n n := by
  rw [acc_all, S1_sm, sm_congr n fun i _ => runs_pts n (b i) hn, sm_congr n fun i _ => runs_pts n (colOf b i) hn]
theorem sub_le (x : Str) (i j : Nat) : (strSub x i j).length ≤ x.length := by
  show (x.cps.extract i j).size ≤ x.cps.size
  rw [Array.size_extract]; omega
theorem partsFrom_len (x : Str) (w : Nat) : ∀ (cuts : List Nat) (a : Nat), (partsFrom x w a cuts).length = cuts.length + 1
  | [], a => rfl
  | c :: r, a => by show (partsFrom x w (c + w) r).length + 1 = _; rw [partsFrom_len x w r]; rfl
theorem partsFrom_le (x : Str) (w : Nat) : ∀ (cuts : List Nat) (a : Nat), ∀ p ∈ partsFrom x w a cuts, p.length ≤ x.length
  | [], a, p, h => by rw [List.mem_singleton.mp h]; exact sub_le _ _ _
  | c :: r, a, p, h => by
    rcases List.mem_cons.mp h with e | h
    · rw [e]; exact sub_le _ _ _
    · exact partsFrom_le x w r _ p h
theorem split_le (x y : Str) : ∀ p ∈ Txt.split x y, p.length ≤ x.length := by
  intro p hp
  unfold Txt.split at hp
  split at hp
  · rw [List.mem_singleton.mp hp]; exact Nat.le_refl _
  · split at hp
    · rw [List.mem_singleton.mp hp]; exact Nat.le_refl _
    · rw [partsBetween_eq] at hp; exact partsFrom_le _ _ _ _ p hp
theorem len_list (x : Str) : x.length = x.cps.toList.length := by simp [Str.length]
theorem fit_law (n : Nat) (g : Nat → Bool) (hn : n ≤ 13) : RunsFit (txt n g) := by
  have h1 : (Txt.replace (txt n g) s01 s0_1).length ≤ 26 := by
    rw [s01_eq, s0_1_eq, len_list, replace_ins _ (by decide)]
    refine Nat.le_trans (ins_len _ _ _) ?_
    rw [← len_list, txt_len]; omega
  have h2 : (Txt.replace (Txt.replace (txt n g) s01 s0_1) s10 s1_0).length ≤ 52 := by
    rw [s10_eq, s1_0_eq, len_list, replace_ins _ (by decide)]
    refine Nat.le_trans (ins_len _ _ _) ?_
    rw [← len_list]; omega
  refine ⟨by omega, by omega, ?_, fun p hp => ?_⟩
  · rw [partsBetween_eq, partsFrom_len]
    have := occ_length_le (Txt.replace (Txt.replace (txt n g) s01 s0_1) s10 s1_0) spc 0 (Txt.replace (Txt.replace (txt n g) s01 s0_1) s10 s1_0).length ((Txt.replace (Txt.replace (txt n g) s01 s0_1) s10 s1_0).length + 1)
    omega
  · have := split_le _ _ p hp
    omega
end Mine
end QPb

section QPc
open PySem PySem.W PySem.Calls PySem.SeqAt PyProof.Rows
set_option linter.unusedVariables false
set_option maxRecDepth 100000
namespace Mine
open Builtin Builtin.Str StrLaws
theorem slice_txt {n a k : Nat} {g : Nat → Bool} {i j : Int} (hi : i = a) (hj : j = (a + k : Nat)) (h : a + k ≤ n) : Txt.slice (txt n g) (some i) (some j) = txt k fun t => g (a + t) := by
  subst hi hj
  have e : Txt.slice (txt n g) (some (a : Int)) (some ((a + k : Nat) : Int)) = sliceText (txt n g) (some (a : Int)) (some ((a + k : Nat) : Int)) := by
    unfold Txt.slice sliceText; rfl
  rw [e, sliceText_nat _ (by omega) (by rw [txt_len]; exact h), txt_list]
  unfold txt
  congr 2
  apply List.ext_getElem
  · simp; omega
  · intro t h1 h2
    simp
theorem txt_inj {n : Nat} {g f : Nat → Bool} : txt n g = txt n f ↔ ∀ i, i < n → g i = f i := by
  constructor
  · intro h i hi
    have h1 := txt_get g hi
    rw [h, txt_get f hi] at h1
    have := Option.some.inj h1
    revert this
    cases g i <;> cases f i <;> decide
  · intro h
    unfold txt
    congr 2
    apply List.map_congr_left
    intro i hi
    rw [h i (List.mem_range.mp hi)]
theorem txt_app (m n : Nat) (g f : Nat → Bool) : txt m g ++ txt n f = txt (m + n) fun i => if i < m then g i else f (i - m) := by
  apply PySem.Str.ext'
  show (txt m g).cps ++ (txt n f).cps = _
  unfold txt
  simp only [List.append_toArray]
  congr 1
  rw [List.range_add, List.map_append, List.map_map]
  congr 1
  · apply List.map_congr_left
    intro i hi
    rw [if_pos (List.mem_range.mp hi)]
  · apply List.map_congr_left
    intro i hi
    show cd1 (f i) = cd1 (if m + i < m then g (m + i) else f (m + i - m))
    rw [if_neg (by omega), Nat.add_sub_cancel_left]
theorem s0000_txt : s0000 = txt 4 fun _ => false := by decide +kernel
theorem sOne_txt : sOne = txt 4 fun _ => true := by decide +kernel
def patF : Nat → Bool := fun i => decide (i ≠ 1) && decide (i ≠ 5)
theorem sPat_txt : sPat = txt 7 patF := by decide +kernel
/-! squares -/
def Sq (b : Nat → Nat → Bool) (i j : Nat) : Prop := b i j = b i (j + 1) ∧ b i j = b (i + 1) j ∧ b i j = b (i + 1) (j + 1)
theorem sqL_iff (b : Nat → Nat → Bool) (n i j : Nat) (hj : j + 1 < n) : sqL (txt n (b i)) (txt n (b (i + 1))) j = true ↔ Sq b i j := by
  unfold sqL
  rw [slice_txt (a := j) (k := 2) rfl (by omega) (by omega), slice_txt (a := j) (k := 2) rfl (by omega) (by omega), txt_app, s0000_txt, sOne_txt]
  simp only [List.any_cons, List.any_nil, Bool.or_false, Bool.or_eq_true, beq_iff_eq]
  rw [txt_inj, txt_inj]
  constructor
  · rintro (h | h)
    · have h0 := h 0 (by decide); have h1 := h 1 (by decide); have h2 := h 2 (by decide); have h3 := h 3 (by decide)
      simp at h0 h1 h2 h3
      exact ⟨by rw [h0, h1], by rw [h0, h2], by rw [h0, h3]⟩
    · have h0 := h 0 (by decide); have h1 := h 1 (by decide); have h2 := h 2 (by decide); have h3 := h 3 (by decide)
      simp at h0 h1 h2 h3
      exact ⟨by rw [h0, h1], by rw [h0, h2], by rw [h0, h3]⟩
  · rintro ⟨h1, h2, h3⟩
    have key : ∀ v, b i j = v → ∀ t, t < 2 + 2 → v = (if t < 2 then b i (j + t) else b (i + 1) (j + (t - 2))) := by
      intro v hv t ht
      have : t = 0 ∨ t = 1 ∨ t = 2 ∨ t = 3 := by omega
      rcases this with rfl | rfl | rfl | rfl
      · simpa using hv.symm
      · simpa using hv.symm.trans h1
      · simpa using hv.symm.trans h2
      · simpa using hv.symm.trans h3
    cases hv : b i j with
    | false => exact .inl (key _ hv)
    | true => exact .inr (key _ hv)
noncomputable def sqI (b : Nat → Nat → Bool) (i j : Nat) : Int := 3 * iota (Sq b i j)
theorem rowSq_sm (b : Nat → Nat → Bool) (n i : Nat) : ∀ m, m < n → rowSq (txt n (b i)) (txt n (b (i + 1))) m = sm (fun j => sqI b i j) m
  | 0, _ => rfl
  | m + 1, h => by
    show rowSq _ _ m + (if sqL (txt n (b i)) (txt n (b (i + 1))) m then 3 else 0) = sm (fun j => sqI b i j) m + sqI b i m
    rw [rowSq_sm b n i m (by omega)]
    have := sqL_iff b n i m h
    unfold sqI
    cases hc : sqL (txt n (b i)) (txt n (b (i + 1))) m with
    | true => rw [if_pos rfl, iota_true (this.mp hc)]; omega
    | false => rw [if_neg Bool.false_ne_true, iota_false fun q => by rw [this.mpr q] at hc; cases hc]; omega
theorem getD_lines (n i : Nat) (b : Nat → Nat → Bool) (h : i < n) : (linesOf n b).getD i ⟨#[]⟩ = txt n (b i) := by
  unfold linesOf
  rw [List.getD_eq_getElem?_getD, get_mrS _ _ _ h]; rfl
theorem sqSum_sm (b : Nat → Nat → Bool) (n : Nat) : ∀ m, m < n → sqSum (linesOf n b) (n - 1) m = sm (fun i => sm (fun j => sqI b i j) (n - 1)) m
  | 0, _ => rfl
  | m + 1, h => by
    show sqSum (linesOf n b) (n - 1) m + rowSq ((linesOf n b).getD m ⟨#[]⟩) ((linesOf n b).getD (m + 1) ⟨#[]⟩) (n - 1) = _
    rw [getD_lines n m b (by omega), getD_lines n (m + 1) b h, sqSum_sm b n m (by omega), rowSq_sm b n m (n - 1) (by omega)]; rfl
theorem sqT_succ (b : Nat → Nat → Bool) (i j : Nat) : sqT b (i + 1) (j + 1) = true ↔ Sq b i j := by
  unfold sqT Sq prev
  rw [if_neg (by omega)]
  simp only [Bool.and_true, Bool.and_eq_true, decide_eq_true_eq, bne_iff_ne, beq_iff_eq, bi_inj, Nat.add_sub_cancel]
  constructor
  · rintro ⟨_, _, h1, h2, h3⟩
    exact ⟨by rw [← h3, ← h2], by rw [← h3, ← h2], by rw [← h3, ← h2, ← h1]⟩
  · rintro ⟨h1, h2, h3⟩
    exact ⟨by omega, by omega, by rw [← h3, ← h2], by rw [← h2, ← h1], by rw [← h1]⟩
theorem sqT_zero (b : Nat → Nat → Bool) (j : Nat) : sqT b 0 j = false := by unfold sqT; simp
theorem sqT_zero' (b : Nat → Nat → Bool) (i : Nat) : sqT b i 0 = false := by unfold sqT; simp
theorem s2_sm (b : Nat → Nat → Bool) (i : Nat) : ∀ n, s2 b i n = sm (fun j => if sqT b i j then 3 else 0) n
  | 0 => rfl
  | n + 1 => by show s2 b i n + _ = sm _ n + _; rw [s2_sm b i n]
theorem S2_sm (b : Nat → Nat → Bool) (n : Nat) : ∀ i, S2 b n i = sm (fun i => s2 b i n) i
  | 0 => rfl
  | i + 1 => by show S2 b n i + _ = sm _ i + _; rw [S2_sm b n i]
theorem S2_eq (b : Nat → Nat → Bool) (n : Nat) (hn : 1 ≤ n) : S2 b n n = sm (fun i => sm (fun j => sqI b i j) (n - 1)) (n - 1) := by
  obtain ⟨m, rfl⟩ : ∃ m, n = m + 1 := ⟨n - 1, by omega⟩
  rw [S2_sm, sm_first, s2_sm, sm_zero (m + 1) fun j _ => by rw [sqT_zero, if_neg Bool.false_ne_true], Int.zero_add, Nat.add_sub_cancel]
  refine sm_congr m fun i _ => ?_
  rw [s2_sm, sm_first, sqT_zero', if_neg Bool.false_ne_true, Int.zero_add]
  refine sm_congr m fun j _ => ?_
  have := sqT_succ b i j
  unfold sqI
  cases hc : sqT b (i + 1) (j + 1) with
  | true => rw [if_pos rfl, iota_true (this.mp hc)]; rfl
  | false => rw [if_neg Bool.false_ne_true, iota_false fun q => by rw [this.mpr q] at hc; cases hc]; rfl
theorem sq_law (b : Nat → Nat → Bool) (n : Nat) (hn : 1 ≤ n) : sqSum (linesOf n b) (n - 1) (n - 1) = S2 b n n := by
  rw [S2_eq b n hn, sqSum_sm b n (n - 1) (by omega)]
theorem Sq_rot (b : Nat → Nat → Bool) (n j k : Nat) (hk : k < n - 1) : Sq (rot n b) j k ↔ Sq b (n - 1 - 1 - k) j := by
  unfold Sq rot
  rw [show n - 1 - k = (n - 1 - 1 - k) + 1 by omega, show n - 1 - (k + 1) = n - 1 - 1 - k by omega]
  constructor
  · rintro ⟨h1, h2, h3⟩
    exact ⟨by rw [← h1, ← h3], h1.symm, by rw [← h1, ← h2]⟩
  · rintro ⟨h1, h2, h3⟩
    exact ⟨h2.symm, by rw [← h3, ← h2], by rw [← h1, ← h2]⟩
theorem S2_turn (b : Nat → Nat → Bool) (n : Nat) (hn : 1 ≤ n) : S2 (rot n b) n n = S2 b n n := by
  rw [S2_eq _ n hn, S2_eq b n hn]
  rw [sm_congr (g := fun j => sm (fun i => sqI b i j) (n - 1)) (n - 1) fun j _ => by
    rw [sm_congr (g := fun k => sqI b (n - 1 - 1 - k) j) (n - 1) fun k hk => by unfold sqI; rw [iota_congr (Sq_rot b n j k hk)]]
    exact sm_rev (n - 1) fun i => sqI b i j]
  exact (sm_swap (fun i j => sqI b i j) (n - 1) (n - 1)).symm
/-! the dark share -/
theorem dk_sm (g : Nat → Bool) : ∀ n, dk g n = sm (fun j => bi (g j)) n
  | 0 => rfl
  | n + 1 => by show dk g n + _ = sm _ n + _; rw [dk_sm g n]
theorem Dk_sm (b : Nat → Nat → Bool) (n : Nat) : ∀ i, Dk b n i = sm (fun i => sm (fun j => bi (b i j)) n) i
  | 0 => rfl
  | i + 1 => by show Dk b n i + dk (b i) n = sm _ i + _; rw [Dk_sm b n i, dk_sm]
theorem Dk_turn (b : Nat → Nat → Bool) (n : Nat) : Dk (rot n b) n n = Dk b n n := by
  rw [Dk_sm, Dk_sm]
  show sm (fun j => sm (fun i => bi (b (n - 1 - i) j)) n) n = _
  rw [sm_congr (g := fun j => sm (fun i => bi (b i j)) n) n fun j _ => sm_rev n fun i => bi (b i j)]
  exact (sm_swap (fun i j => bi (b i j)) n n).symm
theorem share_turn (b : Nat → Nat → Bool) (n : Nat) : shareV (rot n b) n = shareV b n := by unfold shareV; rw [Dk_turn]
theorem count_chain {x : Str} {c : Nat} : ∀ (cuts : List Nat) (i f : Nat), ChainG x ⟨#[c]⟩ x.length i cuts f → (∀ k, f ≤ k → ¬ At x ⟨#[c]⟩ x.length k) → cuts.length = (x.cps.toList.drop i).count c
  | [], i, f, h, hn => by
    have e : f = i := h
    subst e
    refine (List.count_eq_zero.mpr fun hm => ?_).symm
    obtain ⟨j, hj⟩ := List.getElem?_of_mem hm
    rw [List.getElem?_drop] at hj
    exact hn (f + j) (by omega) ((subAt_one x c (f + j)).mpr hj)
  | d :: r, i, f, ⟨h1, h2, h3, h4⟩, hn => by
    have h4' : ChainG x ⟨#[c]⟩ x.length (d + 1) r f := h4
    have hd := (subAt_one x c d).mp h2
    obtain ⟨k1, g1⟩ := List.getElem?_eq_some_iff.mp hd
    have e1 : x.cps.toList.drop i = (x.cps.toList.drop i).take (d - i) ++ x.cps.toList.drop d := by
      conv => lhs; rw [← List.take_append_drop (d - i) (x.cps.toList.drop i)]
      rw [List.drop_drop, show i + (d - i) = d by omega]
    rw [e1, List.count_append, List.drop_eq_getElem_cons k1, g1, List.count_cons_self, ← count_chain r (d + 1) f h4' hn]
    rw [List.count_eq_zero.mpr fun hm => ?_]
    · simp
    · obtain ⟨j, hj⟩ := List.getElem?_of_mem hm
      have hl := (List.getElem?_eq_some_iff.mp hj).1
      rw [List.length_take] at hl
      rw [List.getElem?_take_of_lt (by omega), List.getElem?_drop] at hj
      exact h3 (i + j) (by omega) (by omega) ((subAt_one x c (i + j)).mpr hj)
theorem count_one (x : Str) (c : Nat) : Txt.count x ⟨#[c]⟩ = (x.cps.toList.count c : Nat) := by
  obtain ⟨f, h, hn⟩ := occ_tight x ⟨#[c]⟩ (show 1 ≤ 1 by decide)
  unfold Txt.count
  rw [count_chain _ 0 f h hn, List.drop_zero]
theorem s1_eq : Str.ofString "1" = ⟨#[49]⟩ := by decide +kernel
theorem count_join (c : Nat) : ∀ l : List Str, ((Txt.join (Str.ofString "") l).cps.toList.count c : Int) = (l.map fun x => (x.cps.toList.count c : Int)).sum := by
  intro l
  have e : Txt.join (Str.ofString "") l = Str.join ⟨#[]⟩ l := by unfold Txt.join; rw [empty_str, glued_eq_join]
  rw [e]
  induction l with
  | nil => simp [Str.join, Str.empty]
  | cons x r ih =>
    cases r with
    | nil => simp [Str.join]
    | cons y r =>
      rw [cps_join_cons _ _ (List.cons_ne_nil _ _), List.map_cons, List.sum_cons, ← (ih (by unfold Txt.join; rw [empty_str, glued_eq_join]))]
      simp
theorem count_txt (g : Nat → Bool) : ∀ n, ((txt n g).cps.toList.count 49 : Int) = sm (fun j => bi (g j)) n := by
  intro n
  rw [txt_list]
  induction n with
  | zero => rfl
  | succ n ih =>
    rw [List.range_succ, List.map_append, List.map_append, List.count_append]
    show _ = sm _ n + bi (g n)
    rw [← ih]
    show ((_ + List.count 49 [cd1 (g n)] : Nat) : Int) = _
    cases g n <;> rfl
theorem sh_law (b : Nat → Nat → Bool) (n : Nat) (hn : 1 ≤ n) : 10 * ((10 * ((2 * (Txt.count (Txt.join (Str.ofString "") (linesOf n b)) (Str.ofString "1") : Int) - (n : Int) * n).natAbs : Int)).fdiv ((n : Int) * n)) = shareV b n := by
  have e : Txt.count (Txt.join (Str.ofString "") (linesOf n b)) (Str.ofString "1") = Dk b n n := by
    rw [s1_eq, count_one, count_join, Dk_sm, ← sum_sm]
    unfold linesOf
    rw [List.map_map]
    congr 1
    apply List.map_congr_left
    intro i _
    exact count_txt (b i) n
  rw [e]
  unfold shareV
  rw [Int.fdiv_eq_ediv_of_nonneg _ (by have : (0 : Int) ≤ n := by omega
                                       exact Int.mul_nonneg this this)]
end Mine
end QPc

section QPd
open PySem PySem.W PySem.Calls PySem.SeqAt PyProof.Rows
set_option linter.unusedVariables false
set_option maxRecDepth 100000
namespace Mine
open Builtin Builtin.Str StrLaws
def Pat (g : Nat → Bool) (j : Nat) : Prop := ∀ i, i < 7 → g (j + i) = patF i
def Bef (g : Nat → Bool) (j : Nat) : Prop := ∀ k, k < j → j ≤ k + 4 → g k = false
def Aft (n : Nat) (g : Nat → Bool) (j : Nat) : Prop := ∀ k, j + 7 ≤ k → k < j + 11 → k < n → g k = false
def Hit (n : Nat) (g : Nat → Bool) (j : Nat) : Prop := Pat g j ∧ (Bef g j ∨ Aft n g j)
def HitE (n : Nat) (g : Nat → Bool) (lo : Nat) : Prop := ∃ j, lo ≤ j ∧ j + 7 ≤ n ∧ Hit n g j
def quietF (n : Nat) (g : Nat → Bool) (i : Nat) : Bool := decide (4 ≤ i) && (decide (i < n + 4) && g (i - 4))
theorem quiet_txt (n : Nat) (g : Nat → Bool) : quietS (txt n g) = txt (n + 8) (quietF n g) := by
  unfold quietS
  rw [s0000_txt, txt_app, txt_app, show 4 + n + 4 = n + 8 by omega, txt_inj]
  intro i hi
  unfold quietF
  by_cases h1 : i < 4
  · rw [if_pos (by omega), if_pos h1, decide_eq_false (by omega)]; rfl
  · by_cases h2 : i < 4 + n
    · rw [if_pos h2, if_neg h1, decide_eq_true (by omega), decide_eq_true (by omega)]; rfl
    · rw [if_neg h2, decide_eq_true (by omega), decide_eq_false (by omega)]; rfl
theorem quiet_in {n i : Nat} {g : Nat → Bool} (h : i < n) : quietF n g (i + 4) = g i := by
  unfold quietF
  rw [decide_eq_true (by omega), decide_eq_true (by omega)]; rfl
theorem quiet_lo {n i : Nat} {g : Nat → Bool} (h : i < 4) : quietF n g i = false := by
  unfold quietF
  rw [decide_eq_false (by omega)]; rfl
theorem quiet_hi {n i : Nat} {g : Nat → Bool} (h : n + 4 ≤ i) : quietF n g i = false := by
  unfold quietF
  rw [decide_eq_false (by omega : ¬ i < n + 4)]; simp
theorem hitS_iff {n j : Nat} {g : Nat → Bool} (h : j + 7 ≤ n) : hitS (txt n g) j = true ↔ Hit n g j := by
  unfold hitS
  rw [quiet_txt, slice_txt (a := j + 4) (k := 7) (by omega) (by omega) (by omega), slice_txt (a := j) (k := 4) rfl (by omega) (by omega), slice_txt (a := j + 11) (k := 4) (by omega) (by omega) (by omega), s0000_txt, sPat_txt]
  simp only [List.any_cons, List.any_nil, Bool.or_false, Bool.and_true, Bool.and_eq_true, Bool.or_eq_true, beq_iff_eq]
  rw [txt_inj, txt_inj, txt_inj]
  have h1 : (∀ i, i < 7 → quietF n g (j + 4 + i) = patF i) ↔ Pat g j := by
    have e : ∀ i, i < 7 → quietF n g (j + 4 + i) = g (j + i) := fun i hi => by
      rw [show j + 4 + i = j + i + 4 by omega]; exact quiet_in (by omega)
    constructor
    · intro q i hi; rw [← e i hi]; exact q i hi
    · intro q i hi; rw [e i hi]; exact q i hi
  have h2 : (∀ i, i < 4 → quietF n g (j + i) = false) ↔ Bef g j := by
    constructor
    · intro q k k1 k2
      have := q (k + 4 - j) (by omega)
      rw [show j + (k + 4 - j) = k + 4 by omega, quiet_in (by omega)] at this; exact this
    · intro q i hi
      by_cases hl : j + i < 4
      · exact quiet_lo hl
      · rw [show j + i = (j + i - 4) + 4 by omega, quiet_in (by omega)]
        exact q _ (by omega) (by omega)
  have h3 : (∀ i, i < 4 → quietF n g (j + 11 + i) = false) ↔ Aft n g j := by
    constructor
    · intro q k k1 k2 k3
      have := q (k - (j + 7)) (by omega)
      rw [show j + 11 + (k - (j + 7)) = k + 4 by omega, quiet_in k3] at this; exact this
    · intro q i hi
      by_cases hl : n ≤ j + 7 + i
      · exact quiet_hi (by omega)
      · rw [show j + 11 + i = (j + 7 + i) + 4 by omega, quiet_in (by omega)]
        exact q _ (by omega) (by omega) (by omega)
  rw [h1, h2, h3]; rfl
theorem heads_iota (n : Nat) (g : Nat → Bool) : headsS (txt n g) = iota (HitE n g 0) := by
  have key : anyHit (txt n g) 0 = true ↔ HitE n g 0 := by
    unfold anyHit
    rw [txt_len, List.any_eq_true]
    constructor
    · rintro ⟨j, hj, q⟩
      have hj' := List.mem_range.mp hj
      rw [Bool.and_eq_true] at q
      exact ⟨j, by omega, by omega, (hitS_iff (by omega)).mp q.2⟩
    · rintro ⟨j, _, hj, q⟩
      exact ⟨j, List.mem_range.mpr (by omega), by rw [(hitS_iff hj).mpr q]; simp⟩
  unfold headsS
  cases hc : anyHit (txt n g) 0 with
  | true => rw [if_pos rfl, iota_true (key.mp hc)]
  | false => rw [if_neg Bool.false_ne_true, iota_false fun q => by rw [key.mpr q] at hc; cases hc]
/-! the scan -/
theorem bits_list (n : Nat) (g : Nat → Bool) : (bitsA n g).toList = (List.range n).map fun j => bt (g j) := by simp [bitsA]
theorem bits_inj {n : Nat} {g f : Nat → Bool} : bitsA n g = bitsA n f ↔ ∀ i, i < n → g i = f i := by
  constructor
  · intro h i hi
    have h1 := bitsA_get g hi
    rw [h, bitsA_get f hi] at h1
    have := Option.some.inj h1
    revert this
    cases g i <;> cases f i <;> decide
  · intro h
    unfold bitsA
    congr 1
    apply List.map_congr_left
    intro i hi
    rw [h i (List.mem_range.mp hi)]
theorem bits_cut {n a k : Nat} {g : Nat → Bool} (h : a + k ≤ n) : (bitsA n g).extract a (a + k) = bitsA k fun t => g (a + t) := by
  apply Array.ext
  · rw [Array.size_extract, bitsA_size, bitsA_size]; omega
  · intro i h1 h2
    rw [bitsA_size] at h2
    simp [bitsA]
theorem patB_bits : patB = bitsA 7 patF := by decide +kernel
theorem cut_pat {n j : Nat} {g : Nat → Bool} (h : j + 7 ≤ n) : ((bitsA n g).extract j (j + patB.size) == patB) = true ↔ Pat g j := by
  rw [show patB.size = 7 from rfl, bits_cut h, patB_bits, beq_iff_eq, bits_inj]; rfl
theorem find_spec (n lo : Nat) (g : Nat → Bool) : (findAt (bitsA n g) patB lo = -1 ∧ ∀ j, lo ≤ j → j + 7 ≤ n → ¬ Pat g j) ∨
    ∃ j : Nat, findAt (bitsA n g) patB lo = j ∧ lo ≤ j ∧ j + 7 ≤ n ∧ Pat g j ∧ ∀ k, lo ≤ k → k < j → ¬ Pat g k := by
  unfold findAt
  rw [bitsA_size, show patB.size = 7 from rfl]
  by_cases hc : (n : Int) - lo < (7 : Nat)
  · rw [if_pos hc]
    exact .inl ⟨rfl, fun j h1 h2 => by omega⟩
  · rw [if_neg hc]
    unfold Builtin.Bytes.find?
    rw [List.find?_map, show patB.size = 7 from rfl]
    cases hf : (List.range (n + 1 - (lo + 7))).find? ((fun i => (bitsA n g).extract i (i + 7) == patB) ∘ fun x => x + lo) with
    | none =>
      refine .inl ⟨rfl, fun j h1 h2 hp => ?_⟩
      have := List.find?_eq_none.mp hf (j - lo) (List.mem_range.mpr (by omega))
      apply this
      show ((bitsA n g).extract (j - lo + lo) (j - lo + lo + 7) == patB) = true
      rw [show j - lo + lo = j by omega]
      exact (cut_pat h2).mpr hp
    | some i =>
      obtain ⟨h1, h2, h3⟩ := List.find?_range_eq_some.mp hf
      have h2' := List.mem_range.mp h2
      refine .inr ⟨i + lo, rfl, by omega, by omega, (cut_pat (by omega)).mp h1, fun k k1 k2 hp => ?_⟩
      have := h3 (k - lo) (by omega)
      have e : ((bitsA n g).extract (k - lo + lo) (k - lo + lo + 7) == patB) = true := by
        rw [show k - lo + lo = k by omega]
        exact (cut_pat (by omega)).mpr hp
      have this' : (!((bitsA n g).extract (k - lo + lo) (k - lo + lo + 7) == patB)) = true := this
      rw [e] at this'; cases this'
theorem dkB_iff {n lo hi : Nat} {g : Nat → Bool} {i j : Int} (hi' : i = lo) (hj : j = hi) (h1 : lo ≤ n) (h2 : hi ≤ n) : dkB (bitsA n g) i j = true ↔ ∃ k, lo ≤ k ∧ k < hi ∧ g k = true := by
  subst hi' hj
  have e : KBy.picked (bitsA n g) (some (lo : Int)) (some (hi : Int)) = ((((List.range (hi - lo)).map (lo + ·))).filterMap ((bitsA n g)[·]?)).toArray := by
    have eb : sliceBounds (some (lo : Int)) (some (hi : Int)) none (bitsA n g).size = ((lo : Int), (hi : Int), 1) := by
      rw [bitsA_size]
      simp [sliceBounds]
      omega
    unfold KBy.picked Builtin.Bytes.sliced
    rw [eb, sliceRange_one]
  unfold dkB
  rw [e]
  simp only [List.any_eq_true]
  constructor
  · rintro ⟨x, hx, hz⟩
    obtain ⟨k, hk, ek⟩ := List.mem_filterMap.mp hx
    obtain ⟨t, ht, rfl⟩ := List.mem_map.mp hk
    have ht' := List.mem_range.mp ht
    rw [bitsA_get g (by omega)] at ek
    have := Option.some.inj ek
    refine ⟨lo + t, by omega, by omega, ?_⟩
    cases hg : g (lo + t) with
    | true => rfl
    | false => rw [hg] at this; rw [← this] at hz; exact absurd hz (by decide)
  · rintro ⟨k, k1, k2, k3⟩
    refine ⟨1, List.mem_filterMap.mpr ⟨k, List.mem_map.mpr ⟨k - lo, List.mem_range.mpr (by omega), by omega⟩, ?_⟩, by decide⟩
    rw [bitsA_get g (by omega), k3]; rfl
theorem good_iff {n j : Nat} {g : Nat → Bool} (h : j + 7 ≤ n) : goodAt (bitsA n g) n j = true ↔ Bef g j ∨ Aft n g j := by
  have d1 := dkB_iff (n := n) (g := g) (lo := j - 4) (hi := j) (i := max ((j : Int) - 4) 0) (j := min (j : Int) n) (by omega) (by omega) (by omega) (by omega)
  have d2 := dkB_iff (n := n) (g := g) (lo := j + 7) (hi := min (j + 11) n) (i := max ((j : Int) + 7) 0) (j := min ((j : Int) + 7 + 4) n) (by omega) (by omega) (by omega) (by omega)
  have n1 : (!dkB (bitsA n g) (max ((j : Int) - 4) 0) (min (j : Int) n)) = true ↔ Bef g j := by
    rw [Bool.not_eq_true']
    constructor
    · intro q k k1 k2
      cases hg : g k with
      | false => rfl
      | true => rw [d1.mpr ⟨k, by omega, k1, hg⟩] at q; cases q
    · intro q
      cases hd : dkB (bitsA n g) (max ((j : Int) - 4) 0) (min (j : Int) n) with
      | false => rfl
      | true =>
        obtain ⟨k, k1, k2, k3⟩ := d1.mp hd
        rw [q k k2 (by omega)] at k3; cases k3
  have n2 : (!dkB (bitsA n g) (max ((j : Int) + 7) 0) (min ((j : Int) + 7 + 4) n)) = true ↔ Aft n g j := by
    rw [Bool.not_eq_true']
    constructor
    · intro q k k1 k2 k3
      cases hg : g k with
      | false => rfl
      | true => rw [d2.mpr ⟨k, by omega, by omega, hg⟩] at q; cases q
    · intro q
      cases hd : dkB (bitsA n g) (max ((j : Int) + 7) 0) (min ((j : Int) + 7 + 4) n) with
      | false => rfl
      | true =>
        obtain ⟨k, k1, k2, k3⟩ := d2.mp hd
        rw [q k (by omega) (by omega) (by omega)] at k3; cases k3
  unfold goodAt
  rw [Bool.or_eq_true, Bool.or_eq_true, Bool.or_false, n1, n2]
  constructor
  · rintro (q | q)
    · simp only [List.any_cons, List.any_nil, Bool.or_false, Bool.or_eq_true, beq_iff_eq] at q
      rcases q with q | q
      · exact .inl fun k k1 k2 => by omega
      · exact .inr fun k k1 k2 k3 => by omega
    · exact q
  · exact .inr
theorem pat_apart {g : Nat → Bool} {j d : Nat} (h : Pat g j) (h' : Pat g (j + d)) (h0 : 0 < d) : 4 ≤ d := by
  by_cases h1 : d = 1
  · subst h1
    have a := h 1 (by decide); have b := h' 0 (by decide)
    rw [show j + 1 + 0 = j + 1 by omega, a] at b; exact absurd b (by decide)
  by_cases h2 : d = 2
  · subst h2
    have a := h 3 (by decide); have b := h' 1 (by decide)
    rw [show j + 2 + 1 = j + 3 by omega, a] at b; exact absurd b (by decide)
  by_cases h3 : d = 3
  · subst h3
    have a := h 4 (by decide); have b := h' 1 (by decide)
    rw [show j + 3 + 1 = j + 4 by omega, a] at b; exact absurd b (by decide)
  omega
theorem occ_neg (b : Array UInt8) (n : Int) : ∀ k, occFrom b n k (-1) = 0
  | 0 => rfl
  | k + 1 => rfl
theorem occ_spec (n : Nat) (g : Nat → Bool) (hn : n ≤ 13) : ∀ (k lo : Nat), n < lo + 7 + 4 * k → occFrom (bitsA n g) n k (findAt (bitsA n g) patB lo) = 40 * iota (HitE n g lo)
  | 0, lo, h => by
    rw [iota_false fun ⟨j, h1, h2, _⟩ => by omega]; rfl
  | k + 1, lo, h => by
    rcases find_spec n lo g with ⟨e, hn'⟩ | ⟨j, e, h1, h2, h3, h4⟩
    · rw [e, occ_neg, iota_false fun ⟨j, a, b, c⟩ => hn' j a b c.1]; rfl
    · rw [e]
      show (if ((j : Int) == -1) = true then (0 : Int) else if goodAt (bitsA n g) n j = true then 40 + occFrom (bitsA n g) n k (findAt (bitsA n g) patB ((j : Int) + 7).toNat) else occFrom (bitsA n g) n k (findAt (bitsA n g) patB ((j : Int) + 4).toNat)) = _
      rw [if_neg (by rw [beq_iff_eq]; omega), show ((j : Int) + 7).toNat = j + 7 by omega, show ((j : Int) + 4).toNat = j + 4 by omega]
      have hg := good_iff (g := g) h2
      by_cases hc : goodAt (bitsA n g) n j = true
      · rw [if_pos hc, iota_true (show HitE n g lo from ⟨j, h1, h2, h3, hg.mp hc⟩)]
        rcases find_spec n (j + 7) g with ⟨e', _⟩ | ⟨j', _, a, b, _⟩
        · rw [e', occ_neg]; rfl
        · omega
      · rw [if_neg hc, occ_spec n g hn k (j + 4) (by omega)]
        congr 1
        apply iota_congr
        constructor
        · rintro ⟨i, a, b, c⟩; exact ⟨i, by omega, b, c⟩
        · rintro ⟨i, a, b, c⟩
          refine ⟨i, ?_, b, c⟩
          by_cases hlt : i < j
          · exact absurd c.1 (h4 i a hlt)
          · by_cases heq : i = j
            · subst heq; exact absurd (hg.mpr c.2) hc
            · obtain ⟨d, rfl⟩ : ∃ d, i = j + d := ⟨i - j, by omega⟩
              have := pat_apart h3 c.1 (by omega); omega
theorem occ_iota (n : Nat) (g : Nat → Bool) (hn : n ≤ 13) : occV n g = 40 * iota (HitE n g 0) := occ_spec n g hn 20 0 (by omega)
theorem S3_sm (b : Nat → Nat → Bool) (n : Nat) : ∀ i, S3 b n i = sm (fun i => occV n (b i)) i + sm (fun i => occV n (colOf b i)) i
  | 0 => rfl
  | i + 1 => by
    show S3 b n i + occV n (b i) + occV n (colOf b i) = (sm _ i + occV n (b i)) + (sm _ i + occV n (colOf b i))
    rw [S3_sm b n i]; omega
theorem hd_law (n : Nat) (b : Nat → Nat → Bool) (hn : n ≤ 13) : acc (fun x => 40 * headsS x) (linesOf n b ++ sidesOf n b) (n + n) = S3 b n n := by
  rw [acc_all, S3_sm]
  congr 1
  · exact sm_congr n fun i _ => by rw [heads_iota, occ_iota _ _ hn]
  · exact sm_congr n fun i _ => by rw [heads_iota, occ_iota _ _ hn]
theorem pat_rev {n j j' : Nat} {g f : Nat → Bool} (H : Rev n g f) (e : j + 7 + j' = n) (q : Pat g j) : Pat f j' := fun i hi => by
  have ps : ∀ i, i < 7 → patF (6 - i) = patF i := by decide
  rw [← H (j + (6 - i)) (j' + i) (by omega), q (6 - i) (Nat.lt_succ_of_le (Nat.sub_le _ _)), ps i hi]
theorem bef_rev {n j j' : Nat} {g f : Nat → Bool} (H : Rev n g f) (e : j + 7 + j' = n) (q : Bef g j) : Aft n f j' := fun k k1 k2 k3 => by
  obtain ⟨b, rfl⟩ := Nat.exists_eq_add_of_lt k3
  rw [← H b k (by omega)]
  exact q b (by omega) (by omega)
theorem aft_rev {n j j' : Nat} {g f : Nat → Bool} (H : Rev n g f) (e : j + 7 + j' = n) (q : Aft n g j) : Bef f j' := fun k k1 k2 => by
  obtain ⟨b, rfl⟩ := Nat.exists_eq_add_of_lt (show k < n by omega)
  rw [← H b k (by omega)]
  exact q b (by omega) (by omega) (by omega)
theorem hitE_rev {n : Nat} {g f : Nat → Bool} (H : Rev n g f) : HitE n g 0 → HitE n f 0 := fun ⟨j, _, h, p, q⟩ => by
  obtain ⟨j', rfl⟩ := Nat.exists_eq_add_of_le h
  refine ⟨j', Nat.zero_le _, by rw [Nat.add_comm]; exact Nat.add_le_add_right (Nat.le_add_left _ _) _, pat_rev H rfl p, ?_⟩
  rcases q with q | q
  · exact .inr (bef_rev H rfl q)
  · exact .inl (aft_rev H rfl q)
theorem hitE_rv (n : Nat) (g : Nat → Bool) : HitE n (rv n g) 0 ↔ HitE n g 0 := ⟨hitE_rev (rev_rv n g).symm, hitE_rev (rev_rv n g)⟩
theorem occ_rv (n : Nat) (g : Nat → Bool) (hn : n ≤ 13) : occV n (rv n g) = occV n g := by rw [occ_iota _ _ hn, occ_iota _ _ hn, iota_congr (hitE_rv n g)]
theorem S3_turn (b : Nat → Nat → Bool) (n : Nat) (hn : n ≤ 13) : S3 (rot n b) n n = S3 b n n := by
  rw [S3_sm, S3_sm]
  have e1 : sm (fun i => occV n (rot n b i)) n = sm (fun i => occV n (colOf b i)) n := sm_congr n fun i _ => occ_rv n (colOf b i) hn
  have e2 : sm (fun i => occV n (colOf (rot n b) i)) n = sm (fun i => occV n (b i)) n := sm_rev n fun i => occV n (b i)
  rw [e1, e2]; omega
theorem plain : PlainLaw where
  fit n g h := fit_law n g h
  run n b h := run_law n b (by have := h.lo; omega)
  sq n b h := sq_law b n (by have := h.lo; omega)
  hd n b h := hd_law n b h.hi
  sh n b h := sh_law b n (by have := h.lo; omega)
  turn n b h := by
    have := h.lo
    rw [S1_turn b n (by omega), S2_turn b n (by omega), S3_turn b n h.hi, share_turn]
    simp only [List.sum_cons, List.sum_nil]; omega
end Mine
end QPd

section QHd
open PySem PySem.W PySem.Calls PySem.SeqAt PyProof.Rows
set_option linter.unusedVariables false
set_option maxRecDepth 100000
set_option maxHeartbeats 8000000
namespace Mine
theorem ns_hide {h : Heap} {a : Addr} {m : Str → Option Value} (x : h.Ns a m) (ha : a ≠ 23) : (hideAll h [23]).Ns a m := let ⟨o, es, ep, e, r⟩ := x; ⟨o, es, ep, hideAll_get _ e (fun q => ha (List.mem_singleton.mp q)), r⟩
theorem mem_of_lookup {β : Type} : ∀ {l : List (Str × β)} {x : Str} {v : β}, l.lookup x = some v → (x, v) ∈ l
  | [], _, _, e => by cases e
  | (y, u) :: l, x, v, e => by
    rw [List.lookup_cons] at e
    cases h : x == y with
    | true => rw [h] at e; cases e; have q : x = y := by simpa using h
              subst q; exact .head _
    | false => rw [h] at e; exact .tail _ (mem_of_lookup e)
theorem final : PySem.Challenge.rw_md0041_01.Holds := by
  w_on; o_law; k_head; (case hw => w_witness2)
  intro w s₀ s₁ mg mb G Y fa o pm cd doc dV kV ho hd' hcd hD hmg hg args vals as hpre hlay hrd hwl hlo
  have KX := km_in_of Y
  have KT : s₁.heap.get? 23 = some (tabObj #[]) := km_tabs_of Y 23 (by simp)
  have KB : ∀ x ob, s₁.heap.get? x = some ob → x ≠ 23 → (hideAll s₁.heap [23]).get? x = some ob := fun x ob e hx => hideAll_get _ e (fun m => hx (List.mem_singleton.mp m))
  obtain ⟨o3, es3, ep3, e3, d3, k3, f3⟩ := G.T.g
  have q3 := KX 3 _ rfl
  have q3' : some o3 = _ := e3.symm.trans q3
  have q4 := Option.some.inj q3'
  subst q4
  have q5 := d3
  injection q5 with q6 q7
  subst q6
  have am : Amb (hideAll s₁.heap [23]) := by
    refine ⟨fun x v e => ?_, fun x v e => ?_, ?_, ?_, ?_, ?_, ?_, ?_, ?_⟩
    · refine ⟨mg, ns_hide G.T.g (by decide), ?_⟩
      have hm : (x, v) ∈ [(Str.ofString "evaluate_mask", Value.ref aEval), (Str.ofString "mask_scores", .ref aMask), (Str.ofString "_law_chains", .ref aChains), (Str.ofString "_law_line", .ref aLine), (Str.ofString "_law_runs", .ref aRuns), (Str.ofString "_law_heads", .ref aHeads)] := mem_of_lookup e
      simp only [List.mem_cons, List.not_mem_nil, or_false, Prod.mk.injEq] at hm
      rcases hm with ⟨rfl, rfl⟩ | ⟨rfl, rfl⟩ | ⟨rfl, rfl⟩ | ⟨rfl, rfl⟩ | ⟨rfl, rfl⟩ | ⟨rfl, rfl⟩ <;> exact (f3 _).symm.trans (by rfl)
    · refine ⟨mg, mb, ns_hide G.T.g (by decide), ?_, ns_hide G.T.b (by decide), ?_⟩
      all_goals (
        have hm : (x, v) ∈ bltns := mem_of_lookup e
        simp only [bltns, List.mem_cons, List.not_mem_nil, or_false, Prod.mk.injEq] at hm)
      · rcases hm with ⟨rfl, rfl⟩ | ⟨rfl, rfl⟩ | ⟨rfl, rfl⟩ | ⟨rfl, rfl⟩ | ⟨rfl, rfl⟩ | ⟨rfl, rfl⟩ | ⟨rfl, rfl⟩ | ⟨rfl, rfl⟩ | ⟨rfl, rfl⟩ | ⟨rfl, rfl⟩ | ⟨rfl, rfl⟩ | ⟨rfl, rfl⟩ | ⟨rfl, rfl⟩ | ⟨rfl, rfl⟩ <;> exact (f3 _).symm.trans (by rfl)
      · rcases hm with ⟨rfl, rfl⟩ | ⟨rfl, rfl⟩ | ⟨rfl, rfl⟩ | ⟨rfl, rfl⟩ | ⟨rfl, rfl⟩ | ⟨rfl, rfl⟩ | ⟨rfl, rfl⟩ | ⟨rfl, rfl⟩ | ⟨rfl, rfl⟩ | ⟨rfl, rfl⟩ | ⟨rfl, rfl⟩ | ⟨rfl, rfl⟩ | ⟨rfl, rfl⟩ | ⟨rfl, rfl⟩ <;> exact (G.T.builtins _ (by decide)).trans (by kernel_rfl)
    · obtain ⟨mc, hn, hm⟩ := G.T.nolimit
      exact ⟨mc, ns_hide hn (by decide), hm⟩
    · exact ⟨_, _, _, _, _, _, KB 21 _ (KX 21 _ rfl) (by decide), rfl, ⟨_, _, _, _, rfl, KB _ _ (KX _ _ rfl) (by decide), rfl, rfl⟩⟩
    · exact ⟨_, _, _, _, _, _, KB 28 _ (KX 28 _ rfl) (by decide), rfl, ⟨_, _, _, _, rfl, KB _ _ (KX _ _ rfl) (by decide), rfl, rfl⟩⟩
    · exact ⟨_, _, _, _, _, _, KB 36 _ (KX 36 _ rfl) (by decide), rfl, ⟨_, _, _, _, rfl, KB _ _ (KX _ _ rfl) (by decide), rfl, rfl⟩⟩
    · exact ⟨_, _, _, _, _, _, KB 43 _ (KX 43 _ rfl) (by decide), rfl, ⟨_, _, _, _, rfl, KB _ _ (KX _ _ rfl) (by decide), rfl, rfl⟩⟩
    · exact ⟨_, _, _, _, _, _, KB 50 _ (KX 50 _ rfl) (by decide), rfl, ⟨_, _, _, _, rfl, KB _ _ (KX _ _ rfl) (by decide), rfl, rfl⟩⟩
    · refine ⟨_, _, _, _, ⟨_, KB 31 _ (KX 31 _ rfl) (by decide), rfl, _, rfl⟩, ⟨_, KB _ _ (KX _ _ rfl) (by decide), rfl, _, rfl⟩, ?_, ⟨_, KB _ _ (KX _ _ rfl) (by decide), rfl, _, rfl⟩, ?_⟩
      · repeat (first | exact .nil | refine .cons _ _ ?_)
      · repeat (first | exact .nil | refine .cons _ _ ?_)
  have amM : AmbM (hideAll s₁.heap [23]) := by
    refine ⟨⟨_, _, _, _, _, KB 28 _ (KX 28 _ rfl) (by decide), rfl, ⟨_, _, _, _, rfl, KB _ _ (KX _ _ rfl) (by decide), rfl, rfl⟩⟩, ?_, ?_⟩
    · exact ⟨_, _, _, _, _, _, _, _, _, KB 27 _ (KX 27 _ rfl) (by decide), rfl, rfl, rfl, rfl, rfl, rfl, rfl, rfl, by decide⟩
    · obtain ⟨bm, ob, b1, b2, b3, b4, b5, b6⟩ := G.T.bmain
      have n23 : bm ≠ 23 := fun q => by rw [q, KT] at b3; cases b3; cases b4
      have n3 : bm ≠ mainGlobals := fun q => by
        rw [q, e3] at b3; cases b3; cases b6
      exact ⟨mg, ns_hide G.T.g (by decide), bm, ob, b1, b2, n3, n23, KB _ _ b3 n23, b4, b5, b6⟩
  have efa : fa = 55 := by
    have := (f3 (Str.ofString "law")).symm.trans (show _ = some (Value.ref 55) by rfl)
    have h2 : mg (Str.ofString "law") = some (.ref fa) := hmg
    rw [h2] at this
    cases this; rfl
  subst efa
  obtain ⟨cdv', fn⟩ : ∃ cdv, FnC s₁.heap 55 8 (Str.ofString "law") cdv := ⟨_, _, _, _, _, _, KX 55 _ rfl, rfl, ⟨_, _, _, _, rfl, KX _ _ rfl, rfl, rfl⟩⟩
  clear KX KB q3 q3' e3 d3 k3 f3 ho hd' hcd hD hmg G Y
  wrow_args hpre hlay hrd hwl hlo
  rename_i xs _ _ _ _ _ _ _ sc vs _ hL _ _ _ hI _ hlen _
  have hB : Kp (hideAll s₁.heap [23]) s₁.heap := fun b ob e => of_hideAll _ e
  have hN : (hideAll s₁.heap [23]).get? 23 = none := hideAll_none _ (.head _)
  have hsc : (hideAll s₁.heap [23]).IsList sc vs.toArray := by
    obtain ⟨o, e, c, d⟩ := hL
    refine ⟨o, hideAll_get _ e fun m => ?_, c, d⟩
    have e23 := List.mem_singleton.mp m
    rw [e23, KT] at e
    cases e; cases c
  have key := law_top (prog := PySem.Challenge.rw_md0041_01.row.prog) (w := w) (s₀ := s₁) (A := callerA) plain am amM hB KT hN fn ⟨rfl, by decide +kernel, by decide +kernel⟩ hsc hI (by omega) s₁.toks
  refine c_mono (show wpC (model PySem.Challenge.rw_md0041_01.row.prog w) callerA (call (.ref 55) [.ref sc]) _ s₁ from key) ?_
  rintro v s' ⟨h', tk', rfl, rfl, hk, ps', ht⟩
  refine ⟨.inl ⟨.bool true, .bool true, [], rfl, ?_, .bool _, ?_, fun _ => ⟨List.nodup_nil, fun a ha => nomatch ha⟩⟩, ⟨fun b o e => ?_, fun b o e => ?_⟩, rfl, ?_⟩
  · intro cls; rfl
  · wrow_post
  · by_cases hb : b = 23
    · subst hb
      rw [KT] at e
      cases e
      obtain ⟨oc, vc, _, _, _, _, _, _, _, c1, c2, c3, c4, _⟩ := amM.hd
      exact .inr (.inl ⟨⟨27, oc, vc, hB _ _ c1, c2, c3, c4⟩, rfl, #[], ps', rfl, by simpa using ht⟩)
    · exact .inl (hk _ _ (hideAll_get _ e fun m => hb (List.mem_singleton.mp m)))
  · by_cases hb : b = 23
    · exact ⟨_, hb ▸ ht⟩
    · exact ⟨o, hk _ _ (hideAll_get _ e fun m => hb (List.mem_singleton.mp m))⟩
  · exact .of_eq hg
end Mine
end QHd

theorem PySem.Challenge.cw_md0041_01_holds : PySem.Challenge.rw_md0041_01.Holds :=
  Mine.final
