import PyProof.Rows.All
import Wide.All
import OpenK.AllK
import Wide.FinOn
import Lean
import PySem.Challenge.RW_is0005_01

set_option Elab.async false
set_option maxRecDepth 100000
set_option compiler.extract_closed false
section
open PySem
namespace Mine
abbrev RunR := Ctx → Pos → Sem Fin → List Frame → Shared → End → Shared → Prop
/-- what a run is made of, told by its tree and its frames -/
def Nx (M : Model) (R : RunR) (Γ : Ctx) (p : Pos) (t : Sem Fin) (fs : List Frame) (s : Shared) (e : End) (s' : Shared) : Prop :=
  match fs with
  | [] => match t with
    | .pure (.done f) => e = .ret (.ok f) ∧ s' = s
    | .raise x => e = .ret (.error x) ∧ s' = s
    | .pure (.again c) => R (Γ.goto c) p (M.den c) [] s e s'
    | .rule _ k => R Γ p (k ()) [] s e s'
    | .at p' k => R Γ p' (k ()) [] s e s'
    | .load a _ k => ∃ o, s.heap.get? a = some o ∧ R Γ p (k o) [] s e s'
    | .update a _ f k => R Γ p (k ()) [] { s with heap := s.heap.update a f } e s'
    | .loadIfAlive a k => R Γ p (k (s.heap.get? a)) [] s e s'
    | .point _ k => R Γ p (k ()) [] s e s'
    | .alloc o k => R Γ p (k s.heap.objs.size) [] { s with heap := s.heap.push o } e s'
    | .fresh k => R Γ p (k s.toks) [] { s with toks := s.toks + 1 } e s'
    | .ask k => R Γ p (k ⟨M.prog, M.w.params⟩) [] s e s'
    | .choose src n k => R Γ p (k (M.w.draws src (s.drawn.get src) % n)) [] { s with drawn := s.drawn.bump src } e s'
    | .os q _ k => R Γ p (k (Os.step s.os q).2) [] { s with os := (Os.step s.os q).1 } e s'
    | .handled own k => R Γ p (k (if own then Γ.own else Γ.handled)) [] s e s'
    | .genState g k => ∃ st, s.gens[g]? = some st ∧ R Γ p (k st.seen) [] s e s'
    | .stack k => R Γ p (k ((Γ.code, p) :: Γ.below)) [] s e s'
    | .thread k => R Γ p (k 0) [] s e s'
    | .newGen c k => R Γ p (k s.gens.size) [] { s with gens := s.gens.push (.fresh c) } e s'
    | .call c h g l k => ∃ e₁ s₁, R (Γ.enter c h p) p (M.den c) [] s e₁ s₁ ∧ (match e₁ with
        | .ret r => R Γ p (k r) [] s₁ e s'
        | .susp v g₀ l₀ k₀ c₀ p₀ fs => e = .susp v g₀ l₀ k₀ c₀ p₀ (fs ++ [.ret k h g l Γ.code p []]) ∧ s' = s₁)
    | .yield v g l k => e = .susp v g l k Γ.code p [] ∧ s' = s
    | .resume g r _ k => match s.gens[g]? with
      | some (.fresh c) => (match r with
        | .send .none => ∃ e₁ s₁, R (Γ.wake c p) p (M.den c) [] (s.setGen g .running) e₁ s₁ ∧ R Γ p (k e₁.result) [] (s₁.setGen g e₁.genState) e s'
        | .send _ => R Γ p (k .justStarted) [] s e s'
        | .throw x => R Γ p (k (.raised x)) [] (s.setGen g .finished) e s')
      | some (.suspended k₀ _ c₀ p₀ fs _) => ∃ e₁ s₁, R (Γ.wake c₀ p) p₀ (k₀ r) fs (s.setGen g .running) e₁ s₁ ∧ R Γ p (k e₁.result) [] (s₁.setGen g e₁.genState) e s'
      | some .running => R Γ p (k .running) [] s e s'
      | some .finished => R Γ p (k .finished) [] s e s'
      | none => False
    | _ => False
  | F :: fs => ∃ e₁ s₁, R (Γ.over (F :: fs)) p t [] s e₁ s₁ ∧ (match e₁ with
      | .ret r => (match F with
        | .ret k _ _ _ c₁ p₁ _ => R (Γ.goto c₁) p₁ (k r) fs s₁ e s'
        | .gen g k _ c₁ p₁ => R (Γ.goto c₁) p₁ (k (End.ret r).result) fs (s₁.setGen g .finished) e s')
      | .susp v g₀ l₀ k₀ c₀ p₀ fs₀ => (match splitAtGen (F :: fs) with
        | none => e = .susp v g₀ l₀ k₀ c₀ p₀ (fs₀ ++ F :: fs) ∧ s' = s₁
        | some (pre, (g, k, c₁, p₁), rest) => R (Γ.goto c₁) p₁ (k (.yielded v)) rest (s₁.setGen g (End.susp v g₀ l₀ k₀ c₀ p₀ (fs₀ ++ pre)).genState) e s'))

theorem runs_inv {M : Model} {Γ : Ctx} {p : Pos} {t : Sem Fin} {fs : List Frame} {s s' : Shared} {e : End} (h : Runs M Γ p t fs s e s') : Nx M (Runs M) Γ p t fs s e s' := by
  cases h with
  | resumeFresh a b c d => unfold Nx; dsimp only; rw [a]; exact ⟨_, _, b, d⟩
  | resumeSuspended a b c d => unfold Nx; dsimp only; rw [a]; exact ⟨_, _, b, d⟩
  | resumeJustStarted a n b =>
    unfold Nx; dsimp only; rw [a]; dsimp only
    split
    · rename_i q; cases q; exact absurd rfl n
    · exact b
    · rename_i q; cases q
  | resumeThrowFresh a b => unfold Nx; dsimp only; rw [a]; exact b
  | resumeRunning a b => unfold Nx; dsimp only; rw [a]; exact b
  | resumeFinished a b => unfold Nx; dsimp only; rw [a]; exact b
  | call a b => exact ⟨_, _, a, b⟩
  | callSusp a => exact ⟨_, _, a, rfl, rfl⟩
  | segRet a b => exact ⟨_, _, a, b⟩
  | segGen a b => exact ⟨_, _, a, b⟩
  | segSuspOut a b => refine ⟨_, _, b, ?_⟩; dsimp only; rw [a]; exact ⟨rfl, rfl⟩
  | segSuspGen a b c d => refine ⟨_, _, b, ?_⟩; dsimp only; rw [a]; exact d
  | load a b => exact ⟨_, a, b⟩
  | genState a b => exact ⟨_, a, b⟩
  | done => exact ⟨rfl, rfl⟩
  | raise => exact ⟨rfl, rfl⟩
  | yield => exact ⟨rfl, rfl⟩
  | again _ b => exact b
  | update _ b => exact b
  | choose _ b => exact b
  | rule b | «at» b | loadIfAlive b | point b | alloc b | fresh b | ask b | os b | handled b | stack b | thread b | newGen b => exact b

theorem runs_det {M : Model} {Γ : Ctx} {p : Pos} {t : Sem Fin} {fs : List Frame} {s s' : Shared} {e : End} (h : Runs M Γ p t fs s e s') : ∀ {e₂ : End} {s₂ : Shared}, Runs M Γ p t fs s e₂ s₂ → e = e₂ ∧ s' = s₂ := by
  induction h with
  | resumeFresh a b c d ih1 ih2 => intro e₂ s₂ h; have z := runs_inv h; unfold Nx at z; dsimp only at z; rw [a] at z; obtain ⟨_, _, x, y⟩ := z; obtain ⟨rfl, rfl⟩ := ih1 x; exact ih2 y
  | resumeSuspended a b c d ih1 ih2 => intro e₂ s₂ h; have z := runs_inv h; unfold Nx at z; dsimp only at z; rw [a] at z; obtain ⟨_, _, x, y⟩ := z; obtain ⟨rfl, rfl⟩ := ih1 x; exact ih2 y
  | resumeJustStarted a n _ ih =>
    intro e₂ s₂ h; have z := runs_inv h; unfold Nx at z; dsimp only at z; rw [a] at z; dsimp only at z
    split at z
    · rename_i q; cases q; exact absurd rfl n
    · exact ih z
    · rename_i q; cases q
  | resumeThrowFresh a _ ih => intro e₂ s₂ h; have z := runs_inv h; unfold Nx at z; dsimp only at z; rw [a] at z; exact ih z
  | resumeRunning a _ ih => intro e₂ s₂ h; have z := runs_inv h; unfold Nx at z; dsimp only at z; rw [a] at z; exact ih z
  | resumeFinished a _ ih => intro e₂ s₂ h; have z := runs_inv h; unfold Nx at z; dsimp only at z; rw [a] at z; exact ih z
  | call a b ih1 ih2 => intro e₂ s₂ h; obtain ⟨e₁, s₁, x, y⟩ := runs_inv h; obtain ⟨rfl, rfl⟩ := ih1 x; exact ih2 y
  | callSusp a ih1 => intro e₂ s₂ h; obtain ⟨e₁, s₁, x, y⟩ := runs_inv h; obtain ⟨rfl, rfl⟩ := ih1 x; exact ⟨y.1.symm, y.2.symm⟩
  | segRet a b ih1 ih2 => intro e₂ s₂ h; obtain ⟨e₁, s₁, x, y⟩ := runs_inv h; obtain ⟨rfl, rfl⟩ := ih1 x; exact ih2 y
  | segGen a b ih1 ih2 => intro e₂ s₂ h; obtain ⟨e₁, s₁, x, y⟩ := runs_inv h; obtain ⟨rfl, rfl⟩ := ih1 x; exact ih2 y
  | segSuspOut a b ih1 => intro e₂ s₂ h; obtain ⟨e₁, s₁, x, y⟩ := runs_inv h; obtain ⟨rfl, rfl⟩ := ih1 x; dsimp only at y; rw [a] at y; exact ⟨y.1.symm, y.2.symm⟩
  | segSuspGen a b c d ih1 ih2 => intro e₂ s₂ h; obtain ⟨e₁, s₁, x, y⟩ := runs_inv h; obtain ⟨rfl, rfl⟩ := ih1 x; dsimp only at y; rw [a] at y; exact ih2 y
  | load a _ ih => intro e₂ s₂ h; obtain ⟨o, x, y⟩ := runs_inv h; rw [a] at x; cases x; exact ih y
  | genState a _ ih => intro e₂ s₂ h; obtain ⟨o, x, y⟩ := runs_inv h; rw [a] at x; cases x; exact ih y
  | done => intro e₂ s₂ h; obtain ⟨rfl, rfl⟩ := runs_inv h; exact ⟨rfl, rfl⟩
  | raise => intro e₂ s₂ h; obtain ⟨rfl, rfl⟩ := runs_inv h; exact ⟨rfl, rfl⟩
  | yield => intro e₂ s₂ h; obtain ⟨rfl, rfl⟩ := runs_inv h; exact ⟨rfl, rfl⟩
  | again _ _ ih => intro e₂ s₂ h; exact ih (runs_inv h)
  | update _ _ ih => intro e₂ s₂ h; exact ih (runs_inv h)
  | choose _ _ ih => intro e₂ s₂ h; exact ih (runs_inv h)
  | rule _ ih | «at» _ ih | loadIfAlive _ ih | point _ ih | alloc _ ih | fresh _ ih | ask _ ih | os _ ih | handled _ ih | stack _ ih | thread _ ih | newGen _ ih => intro e₂ s₂ h; exact ih (runs_inv h)

theorem wakes_det {M : Model} {Γ : Ctx} {p : Pos} {g : Nat} {r : Resume} {s s₁ s₂ : Shared} {a b : GenResult} (h : Wakes M Γ p g r s a s₁) (h' : Wakes M Γ p g r s b s₂) : a = b ∧ s₁ = s₂ := by
  unfold Wakes at h h'
  split at h
  · exact h.elim
  · rename_i q
    rw [q] at h'
    dsimp only at h'
    split at h
    · obtain ⟨e₁, t₁, x, _, rfl, rfl⟩ := h
      obtain ⟨e₂, t₂, y, _, rfl, rfl⟩ := h'
      obtain ⟨rfl, rfl⟩ := runs_det x y
      exact ⟨rfl, rfl⟩
    · split at h'
      · rename_i hv _ hq
        cases hq
        exact (hv rfl).elim
      · exact ⟨h.1.trans h'.1.symm, h.2.trans h'.2.symm⟩
      · rename_i hq
        cases hq
    · exact ⟨h.1.trans h'.1.symm, h.2.trans h'.2.symm⟩
  · rename_i q
    rw [q] at h'
    dsimp only at h'
    obtain ⟨e₁, t₁, x, _, rfl, rfl⟩ := h
    obtain ⟨e₂, t₂, y, _, rfl, rfl⟩ := h'
    obtain ⟨rfl, rfl⟩ := runs_det x y
    exact ⟨rfl, rfl⟩
  · rename_i q
    rw [q] at h'
    exact ⟨h.1.trans h'.1.symm, h.2.trans h'.2.symm⟩
  · rename_i q
    rw [q] at h'
    exact ⟨h.1.trans h'.1.symm, h.2.trans h'.2.symm⟩

theorem wp_and {α : Type} (M : Model) (Γ : Ctx) (t : Sem α) : ∀ (Q Q' : α → Pos → Shared → Prop) (E E' : Value → Pos → Shared → Prop) (p : Pos) (s : Shared), Sem.wp M Γ t Q E p s → Sem.wp M Γ t Q' E' p s →
    Sem.wp M Γ t (fun a p' s' => Q a p' s' ∧ Q' a p' s') (fun e p' s' => E e p' s' ∧ E' e p' s') p s := by
  induction t with
  | pure a => intro Q Q' E E' p s h h'; exact ⟨h, h'⟩
  | raise e => intro Q Q' E E' p s h h'; exact ⟨h, h'⟩
  | load a _ k ih => intro Q Q' E E' p s h h'; obtain ⟨o, ho, h⟩ := h; obtain ⟨o', ho', h'⟩ := h'; rw [ho] at ho'; cases ho'; exact ⟨o, ho, ih o Q Q' E E' p s h h'⟩
  | update a _ f k ih => intro Q Q' E E' p s h h'; exact ⟨h.1, ih () Q Q' E E' p _ h.2 h'.2⟩
  | choose src m k ih => intro Q Q' E E' p s h h'; exact ⟨h.1, ih _ Q Q' E E' p _ h.2 h'.2⟩
  | genState g k ih => intro Q Q' E E' p s h h'; obtain ⟨o, ho, h⟩ := h; obtain ⟨o', ho', h'⟩ := h'; rw [ho] at ho'; cases ho'; exact ⟨o, ho, ih _ Q Q' E E' p s h h'⟩
  | call c hd _ _ k ih =>
    intro Q Q' E E' p s h h'
    obtain ⟨r, s₁, a, b⟩ := h
    obtain ⟨r', s₁', a', b'⟩ := h'
    obtain ⟨q, rfl⟩ := runs_det a a'
    cases q
    exact ⟨r, s₁, a, ih r Q Q' E E' p s₁ b b'⟩
  | resume g r l k ih =>
    intro Q Q' E E' p s h h'
    obtain ⟨r, s₁, a, b⟩ := h
    obtain ⟨r', s₁', a', b'⟩ := h'
    obtain ⟨rfl, rfl⟩ := wakes_det a a'
    exact ⟨_, _, a, ih _ Q Q' E E' p _ b b'⟩
  | unsupported _ => intro Q Q' E E' p s h h'; exact h
  | finish _ => intro Q Q' E E' p s h h'; exact h
  | register _ _ => intro Q Q' E E' p s h h'; exact h
  | rule _ k ih => intro Q Q' E E' p s h h'; exact ih _ Q Q' E E' _ _ h h'
  | «at» p' k ih => intro Q Q' E E' p s h h'; exact ih _ Q Q' E E' _ _ h h'
  | loadIfAlive a k ih => intro Q Q' E E' p s h h'; exact ih _ Q Q' E E' _ _ h h'
  | point _ k ih => intro Q Q' E E' p s h h'; exact ih _ Q Q' E E' _ _ h h'
  | alloc o k ih => intro Q Q' E E' p s h h'; exact ih _ Q Q' E E' _ _ h h'
  | fresh k ih => intro Q Q' E E' p s h h'; exact ih _ Q Q' E E' _ _ h h'
  | ask k ih => intro Q Q' E E' p s h h'; exact ih _ Q Q' E E' _ _ h h'
  | os q l k ih => intro Q Q' E E' p s h h'; exact ih _ Q Q' E E' _ _ h h'
  | handled own k ih => intro Q Q' E E' p s h h'; exact ih _ Q Q' E E' _ _ h h'
  | newGen c k ih => intro Q Q' E E' p s h h'; exact ih _ Q Q' E E' _ _ h h'
  | stack k ih => intro Q Q' E E' p s h h'; exact ih _ Q Q' E E' _ _ h h'
  | thread k ih => intro Q Q' E E' p s h h'; exact ih _ Q Q' E E' _ _ h h'
  | _ => intros; contradiction
theorem wpAny_both {α : Type} {M : Model} {A : Around} {t : Sem α} {Q Q' : α → Shared → Prop} {E E' : Value → Shared → Prop} {s : Shared} (h : wpAny M A t Q E s) (h' : wpAny M A t Q' E' s) :
    wpAny M A t (fun a s' => Q a s' ∧ Q' a s') (fun e s' => E e s' ∧ E' e s') s := fun Γ p hΓ => wp_and M Γ t _ _ _ _ p s (h Γ p hΓ) (h' Γ p hΓ)
end Mine
end
open PySem PySem.W PySem.Spec PySem.Calls PyProof.Rows
open Mine

-- H0
namespace Mine
end Mine
local macro_rules | `(tactic| o_law) => `(tactic| refine holds_law (by decide +kernel) fun said => ?_)
namespace Mine
set_option synthInstance.maxSize 1 in
set_option maxRecDepth 100000 in
set_option maxHeartbeats 8000000 in
open_top hd for PySem.Challenge.rw_is0005_01
end Mine

-- P0
namespace Mine

/-- the ledger that a call may change, over the heap g that it must leave -/
def Led (g h : Heap) (l : List (Addr × Obj)) : Prop := ∀ p ∈ l, h.get? p.1 = some p.2 ∧ g.get? p.1 = none

/-- what stands below: kept in one word, so that the walk looks at the frame's own base alone -/
structure Cb (K : Frag) (p : Program) (loose : List Str) (mean : ExcName → Option Value) (mg mb : Str → Option Value) (base : Heap) (outer : List Env) (g : Heap) : Prop where
  XB : K.In base
  TB : Top p loose mean mg mb base
  D : KtsDicts (outer.filterMap (·.frame)) g
structure Cx (K : Frag) (p : Program) (loose : List Str) (mean : ExcName → Option Value) (mg mb : Str → Option Value) (base : Heap) (outer : List Env) (A : Around) (g : Heap) : Prop where
  B : Below A base outer g
  C : Cb K p loose mean mg mb base outer g

abbrev arnd (dp un : Nat) (gd : Option (List Code)) (outer : List Env) : Around := { handled := none, depth := dp, frames := some outer, guards := gd, units := un }

/-- a call that does not raise and leaves what stands in g -/
def Call0 (prog : Program) (w : World) (K : Frag) (p : Program) (loose : List Str) (mean : ExcName → Option Value) (mg mb : Str → Option Value)
    (f : Addr) (vs : List Value) (d u : Nat) (g : Heap) (mt : List (Addr × Obj)) (Post : List (Addr × Obj) → Value → Prop) : Prop :=
  ∀ (dp un : Nat) (gd : Option (List Code)) (base : Heap) (outer : List Env) (s : Shared) (Q E : Value → Shared → Prop),
    Cx K p loose mean mg mb base outer (arnd dp un gd outer) g → g.StaysIn s.heap → g.objs.size ≤ s.heap.objs.size → Led g s.heap mt → dp + d < recursionLimit → un + u < cLine →
    (∀ r h' tk' mt', g.StaysIn h' → Led g h' mt' → Post mt' r → Q r { s with heap := h', toks := tk' }) →
    wpAny (model prog w) (arnd dp un gd outer) (call (.ref f) vs) Q E s

section
variable {prog : Program} {w : World} {K : Frag} {p : Program} {loose : List Str} {mean : ExcName → Option Value} {mg mb : Str → Option Value}

theorem Cx.X {base g : Heap} {outer : List Env} {A : Around} (C : Cx K p loose mean mg mb base outer A g) : K.In g := C.C.XB.keeps C.B.stays
theorem Cx.T {base g : Heap} {outer : List Env} {A : Around} (C : Cx K p loose mean mg mb base outer A g) : Top p loose mean mg mb g := C.C.TB.keeps C.B.stays

theorem enter {base g : Heap} {outer : List Env} {A : Around} {s : Shared} {mt : List (Addr × Obj)} {R : Result → Shared → Prop} {name qual : Str} {params : Arguments} {body : List Stmt} {scope : Scope} {dV kV doc pm cdv ct oc : Value} {an od : Option Addr} {osl : Array (Option Value)} {f : Addr} {args : Args} {binds : List (Str × Value)}
    (C : Cx K p loose mean mg mb base outer A g) (st : g.StaysIn s.heap) (sz : g.objs.size ≤ s.heap.objs.size) (N : Led g s.heap mt)
    (ho : K.lookup f = some ⟨oc, od, .func (fnOf name qual params body scope dV kV doc pm an cdv ct), osl⟩) (hcd : codeIn K cdv qual = true) (hroom : A.depth < recursionLimit)
    (hbind : BindsTo s (fnOf name qual params body scope dV kV doc pm an cdv ct) args binds) (hloc : ∀ y ∈ binds, scope.names.lookup y.1 = some .local)
    (h : ∀ L' h₁ tk, Fr g L' h₁ (fun y => binds.reverse.lookup y) → News g L' h₁ mt → (∀ p ∈ mt, p.1 < L') → Below A base outer g → K.In g → Top p loose mean mg mb g → Cb K p loose mean mg mb base outer g →
      wpAny (model prog w) (A.deeper (envOf qual scope L' f cdv)) (execs body (envOf qual scope L' f cdv))
        (fun fl s' => R (.ok (.ret (match fl with | .ret v => v | _ => .none))) s')
        (fun e s' => wpAny (model prog w) (A.deeper (envOf qual scope L' f cdv)) (leaving (envOf qual scope L' f cdv) e) (fun _ s'' => R (.error e) s'') (fun e' s'' => R (.error e') s'') s')
        { s with heap := h₁, toks := tk })
    (hco : scope.isCoroutine = false) (hgen : scope.isGenerator = false) (hk : scope.kind = .function)
    (hcell : ∀ x ∈ scope.names, x.2 ≠ .cell) : codeAny (model prog w) A (.call (.ref f) args) R s := by
  have X := C.X.keeps st
  refine codeAny_call_def (fd := fnOf name qual params body scope dV kV doc pm an cdv ct) (body := body) (binds := binds) hroom (X _ _ ho) rfl (C.T.nolimit.keeps st) (codeRec_of X hcd) rfl hbind hcell hloc (fun h₁ hns hk₁ => ?_) hco hgen hk
  exact h s.heap.objs.size h₁ _ ⟨hns, fun b o e => hk₁ b o (st b o e), sz⟩ (fun p hp => ⟨hk₁ _ _ (N p hp).1, Nat.ne_of_lt (Heap.lt_size (N p hp).1), (N p hp).2⟩)
    (fun p hp => Heap.lt_size (N p hp).1) C.B C.X C.T C.C

/-- what the caller knows, at a call: the base is the whole heap but for what may change -/
theorem ground {A₀ A : Around} {base h₀ h : Heap} {outer : List Env} {L : Addr} {m : Str → Option Value} {env : Env} {news mt keep : List (Addr × Obj)}
    (B : Below A₀ base outer h₀) (C₀ : Cb K p loose mean mg mb base outer h₀) (F : Fr h₀ L h m) (N : News h₀ L h news) (hA : A.frames = some (env :: outer)) (hf : env.frame = some L) (hke : env.scope.kind = .function)
    (hm : ∀ q ∈ mt, q ∈ news) (hk : ∀ q ∈ keep, q ∈ news) (hd : ∀ q ∈ mt, ∀ r ∈ keep, q.1 ≠ r.1) :
    ∃ g, Cx K p loose mean mg mb base (env :: outer) A g ∧ g.StaysIn h ∧ g.objs.size ≤ h.objs.size ∧ Led g h mt ∧ h₀.StaysIn g ∧ (∀ q ∈ keep, g.get? q.1 = some q.2) ∧ Fr h₀ L g m ∧
      ∀ h' mt', g.StaysIn h' → Led g h' mt' → Fr h₀ L h' m ∧ News h₀ L h' (mt' ++ keep) ∧ ∀ q ∈ mt', ∀ r ∈ keep, q.1 ≠ r.1 := by
  have Nm : News h₀ L h mt := fun q hq => N q (hm q hq)
  have nm : ∀ b o, h₀.get? b = some o → b ∉ mt.map (·.1) := fun b o e q => by
    obtain ⟨p, hp, rfl⟩ := List.mem_map.mp q
    rw [(Nm p hp).2.2] at e; cases e
  have st : h₀.StaysIn (hideAll h (mt.map (·.1))) := fun b o e => hideAll_get _ (F.keep b o e) (nm b o e)
  obtain ⟨oL, es, ep, hL, hLd, hLk, hLf⟩ := F.ns
  have nL : L ∉ mt.map (·.1) := fun q => by
    obtain ⟨p, hp, e⟩ := List.mem_map.mp q
    exact (Nm p hp).2.1 e
  have hLg := hideAll_get (mt.map (·.1)) hL nL
  have B₁ := pushX B F hf hke
  have hkeep : ∀ q ∈ keep, (hideAll h (mt.map (·.1))).get? q.1 = some q.2 := fun q hq => hideAll_get _ (N q (hk q hq)).1 fun e => by
    obtain ⟨r, hr, e⟩ := List.mem_map.mp e
    exact hd r hr q hq e
  have Fg : Fr h₀ L (hideAll h (mt.map (·.1))) m := ⟨⟨oL, es, ep, hLg, hLd, hLk, hLf⟩, st, F.above⟩
  refine ⟨hideAll h (mt.map (·.1)), ⟨⟨hA, fun b o e => st b o (B.stays b o e), funFrames_hideAll B₁.frames fun env' he b hb hf' => ?_⟩, C₀.XB, C₀.TB, fun b hb => ?_⟩, fun b o e => of_hideAll _ e, Nat.le_of_eq (hideAll_size _ _),
    fun q hq => ⟨(Nm q hq).1, hideAll_none _ (List.mem_map_of_mem hq)⟩, st, hkeep, Fg, fun h' mt' st' N' => ?_⟩
  · cases he with
    | head => exact nL ((Option.some.inj (hf.symm.trans hf') : L = b) ▸ hb)
    | tail _ he =>
      obtain ⟨L₁, o₁, hf₁, ho₁⟩ := funFrames_in B.frames env' he
      rw [hf₁] at hf'
      exact nm L₁ o₁ ho₁ ((Option.some.inj hf' : L₁ = b) ▸ hb)
  · obtain ⟨env', he, hf'⟩ := List.mem_filterMap.mp hb
    rcases List.mem_cons.mp he with rfl | he
    · rw [hf] at hf'; cases hf'
      exact ⟨oL, es, ep, hLg, hLd⟩
    · obtain ⟨o, es', n', ho', hd'⟩   := C₀.D b (List.mem_filterMap.mpr ⟨env', he, hf'⟩)
      exact ⟨o, es', n', st b o ho', hd'⟩
  · refine ⟨⟨⟨oL, es, ep, st' L oL hLg, hLd, hLk, hLf⟩, fun b o e => st' b o (st b o e), F.above⟩, fun q hq => ?_, fun q hq r hr e => ?_⟩
    · rcases List.mem_append.mp hq with hq | hq
      · refine ⟨(N' q hq).1, fun e => ?_, ?_⟩
        · have := (N' q hq).2; rw [e, hLg] at this; cases this
        · cases z : h₀.get? q.1 with
          | none => rfl
          | some o => have := (N' q hq).2; rw [st _ _ z] at this; cases this
      · exact ⟨st' _ _ (hkeep q hq), (N q (hk q hq)).2⟩
    · have := (N' q hq).2; rw [e, hkeep r hr] at this; cases this

theorem use0 {A₀ : Around} {base h₀ : Heap} {dp un : Nat} {gd : Option (List Code)} {outer : List Env} {env : Env} {L : Addr} {m : Str → Option Value} {news : List (Addr × Obj)} {s : Shared} {f : Addr} {vs : List Value} {d u : Nat} {Post : List (Addr × Obj) → Value → Prop} {Q E : Value → Shared → Prop}
    (mt keep : List (Addr × Obj))
    (B : Below A₀ base outer h₀) (C₀ : Cb K p loose mean mg mb base outer h₀) (F : Fr h₀ L s.heap m) (N : News h₀ L s.heap news) (hf : env.frame = some L) (hke : env.scope.kind = .function)
    (hm : ∀ q ∈ mt, q ∈ news) (hk : ∀ q ∈ keep, q ∈ news) (hd : ∀ q ∈ mt, ∀ r ∈ keep, q.1 ≠ r.1)
    (C : ∀ g, h₀.StaysIn g → (∀ q ∈ keep, g.get? q.1 = some q.2) → Call0 prog w K p loose mean mg mb f vs d u g mt Post)
    (hdp : dp + d < recursionLimit) (hun : un + u < cLine)
    (ret : ∀ r h' tk' mt', Fr h₀ L h' m → News h₀ L h' (mt' ++ keep) → (∀ q ∈ mt', ∀ r ∈ keep, q.1 ≠ r.1) → Post mt' r → Q r { s with heap := h', toks := tk' }) :
    wpAny (model prog w) { handled := none, depth := dp, frames := some (env :: outer), guards := gd, units := un } (call (.ref f) vs) Q E s := by
  obtain ⟨g, Cg, st, sz, Lm, st0, hkp, Fg, back⟩ := ground (A := { handled := none, depth := dp, frames := some (env :: outer), guards := gd, units := un }) B C₀ F N rfl hf hke hm hk hd
  refine C g st0 hkp dp un gd base (env :: outer) s Q E Cg st sz Lm hdp hun fun r h' tk' mt' st' N' hp => ?_
  obtain ⟨F', N'', hd'⟩ := back h' mt' st' N'
  exact ret r h' tk' mt' F' N'' hd' hp
end
end Mine

-- M
namespace Mine

section
variable {prog : Program} {w : World} {K : Frag} {p : Program} {loose : List Str} {mean : ExcName → Option Value} {mg mb : Str → Option Value}
theorem useP {A₀ : Around} {base h₀ : Heap} {dp un : Nat} {gd : Option (List Code)} {outer : List Env} {env : Env} {L : Addr} {m : Str → Option Value} {news : List (Addr × Obj)} {s : Shared} {f : Addr} {vs : List Value} {d u : Nat} {Post : List (Addr × Obj) → Value → Prop} {Q E : Value → Shared → Prop}
    (B : Below A₀ base outer h₀) (C₀ : Cb K p loose mean mg mb base outer h₀) (F : Fr h₀ L s.heap m) (N : News h₀ L s.heap news) (hf : env.frame = some L) (hke : env.scope.kind = .function)
    (C : ∀ g, h₀.StaysIn g → (∀ q ∈ news, g.get? q.1 = some q.2) → Call0 prog w K p loose mean mg mb f vs d u g [] Post)
    (hdp : dp + d < recursionLimit) (hun : un + u < cLine)
    (ret : ∀ r h' tk' tl, Fr h₀ L h' m → News h₀ L h' (tl ++ news) → (∀ q ∈ tl, ∀ r ∈ news, q.1 ≠ r.1) → Post tl r → Q r { s with heap := h', toks := tk' }) :
    wpAny (model prog w) { handled := none, depth := dp, frames := some (env :: outer), guards := gd, units := un } (call (.ref f) vs) Q E s :=
  use0 [] news B C₀ F N hf hke (fun _ h => nomatch h) (fun _ h => h) (fun _ h => nomatch h) C hdp hun ret
end

end Mine
local macro_rules | `(tactic| walk_at "MINE enter") => `(tactic| (
  refine wpAny_call ?_
  k_dflt (refine' enter ?k1 ?k2 ?k3 ?k4 ?k6 ?k7 ?k8 ?k9 ?kB ?_ ?c2 ?c3 ?c4 ?c5
          (case k1 => assumption)
          (case k2 => assumption)
          (case k3 => assumption)
          (case k4 => assumption)
          (case k6 => k_is)
          (case k7 => k_is)
          (case k8 => first | omega | (dsimp only [arnd]; omega))
          (case k9 => first | exact BindsTo.of_eq rfl | exact binds_K (by k_in) rfl (by k_is) rfl rfl rfl)
          (case c5 => decide)
          (case kB => exact locs rfl)
          (case c2 => exact rfl)
          (case c3 => exact rfl)
          (case c4 => exact rfl)
          k_whole)))
namespace Mine
/-- the defs whose calls halt a walk of mine -/
def halts : List Nat := [178, 183, 83, 76, 190, 135, 142, 149, 113, 106, 98, 164, 197, 204, 211, 90, 69]
theorem h_ref {M : Model} {A : Around} {Q : Value → Shared → Prop} {E : Value → Shared → Prop} {s : Shared} {n : Addr} {vs} (_ : halts.elem n = true) (h : wpAny M A (call (.ref n) vs) Q E s) : wpAny M A (call (.ref n) vs) Q E s := h

-- the same, with two more halts
-- the room for a call by contract
end Mine
local macro_rules | `(tactic| walk_at "MINE room") => `(tactic| first | omega | (dsimp only [arnd, Around.deeper] at *; omega) | (simp only [depth_under_make, depth_under_kw, depth_in1, depth_deeper, depth_caller, units_in1, units_deeper, Around.mark_units] at *; omega))
namespace Mine
-- a name of the frame, told by a fact
end Mine
local macro_rules | `(tactic| walk_at "eval Name") => `(tactic| (
  k_here
  k_dflt (
    refine' nameX_L ?kF ?kv ?_ ?ka ?kb
    (case ka => rfl)
    (case kb => rfl)
    (case kF => k_asm)
    (case kv => first | with_reducible assumption | exact rfl | assumption)
    k_whole)
  walk_say "MINE name"))
namespace Mine
end Mine
local macro_rules | `(tactic| walk_at "loadName") => `(tactic| (
  k_here
  k_dflt (
    refine' ldn ?kF ?kv ?_ ?ka ?kb
    (case ka => rfl)
    (case kb => rfl)
    (case kF => k_asm)
    (case kv => first | with_reducible assumption | exact rfl | assumption)
    k_whole)
  walk_say "MINE load"))
namespace Mine
end Mine
local macro_rules | `(tactic| k_room) => `(tactic| ((try simp only [depth_under_make, depth_under_kw, depth_in1, depth_deeper, depth_caller]); (try dsimp only [arnd]); omega))
namespace Mine
end Mine

-- P1
namespace Mine

section
variable {w : World} {p : Program} {loose : List Str} {mean : ExcName → Option Value} {mg mb : Str → Option Value}

def digs (n : Nat) : List Int := if h : n = 0 then [] else digs (n / 256) ++ [((n % 256 : Nat) : Int)]
termination_by n
decreasing_by omega
theorem digs_zero : digs 0 = [] := by rw [digs]; simp
theorem digs_pos {n : Nat} (h : n ≠ 0) : digs n = digs (n / 256) ++ [((n % 256 : Nat) : Int)] := by rw [digs]; simp [h]
theorem digs_len : ∀ (k n : Nat), n < 256 ^ k → (digs n).length ≤ k
  | 0, n, h => by
    have : n = 0 := by simpa using h
    subst this; rw [digs_zero]; simp
  | k + 1, n, h => by
    by_cases z : n = 0
    · subst z; rw [digs_zero]; simp
    · rw [digs_pos z]
      have := digs_len k (n / 256) (by rw [Nat.div_lt_iff_lt_mul (by decide)]; rw [Nat.pow_succ] at h; omega)
      simp; omega
/-- what the digits' loop keeps -/
def DigInv (n length : Int) (digits : List Int) : Prop := 0 ≤ length ∧ length ≤ n ∧ (∀ x ∈ digits, 0 ≤ x ∧ x < 256) ∧ digs length.toNat ++ digits = digs n.toNat
theorem DigInv.step {n length : Int} {digits : List Int} (h : DigInv n length digits) (hl : 0 < length) : DigInv n (Int.fdiv length 256) (Int.fmod length 256 :: digits) := by
  obtain ⟨h0, hn, ha, hd⟩ := h
  have e1 : Int.fdiv length 256 = ((length.toNat / 256 : Nat) : Int) := by rw [Int.fdiv_eq_ediv_of_nonneg _ (by decide)]; omega
  have e2 : Int.fmod length 256 = ((length.toNat % 256 : Nat) : Int) := by rw [Int.fmod_eq_emod_of_nonneg _ (by decide)]; omega
  rw [e1, e2]
  refine ⟨by omega, by omega, fun x hx => ?_, ?_⟩
  · rcases List.mem_cons.mp hx with rfl | hx
    · omega
    · exact ha x hx
  · rw [← hd, digs_pos (n := length.toNat) (by omega), Int.toNat_natCast]; simp
theorem DigInv.le {n length : Int} {digits : List Int} (h : DigInv n length digits) (hn : n < 16777216) : digits.length ≤ 3 := by
  have e := congrArg List.length h.2.2.2
  have := digs_len 3 n.toNat (by have := h.1; have := h.2.1; omega)
  rw [List.length_append] at e; omega
theorem DigInv.stepL {n length : Int} {digits : List Int} (h : DigInv n length digits ∧ digits.length ≤ 3) (hl : 0 < length) (hn : n < 16777216) :
    DigInv n (Int.fdiv length 256) (Int.fmod length 256 :: digits) ∧ (Int.fmod length 256 :: digits).length ≤ 3 := ⟨h.1.step hl, (h.1.step hl).le hn⟩
theorem DigInv.start {n : Int} (h : 0 ≤ n) : DigInv n n [] := ⟨h, Int.le_refl _, by simp, by simp⟩

/-- the octets ahead of a body of n octets -/
def pre (n : Nat) (off : Int) : List Int := if n < 56 then [off + n] else (off + 55 + (digs n).length) :: digs n
abbrev Oct := List UInt8
def preO (n : Nat) (off : Int) : Oct := (pre n off).map fun n => n.toNat.toUInt8
theorem pre_short {n off : Int} (h : 0 ≤ n ∧ n < 56) : pre n.toNat off = [off + n] := by rw [pre, if_pos (by omega)]; congr 2; omega
theorem pre_long {n off : Int} (h : 56 ≤ n) : pre n.toNat off = [off + 55 + ((digs n.toNat).length : Int)] ++ digs n.toNat := by rw [pre, if_neg (by omega)]; rfl
theorem upd_same {a : Str} {v u : Option Value} {r : Str → Option Value} : (fun y => if y = a then v else if y = a then u else r y) = fun z => if z = a then v else r z := by
  funext z; by_cases h : z = a <;> simp [h]
theorem kl_ins0 (vs : List Value) (y : Value) : kl_ins vs 0 y = y :: vs := by simp [kl_ins]
theorem insert0 {prog : Program} {A : Around} {E : Value → Shared → Prop} {s : Shared} {h₀ : Heap} {L D : Addr} {m : Str → Option Value} {news news' : List (Addr × Obj)} {vs : List Value} {n : Nat} {u : Tok} {y : Value} {Q : Value → Shared → Prop}
    (F : Fr h₀ L s.heap m) (N : News h₀ L s.heap news) (U : Upd D (W.listOf vs.toArray n) (W.listOf (y :: vs).toArray (n + 1)) news news') (hz : vs.length ≤ sizeLine) (h : ∀ h', Fr h₀ L h' m → News h₀ L h' news' → Q .none { s with heap := h' }) :
    wpAny (model prog w) A (call (.builtin "list.insert") [.ref D, .int 0 u, y]) Q E s := kl_insert F N rfl (kl_ins0 vs y) U hz h

set_option maxHeartbeats 4000000 in
theorem law_prefix_spec (g : Heap) (n : Int) (off : Int) (t1 t2 : Tok) (h0 : 0 ≤ n) (h1 : n < 16777216) (h2 : off = 128 ∨ off = 192) :
    Call0 Challenge.rw_is0005_01.row.prog w (hd.heap_1 w.params) p loose mean mg mb 171 [.int n t1, .int off t2] 3 20 g [] (fun mt r => mt = [] ∧ ∃ tk, r = .bytes (preO n.toNat off).toArray tk) := by
  w_top off
  k_fill
  intro dp un gd base outer s Q E C st sz N hdp hun ret
  walk_at "MINE enter"
  intro L' h' tk0 F' N' l1 B' X' T' CB'
  clear C
  replace F' : Fr g L' h' (fun y => List.lookup y [(Str.ofString "offset", Value.int off t2), (Str.ofString "length", Value.int n t1)]) := F'
  dsimp only
  try k_fold
  (repeat' ((fail_if_success (with_reducible first | (show wpAny _ _ (PySem.eval _ _) _ _ _; first | show wpAny _ _ (PySem.eval (.ListComp (.Call _ _ _ _) _ _ _) _) _ _ _) | (show wpAny _ _ (exec _ _) _ _ _; first | show wpAny _ _ (exec (.While _ _ _ _) _) _ _ _ | show wpAny _ _ (exec (.For _ _ _ _ _) _) _ _ _) | (show wpAny _ _ (PySem.call _ _) _ _ _; first | refine h_ref (by decide) ?_) | show wpAny _ _ (pyIter _) (fun it s₂ => LoopAtV _ _ _ _ _ _ _ _ _ it s₂) _ _)); (first | (k_unfold; (try dsimp only)) | walk1 | (dsimp only; walk1) | (leave1; walk_say "STEP leave1"; try dsimp only) | ((fail_if_success (show wpAny _ _ _ _ _ _)); dsimp only) | fail "no step")))
  · rename Fr _ _ _ _ => kF
    refine ret _ _ _ [] kF.keep (fun _ h => nomatch h) ⟨rfl, ?_⟩
    rw [preO, pre_short (by omega)]
    exact ⟨_, rfl⟩
  · rename Fr _ _ _ _ => kF
    rename News _ _ _ _ => kN
    rename_i ld _ _ _
    refine While_inv2 (fun k m₁ nx => ∃ len t vs ns ep, m₁ = (fun z => if z = Str.ofString "length" then some (Value.int len t) else if z = Str.ofString "digits" then some (Value.ref ld) else List.lookup z [(Str.ofString "offset", Value.int off t2), (Str.ofString "length", Value.int n t1)]) ∧ nx = [(ld, W.listOf (List.toArray vs) ep)] ∧ IntsAre vs ns ∧ DigInv n len ns ∧ ns.length ≤ 3 ∧ k = len.toNat) (n₀ := n.toNat) kF kN ?_ ?_
    · exact ⟨n, t1, [], [], 0, by funext z; by_cases h : z = Str.ofString "length" <;> simp [h] <;> rfl, rfl, .nil, DigInv.start h0, by decide, rfl⟩
    · clear kF kN l1
      rintro k m₁ nx h₁ tk₁ kF kN ⟨len, t, vs, ns, ep, rfl, rfl, hI, hD, hl, rfl⟩
      k_fold
      (repeat' ((fail_if_success (with_reducible first | (show wpAny _ _ (PySem.eval _ _) _ _ _; first | show wpAny _ _ (PySem.eval (.ListComp (.Call _ _ _ _) _ _ _) _) _ _ _) | (show wpAny _ _ (exec _ _) _ _ _; first | show wpAny _ _ (exec (.While _ _ _ _) _) _ _ _ | show wpAny _ _ (exec (.For _ _ _ _ _) _) _ _ _) | (show wpAny _ _ (PySem.call _ _) _ _ _; first | refine h_ref (by decide) ?_) | show wpAny _ _ (pyIter _) (fun it s₂ => LoopAtV _ _ _ _ _ _ _ _ _ it s₂) _ _)); (first | (k_unfold; (try dsimp only)) | walk1 | (dsimp only; walk1) | (leave1; walk_say "STEP leave1"; try dsimp only) | ((fail_if_success (show wpAny _ _ _ _ _ _)); dsimp only) | fail "no step")))
      · refine insert0 kF kN (by k_upd) (by rw [sizeLine_eq, hI.length]; omega) ?_
        clear kF kN
        intro h2 kF kN
        (repeat' ((fail_if_success (with_reducible first | (show wpAny _ _ (PySem.eval _ _) _ _ _; first | show wpAny _ _ (PySem.eval (.ListComp (.Call _ _ _ _) _ _ _) _) _ _ _) | (show wpAny _ _ (exec _ _) _ _ _; first | show wpAny _ _ (exec (.While _ _ _ _) _) _ _ _ | show wpAny _ _ (exec (.For _ _ _ _ _) _) _ _ _) | (show wpAny _ _ (PySem.call _ _) _ _ _; first | refine h_ref (by decide) ?_) | show wpAny _ _ (pyIter _) (fun it s₂ => LoopAtV _ _ _ _ _ _ _ _ _ it s₂) _ _)); (first | (k_unfold; (try dsimp only)) | walk1 | (dsimp only; walk1) | (leave1; walk_say "STEP leave1"; try dsimp only) | ((fail_if_success (show wpAny _ _ _ _ _ _)); dsimp only) | fail "no step")))
        rename Fr _ _ _ _ => kF
        rename News _ _ _ _ => kN
        have hs := DigInv.stepL ⟨hD, hl⟩ (by assumption) h1
        refine ⟨_, _, _, _, _, rfl, kF, kN, ?_, _, _, _, _, _, upd_same, rfl, .cons _ _ hI, hs.1, hs.2, rfl⟩
        · have : 0 < len := by assumption
          have := Int.fdiv_eq_ediv_of_nonneg len (by decide : (0:Int) ≤ 256)
          omega
      · rename Fr _ _ _ _ => kF
        rename News _ _ _ _ => kN
        have hz : len = 0 := by have := hD.1; omega
        have hd : ns = digs n.toNat := by have := hD.2.2.2; rw [hz] at this; simpa [digs_zero] using this
        refine KBa.make_K kF kN rfl (News.isList kN (.head _)) (by assumption) ?_ (by simp; omega) ?_
        · intro x hx
          rcases List.mem_append.mp hx with hx | hx
          · have := List.mem_singleton.mp hx; omega
          · exact hD.2.2.1 x hx
        · intro h2 t2 k2 F2 N2 _
          refine ret _ _ _ [] F2.keep (fun _ h => nomatch h) ⟨rfl, ?_⟩
          rw [preO, hd, pre_long (by omega)]
          exact ⟨_, rfl⟩
end
end Mine

-- P2
namespace Mine


inductive Tr where
  | b (bs : Oct)
  | l (ts : List Tr)
mutual
def enc : Tr → Oct
  | .b bs => if bs.length = 1 ∧ bs.headD 0 < 128 then bs else preO bs.length 128 ++ bs
  | .l ts => preO (encs ts).length 192 ++ encs ts
def encs : List Tr → Oct
  | [] => []
  | t :: ts => enc t ++ encs ts
end
mutual
def dep : Tr → Nat
  | .b _ => 0
  | .l ts => deps ts + 1
def deps : List Tr → Nat
  | [] => 0
  | t :: ts => max (dep t) (deps ts)
end
mutual
/-- the value v is the item t, its lists by P -/
def Item (P : Addr → List Value → Prop) : Tr → Value → Prop
  | .b bs, v => ∃ tk, v = .bytes bs.toArray tk
  | .l ts, v => ∃ a vs, v = .ref a ∧ P a vs ∧ Items P ts vs
def Items (P : Addr → List Value → Prop) : List Tr → List Value → Prop
  | [], vs => vs = []
  | t :: ts, vs => ∃ v r, vs = v :: r ∧ Item P t v ∧ Items P ts r
end
mutual
theorem Item.mono {P P' : Addr → List Value → Prop} (h : ∀ a vs, P a vs → P' a vs) : ∀ {t : Tr} {v : Value}, Item P t v → Item P' t v
  | .b _, _, x => x
  | .l ts, _, ⟨a, vs, e, p, r⟩ => ⟨a, vs, e, h _ _ p, Items.mono h r⟩
theorem Items.mono {P P' : Addr → List Value → Prop} (h : ∀ a vs, P a vs → P' a vs) : ∀ {ts : List Tr} {vs : List Value}, Items P ts vs → Items P' ts vs
  | [], _, x => x
  | _ :: _, _, ⟨v, r, e, x, y⟩ => ⟨v, r, e, Item.mono h x, Items.mono h y⟩
end
theorem Items.length {P : Addr → List Value → Prop} : ∀ {ts : List Tr} {vs : List Value}, Items P ts vs → vs.length = ts.length
  | [], _, e => by rw [show _ = [] from e]; rfl
  | _ :: _, _, ⟨_, _, e, _, y⟩ => by rw [e, List.length_cons, List.length_cons, Items.length y]
theorem Items.get {P : Addr → List Value → Prop} : ∀ {ts : List Tr} {vs : List Value} {i : Nat} {v : Value}, Items P ts vs → vs[i]? = some v → ∃ t, ts[i]? = some t ∧ Item P t v
  | [], _, i, v, e, h => by rw [show _ = [] from e] at h; simp at h
  | t :: ts, _, 0, v, ⟨_, _, e, x, _⟩, h => by rw [e] at h; simp at h; exact ⟨t, rfl, h ▸ x⟩
  | t :: ts, _, i + 1, v, ⟨_, _, e, _, y⟩, h => by rw [e] at h; simp at h; obtain ⟨t', a, b⟩ := Items.get y h; exact ⟨t', by simpa using a, b⟩
theorem Items.append {P : Addr → List Value → Prop} : ∀ {ts us : List Tr} {vs ws : List Value}, Items P ts vs → Items P us ws → Items P (ts ++ us) (vs ++ ws)
  | [], _, _, _, e, y => by rw [show _ = [] from e]; exact y
  | _ :: _, _, _, _, ⟨v, r, e, x, z⟩, y => ⟨v, r ++ _, by rw [e]; rfl, x, Items.append z y⟩
theorem Items.one {P : Addr → List Value → Prop} {t : Tr} {v : Value} (h : Item P t v) : Items P [t] [v] := ⟨v, [], rfl, h, rfl⟩

/-- the lists of a heap; of a ledger -/
def PG (g : Heap) (a : Addr) (vs : List Value) : Prop := ∃ n, g.get? a = some (W.listOf vs.toArray n)
def PL (led : List (Addr × Obj)) (a : Addr) (vs : List Value) : Prop := ∃ n, (a, W.listOf vs.toArray n) ∈ led
theorem PG.keeps {g h : Heap} {a : Addr} {vs : List Value} (x : PG g a vs) (k : g.StaysIn h) : PG h a vs := let ⟨n, e⟩ := x; ⟨n, k _ _ e⟩
theorem PG.isList {g : Heap} {a : Addr} {vs : List Value} (x : PG g a vs) : g.IsList a vs.toArray := let ⟨n, e⟩ := x; ⟨_, e, rfl, n, rfl⟩
theorem PL.toG {g : Heap} {led : List (Addr × Obj)} (k : ∀ q ∈ led, g.get? q.1 = some q.2) {a : Addr} {vs : List Value} (x : PL led a vs) : PG g a vs := let ⟨n, e⟩ := x; ⟨n, k _ e⟩
theorem PL.sub {led led' : List (Addr × Obj)} (k : ∀ q ∈ led, q ∈ led') {a : Addr} {vs : List Value} (x : PL led a vs) : PL led' a vs := let ⟨n, e⟩ := x; ⟨n, k _ e⟩

theorem deps_le {ts : List Tr} {t : Tr} : ∀ {i : Nat}, ts[i]? = some t → dep t ≤ deps ts := by
  induction ts with
  | nil => intro i h; simp at h
  | cons u r ih =>
    intro i h
    rw [deps]
    cases i with
    | zero => simp at h; subst h; exact Nat.le_max_left ..
    | succ i => simp at h; exact Nat.le_trans (ih h) (Nat.le_max_right ..)
theorem encs_append : ∀ (ts us : List Tr), encs (ts ++ us) = encs ts ++ encs us
  | [], us => by simp [encs]
  | t :: ts, us => by rw [List.cons_append, encs, encs, encs_append ts us, List.append_assoc]
theorem encs_take_succ {ts : List Tr} {t : Tr} {i : Nat} (h : ts[i]? = some t) : encs (ts.take (i + 1)) = encs (ts.take i) ++ enc t := by
  rw [List.take_add_one, h, encs_append]; simp [encs]
theorem encs_take_le (ts : List Tr) (i : Nat) : (encs (ts.take i)).length ≤ (encs ts).length := by
  conv => rhs; rw [← List.take_append_drop i ts, encs_append, List.length_append]
  omega
theorem enc_le_encs {ts : List Tr} {t : Tr} {i : Nat} (h : ts[i]? = some t) : (encs (ts.take i)).length + (enc t).length ≤ (encs ts).length := by
  have := encs_take_le ts (i + 1)
  rw [encs_take_succ h, List.length_append] at this; exact this

section
variable {prog : Program} {w : World} {A : Around} {E : Value → Shared → Prop} {s : Shared} {env : Env} {h₀ : Heap} {x : Str} {body : List Stmt} {Q : Flow → Shared → Prop}
/-- a loop over a list of the base -/
theorem for_list {l : Addr} {vs : List Value} {m₀ : Str → Option Value} {news : List (Addr × Obj)} (J : Nat → (Str → Option Value) → List (Addr × Obj) → Prop)
    (hh : A.handled = none) (hl : h₀.IsList l vs.toArray) (F : Fr h₀ env.locals s.heap m₀) (N : News h₀ env.locals s.heap news) (hj : J 0 m₀ news)
    (turn : ∀ i v m₁ nx h tk own, vs[i]? = some v → TbOff own nx → J i m₁ nx → Fr h₀ env.locals h (fun y => if y = x then some v else m₁ y) → News h₀ env.locals h (nx ++ own) →
      wpAny (model prog w) A (execs body env) (TbPost h₀ env.locals (J (i + 1)) own { s with heap := h, toks := tk } Q) E { s with heap := h, toks := tk })
    (done : ∀ m₁ nx h tk, J vs.length m₁ nx → Fr h₀ env.locals h m₁ → News h₀ env.locals h nx → Q .next { s with heap := h, toks := tk }) :
    wpAny (model prog w) A (pyIter (.ref l)) (fun it s₂ => LoopAtV prog w A h₀ env x body Q E it s₂) E s := by
  have hls : s.heap.IsList l vs.toArray := hl.at fun o e => F.keep l o e
  obtain ⟨ol, hol, _⟩ := id hl
  have hlt : l < h₀.objs.size := Heap.lt_size hol
  have hne : l ≠ s.heap.objs.size := Nat.ne_of_lt (Nat.lt_trans (Nat.lt_of_lt_of_le hlt F.above) F.ns.lt)
  refine wpAny_pyIter_list hls ?_
  have W := Walks.list (prog := prog) (w := w) hh s.heap.objs.size l hne vs.toArray
  rw [List.size_toArray] at W
  refine ⟨_, _, _, vs.length, _, _, m₀, news, J, rfl, W, ?_, ?_, ?_, ⟨⟨_, Heap.get?_push_size _ rfl, rfl, rfl⟩, hls.at fun o e => Heap.get?_push_of_some _ e⟩, F.push _, (fun p hp => ⟨Heap.get?_push_of_some _ (N p hp).1, (N p hp).2⟩), hj, ?_, ?_⟩
  · intro hm
    rcases List.mem_cons.mp hm with e | hm
    · exact absurd F.ns.lt (e ▸ Nat.lt_irrefl _)
    · exact absurd (Nat.lt_of_lt_of_le hlt F.above) ((List.mem_singleton.mp hm) ▸ Nat.lt_irrefl _)
  · intro b hb
    rw [List.mem_singleton.mp hb]
    exact next_is_new F
  · intro p hp hI
    exact absurd (Heap.lt_size (N p hp).1) ((List.mem_singleton.mp hI) ▸ Nat.lt_irrefl _)
  · rintro i v m₁ news₁ s₁ own ⟨hh', tk', rfl⟩ hin hP hJ hoff hown _ hmem hst F₁ N₁
    have hv : vs[i]? = some v := by simpa using hP
    have hnews : ∀ q ∈ news₁, q.1 ≠ l := fun q hq e => by
      have := N₁ q (List.mem_append_right _ hq)
      rw [e, hol] at this; cases this.2.2
    have hsep : TbOff own news₁ := by
      intro p hp q hq e
      rcases List.mem_cons.mp (hown p hp) with h1 | h1
      · exact hoff q hq (List.mem_singleton.mpr (e ▸ h1))
      · exact hnews q hq (e.symm.trans (List.mem_singleton.mp h1))
    have N₂ : News h₀ env.locals hh' (news₁ ++ own) := fun p hp => N₁ p ((List.mem_append.mp hp).elim (fun h => List.mem_append.mpr (.inr h)) fun h => List.mem_append.mpr (.inl h))
    refine wpAny_mono (turn i v m₁ news₁ hh' tk' own hv hsep hJ F₁ N₂) (fun f s₂ p => ?_) fun _ _ e => e
    have fin : TbEnd h₀ env.locals (J (i + 1)) own { s with heap := hh', toks := tk' } s₂ → LoopStepU h₀ env.locals [s.heap.objs.size] own (J (i + 1)) { s with heap := hh', toks := tk' } .next s₂ := by
      rintro ⟨h', tk, m', news', nx, e, F', N', hn, ho, ha, hm⟩
      refine ⟨rfl, h', tk, m', nx, e, F', fun p hp => N' p ((List.mem_append.mp hp).elim (ho p) (hn p)), fun p hp hq => ?_, hm⟩
      obtain ⟨o, hbo, _⟩ := hst.1
      have hI : h₀.get? s.heap.objs.size = none := next_is_new F
      exact ha _ (hmem _ (.head _) hI o hbo) p hp (List.mem_singleton.mp hq).symm
    cases f with
    | ret v => exact .ret p
    | brk => exact .brk p
    | next => exact .next (fin p)
    | cont => exact .cont (fin p)
  · rintro h' tk m' news' F' N' _ hJ
    exact done m' news' h' tk hJ F' N'
end
end Mine

-- P3
namespace Mine

end Mine
local macro_rules | `(tactic| walk_at "call ref") => `(tactic| (
  k_here
  (with_reducible show wpAny _ _ (PySem.call (Value.ref 171) _) _ _ _)
  k_dflt (
    refine' useP ?kB ?kC ?kF ?kN ?khf ?khk (fun g _ _ => law_prefix_spec g _ _ _ _ ?ka ?kb ?kc) ?kd ?ku ?_
    (case kB => assumption)
    (case kC => assumption)
    (case kF => k_asm)
    (case kN => k_asm)
    (case khf => rfl)
    (case khk => rfl)
    (case ka => omega)
    (case kb => omega)
    (case kc => first | exact .inl rfl | exact .inr rfl)
    (case kd => walk_at "MINE room")
    (case ku => walk_at "MINE room")
    k_whole)
  intro r9 h' tk' tl9 F' N' d9 p9
  obtain ⟨e8, tk2, e9⟩ := p9
  subst e8 e9
  (try simp only [List.nil_append] at N')
  (try dsimp only)
  (try simp only [Int.toNat_natCast])))
namespace Mine

theorem preO_len {n : Nat} {off : Int} (h : n < 16777216) : (preO n off).length ≤ 4 := by
  unfold preO pre
  split
  · simp
  · have := digs_len 3 n (by omega)
    simp only [List.length_map, List.length_cons]
    omega
theorem preO_pos (n : Nat) (off : Int) : 1 ≤ (preO n off).length := by
  unfold preO pre
  split <;> simp
theorem upd_loop {x y : Str} {V u Y Y0 : Option Value} {r : Str → Option Value} (h : x ≠ y) : (fun z => if z = y then Y else if z = x then V else (fun z => if z = x then u else if z = y then Y0 else r z) z) = fun z => if z = x then V else if z = y then Y else r z := by
  funext z
  by_cases h1 : z = x
  · subst h1; simp [h]
  · by_cases h2 : z = y
    · subst h2; simp [h1]
    · simp [h1, h2]
theorem getD_head (bs : Oct) : (bs.map fun c => ((c.toNat : Nat) : Int)).getD 0 0 = ((bs.headD 0).toNat : Int) := by
  cases bs <;> rfl
theorem enc_small {bs : Oct} (h1 : (bs.length : Int) = 1) (h2 : (bs.map fun c => ((c.toNat : Nat) : Int)).getD (Int.toNat 0) 0 < 128) : enc (.b bs) = bs := by
  rw [show Int.toNat 0 = 0 from rfl, getD_head] at h2
  have hlt : bs.headD 0 < 128 := by
    rw [UInt8.lt_iff_toNat_lt]
    have : (128 : UInt8).toNat = 128 := rfl
    omega
  rw [enc, if_pos ⟨by omega, hlt⟩]
theorem enc_big {bs : Oct} (h : (bs.length : Int) ≠ 1 ∨ ¬ (bs.map fun c => ((c.toNat : Nat) : Int)).getD (Int.toNat 0) 0 < 128) : enc (.b bs) = preO bs.length 128 ++ bs := by
  rw [show Int.toNat 0 = 0 from rfl, getD_head] at h
  rw [enc, if_neg]
  rintro ⟨h1, h2⟩
  rw [UInt8.lt_iff_toNat_lt] at h2
  have : (128 : UInt8).toNat = 128 := rfl
  omega
theorem enc_b_len {bs : Oct} : bs.length ≤ (enc (.b bs)).length := by
  rw [enc]; split
  · exact Nat.le_refl _
  · simp
theorem encs_len_l {ts : List Tr} : (encs ts).length ≤ (enc (.l ts)).length := by rw [enc]; simp

section
variable {prog : Program} {w : World} {A : Around} {E : Value → Shared → Prop} {s : Shared}
theorem addO {b c : Oct} {t u : Tok} {Q : Value → Shared → Prop} (hsz : b.length + c.length ≤ 16777216) (h : ∀ t' k, Q (.bytes (b ++ c).toArray t') { s with toks := k }) : wpAny (model prog w) A (binaryOp .Add (.bytes b.toArray t) (.bytes c.toArray u)) Q E s :=
  KBy.add_bytes (by simpa using hsz) fun t' k => by rw [List.append_toArray]; exact h t' k
end

section
variable {w : World} {p : Program} {loose : List Str} {mean : ExcName → Option Value} {mg mb : Str → Option Value}

set_option maxHeartbeats 4000000 in
theorem law_encoded_all : ∀ (n : Nat) (t : Tr), dep t < n → ∀ (g : Heap) (v : Value), Item (PG g) t v → (enc t).length ≤ 1000000 →
    Call0 Challenge.rw_is0005_01.row.prog w (hd.heap_1 w.params) p loose mean mg mb 178 [v] (dep t + 4) (8 * dep t + 32) g [] (fun mt r => mt = [] ∧ ∃ tk, r = .bytes (enc t).toArray tk) := by
  intro n
  induction n with
  | zero => intro t ht; exact absurd ht (Nat.not_lt_zero _)
  | succ n ih =>
    intro t ht g v hv hz
    w_top off
    k_fill
    intro dp un gd base outer s Q E C st sz N hdp hun ret
    walk_at "MINE enter"
    intro L' h' tk0 F' N' l1 B' X' T' CB'
    clear C
    replace F' : Fr g L' h' (fun y => List.lookup y [(Str.ofString "item", v)]) := F'
    dsimp only
    try k_fold
    cases t with
    | b bs =>
      obtain ⟨tk, rfl⟩ := hv
      have hb : KBw.bInts bs.toArray = bs.map (fun c => (c.toNat : Int)) := rfl
      have hzb : bs.length ≤ 1000000 := Nat.le_trans enc_b_len hz
      (repeat' ((fail_if_success (with_reducible first | (show wpAny _ _ (PySem.eval _ _) _ _ _; first | show wpAny _ _ (PySem.eval (.ListComp (.Call _ _ _ _) _ _ _) _) _ _ _) | (show wpAny _ _ (exec _ _) _ _ _; first | show wpAny _ _ (exec (.While _ _ _ _) _) _ _ _ | show wpAny _ _ (exec (.For _ _ _ _ _) _) _ _ _) | (show wpAny _ _ (PySem.call _ _) _ _ _; first | refine h_ref (by decide) ?_) | show wpAny _ _ (pyIter _) (fun it s₂ => LoopAtV _ _ _ _ _ _ _ _ _ it s₂) _ _)); (first | (k_unfold; (try dsimp only)) | walk1 | (dsimp only; walk1) | (leave1; walk_say "STEP leave1"; try dsimp only) | ((fail_if_success (show wpAny _ _ _ _ _ _)); dsimp only) | fail "no step")))
      · rename Fr _ _ _ _ => kF
        refine ret _ _ _ [] kF.keep (fun _ h => nomatch h) ⟨rfl, ?_⟩
        rw [enc_small (by assumption) (by assumption)]
        exact ⟨_, rfl⟩
      · refine addO (by have := preO_len (n := bs.length) (off := 128) (by omega); omega) fun t' k => ?_
        rename Fr _ _ _ _ => kF
        (repeat' ((fail_if_success (with_reducible first | (show wpAny _ _ (PySem.eval _ _) _ _ _; first | show wpAny _ _ (PySem.eval (.ListComp (.Call _ _ _ _) _ _ _) _) _ _ _) | (show wpAny _ _ (exec _ _) _ _ _; first | show wpAny _ _ (exec (.While _ _ _ _) _) _ _ _ | show wpAny _ _ (exec (.For _ _ _ _ _) _) _ _ _) | (show wpAny _ _ (PySem.call _ _) _ _ _; first | refine h_ref (by decide) ?_) | show wpAny _ _ (pyIter _) (fun it s₂ => LoopAtV _ _ _ _ _ _ _ _ _ it s₂) _ _)); (first | (k_unfold; (try dsimp only)) | walk1 | (dsimp only; walk1) | (leave1; walk_say "STEP leave1"; try dsimp only) | ((fail_if_success (show wpAny _ _ _ _ _ _)); dsimp only) | fail "no step")))
        refine ret _ _ _ [] kF.keep (fun _ h => nomatch h) ⟨rfl, ?_⟩
        rw [enc_big (.inr (by assumption))]
        exact ⟨_, rfl⟩
      · refine addO (by have := preO_len (n := bs.length) (off := 128) (by omega); omega) fun t' k => ?_
        rename Fr _ _ _ _ => kF
        (repeat' ((fail_if_success (with_reducible first | (show wpAny _ _ (PySem.eval _ _) _ _ _; first | show wpAny _ _ (PySem.eval (.ListComp (.Call _ _ _ _) _ _ _) _) _ _ _) | (show wpAny _ _ (exec _ _) _ _ _; first | show wpAny _ _ (exec (.While _ _ _ _) _) _ _ _ | show wpAny _ _ (exec (.For _ _ _ _ _) _) _ _ _) | (show wpAny _ _ (PySem.call _ _) _ _ _; first | refine h_ref (by decide) ?_) | show wpAny _ _ (pyIter _) (fun it s₂ => LoopAtV _ _ _ _ _ _ _ _ _ it s₂) _ _)); (first | (k_unfold; (try dsimp only)) | walk1 | (dsimp only; walk1) | (leave1; walk_say "STEP leave1"; try dsimp only) | ((fail_if_success (show wpAny _ _ _ _ _ _)); dsimp only) | fail "no step")))
        refine ret _ _ _ [] kF.keep (fun _ h => nomatch h) ⟨rfl, ?_⟩
        rw [enc_big (.inl (by assumption))]
        exact ⟨_, rfl⟩
    | l ts =>
      obtain ⟨a, vs, rfl, hP, hV⟩ := hv
      have hl := hP.isList
      (repeat' ((fail_if_success (with_reducible first | (show wpAny _ _ (PySem.eval _ _) _ _ _; first | show wpAny _ _ (PySem.eval (.ListComp (.Call _ _ _ _) _ _ _) _) _ _ _) | (show wpAny _ _ (exec _ _) _ _ _; first | show wpAny _ _ (exec (.While _ _ _ _) _) _ _ _ | show wpAny _ _ (exec (.For _ _ _ _ _) _) _ _ _) | (show wpAny _ _ (PySem.call _ _) _ _ _; first | refine h_ref (by decide) ?_) | show wpAny _ _ (pyIter _) (fun it s₂ => LoopAtV _ _ _ _ _ _ _ _ _ it s₂) _ _)); (first | (k_unfold; (try dsimp only)) | walk1 | (dsimp only; walk1) | (leave1; walk_say "STEP leave1"; try dsimp only) | ((fail_if_success (show wpAny _ _ _ _ _ _)); dsimp only) | fail "no step")))
      rename Fr _ _ _ _ => kF
      refine For_invVF kF rfl rfl ?_
      (repeat' ((fail_if_success (with_reducible first | (show wpAny _ _ (PySem.eval _ _) _ _ _; first | show wpAny _ _ (PySem.eval (.ListComp (.Call _ _ _ _) _ _ _) _) _ _ _) | (show wpAny _ _ (exec _ _) _ _ _; first | show wpAny _ _ (exec (.While _ _ _ _) _) _ _ _ | show wpAny _ _ (exec (.For _ _ _ _ _) _) _ _ _) | (show wpAny _ _ (PySem.call _ _) _ _ _; first | refine h_ref (by decide) ?_) | show wpAny _ _ (pyIter _) (fun it s₂ => LoopAtV _ _ _ _ _ _ _ _ _ it s₂) _ _)); (first | (k_unfold; (try dsimp only)) | walk1 | (dsimp only; walk1) | (leave1; walk_say "STEP leave1"; try dsimp only) | ((fail_if_success (show wpAny _ _ _ _ _ _)); dsimp only) | fail "no step")))
      rename News _ _ _ _ => kN
      have hlen := hV.length
      refine for_list (fun i m₁ nx => ∃ tb u, m₁ = (fun z => if z = Str.ofString "part" then u else if z = Str.ofString "body" then some (Value.bytes (encs (ts.take i)).toArray tb) else List.lookup z [(Str.ofString "item", Value.ref a)]) ∧ nx = []) rfl hl kF kN ?_ ?_ ?_
      · exact ⟨_, none, by funext z; by_cases h : z = Str.ofString "part" <;> simp [h, encs] <;> rfl, rfl⟩
      · rintro i v m₁ nx h₁ tk₁ own hv hoff ⟨tb, u, rfl, rfl⟩ kF kN
        change Fr g L' _ _ at kF
        change News g L' _ _ at kN
        k_fold
        (repeat' ((fail_if_success (with_reducible first | (show wpAny _ _ (PySem.eval _ _) _ _ _; first | show wpAny _ _ (PySem.eval (.ListComp (.Call _ _ _ _) _ _ _) _) _ _ _) | (show wpAny _ _ (exec _ _) _ _ _; first | show wpAny _ _ (exec (.While _ _ _ _) _) _ _ _ | show wpAny _ _ (exec (.For _ _ _ _ _) _) _ _ _) | (show wpAny _ _ (PySem.call _ _) _ _ _; first | refine h_ref (by decide) ?_) | show wpAny _ _ (pyIter _) (fun it s₂ => LoopAtV _ _ _ _ _ _ _ _ _ it s₂) _ _)); (first | (k_unfold; (try dsimp only)) | walk1 | (dsimp only; walk1) | (leave1; walk_say "STEP leave1"; try dsimp only) | ((fail_if_success (show wpAny _ _ _ _ _ _)); dsimp only) | fail "no step")))
        obtain ⟨t, hti, hit⟩ := hV.get hv
        have hle := enc_le_encs hti
        have hle2 := @encs_len_l ts
        have hdt := deps_le hti
        rw [dep] at ht hdp hun
        refine useP B' CB' kF kN rfl rfl (fun g2 st2 _ => ih t (by omega) g2 v (hit.mono fun a vs x => x.keeps st2) (by omega)) (by walk_at "MINE room") (by walk_at "MINE room") ?_
        rintro r h2 tk2 tl kF kN hd ⟨rfl, tkr, rfl⟩
        dsimp only
        (repeat' ((fail_if_success (with_reducible first | (show wpAny _ _ (PySem.eval _ _) _ _ _; first | show wpAny _ _ (PySem.eval (.ListComp (.Call _ _ _ _) _ _ _) _) _ _ _) | (show wpAny _ _ (exec _ _) _ _ _; first | show wpAny _ _ (exec (.While _ _ _ _) _) _ _ _ | show wpAny _ _ (exec (.For _ _ _ _ _) _) _ _ _) | (show wpAny _ _ (PySem.call _ _) _ _ _; first | refine h_ref (by decide) ?_ | show wpAny _ _ (PySem.call (.builtin "len") [.ref _]) _ _ _) | show wpAny _ _ (pyIter _) (fun it s₂ => LoopAtV _ _ _ _ _ _ _ _ _ it s₂) _ _ | show wpAny _ _ (subscriptTail _ _ (.ref _) (.int _ _)) _ _ _ | show wpAny _ _ (binaryOp .Add (.bytes _ _) (.bytes _ _)) _ _ _)); (first | (k_unfold; (try dsimp only)) | walk1 | (dsimp only; walk1) | (leave1; walk_say "STEP leave1"; try dsimp only) | ((fail_if_success (show wpAny _ _ _ _ _ _)); dsimp only) | fail "no step")))
        refine addO (by omega) fun t' k => ?_
        (repeat' ((fail_if_success (with_reducible first | (show wpAny _ _ (PySem.eval _ _) _ _ _; first | show wpAny _ _ (PySem.eval (.ListComp (.Call _ _ _ _) _ _ _) _) _ _ _) | (show wpAny _ _ (exec _ _) _ _ _; first | show wpAny _ _ (exec (.While _ _ _ _) _) _ _ _ | show wpAny _ _ (exec (.For _ _ _ _ _) _) _ _ _) | (show wpAny _ _ (PySem.call _ _) _ _ _; first | refine h_ref (by decide) ?_) | show wpAny _ _ (pyIter _) (fun it s₂ => LoopAtV _ _ _ _ _ _ _ _ _ it s₂) _ _)); (first | (k_unfold; (try dsimp only)) | walk1 | (dsimp only; walk1) | (leave1; walk_say "STEP leave1"; try dsimp only) | ((fail_if_success (show wpAny _ _ _ _ _ _)); dsimp only) | fail "no step")))
        rename Fr _ _ _ _ => kF
        rename News _ _ _ _ => kN
        refine ⟨_, _, _, _, [], rfl, kF, kN, (fun _ h => nomatch h), (fun q hq => by simpa using hq), (fun _ _ _ h => nomatch h), t', some v, ?_, rfl⟩
        rw [encs_take_succ hti]
        exact upd_loop (by decide)
      · rintro m₁ nx h₁ tk₁ ⟨tb, u, rfl, rfl⟩ kF kN
        change Fr g L' _ _ at kF
        change News g L' _ _ at kN
        have hle2 := @encs_len_l ts
        rw [hlen, List.take_length] at kF
        dsimp only
        have hbb : KBw.bInts (encs ts).toArray = (encs ts).map (fun c => (c.toNat : Int)) := rfl
        (repeat' ((fail_if_success (with_reducible first | (show wpAny _ _ (PySem.eval _ _) _ _ _; first | show wpAny _ _ (PySem.eval (.ListComp (.Call _ _ _ _) _ _ _) _) _ _ _) | (show wpAny _ _ (exec _ _) _ _ _; first | show wpAny _ _ (exec (.While _ _ _ _) _) _ _ _ | show wpAny _ _ (exec (.For _ _ _ _ _) _) _ _ _) | (show wpAny _ _ (PySem.call _ _) _ _ _; first | refine h_ref (by decide) ?_ | show wpAny _ _ (PySem.call (.builtin "len") [.ref _]) _ _ _) | show wpAny _ _ (pyIter _) (fun it s₂ => LoopAtV _ _ _ _ _ _ _ _ _ it s₂) _ _ | show wpAny _ _ (subscriptTail _ _ (.ref _) (.int _ _)) _ _ _ | show wpAny _ _ (binaryOp .Add (.bytes _ _) (.bytes _ _)) _ _ _)); (first | (k_unfold; (try dsimp only)) | walk1 | (dsimp only; walk1) | (leave1; walk_say "STEP leave1"; try dsimp only) | ((fail_if_success (show wpAny _ _ _ _ _ _)); dsimp only) | fail "no step")))
        refine addO (by have := preO_len (n := (encs ts).length) (off := 192) (by omega); omega) fun t' k => ?_
        (repeat' ((fail_if_success (with_reducible first | (show wpAny _ _ (PySem.eval _ _) _ _ _; first | show wpAny _ _ (PySem.eval (.ListComp (.Call _ _ _ _) _ _ _) _) _ _ _) | (show wpAny _ _ (exec _ _) _ _ _; first | show wpAny _ _ (exec (.While _ _ _ _) _) _ _ _ | show wpAny _ _ (exec (.For _ _ _ _ _) _) _ _ _) | (show wpAny _ _ (PySem.call _ _) _ _ _; first | refine h_ref (by decide) ?_) | show wpAny _ _ (pyIter _) (fun it s₂ => LoopAtV _ _ _ _ _ _ _ _ _ it s₂) _ _)); (first | (k_unfold; (try dsimp only)) | walk1 | (dsimp only; walk1) | (leave1; walk_say "STEP leave1"; try dsimp only) | ((fail_if_success (show wpAny _ _ _ _ _ _)); dsimp only) | fail "no step")))
        rename Fr _ _ _ _ => kF
        refine ret _ _ _ [] kF.keep (fun _ h => nomatch h) ⟨rfl, ?_⟩
        rw [enc]
        exact ⟨_, rfl⟩
theorem law_encoded_spec (t : Tr) (g : Heap) (v : Value) (hv : Item (PG g) t v) (hz : (enc t).length ≤ 1000000) :
    Call0 Challenge.rw_is0005_01.row.prog w (hd.heap_1 w.params) p loose mean mg mb 178 [v] (dep t + 4) (8 * dep t + 32) g [] (fun mt r => mt = [] ∧ ∃ tk, r = .bytes (enc t).toArray tk) :=
  law_encoded_all (dep t + 1) t (Nat.lt_succ_self _) g v hv hz
end
end Mine

-- P4
namespace Mine

def hdr : Tr → Oct
  | .b bs => if bs.length = 1 ∧ bs.headD 0 < 128 then [] else preO bs.length 128
  | .l ts => preO (encs ts).length 192
def bod : Tr → Oct
  | .b bs => bs
  | .l ts => encs ts
def knd : Tr → Str
  | .b _ => Str.ofString "bytes"
  | .l _ => Str.ofString "list"
theorem enc_eq (t : Tr) : enc t = hdr t ++ bod t := by
  cases t with
  | b bs => rw [enc, hdr, bod]; split <;> rfl
  | l ts => rw [enc, hdr, bod]

/-- an encoding of t stands in d at k -/
def At (d : Oct) (k : Int) (e : Oct) : Prop := 0 ≤ k ∧ k ≤ (d.length : Int) ∧ ∃ rest, d.drop k.toNat = e ++ rest

theorem clip_nn {n : Nat} {i : Int} (h : 0 ≤ i) : clipAt n i = min i.toNat n := by
  have := clipAt_nat n i.toNat
  rw [Int.toNat_of_nonneg h] at this; exact this
theorem cut_eq (d : Oct) (i j : Nat) : (d.drop (min i d.length)).take (min j d.length - min i d.length) = (d.drop i).take (j - i) := by
  by_cases hi : i ≤ d.length
  · rw [Nat.min_eq_left hi]
    by_cases hj : j ≤ d.length
    · rw [Nat.min_eq_left hj]
    · rw [Nat.min_eq_right (Nat.le_of_not_le hj), List.take_of_length_le (by simp), List.take_of_length_le (by simp; omega)]
  · rw [Nat.min_eq_right (Nat.le_of_not_le hi), List.drop_eq_nil_of_le (Nat.le_refl _), List.drop_eq_nil_of_le (Nat.le_of_not_le hi)]; simp
section
variable {prog : Program} {w : World} {A : Around} {E : Value → Shared → Prop} {s : Shared} {h₀ : Heap} {L : Addr} {m : Str → Option Value} {news : List (Addr × Obj)}
theorem cutO {d : Oct} {i j : Int} {t ti tj : Tok} {value slice : PySem.Expr} {Q : Value → Shared → Prop} (F : Fr h₀ L s.heap m) (N : News h₀ L s.heap news) (h0 : 0 ≤ i) (h1 : 0 ≤ j) (hz : d.length ≤ 16777216) {r : Oct} (hr : (d.drop i.toNat).take (j.toNat - i.toNat) = r)
    (h : ∀ h' t' k, Fr h₀ L h' m → News h₀ L h' news → Q (.bytes r.toArray t') { s with heap := h', toks := k })
    (hs : subscripted slice false (.bytes d.toArray t) (.ref s.heap.objs.size) = operate [.ref s.heap.objs.size, .bytes d.toArray t] (getItem (.bytes d.toArray t) (.ref s.heap.objs.size)) := by with_unfolding_all rfl)
    (ht : ∀ r, letTemporaryGo value (.bytes d.toArray t) r = pure () := by intro _; with_unfolding_all rfl) :
    wpAny (model prog w) A (subscriptTail value slice (.bytes d.toArray t) (.ref s.heap.objs.size)) Q E { s with heap := s.heap.push { cls := .type "slice", data := .fields #[.int i ti, .int j tj, .none] } } := by
  refine KBc.slice_K (ks := d.map fun c => (c.toNat : Int)) F N rfl (lo := some i) (hi := some j) (by constructor) (by constructor) (by simpa using hz) (fun h' t' k F' N' _ => ?_) hs ht
  rw [KBc.picked_eq]
  simp only [Option.elim, List.size_toArray, clip_nn h0, clip_nn h1]
  rw [cut_eq, hr]
  exact h h' t' k F' N'
theorem atO {d : Oct} {i c : Int} {t ui : Tok} {value slice : PySem.Expr} {Q : Value → Shared → Prop} (h0 : 0 ≤ i) (h1 : i < (d.length : Int)) (hz : d.length ≤ 16777216) (hc : (((d.getD i.toNat 0).toNat : Nat) : Int) = c) (h : ∀ t' k, Q (.int c t') { s with toks := k })
    (hs : subscripted slice false (.bytes d.toArray t) (.int i ui) = operate [.bytes d.toArray t, .int i ui] (getItem (.bytes d.toArray t) (.int i ui)) := by with_unfolding_all rfl)
    (ht : ∀ r, letTemporaryGo value (.bytes d.toArray t) r = pure () := by intro _; with_unfolding_all rfl) : wpAny (model prog w) A (subscriptTail value slice (.bytes d.toArray t) (.int i ui)) Q E s :=
  bytes_item_K (by omega) h0 h1 hc (h _ _) hs ht
end
end Mine
local macro_rules | `(tactic| walk_at "subscriptTail") => `(tactic| (
  k_here
  (with_reducible show wpAny _ _ (subscriptTail _ _ (Value.bytes (List.toArray _) _) (Value.int _ _)) _ _ _)
  (refine atO (by omega) (by omega) (by omega) (by first | with_reducible assumption | exact rfl) ?_)
  intro _ _))
namespace Mine
end Mine
local macro_rules | `(tactic| walk_at "subscriptTail") => `(tactic| (
  k_here
  (with_reducible show wpAny _ _ (subscriptTail _ (Expr.Slice (some _) (some _) none _) (Value.bytes (List.toArray _) _) (Value.ref _)) _ _ _)
  (with_reducible rename Fr _ _ _ _ => F')
  (with_reducible rename News _ _ _ _ => N')
  (refine cutO (s := ⟨_, _, _, _, _⟩) F' N' (by omega) (by omega) (by omega) (by first | with_reducible assumption | exact rfl) ?_)
  intro _ _ _ F' N'))
namespace Mine

abbrev tupO (vs : List Value) : Obj := { cls := .type "tuple", data := .seq vs.toArray }


theorem at_cons {d e : Oct} {k : Int} {c : UInt8} (H : At d k (c :: e)) : 0 ≤ k ∧ k < (d.length : Int) ∧ d.getD k.toNat 0 = c ∧ At d (k + 1) e := by
  obtain ⟨h0, hkl, rest, h⟩ := H
  have hl := congrArg List.length h
  rw [List.length_drop, List.cons_append, List.length_cons] at hl
  have e1 : (k + 1).toNat = k.toNat + 1 := by omega
  refine ⟨h0, by omega, ?_, by omega, by omega, rest, ?_⟩
  · have := congrArg (fun l : Oct => l[0]?) h
    simp only [List.getElem?_drop, Nat.add_zero, List.cons_append, List.getElem?_cons_zero] at this
    simp [List.getD_eq_getElem?_getD, this]
  · rw [e1, ← List.drop_drop, h]; rfl
theorem at_app {d e f : Oct} {k : Int} (H : At d k (e ++ f)) : 0 ≤ k ∧ (∀ n, n = e.length → (d.drop k.toNat).take n = e) ∧ At d (k + e.length) f ∧ k + e.length ≤ (d.length : Int) := by
  obtain ⟨h0, hkl, rest, h⟩ := H
  have hl := congrArg List.length h
  rw [List.length_drop, List.length_append, List.length_append] at hl
  have e1 : (k + e.length).toNat = k.toNat + e.length := by omega
  refine ⟨h0, fun n hn => by rw [hn, h]; simp, ⟨by omega, by omega, rest, ?_⟩, by omega⟩
  rw [e1, ← List.drop_drop, h]; simp
theorem u8_toNat {n : Int} (h : 0 ≤ n ∧ n < 256) : (((n.toNat.toUInt8).toNat : Nat) : Int) = n := byte_back h.1 h.2
def digsO (n : Nat) : Oct := (digs n).map fun n => n.toNat.toUInt8
theorem digs_in : ∀ (n : Nat), ∀ x ∈ digs n, 0 ≤ x ∧ x < 256 := by
  intro n
  induction n using Nat.strongRecOn with
  | ind n ih =>
    by_cases z : n = 0
    · subst z; rw [digs_zero]; simp
    · rw [digs_pos z]
      intro x hx
      rcases List.mem_append.mp hx with hx | hx
      · exact ih (n / 256) (by omega) x hx
      · have := List.mem_singleton.mp hx; omega
theorem digs_value : ∀ (n : Nat), (digs n).foldl (fun a k => a * 256 + k) 0 = (n : Int) := by
  intro n
  induction n using Nat.strongRecOn with
  | ind n ih =>
    by_cases z : n = 0
    · subst z; rw [digs_zero]; rfl
    · rw [digs_pos z, List.foldl_append, ih (n / 256) (by omega)]
      simp only [List.foldl_cons, List.foldl_nil]
      omega
theorem digs_head : ∀ (n : Nat), n ≠ 0 → ∃ c r, digs n = c :: r ∧ 0 < c ∧ c < 256 := by
  intro n
  induction n using Nat.strongRecOn with
  | ind n ih =>
    intro z
    rw [digs_pos z]
    by_cases z2 : n / 256 = 0
    · rw [z2, digs_zero]; exact ⟨_, [], rfl, by omega, by omega⟩
    · obtain ⟨c, r, e, h⟩ := ih (n / 256) (by omega) z2
      rw [e]; exact ⟨c, _, rfl, h⟩
theorem digsO_len (n : Nat) : (digsO n).length = (digs n).length := by simp [digsO]
theorem digsO_ints (n : Nat) : KBw.bInts (digsO n).toArray = digs n := KBa.ints_make (ns := digs n) (digs_in n)
theorem digsO_head {n : Nat} (h : n ≠ 0) : ∃ c r, digsO n = c :: r ∧ c ≠ 0 := by
  obtain ⟨c, r, e, h1, h2⟩ := digs_head n h
  refine ⟨c.toNat.toUInt8, r.map fun n => n.toNat.toUInt8, by rw [digsO, e]; rfl, fun q => ?_⟩
  have := u8_toNat (n := c) ⟨by omega, h2⟩
  rw [q] at this
  have z : (0 : UInt8).toNat = 0 := rfl
  omega
theorem preO_short {n : Nat} {off : Int} (h : n < 56) : preO n off = [(off + n).toNat.toUInt8] := by rw [preO, pre, if_pos h]; rfl
theorem preO_long {n : Nat} {off : Int} (h : 56 ≤ n) : preO n off = (off + 55 + (digs n).length).toNat.toUInt8 :: digsO n := by rw [preO, pre, if_neg (by omega)]; rfl

section
variable {w : World} {p : Program} {loose : List Str} {mean : ExcName → Option Value} {mg mb : Str → Option Value}

def ClpPost (t : Tr) (k : Int) (mt : List (Addr × Obj)) (r : Value) : Prop :=
  ∃ a t1 t2 t3 t4, r = .ref a ∧ mt = [(a, tupO [.bytes (hdr t).toArray t1, .str (knd t) t2, .int (bod t).length t3, .int (k + (hdr t).length) t4])]

set_option maxHeartbeats 4000000 in
theorem clp_list_short (ts : List Tr) (hn : (encs ts).length < 56) (g : Heap) (d : Oct) (k : Int) (td tk : Tok) (H : At d k (enc (.l ts))) (hz : d.length ≤ 2000000) :
    Call0 Challenge.rw_is0005_01.row.prog w (hd.heap_1 w.params) p loose mean mg mb 76 [.bytes d.toArray td, .int k tk] 4 40 g [] (ClpPost (.l ts) k) := by
  w_top off
  k_fill
  intro dp un gd base outer s Q E C st sz N hdp hun ret
  walk_at "MINE enter"
  intro L' h' tk0 F' N' l1 B' X' T' CB'
  clear C
  replace F' : Fr g L' h' (fun y => List.lookup y [(Str.ofString "start", Value.int k tk), (Str.ofString "rlp", Value.bytes d.toArray td)]) := F'
  dsimp only
  try k_fold
  rw [enc, preO_short hn, List.cons_append, List.nil_append] at H
  obtain ⟨hk0, hklt, hb, H2⟩ := at_cons H
  have hb0 : (((d.getD k.toNat 0).toNat : Nat) : Int) = 192 + (encs ts).length := by rw [hb]; exact u8_toNat (by omega)
  have hc1 : (d.drop k.toNat).take ((k + 1).toNat - k.toNat) = hdr (.l ts) := by
    rw [hdr, preO_short hn]; exact (at_app (e := [_]) H).2.1 _ (by simp; omega)
  have hl : (hdr (.l ts)).length = 1 := by rw [hdr, preO_short hn]; rfl
  (repeat' ((fail_if_success (with_reducible first | (show wpAny _ _ (PySem.eval _ _) _ _ _; first | show wpAny _ _ (PySem.eval (.ListComp (.Call _ _ _ _) _ _ _) _) _ _ _) | (show wpAny _ _ (exec _ _) _ _ _; first | show wpAny _ _ (exec (.While _ _ _ _) _) _ _ _ | show wpAny _ _ (exec (.For _ _ _ _ _) _) _ _ _) | (show wpAny _ _ (PySem.call _ _) _ _ _; first | refine h_ref (by decide) ?_) | show wpAny _ _ (pyIter _) (fun it s₂ => LoopAtV _ _ _ _ _ _ _ _ _ it s₂) _ _)); (first | (k_unfold; (try dsimp only)) | walk1 | (dsimp only; walk1) | (leave1; walk_say "STEP leave1"; try dsimp only) | ((fail_if_success (show wpAny _ _ _ _ _ _)); dsimp only) | fail "no step")))
  rename Fr _ _ _ _ => kF
  rename News _ _ _ _ => kN
  rw [show (192 + ((encs ts).length : Int) - 192) = (bod (.l ts)).length by rw [bod]; omega, show k + 1 = k + ((hdr (.l ts)).length : Int) by rw [hl]; rfl] at kN
  exact ret _ _ _ _ kF.keep (fun q hq => ⟨(kN q hq).1, (kN q hq).2.2⟩) ⟨_, _, _, _, _, rfl, rfl⟩

set_option maxHeartbeats 4000000 in
theorem clp_bytes_short (bs : Oct) (hn : bs.length < 56) (hs : ¬ (bs.length = 1 ∧ bs.headD 0 < 128)) (g : Heap) (d : Oct) (k : Int) (td tk : Tok) (H : At d k (enc (.b bs))) (hz : d.length ≤ 2000000) :
    Call0 Challenge.rw_is0005_01.row.prog w (hd.heap_1 w.params) p loose mean mg mb 76 [.bytes d.toArray td, .int k tk] 4 40 g [] (ClpPost (.b bs) k) := by
  w_top off
  k_fill
  intro dp un gd base outer s Q E C st sz N hdp hun ret
  walk_at "MINE enter"
  intro L' h' tk0 F' N' l1 B' X' T' CB'
  clear C
  replace F' : Fr g L' h' (fun y => List.lookup y [(Str.ofString "start", Value.int k tk), (Str.ofString "rlp", Value.bytes d.toArray td)]) := F'
  dsimp only
  try k_fold
  rw [enc, if_neg hs, preO_short hn, List.cons_append, List.nil_append] at H
  obtain ⟨hk0, hklt, hb, H2⟩ := at_cons H
  have hb0 : (((d.getD k.toNat 0).toNat : Nat) : Int) = 128 + bs.length := by rw [hb]; exact u8_toNat (by omega)
  have hc1 : (d.drop k.toNat).take ((k + 1).toNat - k.toNat) = hdr (.b bs) := by
    rw [hdr, if_neg hs, preO_short hn]; exact (at_app (e := [_]) H).2.1 _ (by simp; omega)
  have hl : (hdr (.b bs)).length = 1 := by rw [hdr, if_neg hs, preO_short hn]; rfl
  have hb1 : bs.length = 1 → k + 1 < (d.length : Int) ∧ 128 ≤ (((d.getD (k + 1).toNat 0).toNat : Nat) : Int) := by
    intro h1
    match bs, h1 with
    | [c], _ =>
      obtain ⟨_, h3, h4, _⟩ := at_cons H2
      refine ⟨h3, ?_⟩
      rw [h4]
      have : ¬ (c < 128) := fun q => hs ⟨rfl, q⟩
      rw [UInt8.lt_iff_toNat_lt] at this
      have z : (128 : UInt8).toNat = 128 := rfl
      omega
  (repeat' ((fail_if_success (with_reducible first | (show wpAny _ _ (PySem.eval _ _) _ _ _; first | show wpAny _ _ (PySem.eval (.ListComp (.Call _ _ _ _) _ _ _) _) _ _ _) | (show wpAny _ _ (exec _ _) _ _ _; first | show wpAny _ _ (exec (.While _ _ _ _) _) _ _ _ | show wpAny _ _ (exec (.For _ _ _ _ _) _) _ _ _) | (show wpAny _ _ (PySem.call _ _) _ _ _; first | refine h_ref (by decide) ?_) | show wpAny _ _ (pyIter _) (fun it s₂ => LoopAtV _ _ _ _ _ _ _ _ _ it s₂) _ _)); (first | (k_unfold; (try dsimp only)) | walk1 | (dsimp only; walk1) | (leave1; walk_say "STEP leave1"; try dsimp only) | ((fail_if_success (show wpAny _ _ _ _ _ _)); dsimp only) | fail "no step")))
  · have := hb1 (by omega); omega
  all_goals (
    rename Fr _ _ _ _ => kF
    rename News _ _ _ _ => kN
    rw [show (128 + (bs.length : Int) - 128) = (bod (.b bs)).length by rw [bod]; omega, show k + 1 = k + ((hdr (.b bs)).length : Int) by rw [hl]; rfl] at kN
    exact ret _ _ _ _ kF.keep (fun q hq => ⟨(kN q hq).1, (kN q hq).2.2⟩) ⟨_, _, _, _, _, rfl, rfl⟩)

set_option maxHeartbeats 4000000 in
theorem clp_bytes_long (bs : Oct) (hn : 56 ≤ bs.length) (hm : bs.length < 16777216) (g : Heap) (d : Oct) (k : Int) (td tk : Tok) (H : At d k (enc (.b bs))) (hz : d.length ≤ 2000000) :
    Call0 Challenge.rw_is0005_01.row.prog w (hd.heap_1 w.params) p loose mean mg mb 76 [.bytes d.toArray td, .int k tk] 4 40 g [] (ClpPost (.b bs) k) := by
  w_top off
  k_fill
  intro dp un gd base outer s Q E C st sz N hdp hun ret
  walk_at "MINE enter"
  intro L' h' tk0 F' N' l1 B' X' T' CB'
  clear C
  replace F' : Fr g L' h' (fun y => List.lookup y [(Str.ofString "start", Value.int k tk), (Str.ofString "rlp", Value.bytes d.toArray td)]) := F'
  dsimp only
  try k_fold
  have hs : ¬ (bs.length = 1 ∧ bs.headD 0 < 128) := fun h => by omega
  have hnd := digs_len 3 bs.length (by omega)
  have hdi := digsO_ints bs.length
  have hv := digs_value bs.length
  obtain ⟨c1, r1, hd1, hc0⟩ := digsO_head (n := bs.length) (by omega)
  have hnd1 : 1 ≤ (digs bs.length).length := by rw [← digsO_len, hd1]; simp
  rw [enc, if_neg hs, preO_long hn] at H
  obtain ⟨hk0, hklt, hb, H2⟩ := at_cons H
  have hb0 : (((d.getD k.toNat 0).toNat : Nat) : Int) = 183 + (digs bs.length).length := by rw [hb]; refine (u8_toNat (by omega)).trans (by omega)
  have hc1 : (d.drop k.toNat).take ((k + 1).toNat - k.toNat) = [(128 + 55 + ((digs bs.length).length : Int)).toNat.toUInt8] := (at_app (e := [_]) H).2.1 _ (by simp; omega)
  have hc2 : (d.drop (k + 1).toNat).take ((k + 2).toNat - (k + 1).toNat) = [c1] := by rw [hd1] at H2; exact (at_app (e := [_]) H2).2.1 _ (by simp; omega)
  have hc3 : (d.drop (k + 1).toNat).take ((k + 1 + (183 + ((digs bs.length).length : Int) - 183)).toNat - (k + 1).toNat) = digsO bs.length := (at_app H2).2.1 _ (by rw [digsO_len]; omega)
  have hh : hdr (.b bs) = (128 + 55 + ((digs bs.length).length : Int)).toNat.toUInt8 :: digsO bs.length := by rw [hdr, if_neg hs, preO_long hn]
  have hl : ((hdr (.b bs)).length : Int) = 1 + (digs bs.length).length := by rw [hh, List.length_cons, digsO_len]; omega
  (repeat' ((fail_if_success (with_reducible first | (show wpAny _ _ (PySem.eval _ _) _ _ _; first | show wpAny _ _ (PySem.eval (.ListComp (.Call _ _ _ _) _ _ _) _) _ _ _) | (show wpAny _ _ (exec _ _) _ _ _; first | show wpAny _ _ (exec (.While _ _ _ _) _) _ _ _ | show wpAny _ _ (exec (.For _ _ _ _ _) _) _ _ _) | (show wpAny _ _ (PySem.call _ _) _ _ _; first | refine h_ref (by decide) ?_) | show wpAny _ _ (pyIter _) (fun it s₂ => LoopAtV _ _ _ _ _ _ _ _ _ it s₂) _ _)); (first | (k_unfold; (try dsimp only)) | walk1 | (dsimp only; walk1) | (leave1; walk_say "STEP leave1"; try dsimp only) | ((fail_if_success (show wpAny _ _ _ _ _ _)); dsimp only) | fail "no step")))
  · exfalso
    rename (_ == _) = true => q
    simp at q
    exact hc0 q
  rename Fr _ _ _ _ => kF
  rename News _ _ _ _ => kN
  rw [hv, show ∀ x : UInt8, #[x] ++ (digsO bs.length).toArray = (x :: digsO bs.length).toArray from fun x => by simp, ← hh, show (k + 1 + (183 + ((digs bs.length).length : Int) - 183)) = k + ((hdr (.b bs)).length : Int) by rw [hl]; omega, show ((bs.length : Nat) : Int) = ((bod (.b bs)).length : Nat) from rfl] at kN
  exact ret _ _ _ [_] kF.keep (fun q hq => ⟨(kN q (by rw [List.mem_singleton.mp hq]; exact .head _)).1, (kN q (by rw [List.mem_singleton.mp hq]; exact .head _)).2.2⟩) ⟨_, _, _, _, _, rfl, rfl⟩

set_option maxHeartbeats 4000000 in
theorem clp_list_long (ts : List Tr) (hn : 56 ≤ (encs ts).length) (hm : (encs ts).length < 16777216) (g : Heap) (d : Oct) (k : Int) (td tk : Tok) (H : At d k (enc (.l ts))) (hz : d.length ≤ 2000000) :
    Call0 Challenge.rw_is0005_01.row.prog w (hd.heap_1 w.params) p loose mean mg mb 76 [.bytes d.toArray td, .int k tk] 4 40 g [] (ClpPost (.l ts) k) := by
  w_top off
  k_fill
  intro dp un gd base outer s Q E C st sz N hdp hun ret
  walk_at "MINE enter"
  intro L' h' tk0 F' N' l1 B' X' T' CB'
  clear C
  replace F' : Fr g L' h' (fun y => List.lookup y [(Str.ofString "start", Value.int k tk), (Str.ofString "rlp", Value.bytes d.toArray td)]) := F'
  dsimp only
  try k_fold
  have hnd := digs_len 3 (encs ts).length (by omega)
  have hdi := digsO_ints (encs ts).length
  have hv := digs_value (encs ts).length
  obtain ⟨c1, r1, hd1, hc0⟩ := digsO_head (n := (encs ts).length) (by omega)
  have hnd1 : 1 ≤ (digs (encs ts).length).length := by rw [← digsO_len, hd1]; simp
  rw [enc, preO_long hn] at H
  obtain ⟨hk0, hklt, hb, H2⟩ := at_cons H
  have hb0 : (((d.getD k.toNat 0).toNat : Nat) : Int) = 247 + (digs (encs ts).length).length := by rw [hb]; refine (u8_toNat (by omega)).trans (by omega)
  have hc1 : (d.drop k.toNat).take ((k + 1).toNat - k.toNat) = [(192 + 55 + ((digs (encs ts).length).length : Int)).toNat.toUInt8] := (at_app (e := [_]) H).2.1 _ (by simp; omega)
  have hc2 : (d.drop (k + 1).toNat).take ((k + 2).toNat - (k + 1).toNat) = [c1] := by rw [hd1] at H2; exact (at_app (e := [_]) H2).2.1 _ (by simp; omega)
  have hc3 : (d.drop (k + 1).toNat).take ((k + 1 + (247 + ((digs (encs ts).length).length : Int) - 192 - 56 + 1)).toNat - (k + 1).toNat) = digsO (encs ts).length := (at_app H2).2.1 _ (by rw [digsO_len]; omega)
  have hh : hdr (.l ts) = (192 + 55 + ((digs (encs ts).length).length : Int)).toNat.toUInt8 :: digsO (encs ts).length := by rw [hdr, preO_long hn]
  have hl : ((hdr (.l ts)).length : Int) = 1 + (digs (encs ts).length).length := by rw [hh, List.length_cons, digsO_len]; omega
  (repeat' ((fail_if_success (with_reducible first | (show wpAny _ _ (PySem.eval _ _) _ _ _; first | show wpAny _ _ (PySem.eval (.ListComp (.Call _ _ _ _) _ _ _) _) _ _ _) | (show wpAny _ _ (exec _ _) _ _ _; first | show wpAny _ _ (exec (.While _ _ _ _) _) _ _ _ | show wpAny _ _ (exec (.For _ _ _ _ _) _) _ _ _) | (show wpAny _ _ (PySem.call _ _) _ _ _; first | refine h_ref (by decide) ?_) | show wpAny _ _ (pyIter _) (fun it s₂ => LoopAtV _ _ _ _ _ _ _ _ _ it s₂) _ _)); (first | (k_unfold; (try dsimp only)) | walk1 | (dsimp only; walk1) | (leave1; walk_say "STEP leave1"; try dsimp only) | ((fail_if_success (show wpAny _ _ _ _ _ _)); dsimp only) | fail "no step")))
  · exfalso
    rename (_ == _) = true => q
    simp at q
    exact hc0 q
  rename Fr _ _ _ _ => kF
  rename News _ _ _ _ => kN
  rw [hv, show ∀ x : UInt8, #[x] ++ (digsO (encs ts).length).toArray = (x :: digsO (encs ts).length).toArray from fun x => by simp, ← hh, show (k + 1 + (247 + ((digs (encs ts).length).length : Int) - 192 - 56 + 1)) = k + ((hdr (.l ts)).length : Int) by rw [hl]; omega, show (((encs ts).length : Nat) : Int) = ((bod (.l ts)).length : Nat) from rfl] at kN
  exact ret _ _ _ [_] kF.keep (fun q hq => ⟨(kN q (by rw [List.mem_singleton.mp hq]; exact .head _)).1, (kN q (by rw [List.mem_singleton.mp hq]; exact .head _)).2.2⟩) ⟨_, _, _, _, _, rfl, rfl⟩

set_option maxHeartbeats 4000000 in
theorem clp_byte (c : UInt8) (hc : c < 128) (g : Heap) (d : Oct) (k : Int) (td tk : Tok) (H : At d k (enc (.b [c]))) (hz : d.length ≤ 2000000) :
    Call0 Challenge.rw_is0005_01.row.prog w (hd.heap_1 w.params) p loose mean mg mb 76 [.bytes d.toArray td, .int k tk] 4 40 g [] (ClpPost (.b [c]) k) := by
  w_top off
  k_fill
  intro dp un gd base outer s Q E C st sz N hdp hun ret
  walk_at "MINE enter"
  intro L' h' tk0 F' N' l1 B' X' T' CB'
  clear C
  replace F' : Fr g L' h' (fun y => List.lookup y [(Str.ofString "start", Value.int k tk), (Str.ofString "rlp", Value.bytes d.toArray td)]) := F'
  dsimp only
  try k_fold
  have hs : [c].length = 1 ∧ ([c] : Oct).headD 0 < 128 := ⟨rfl, hc⟩
  rw [enc, if_pos hs] at H
  obtain ⟨hk0, hklt, hb, H2⟩ := at_cons H
  have hb0 : (((d.getD k.toNat 0).toNat : Nat) : Int) = c.toNat := by rw [hb]
  have hlt : ((c.toNat : Nat) : Int) < 128 := by
    rw [UInt8.lt_iff_toNat_lt] at hc
    have z : (128 : UInt8).toNat = 128 := rfl
    omega
  have hh : hdr (.b [c]) = [] := by rw [hdr, if_pos hs]
  (repeat' ((fail_if_success (with_reducible first | (show wpAny _ _ (PySem.eval _ _) _ _ _; first | show wpAny _ _ (PySem.eval (.ListComp (.Call _ _ _ _) _ _ _) _) _ _ _) | (show wpAny _ _ (exec _ _) _ _ _; first | show wpAny _ _ (exec (.While _ _ _ _) _) _ _ _ | show wpAny _ _ (exec (.For _ _ _ _ _) _) _ _ _) | (show wpAny _ _ (PySem.call _ _) _ _ _; first | refine h_ref (by decide) ?_) | show wpAny _ _ (pyIter _) (fun it s₂ => LoopAtV _ _ _ _ _ _ _ _ _ it s₂) _ _)); (first | (k_unfold; (try dsimp only)) | walk1 | (dsimp only; walk1) | (leave1; walk_say "STEP leave1"; try dsimp only) | ((fail_if_success (show wpAny _ _ _ _ _ _)); dsimp only) | fail "no step")))
  rename Fr _ _ _ _ => kF
  rename News _ _ _ _ => kN
  have hp : ∀ a t1 t2 t3 t4, ClpPost (.b [c]) k [(a, tupO [.bytes #[] t1, .str (Str.ofString "bytes") t2, .int 1 t3, .int k t4])] (.ref a) := fun a t1 t2 t3 t4 => by
    refine ⟨a, t1, t2, t3, t4, rfl, ?_⟩
    rw [hh, List.length_nil, show k + ((0 : Nat) : Int) = k by omega]
    rfl
  exact ret _ _ _ _ kF.keep (fun q hq => ⟨(kN q hq).1, (kN q hq).2.2⟩) (hp _ _ _ _ _)

theorem clp_spec (t : Tr) (hm : (bod t).length < 16777216) (g : Heap) (d : Oct) (k : Int) (td tk : Tok) (H : At d k (enc t)) (hz : d.length ≤ 2000000) :
    Call0 Challenge.rw_is0005_01.row.prog w (hd.heap_1 w.params) p loose mean mg mb 76 [.bytes d.toArray td, .int k tk] 4 40 g [] (ClpPost t k) := by
  cases t with
  | b bs =>
    by_cases hn : bs.length < 56
    · by_cases hs : bs.length = 1 ∧ bs.headD 0 < 128
      · match bs, hs with
        | [c], ⟨_, hc⟩ => exact clp_byte c hc g d k td tk H hz
      · exact clp_bytes_short bs hn hs g d k td tk H hz
    · exact clp_bytes_long bs (by omega) hm g d k td tk H hz
  | l ts =>
    by_cases hn : (encs ts).length < 56
    · exact clp_list_short ts hn g d k td tk H hz
    · exact clp_list_long ts (by omega) hm g d k td tk H hz
end
end Mine

-- P5
namespace Mine

section
variable {prog : Program} {w : World} {A : Around} {E : Value → Shared → Prop} {s : Shared}
theorem noI_bytes_add : typeLookup (.type "bytes") (dunderI "add") = pure none := by rw [typeLookup_type, builtinLookup_eq_fast]; kernel_rfl
theorem iaddO {b c : Oct} {t u : Tok} {Q : Value → Shared → Prop} (hsz : b.length + c.length ≤ 16777216) (h : ∀ t' k, Q (.bytes (b ++ c).toArray t') { s with toks := k }) : wpAny (model prog w) A (inplaceOp .Add (.bytes b.toArray t) (.bytes c.toArray u)) Q E s := by
  refine wpAny_inplaceOp_concat (typeIs_bytes s _ t) (typeIs_bytes s _ u) noI_bytes_add KBy.noFill_bytes_add KBy.seq_bytes_add (call_gives FB.slot_bytes_add (typeIs_bytes s _ t) FB.entry_bytes_add (FB.args_bytes_add_2 _ _) (KBy.gives_bytes_add (KBy.tooLong_not (by simpa using hsz))) ?_)
  rw [← List.append_toArray] at h
  by_cases hb : b.toArray.isEmpty = true
  · rw [if_pos hb]
    have e : b.toArray = #[] := Array.isEmpty_iff.1 hb
    have h' := h u s.toks
    rw [e, Array.empty_append] at h'
    exact h'
  · rw [if_neg hb]
    by_cases hc : c.toArray.isEmpty = true
    · rw [if_pos hc]
      have e : c.toArray = #[] := Array.isEmpty_iff.1 hc
      have h' := h t s.toks
      rw [e, Array.append_empty] at h'
      exact h'
    · rw [if_neg hc]
      exact ⟨by rw [Array.size_append, sizeLine_eq]; simpa using hsz, h s.toks (s.toks + 1)⟩
end

theorem enc_pos (t : Tr) : 1 ≤ (enc t).length := by
  cases t with
  | b bs =>
    rw [enc]
    split
    · rename_i h; omega
    · have := preO_pos bs.length 128; rw [List.length_append]; omega
  | l ts => rw [enc, List.length_append]; have := preO_pos (encs ts).length 192; omega
theorem encs_ge : ∀ (ts : List Tr), ts.length ≤ (encs ts).length
  | [] => Nat.le_refl _
  | t :: ts => by rw [encs, List.length_append, List.length_cons]; have := enc_pos t; have := encs_ge ts; omega

def CpPost (t : Tr) (e : Int) (mt : List (Addr × Obj)) (r : Value) : Prop :=
  ∃ a b v t1 te n vs tl, r = .ref a ∧ mt = (a, tupO [v, .ref b, .int e te]) :: (b, W.listOf (.bytes (enc t).toArray t1 :: vs).toArray n) :: tl ∧ Item (PL tl) t v

section
variable {w : World} {p : Program} {loose : List Str} {mean : ExcName → Option Value} {mg mb : Str → Option Value}

set_option maxHeartbeats 4000000 in
theorem cp_all : ∀ (n : Nat) (t : Tr), dep t < n → ∀ (g : Heap) (d : Oct) (k : Int) (td tp tq tt tz : Tok), At d k (bod t) → d.length ≤ 2000000 → (enc t).length ≤ 1000000 →
    Call0 Challenge.rw_is0005_01.row.prog w (hd.heap_1 w.params) p loose mean mg mb 83 [.bytes d.toArray td, .bytes (hdr t).toArray tp, .int k tq, .str (knd t) tt, .int (bod t).length tz] (dep t + 6) (8 * dep t + 60) g [] (CpPost t (k + (bod t).length)) := by
  intro n
  induction n with
  | zero => intro t ht; exact absurd ht (Nat.not_lt_zero _)
  | succ n ih =>
    intro t ht g d k td tp tq tt tz H hz he
    w_top off
    k_fill
    intro dp un gd base outer s Q E C st sz N hdp hun ret
    walk_at "MINE enter"
    intro L' h' tk0 F' N' l1 B' X' T' CB'
    clear C
    replace F' : Fr g L' h' (fun y => List.lookup y [(Str.ofString "length", Value.int (bod t).length tz), (Str.ofString "type_", Value.str (knd t) tt), (Str.ofString "start", Value.int k tq), (Str.ofString "prefix", Value.bytes (hdr t).toArray tp), (Str.ofString "rlp", Value.bytes d.toArray td)]) := F'
    dsimp only
    try k_fold
    cases t with
    | b bs =>
      rw [knd] at F'
      have hk0 : 0 ≤ k := H.1
      have hbl : ((bod (.b bs)).length : Int) = bs.length := rfl
      obtain ⟨_, hap, _, hle⟩ := at_app (e := bs) (f := []) (by rw [List.append_nil]; exact H)
      have hc1 : (d.drop k.toNat).take ((k + ((bod (.b bs)).length : Int)).toNat - k.toNat) = bod (.b bs) := hap _ (by rw [hbl]; omega)
      have hen : (hdr (.b bs)).length + (bod (.b bs)).length ≤ 1000000 := by rw [enc_eq, List.length_append] at he; exact he
      (repeat' ((fail_if_success (with_reducible first | (show wpAny _ _ (PySem.eval _ _) _ _ _; first | show wpAny _ _ (PySem.eval (.ListComp (.Call _ _ _ _) _ _ _) _) _ _ _) | (show wpAny _ _ (exec _ _) _ _ _; first | show wpAny _ _ (exec (.While _ _ _ _) _) _ _ _ | show wpAny _ _ (exec (.For _ _ _ _ _) _) _ _ _) | (show wpAny _ _ (PySem.call _ _) _ _ _; first | refine h_ref (by decide) ?_ | show wpAny _ _ (PySem.call (.builtin "len") [.ref _]) _ _ _) | show wpAny _ _ (pyIter _) (fun it s₂ => LoopAtV _ _ _ _ _ _ _ _ _ it s₂) _ _ | show wpAny _ _ (subscriptTail _ _ (.ref _) (.int _ _)) _ _ _ | show wpAny _ _ (binaryOp .Add (.bytes _ _) (.bytes _ _)) _ _ _)); (first | (k_unfold; (try dsimp only)) | walk1 | (dsimp only; walk1) | (leave1; walk_say "STEP leave1"; try dsimp only) | ((fail_if_success (show wpAny _ _ _ _ _ _)); dsimp only) | fail "no step")))
      refine addO (by omega) fun t' k => ?_
      rw [← enc_eq]
      (repeat' ((fail_if_success (with_reducible first | (show wpAny _ _ (PySem.eval _ _) _ _ _; first | show wpAny _ _ (PySem.eval (.ListComp (.Call _ _ _ _) _ _ _) _) _ _ _) | (show wpAny _ _ (exec _ _) _ _ _; first | show wpAny _ _ (exec (.While _ _ _ _) _) _ _ _ | show wpAny _ _ (exec (.For _ _ _ _ _) _) _ _ _) | (show wpAny _ _ (PySem.call _ _) _ _ _; first | refine h_ref (by decide) ?_) | show wpAny _ _ (pyIter _) (fun it s₂ => LoopAtV _ _ _ _ _ _ _ _ _ it s₂) _ _)); (first | (k_unfold; (try dsimp only)) | walk1 | (dsimp only; walk1) | (leave1; walk_say "STEP leave1"; try dsimp only) | ((fail_if_success (show wpAny _ _ _ _ _ _)); dsimp only) | fail "no step")))
      rename Fr _ _ _ _ => kF
      rename News _ _ _ _ => kN
      exact ret _ _ _ _ kF.keep (fun q hq => ⟨(kN q hq).1, (kN q hq).2.2⟩) ⟨_, _, _, _, _, _, [], [], rfl, rfl, _, rfl⟩
    | l ts =>
      rw [knd] at F'
      have hk0 : 0 ≤ k := H.1
      (repeat' ((fail_if_success (with_reducible first | (show wpAny _ _ (PySem.eval _ _) _ _ _; first | show wpAny _ _ (PySem.eval (.ListComp (.Call _ _ _ _) _ _ _) _) _ _ _) | (show wpAny _ _ (exec _ _) _ _ _; first | show wpAny _ _ (exec (.While _ _ _ _) _) _ _ _ | show wpAny _ _ (exec (.For _ _ _ _ _) _) _ _ _) | (show wpAny _ _ (PySem.call _ _) _ _ _; first | refine h_ref (by decide) ?_) | show wpAny _ _ (pyIter _) (fun it s₂ => LoopAtV _ _ _ _ _ _ _ _ _ it s₂) _ _)); (first | (k_unfold; (try dsimp only)) | walk1 | (dsimp only; walk1) | (leave1; walk_say "STEP leave1"; try dsimp only) | ((fail_if_success (show wpAny _ _ _ _ _ _)); dsimp only) | fail "no step")))
      rename Fr _ _ _ _ => kF
      rename News _ _ _ _ => kN
      rename_i li _ _ _ _ lp _ _ _ _ _ _
      have hbl : bod (.l ts) = encs ts := rfl
      rw [hbl] at kF H
      have hne : lp ≠ li := Nat.ne_of_gt (by assumption)
      refine While_inv2 (fun q m₁ nx => ∃ i vs ws n1 n2 tl tkl tkn, i ≤ ts.length ∧ q = ts.length - i ∧ nx = (lp, W.listOf (List.toArray ws) n2) :: (li, W.listOf (List.toArray vs) n1) :: tl ∧ Items (PL tl) (ts.take i) vs ∧ ws.length = i ∧ (∀ q ∈ tl, q.1 ≠ lp) ∧ (∀ q ∈ tl, q.1 ≠ li) ∧
        m₁ (Str.ofString "rlp") = some (.bytes d.toArray td) ∧ m₁ (Str.ofString "items") = some (.ref li) ∧ m₁ (Str.ofString "per_item_rlp") = some (.ref lp) ∧ m₁ (Str.ofString "list_rlp") = some (.bytes (hdr (.l ts) ++ encs (ts.take i)).toArray tkl) ∧
        m₁ (Str.ofString "next_item_start") = some (.int (k + (encs (ts.take i)).length) tkn) ∧ ∃ tke, m₁ (Str.ofString "end") = some (.int (k + (encs ts).length) tke)) (n₀ := ts.length) kF kN ?_ ?_
      · refine ⟨0, [], [], _, _, [], tp, tq, Nat.zero_le _, rfl, rfl, rfl, rfl, (fun _ h => nomatch h), (fun _ h => nomatch h), rfl, rfl, rfl, ?_, ?_, _, rfl⟩
        · rw [show hdr (.l ts) ++ encs (ts.take 0) = hdr (.l ts) by simp [encs]]; rfl
        · rw [show k + ((encs (ts.take 0)).length : Int) = k by simp [encs]]; rfl
      · clear kF kN
        rintro q m₁ nx h₁ tk₁ kF kN ⟨i, vs, ws, n1, n2, tl, tkl, tkn, hi, rfl, rfl, hV, hw, ha1, ha2, m1, m2, m3, m4, m5, tke, m6⟩
        k_fold
        (repeat' ((fail_if_success (with_reducible first | (show wpAny _ _ (PySem.eval _ _) _ _ _; first | show wpAny _ _ (PySem.eval (.ListComp (.Call _ _ _ _) _ _ _) _) _ _ _) | (show wpAny _ _ (exec _ _) _ _ _; first | show wpAny _ _ (exec (.While _ _ _ _) _) _ _ _ | show wpAny _ _ (exec (.For _ _ _ _ _) _) _ _ _) | (show wpAny _ _ (PySem.call _ _) _ _ _; first | refine h_ref (by decide) ?_) | show wpAny _ _ (pyIter _) (fun it s₂ => LoopAtV _ _ _ _ _ _ _ _ _ it s₂) _ _)); (first | (k_unfold; (try dsimp only)) | walk1 | (dsimp only; walk1) | (leave1; walk_say "STEP leave1"; try dsimp only) | ((fail_if_success (show wpAny _ _ _ _ _ _)); dsimp only) | fail "no step")))
        · have hlt : i < ts.length := by
            refine Nat.lt_of_le_of_ne hi fun q => ?_
            subst q
            rw [List.take_length] at *
            omega
          obtain ⟨t, hti⟩ : ∃ t, ts[i]? = some t := ⟨ts[i], by simp [hlt]⟩
          have hle := enc_le_encs hti
          have hle2 := @encs_len_l ts
          have hdt := deps_le hti
          rw [dep] at ht hdp hun
          have Ht : At d (k + (encs (ts.take i)).length) (enc t ++ encs (ts.drop (i + 1))) := by
            rw [show encs ts = encs (ts.take i) ++ (enc t ++ encs (ts.drop (i + 1))) by rw [← List.append_assoc, ← encs_take_succ hti, ← encs_append, List.take_append_drop]] at H
            exact (at_app H).2.2.1
          have Ht1 : At d (k + (encs (ts.take i)).length) (enc t) := by obtain ⟨a, b, r, e⟩ := Ht; exact ⟨a, b, encs (ts.drop (i + 1)) ++ r, by rw [e, List.append_assoc]⟩
          have hbe : (enc t).length = (hdr t).length + (bod t).length := by rw [enc_eq, List.length_append]
          refine useP B' CB' kF kN rfl rfl (fun g2 _ _ => clp_spec t (by omega) g2 d _ _ _ Ht1 hz) (by walk_at "MINE room") (by walk_at "MINE room") ?_
          rintro r h2 tk2 tl2 kF kN hd ⟨a1, u1, u2, u3, u4, rfl, rfl⟩
          dsimp only
          (repeat' ((fail_if_success (with_reducible first | (show wpAny _ _ (PySem.eval _ _) _ _ _; first | show wpAny _ _ (PySem.eval (.ListComp (.Call _ _ _ _) _ _ _) _) _ _ _) | (show wpAny _ _ (exec _ _) _ _ _; first | show wpAny _ _ (exec (.While _ _ _ _) _) _ _ _ | show wpAny _ _ (exec (.For _ _ _ _ _) _) _ _ _) | (show wpAny _ _ (PySem.call _ _) _ _ _; first | refine h_ref (by decide) ?_) | show wpAny _ _ (pyIter _) (fun it s₂ => LoopAtV _ _ _ _ _ _ _ _ _ it s₂) _ _)); (first | (k_unfold; (try dsimp only)) | walk1 | (dsimp only; walk1) | (leave1; walk_say "STEP leave1"; try dsimp only) | ((fail_if_success (show wpAny _ _ _ _ _ _)); dsimp only) | fail "no step")))
          rename Fr _ _ _ _ => kF
          rename News _ _ _ _ => kN
          have Ht2 : At d (k + (encs (ts.take i)).length + (hdr t).length) (bod t) := by rw [enc_eq] at Ht1; exact (at_app Ht1).2.2.1
          refine useP (news := (lp, W.listOf (List.toArray ws) n2) :: (li, W.listOf (List.toArray vs) n1) :: tl) B' CB' kF (fun q hq => kN q (List.mem_append_right _ hq)) rfl rfl (fun g2 _ _ => ih t (by omega) g2 d _ _ _ _ _ _ Ht2 hz (by omega)) (by walk_at "MINE room") (by walk_at "MINE room") ?_
          clear kF kN hd h2 tk2
          rintro r h2 tk2 tl2 kF kN hd ⟨a2, b2, v2, s1, s2, n3, vs3, tl3, rfl, rfl, hit⟩
          have kN2 : News g L' h2 ((lp, W.listOf (List.toArray ws) n2) :: (li, W.listOf (List.toArray vs) n1) :: (a2, tupO [v2, .ref b2, .int (k + (encs (ts.take i)).length + (hdr t).length + (bod t).length) s2]) :: (b2, W.listOf (.bytes (enc t).toArray s1 :: vs3).toArray n3) :: (tl3 ++ tl)) := fun q hq => kN q (by
            simp only [List.mem_cons, List.mem_append] at hq ⊢
            rcases hq with q | q | q | q | q | q <;> simp [q])
          clear kN
          dsimp only
          (repeat' ((fail_if_success (with_reducible first | (show wpAny _ _ (PySem.eval _ _) _ _ _; first | show wpAny _ _ (PySem.eval (.ListComp (.Call _ _ _ _) _ _ _) _) _ _ _) | (show wpAny _ _ (exec _ _) _ _ _; first | show wpAny _ _ (exec (.While _ _ _ _) _) _ _ _ | show wpAny _ _ (exec (.For _ _ _ _ _) _) _ _ _) | (show wpAny _ _ (PySem.call _ _) _ _ _; first | refine h_ref (by decide) ?_) | show wpAny _ _ (pyIter _) (fun it s₂ => LoopAtV _ _ _ _ _ _ _ _ _ it s₂) _ _)); (first | (k_unfold; (try dsimp only)) | walk1 | (dsimp only; walk1) | (leave1; walk_say "STEP leave1"; try dsimp only) | ((fail_if_success (show wpAny _ _ _ _ _ _)); dsimp only) | fail "no step")))
          have hge := encs_ge ts
          have hvl := hV.length
          rw [List.length_take] at hvl
          have hlpU : ∀ q ∈ (li, W.listOf (List.toArray vs) n1) :: (a2, tupO [v2, .ref b2, .int (k + (encs (ts.take i)).length + (hdr t).length + (bod t).length) s2]) :: (b2, W.listOf (.bytes (enc t).toArray s1 :: vs3).toArray n3) :: (tl3 ++ tl), q.1 ≠ lp := by
            intro q hq
            simp only [List.mem_cons, List.mem_append] at hq
            rcases hq with rfl | rfl | rfl | hq | hq
            · exact hne.symm
            · exact hd _ (by simp) (lp, _) (.head _)
            · exact hd _ (by simp) (lp, _) (.head _)
            · exact hd _ (by simp [hq]) (lp, _) (.head _)
            · exact ha1 q hq
          have hliU : ∀ q ∈ (a2, tupO [v2, .ref b2, .int (k + (encs (ts.take i)).length + (hdr t).length + (bod t).length) s2]) :: (b2, W.listOf (.bytes (enc t).toArray s1 :: vs3).toArray n3) :: (tl3 ++ tl), q.1 ≠ li := by
            intro q hq
            simp only [List.mem_cons, List.mem_append] at hq
            rcases hq with rfl | rfl | hq | hq
            · exact hd _ (by simp) (li, _) (.tail _ (.head _))
            · exact hd _ (by simp) (li, _) (.tail _ (.head _))
            · exact hd _ (by simp [hq]) (li, _) (.tail _ (.head _))
            · exact ha2 q hq
          rename Fr _ _ _ _ => kF
          rename News _ _ _ _ => kN
          refine append_K kF kN (Upd.head hlpU) (fun h3 kF kN => ?_) (by rw [sizeLine_eq, List.size_toArray]; omega)
          (repeat' ((fail_if_success (with_reducible first | (show wpAny _ _ (PySem.eval _ _) _ _ _; first | show wpAny _ _ (PySem.eval (.ListComp (.Call _ _ _ _) _ _ _) _) _ _ _) | (show wpAny _ _ (exec _ _) _ _ _; first | show wpAny _ _ (exec (.While _ _ _ _) _) _ _ _ | show wpAny _ _ (exec (.For _ _ _ _ _) _) _ _ _) | (show wpAny _ _ (PySem.call _ _) _ _ _; first | refine h_ref (by decide) ?_) | show wpAny _ _ (pyIter _) (fun it s₂ => LoopAtV _ _ _ _ _ _ _ _ _ it s₂) _ _)); (first | (k_unfold; (try dsimp only)) | walk1 | (dsimp only; walk1) | (leave1; walk_say "STEP leave1"; try dsimp only) | ((fail_if_success (show wpAny _ _ _ _ _ _)); dsimp only) | fail "no step")))
          have hhd := congrArg List.length (enc_eq (.l ts))
          rw [List.length_append] at hhd
          have hbl2 : (bod (.l ts)).length = (encs ts).length := rfl
          refine iaddO (by rw [List.length_append]; omega) fun t3 k3 => ?_
          (repeat' ((fail_if_success (with_reducible first | (show wpAny _ _ (PySem.eval _ _) _ _ _; first | show wpAny _ _ (PySem.eval (.ListComp (.Call _ _ _ _) _ _ _) _) _ _ _) | (show wpAny _ _ (exec _ _) _ _ _; first | show wpAny _ _ (exec (.While _ _ _ _) _) _ _ _ | show wpAny _ _ (exec (.For _ _ _ _ _) _) _ _ _) | (show wpAny _ _ (PySem.call _ _) _ _ _; first | refine h_ref (by decide) ?_) | show wpAny _ _ (pyIter _) (fun it s₂ => LoopAtV _ _ _ _ _ _ _ _ _ it s₂) _ _)); (first | (k_unfold; (try dsimp only)) | walk1 | (dsimp only; walk1) | (leave1; walk_say "STEP leave1"; try dsimp only) | ((fail_if_success (show wpAny _ _ _ _ _ _)); dsimp only) | fail "no step")))
          refine append_K (by assumption) (by assumption) (Upd.tail hne (Upd.head hliU)) (fun h3 kF kN => ?_) (by rw [sizeLine_eq, List.size_toArray]; omega)
          (repeat' ((fail_if_success (with_reducible first | (show wpAny _ _ (PySem.eval _ _) _ _ _; first | show wpAny _ _ (PySem.eval (.ListComp (.Call _ _ _ _) _ _ _) _) _ _ _) | (show wpAny _ _ (exec _ _) _ _ _; first | show wpAny _ _ (exec (.While _ _ _ _) _) _ _ _ | show wpAny _ _ (exec (.For _ _ _ _ _) _) _ _ _) | (show wpAny _ _ (PySem.call _ _) _ _ _; first | refine h_ref (by decide) ?_) | show wpAny _ _ (pyIter _) (fun it s₂ => LoopAtV _ _ _ _ _ _ _ _ _ it s₂) _ _)); (first | (k_unfold; (try dsimp only)) | walk1 | (dsimp only; walk1) | (leave1; walk_say "STEP leave1"; try dsimp only) | ((fail_if_success (show wpAny _ _ _ _ _ _)); dsimp only) | fail "no step")))
          rw [List.push_toArray, List.push_toArray] at kN
          refine ⟨_, _, _, (lp, W.listOf (List.toArray (ws ++ [.ref b2])) (n2 + 1)) :: (li, W.listOf (List.toArray (vs ++ [v2])) (n1 + 1)) :: (tl3 ++ tl), ts.length - (i + 1), rfl, kF, fun q hq => kN q ?_, by omega, i + 1, vs ++ [v2], ws ++ [.ref b2], n1 + 1, n2 + 1, tl3 ++ tl, t3, s2, by omega, rfl, rfl, ?_, by rw [List.length_append, hw]; rfl,
            fun q hq => hlpU q (by simp only [List.mem_cons]; exact .inr (.inr (.inr hq))), fun q hq => hliU q (by simp only [List.mem_cons]; exact .inr (.inr hq)), m1, m2, m3, ?_, ?_, tke, m6⟩
          · simp only [List.mem_cons] at hq ⊢
            rcases hq with q | q | q
            · exact .inl q
            · exact .inr (.inl q)
            · exact .inr (.inr (.inr (.inr q)))
          · rw [List.take_add_one, hti]
            exact Items.append (hV.mono fun a vs x => x.sub fun q hq => List.mem_append_right _ hq) (Items.one (hit.mono fun a vs x => x.sub fun q hq => List.mem_append_left _ hq))
          · rw [encs_take_succ hti, ← List.append_assoc]; rfl
          · rw [encs_take_succ hti, List.length_append, hbe, show k + (((encs (ts.take i)).length + ((hdr t).length + (bod t).length) : Nat) : Int) = k + (encs (ts.take i)).length + (hdr t).length + (bod t).length by omega]; rfl
        · have hii : i = ts.length := by
            refine Nat.le_antisymm hi ?_
            have h1 := congrArg List.length (encs_append (ts.take i) (ts.drop i))
            rw [List.take_append_drop, List.length_append] at h1
            have h2 := encs_ge (ts.drop i)
            rw [List.length_drop] at h2
            omega
          subst hii
          rw [List.take_length] at *
          (repeat' ((fail_if_success (with_reducible first | (show wpAny _ _ (PySem.eval _ _) _ _ _; first | show wpAny _ _ (PySem.eval (.ListComp (.Call _ _ _ _) _ _ _) _) _ _ _) | (show wpAny _ _ (exec _ _) _ _ _; first | show wpAny _ _ (exec (.While _ _ _ _) _) _ _ _ | show wpAny _ _ (exec (.For _ _ _ _ _) _) _ _ _) | (show wpAny _ _ (PySem.call _ _) _ _ _; first | refine h_ref (by decide) ?_) | show wpAny _ _ (pyIter _) (fun it s₂ => LoopAtV _ _ _ _ _ _ _ _ _ it s₂) _ _)); (first | (k_unfold; (try dsimp only)) | walk1 | (dsimp only; walk1) | (leave1; walk_say "STEP leave1"; try dsimp only) | ((fail_if_success (show wpAny _ _ _ _ _ _)); dsimp only) | fail "no step")))
          have hge := encs_ge ts
          have hle2 := @encs_len_l ts
          have hlpU : ∀ q ∈ (li, W.listOf (List.toArray vs) n1) :: tl, q.1 ≠ lp := by
            intro q hq
            rcases List.mem_cons.mp hq with rfl | hq
            · exact hne.symm
            · exact ha1 q hq
          refine insert0 kF kN (Upd.head hlpU) (by rw [sizeLine_eq]; omega) ?_
          clear kF kN
          intro h3 kF kN
          (repeat' ((fail_if_success (with_reducible first | (show wpAny _ _ (PySem.eval _ _) _ _ _; first | show wpAny _ _ (PySem.eval (.ListComp (.Call _ _ _ _) _ _ _) _) _ _ _) | (show wpAny _ _ (exec _ _) _ _ _; first | show wpAny _ _ (exec (.While _ _ _ _) _) _ _ _ | show wpAny _ _ (exec (.For _ _ _ _ _) _) _ _ _) | (show wpAny _ _ (PySem.call _ _) _ _ _; first | refine h_ref (by decide) ?_) | show wpAny _ _ (pyIter _) (fun it s₂ => LoopAtV _ _ _ _ _ _ _ _ _ it s₂) _ _)); (first | (k_unfold; (try dsimp only)) | walk1 | (dsimp only; walk1) | (leave1; walk_say "STEP leave1"; try dsimp only) | ((fail_if_success (show wpAny _ _ _ _ _ _)); dsimp only) | fail "no step")))
          rename Fr _ _ _ _ => kF
          rename News _ _ _ _ => kN
          rw [show hdr (.l ts) ++ encs ts = enc (.l ts) from (enc_eq (.l ts)).symm] at kN
          exact ret _ _ _ _ kF.keep (fun q hq => ⟨(kN q hq).1, (kN q hq).2.2⟩) ⟨_, _, _, _, _, _, _, _, rfl, rfl, li, vs, rfl, ⟨n1, .head _⟩, hV.mono fun a vs x => x.sub fun q hq => .tail _ hq⟩

theorem cp_spec (t : Tr) (g : Heap) (d : Oct) (k : Int) (td tp tq tt tz : Tok) (H : At d k (bod t)) (hz : d.length ≤ 2000000) (he : (enc t).length ≤ 1000000) :
    Call0 Challenge.rw_is0005_01.row.prog w (hd.heap_1 w.params) p loose mean mg mb 83 [.bytes d.toArray td, .bytes (hdr t).toArray tp, .int k tq, .str (knd t) tt, .int (bod t).length tz] (dep t + 6) (8 * dep t + 60) g [] (CpPost t (k + (bod t).length)) :=
  cp_all (dep t + 1) t (Nat.lt_succ_self _) g d k td tp tq tt tz H hz he
end
end Mine

-- P6
namespace Mine

section
variable {prog : Program} {w : World} {K : Frag} {p : Program} {loose : List Str} {mean : ExcName → Option Value} {mg mb : Str → Option Value}
theorem enterC {base g : Heap} {outer : List Env} {A : Around} {s : Shared} {mt : List (Addr × Obj)} {R : Result → Shared → Prop} {name qual : Str} {params : Arguments} {body : List Stmt} {scope : Scope} {dV kV doc pm cdv ct oc : Value} {an od : Option Addr} {osl : Array (Option Value)} {f : Addr} {args : Args} {binds : List (Str × Value)}
    (C : Cx K p loose mean mg mb base outer A g) (st : g.StaysIn s.heap) (sz : g.objs.size ≤ s.heap.objs.size) (N : Led g s.heap mt)
    (ho : K.lookup f = some ⟨oc, od, .func (fnOf name qual params body scope dV kV doc pm an cdv ct), osl⟩) (hcd : codeIn K cdv qual = true) (hroom : A.depth < recursionLimit)
    (hbind : BindsTo s (fnOf name qual params body scope dV kV doc pm an cdv ct) args binds) (hkind : (binds.all fun y => scope.names.lookup y.1 == some .local || scope.names.lookup y.1 == some .cell) = true)
    (hnd : ((cellsFrom 0 scope.names []).map (·.1)).Nodup)
    (h : ∀ L' h₁ tk cells, Fr g L' h₁ (bindL (envOfC qual scope L' f cdv).kindOf binds fun _ => none) → News g L' h₁ (cells ++ mt) →
      CellsAre (bindC (envOfC qual scope L' f cdv).kindOf binds fun _ => none) (cellsFrom (L' + 1) scope.names []) cells → (∀ p ∈ mt, p.1 < L') → Below A base outer g → K.In g → Top p loose mean mg mb g → Cb K p loose mean mg mb base outer g →
      wpAny (model prog w) (A.deeper (envOfC qual scope L' f cdv)) (execs body (envOfC qual scope L' f cdv))
        (fun fl s' => R (.ok (.ret (match fl with | .ret v => v | _ => .none))) s')
        (fun e s' => wpAny (model prog w) (A.deeper (envOfC qual scope L' f cdv)) (leaving (envOfC qual scope L' f cdv) e) (fun _ s'' => R (.error e) s'') (fun e' s'' => R (.error e') s'') s')
        { s with heap := h₁, toks := tk })
    (hco : scope.isCoroutine = false) (hgen : scope.isGenerator = false) (hk : scope.kind = .function) : codeAny (model prog w) A (.call (.ref f) args) R s := by
  have X := C.X.keeps st
  refine codeAny_call_function hroom (X _ _ ho) rfl hco hgen rfl (codeRec_of X hcd) (hbind _ _ _ _ ?_)
  refine wpAny_newFunctionEnv_cells hk (kindsX hkind _) fun env' he s' x => ?_
  subst he
  refine ⟨(C.T.nolimit.keeps st).keeps x.toInCall.keep, codeAny_func ?_⟩
  obtain ⟨h₁, tk, rfl, _⟩ := x.done
  have hk₁ := x.toInCall.keep
  obtain ⟨cells, NC, Y⟩ := Cl.news (h₀ := s.heap) (Nat.le_refl _) fun n c hm => ⟨x.cell n c (lookup_of_mem_nodup (cellsFrom_names scope.names 0 (s.heap.objs.size + 1) [] [] rfl ▸ hnd) hm), x.above n c hm⟩
  refine h s.heap.objs.size h₁ tk cells ⟨x.toInCall.ns, fun b o e => hk₁ b o (st b o e), sz⟩ (fun p hp => ?_) Y (fun p hp => Heap.lt_size (N p hp).1) C.B C.X C.T C.C
  rcases List.mem_append.mp hp with hp | hp
  · refine ⟨(NC p hp).1, (NC p hp).2.1, ?_⟩
    cases q : g.get? p.1 with
    | none => rfl
    | some o => have := st _ _ q; rw [(NC p hp).2.2] at this; cases this
  · exact ⟨hk₁ _ _ (N p hp).1, Nat.ne_of_lt (Heap.lt_size (N p hp).1), (N p hp).2⟩
end
end Mine
local macro_rules | `(tactic| walk_at "MINE enterC") => `(tactic| (
  refine wpAny_call ?_
  k_dflt (refine' enterC ?k1 ?k2 ?k3 ?k4 ?k6 ?k7 ?k8 ?k9 ?kB ?kD ?_ ?c2 ?c3 ?c4
          (case k1 => assumption)
          (case k2 => assumption)
          (case k3 => assumption)
          (case k4 => assumption)
          (case k6 => k_is)
          (case k7 => k_is)
          (case k8 => first | omega | (dsimp only [arnd]; omega))
          (case k9 => first | exact BindsTo.of_eq rfl | exact binds_K (by k_in) rfl (by k_is) rfl rfl rfl)
          (case kB => exact rfl)
          (case kD => decide +kernel)
          (case c2 => exact rfl)
          (case c3 => exact rfl)
          (case c4 => exact rfl)
          k_whole)))
namespace Mine

section
variable {prog : Program} {w : World} {A : Around} {E : Value → Shared → Prop} {s : Shared} {h₀ : Heap} {L D : Addr} {m : Str → Option Value} {news news' : List (Addr × Obj)}
theorem pop0 {n : Nat} {u : Tok} {y : Value} {vs : List Value} {Q : Value → Shared → Prop} (F : Fr h₀ L s.heap m) (N : News h₀ L s.heap news) (U : Upd D (W.listOf (y :: vs).toArray n) (W.listOf vs.toArray (n + 1)) news news') (hz : vs.length + 1 ≤ sizeLine)
    (h : ∀ h', Fr h₀ L h' m → News h₀ L h' news' → Q y { s with heap := h' }) : wpAny (model prog w) A (call (.builtin "list.pop") [.ref D, .int 0 u]) Q E s :=
  kl_popAt (its := (y :: vs).toArray) (p := []) (q := vs) (k := 0) F N rfl (by simp [seqIndex?]) rfl U (by simpa using hz) h
end

section
variable {prog : Program} {w : World} {A : Around} {s : Shared} {h₀ : Heap} {L : Addr} {m : Str → Option Value} {env : Env}
theorem compRest_ind {elt : PySem.Expr} {x : Str} {scope : Scope} {cl : List (Str × Addr)} {S : List (Addr × Obj) → Prop} {P : Nat → Value → Prop} {Fin : List Value → List (Addr × Obj) → Prop} {n : Nat} (J : Nat → List Value → List (Addr × Obj) → Prop)
    (turn : ∀ i ys news, i < n → J i ys news → ∀ v I oI C oC D m₂ h tk (E' : Value → Shared → Prop), P i v → LCg.NsObj oC m₂ → m₂ x = some v → Fr h₀ L h m → News h₀ L h ((I, oI) :: (C, oC) :: (D, LCg.lst ys) :: news) → LCg.Off3 I C D news → ((@Ne Nat I C) ∧ (@Ne Nat I D) ∧ (@Ne Nat C D)) →
      wpAny (model prog w) A (eval elt (compEnvC scope cl C env)) (LCg.CompEnd h₀ L m { s with heap := h, toks := tk } I oI C oC D (LCg.lst ys) S (fun y news' => J (i + 1) (ys ++ [y]) news')) E' { s with heap := h, toks := tk })
    (fin : ∀ ys news, J n ys news → Fin ys news) : ∀ k i ys news, i + k = n → J i ys news → LCg.CompRest prog w A h₀ L m env elt x scope cl s S P Fin k i ys news := by
  intro k
  induction k with
  | zero => intro i ys news e hJ; exact fin ys news (by rw [← e]; exact hJ)
  | succ k ih =>
    intro i ys news e hJ
    refine LCg.CompRest.succ fun v I oI C oC D m₂ h tk E' hP hN hx F N off ne => ?_
    refine wpAny_mono (turn i ys news (by omega) hJ v I oI C oC D m₂ h tk E' hP hN hx F N off ne) (fun y s₂ hq => ?_) fun _ _ q => q
    obtain ⟨h', tk', news', e1, F', N', o', hS, hr⟩ := hq
    exact ⟨h', tk', news', e1, F', N', o', hS, ih (i + 1) (ys ++ [y]) news' (by omega) hr⟩
end

inductive CutR (P : Shared → Prop) (QQ : Flow → Shared → Prop) : Flow → Shared → Prop
  | next {s : Shared} : P s → CutR P QQ .next s
  | ret {v : Value} {s : Shared} : QQ (.ret v) s → CutR P QQ (.ret v) s
theorem ret_cutT {M : Model} {A : Around} {c : Sem Flow} {QQ : Flow → Shared → Prop} {E : Value → Shared → Prop} {s : Shared} (X : Prop) (h1 : X → ∀ tk', QQ .next { s with toks := tk' })
    (h2 : wpAny M A c (CutR (fun s' => X ∧ ∃ tk', s' = { s with toks := tk' }) QQ) E s) : wpAny M A c QQ E s :=
  wpAny_mono h2 (fun fl s' r => by
    cases r with
    | next h => obtain ⟨hX, tk', rfl⟩ := h; exact h1 hX tk'
    | ret h => exact h) fun _ _ e => e
end Mine
local macro_rules | `(tactic| walk_at "MINE upIf") => `(tactic| repeat' (
  (fail_if_success (with_reducible show wpAny _ _ (exec (.If _ _ _ _) _) _ _ _));
  (first | (k_unfold; (try dsimp only)) | walk1 | (dsimp only; walk1) | fail "no step")))
namespace Mine

def bnd : Nat → Nat
  | 0 => 60
  | k + 1 => 4 * bnd k + 4
theorem bnd_ge (k : Nat) : 60 ≤ bnd k := by
  induction k with
  | zero => exact Nat.le_refl _
  | succ k ih => rw [bnd]; omega

theorem bnd_mono : ∀ {a b : Nat}, a ≤ b → bnd a ≤ bnd b := by
  intro a b h
  induction h with
  | refl => exact Nat.le_refl _
  | step _ ih => rw [bnd]; omega
theorem deps_append : ∀ (ts us : List Tr), deps (ts ++ us) = max (deps ts) (deps us)
  | [], us => by simp [deps]
  | t :: ts, us => by rw [List.cons_append, deps, deps, deps_append ts us, Nat.max_assoc]
def LiPost (ln : Addr) (j : Nat) (mt : List (Addr × Obj)) (r : Value) : Prop :=
  ∃ t vs ns n tl, mt = (ln, W.listOf vs.toArray n) :: tl ∧ IntsAre vs ns ∧ vs.length ≤ 1000 ∧ Item (PL tl) t r ∧ dep t ≤ j ∧ (enc t).length ≤ bnd j ∧ ∀ q ∈ tl, q.1 ≠ ln
theorem li_bytes_end {g h' : Heap} {L ln : Addr} {j : Nat} {s : Shared} {Q : Value → Shared → Prop} {m : Str → Option Value} {news : List (Addr × Obj)} {vs : List Value} {ns l : List Int} {n : Nat} {t : Tok} {k : Nat}
    (ret : ∀ r h' tk' mt', g.StaysIn h' → Led g h' mt' → LiPost ln j mt' r → Q r { s with heap := h', toks := tk' }) (F : Fr g L h' m) (N : News g L h' news) (hm : (ln, W.listOf vs.toArray n) ∈ news) (hI : IntsAre vs ns) (hl : vs.length ≤ 1000) (hle : l.length ≤ 56) :
    Q (.bytes (byteArr l) t) { s with heap := h', toks := k } := by
  have hb : ((l.map fun n => n.toNat.toUInt8) : Oct).length ≤ 56 := by rw [List.length_map]; exact hle
  refine ret _ _ _ [(ln, W.listOf vs.toArray n)] F.keep (fun q hq => by rw [List.mem_singleton.mp hq]; exact ⟨(N _ hm).1, (N _ hm).2.2⟩) ⟨.b (l.map fun n => n.toNat.toUInt8), vs, ns, n, [], rfl, hI, hl, ⟨_, rfl⟩, by rw [dep]; omega, ?_, fun _ h => nomatch h⟩
  have := bnd_ge j
  rw [enc]
  split
  · omega
  · rw [List.length_append]
    have := preO_len (n := ((l.map fun n => n.toNat.toUInt8) : Oct).length) (off := 128) (by omega)
    omega

end Mine
local macro_rules | `(tactic| walk_at "MINE src") => `(tactic| repeat' (
  (fail_if_success (with_reducible show LCg.CompSrc _ _ _ _ _ _ _ _ _ _ _ _ _ _));
  (first | (k_unfold; (try dsimp only)) | walk1 | (dsimp only; walk1) | fail "no step")))
namespace Mine

section
variable {w : World} {p : Program} {loose : List Str} {mean : ExcName → Option Value} {mg mb : Str → Option Value}

set_option maxHeartbeats 4000000 in
theorem li_all : ∀ (j : Nat) (deep : Int), deep + j = 5 → 0 ≤ deep → ∀ (g : Heap) (ln : Addr) (vs : List Value) (ns : List Int) (n : Nat) (td : Tok), IntsAre vs ns → vs.length ≤ 1000 →
    Call0 Challenge.rw_is0005_01.row.prog w (hd.heap_1 w.params) p loose mean mg mb 183 [.ref ln, .int deep td] (j + 5) (8 * j + 60) g [(ln, W.listOf vs.toArray n)] (LiPost ln j) := by
  intro j
  induction j using Nat.strongRecOn with
  | ind j ih =>
    intro deep hj hd0 g ln vs ns n td hI hl
    w_top off
    k_fill
    intro dp un gd base outer s Q E C st sz N hdp hun ret
    walk_at "MINE enterC"
    intro L' h' tk0 cells' F' N' Y' l1 B' X' T' CB'
    clear C
    k_cells Y'
    simp only [List.cons_append, List.nil_append] at N'
    rename_i o1 o2 o3 d1 d2 d3
    replace d1 : o1.data = Data.cell none := d1
    replace d2 : o2.data = Data.cell (some (.int deep td)) := d2
    replace d3 : o3.data = Data.cell (some (.ref ln)) := d3
    obtain ⟨mm, F'⟩ : ∃ mm, Fr g L' h' mm := ⟨_, F'⟩
    dsimp only
    try k_fold
    cases hI with
    | nil =>
      (repeat' ((fail_if_success (with_reducible first | (show wpAny _ _ (PySem.eval _ _) _ _ _; first | show wpAny _ _ (PySem.eval (.ListComp (.Call _ _ _ _) _ _ _) _) _ _ _) | (show wpAny _ _ (exec _ _) _ _ _; first | show wpAny _ _ (exec (.While _ _ _ _) _) _ _ _ | show wpAny _ _ (exec (.For _ _ _ _ _) _) _ _ _) | (show wpAny _ _ (PySem.call _ _) _ _ _; first | refine h_ref (by decide) ?_) | show wpAny _ _ (pyIter _) (fun it s₂ => LoopAtV _ _ _ _ _ _ _ _ _ it s₂) _ _)); (first | (k_unfold; (try dsimp only)) | walk1 | (dsimp only; walk1) | (leave1; walk_say "STEP leave1"; try dsimp only) | ((fail_if_success (show wpAny _ _ _ _ _ _)); dsimp only) | fail "no step")))
      refine ret _ _ _ [(ln, W.listOf #[] n)] F'.keep (fun q hq => ⟨(N' q (by rw [List.mem_singleton.mp hq]; exact .tail _ (.tail _ (.tail _ (.head _))))).1, (N' q (by rw [List.mem_singleton.mp hq]; exact .tail _ (.tail _ (.tail _ (.head _))))).2.2⟩) ⟨.b [], [], [], n, [], rfl, .nil, by simp, ⟨_, rfl⟩, by rw [dep]; omega, ?_, fun _ h => nomatch h⟩
      have := bnd_ge j
      have e : (enc (.b [])).length = 1 := rfl
      omega
    | cons n0 t0 hI =>
      rename_i vs ns
      rw [List.length_cons] at hl
      (repeat' ((fail_if_success (with_reducible first | (show wpAny _ _ (PySem.eval _ _) _ _ _; first | show wpAny _ _ (PySem.eval (.ListComp (.Call _ _ _ _) _ _ _) _) _ _ _) | (show wpAny _ _ (exec _ _) _ _ _; first | show wpAny _ _ (exec (.While _ _ _ _) _) _ _ _ | show wpAny _ _ (exec (.For _ _ _ _ _) _) _ _ _) | (show wpAny _ _ (PySem.call _ _) _ _ _; first | refine h_ref (by decide) ?_) | show wpAny _ _ (pyIter _) (fun it s₂ => LoopAtV _ _ _ _ _ _ _ _ _ it s₂) _ _)); (first | (k_unfold; (try dsimp only)) | walk1 | (dsimp only; walk1) | (leave1; walk_say "STEP leave1"; try dsimp only) | ((fail_if_success (show wpAny _ _ _ _ _ _)); dsimp only) | fail "no step")))
      refine wpAny_truthy_list (News.isList N' (.tail _ (.tail _ (.tail _ (.head _))))) (by rw [List.size_toArray, List.length_cons]; omega) ?_
      have hlt : @LT.lt Nat _ ln L' := l1 (ln, _) (.head _)
      (repeat' ((fail_if_success (with_reducible first | (show wpAny _ _ (PySem.eval _ _) _ _ _; first | show wpAny _ _ (PySem.eval (.ListComp (.Call _ _ _ _) _ _ _) _) _ _ _) | (show wpAny _ _ (exec _ _) _ _ _; first | show wpAny _ _ (exec (.While _ _ _ _) _) _ _ _ | show wpAny _ _ (exec (.For _ _ _ _ _) _) _ _ _) | (show wpAny _ _ (PySem.call _ _) _ _ _; first | refine h_ref (by decide) ?_) | show wpAny _ _ (pyIter _) (fun it s₂ => LoopAtV _ _ _ _ _ _ _ _ _ it s₂) _ _)); (first | (k_unfold; (try dsimp only)) | walk1 | (dsimp only; walk1) | (leave1; walk_say "STEP leave1"; try dsimp only) | ((fail_if_success (show wpAny _ _ _ _ _ _)); dsimp only) | fail "no step")))
      · rename (_ = true) => q
        simp at q
      refine pop0 F' N' (by k_upd) (by rw [sizeLine_eq]; omega) ?_
      clear F' N'
      intro h2 F' N'
      walk_at "MINE upIf"
      refine ret_cutT (¬ deep > 4) ?_ ?_
      rotate_left
      · (repeat' ((fail_if_success (with_reducible first | (show wpAny _ _ (PySem.eval _ _) _ _ _; first | show wpAny _ _ (PySem.eval (.ListComp (.Call _ _ _ _) _ _ _) _) _ _ _) | (show wpAny _ _ (exec _ _) _ _ _; first | show wpAny _ _ (exec (.While _ _ _ _) _) _ _ _ | show wpAny _ _ (exec (.For _ _ _ _ _) _) _ _ _) | (show wpAny _ _ (PySem.call _ _) _ _ _; first | refine h_ref (by decide) ?_) | show wpAny _ _ (pyIter _) (fun it s₂ => LoopAtV _ _ _ _ _ _ _ _ _ it s₂) _ _)); (first | (k_unfold; (try dsimp only)) | walk1 | (dsimp only; walk1) | (leave1; walk_say "STEP leave1"; try dsimp only) | ((fail_if_success (show wpAny _ _ _ _ _ _)); dsimp only) | fail "no step")))
        all_goals first
          | exact .next ⟨by omega, _, rfl⟩
          | (refine .ret ?_
             rename Fr _ _ _ _ => kF
             rename News _ _ _ _ => kN
             exact li_bytes_end ret kF kN (by k_mem) hI (by omega) (by rw [List.length_map, rangeKs_length]; decide))
      · intro hj1 tk9
        (repeat' ((fail_if_success (with_reducible first | (show wpAny _ _ (PySem.eval _ _) _ _ _; first | show wpAny _ _ (PySem.eval (.ListComp (.Call _ _ _ _) _ _ _) _) _ _ _) | (show wpAny _ _ (exec _ _) _ _ _; first | show wpAny _ _ (exec (.While _ _ _ _) _) _ _ _ | show wpAny _ _ (exec (.For _ _ _ _ _) _) _ _ _) | (show wpAny _ _ (PySem.call _ _) _ _ _; first | refine h_ref (by decide) ?_) | show wpAny _ _ (pyIter _) (fun it s₂ => LoopAtV _ _ _ _ _ _ _ _ _ it s₂) _ _)); (first | (k_unfold; (try dsimp only)) | walk1 | (dsimp only; walk1) | (leave1; walk_say "STEP leave1"; try dsimp only) | ((fail_if_success (show wpAny _ _ _ _ _ _)); dsimp only) | fail "no step")))
        obtain ⟨j, rfl⟩ : ∃ j', j = j' + 1 := ⟨j - 1, by omega⟩
        rename Fr _ _ _ _ => kF
        rename News _ _ _ _ => kN
        k_dflt (refine LCg.ListComp_U kF (by with_unfolding_all rfl) (by decide) (by rfl) (by decide) (by rfl) ?_)
        walk_at "MINE src"
        rename IsRange _ _ _ _ _ _ _ _ => hr
        have h5 : ∀ x : Int, 0 ≤ x.fmod 5 ∧ x.fmod 5 < 5 := fun x => ⟨fmod_lo x (by decide), fmod_hi x (by decide)⟩
        have h50 := h5 ((if n0 < 0 then -n0 else n0).fdiv 2)
        generalize ((if n0 < 0 then -n0 else n0).fdiv 2).fmod 5 = N0 at hr h50
        rename News _ _ _ _ => kN
        rename Fr _ _ _ _ => kF
        refine LCg.CompSrc.range rfl kF kN hr (small_one (by omega) (by omega) (by omega) (by omega)) (rangeSize_nat _ _) (by rw [sizeLine_eq]; omega) ?_
        intro gg
        refine compRest_ind (fun i ys news => ∃ o' vs' ns' n' tl ts, news = (L' + 1 + 1 + 1, o') :: (L' + 1 + 1, o2) :: (L' + 1, o3) :: (ln, W.listOf (List.toArray vs') n') :: tl ∧ IntsAre vs' ns' ∧ vs'.length ≤ 1000 ∧ Items (PL tl) ts ys ∧ deps ts ≤ j ∧ (encs ts).length ≤ i * bnd j ∧ ∀ q ∈ tl, q.1 ≠ ln) ?_ ?_ _ 0 [] _ (Nat.zero_add _) ?_
        · rintro i ys news hi ⟨o', vs', ns', n', tl, ts, rfl, hI', hl', hV, hdp', hen, hoff⟩ v I oI C oC D m₂ h3 tk3 E' hP hNs hx kF kN hof hne
          clear hr
          k_fold
          (repeat' ((fail_if_success (with_reducible first | (show wpAny _ _ (PySem.eval _ _) _ _ _; first | show wpAny _ _ (PySem.eval (.ListComp (.Call _ _ _ _) _ _ _) _) _ _ _) | (show wpAny _ _ (exec _ _) _ _ _; first | show wpAny _ _ (exec (.While _ _ _ _) _) _ _ _ | show wpAny _ _ (exec (.For _ _ _ _ _) _) _ _ _) | (show wpAny _ _ (PySem.call _ _) _ _ _; first | refine h_ref (by decide) ?_) | show wpAny _ _ (pyIter _) (fun it s₂ => LoopAtV _ _ _ _ _ _ _ _ _ it s₂) _ _)); (first | (k_unfold; (try dsimp only)) | walk1 | (dsimp only; walk1) | (leave1; walk_say "STEP leave1"; try dsimp only) | ((fail_if_success (show wpAny _ _ _ _ _ _)); dsimp only) | fail "no step")))
          have hdlt : ∀ q ∈ tl, q.1 ≠ ln := hoff
          refine use0 [(ln, W.listOf (List.toArray vs') n')] ((I, oI) :: (C, oC) :: (D, LCg.lst ys) :: (L' + 1 + 1 + 1, o') :: (L' + 1 + 1, o2) :: (L' + 1, o3) :: tl) B' CB' kF kN rfl rfl ?_ ?_ ?_ (fun g2 _ _ => ih j (by omega) (deep + 1) (by omega) (by omega) g2 ln vs' ns' n' _ hI' hl') (by walk_at "MINE room") (by walk_at "MINE room") ?_
          · intro q hq; rw [List.mem_singleton.mp hq]; simp
          · intro q hq
            simp only [List.mem_cons] at hq ⊢
            rcases hq with q | q | q | q | q | q | q <;> simp [q]
          · intro q hq r hr
            rw [List.mem_singleton.mp hq]
            simp only [List.mem_cons] at hr
            rcases hr with rfl | rfl | rfl | rfl | rfl | rfl | hr
            · exact hof.2.2.2.1.1
            · exact hof.2.2.2.1.2.1
            · exact hof.2.2.2.1.2.2
            · exact Nat.ne_of_lt (Nat.lt_of_lt_of_le hlt (by omega))
            · exact Nat.ne_of_lt (Nat.lt_of_lt_of_le hlt (by omega))
            · exact Nat.ne_of_lt (Nat.lt_of_lt_of_le hlt (by omega))
            · exact fun e => hoff r hr e.symm
          clear kF kN
          rintro r h4 tk4 mt4 kF kN hd4 ⟨t, vs2, ns2, n2, tl2, rfl, hI2, hl2, hit, hdt, hbt, hoff2⟩
          refine LCg.CompEnd.intro kF kN ((L' + 1 + 1 + 1, o') :: (L' + 1 + 1, o2) :: (L' + 1, o3) :: (ln, W.listOf (List.toArray vs2) n2) :: (tl2 ++ tl)) ?_ (LCg.Off3.of ?_) trivial ⟨o', vs2, ns2, n2, tl2 ++ tl, ts ++ [t], rfl, hI2, hl2, Items.append (hV.mono fun a vs x => x.sub fun q hq => List.mem_append_right _ hq) (Items.one (hit.mono fun a vs x => x.sub fun q hq => List.mem_append_left _ hq)), ?_, ?_, ?_⟩
          · intro q hq
            simp only [List.mem_cons, List.mem_append] at hq ⊢
            rcases hq with q | q | q | q | q | q | q | q | q <;> simp [q]
          · intro q hq
            simp only [List.mem_cons, List.mem_append] at hq
            have hm := hof.mem
            rcases hq with rfl | rfl | rfl | rfl | hq | hq
            · exact hm _ (.head _)
            · exact hm _ (.tail _ (.head _))
            · exact hm _ (.tail _ (.tail _ (.head _)))
            · exact hm (ln, W.listOf (List.toArray vs') n') (.tail _ (.tail _ (.tail _ (.head _))))
            · exact ⟨hd4 q (.tail _ hq) (I, oI) (.head _), hd4 q (.tail _ hq) (C, oC) (.tail _ (.head _)), hd4 q (.tail _ hq) (D, LCg.lst ys) (.tail _ (.tail _ (.head _)))⟩
            · exact hm q (.tail _ (.tail _ (.tail _ (.tail _ hq))))
          · rw [deps_append, deps, deps]; omega
          · rw [encs_append, encs, encs, List.length_append, List.append_nil, Nat.succ_mul]; omega
          · intro q hq
            rcases List.mem_append.mp hq with hq | hq
            · exact hoff2 q hq
            · exact hoff q hq
        · rintro ys news ⟨o', vs', ns', n', tl, ts, rfl, hI', hl', hV, hdp', hen, hoff⟩
          intro D h3 tk3 kF kN hof
          refine ret _ _ _ ((ln, W.listOf (List.toArray vs') n') :: (D, LCg.lst ys) :: tl) kF.keep ?_ ⟨.l ts, vs', ns', n', _, rfl, hI', hl', ⟨D, ys, rfl, ⟨_, .head _⟩, hV.mono fun a vs x => x.sub fun q hq => .tail _ hq⟩, by rw [dep]; omega, ?_, ?_⟩
          · intro q hq
            refine ⟨(kN q ?_).1, (kN q ?_).2.2⟩ <;> (
              simp only [List.mem_cons] at hq ⊢
              rcases hq with q | q | q <;> simp [q])
          · have hb : (encs ts).length ≤ 4 * bnd j := Nat.le_trans hen (Nat.mul_le_mul_right _ (by omega))
            have : bnd j ≤ bnd 5 := bnd_mono (by omega)
            have h5 : bnd 5 = 62804 := rfl
            rw [bnd, enc, List.length_append]
            have := preO_len (n := (encs ts).length) (off := 192) (by omega)
            omega
          · intro q hq
            rcases List.mem_cons.mp hq with rfl | hq
            · exact fun e => hof.2.2.2.1 e.symm
            · exact hoff q hq
        · exact ⟨_, vs, ns, _, [], [], rfl, hI, by omega, rfl, Nat.zero_le _, by simp [encs], fun _ h => nomatch h⟩
end
end Mine

-- P7
namespace Mine

/-- a lazy list: its data, where its items stand, the items, its two other addresses -/
structure LI where
  d : Oct
  e : Int
  ts : List Tr
  dx : Addr
  ex : Addr
/-- what turns of it -/
structure LSt where
  k1 : Tok
  k2 : Tok
  k3 : Tok
  k4 : Tok
  k5 : Tok
  k6 : Tok
  k7 : Tok
  t1 : Tok
  t2 : Tok
  t3 : Tok
  t4 : Tok
  idx : Int
  vs : List Value
  lv : Value
  nd : Nat
  ne : Nat
def lzEs (P : Params) (i : LI) (s : LSt) : List DictEntry :=
  [⟨PyData.keyHash P (Str.ofString "rlp"), .str (Str.ofString "rlp") s.k1, .bytes i.d.toArray s.t1⟩,
   ⟨PyData.keyHash P (Str.ofString "start"), .str (Str.ofString "start") s.k2, .int i.e s.t2⟩,
   ⟨PyData.keyHash P (Str.ofString "end"), .str (Str.ofString "end") s.k3, .int (i.e + (encs i.ts).length) s.t3⟩,
   ⟨PyData.keyHash P (Str.ofString "index"), .str (Str.ofString "index") s.k4, .int s.idx s.t4⟩,
   ⟨PyData.keyHash P (Str.ofString "_elements"), .str (Str.ofString "_elements") s.k5, .ref i.ex⟩,
   ⟨PyData.keyHash P (Str.ofString "_len"), .str (Str.ofString "_len") s.k6, s.lv⟩,
   ⟨PyData.keyHash P (Str.ofString "sedes"), .str (Str.ofString "sedes") s.k7, .none⟩]
def l3 (P : Params) (x : Addr) (i : LI) (s : LSt) : List (Addr × Obj) :=
  [(x, instObj 152 i.dx), (i.dx, dictOf (lzEs P i s) s.nd), (i.ex, W.listOf s.vs.toArray s.ne)]

/-- a value just drawn from d for the item t, and its objects -/
def VNew (P : Params) (d : Oct) : Tr → Value → List (Addr × Obj) → Prop
  | .b bs, v, tl => (∃ tk, v = .bytes bs.toArray tk) ∧ tl = []
  | .l us, v, tl => ∃ y i s, v = .ref y ∧ tl = l3 P y i s ∧ i.d = d ∧ i.ts = us ∧ At d i.e (encs us) ∧ s.vs = [] ∧ s.idx = i.e ∧ s.lv = .none ∧ s.nd = 7

def CilPost (P : Params) (d : Oct) (k : Int) (t : Tr) (mt : List (Addr × Obj)) (r : Value) : Prop :=
  ∃ a v en te tl, r = .ref a ∧ mt = (a, tupO [v, .int en te]) :: tl ∧ en = k + (enc t).length ∧ VNew P d t v tl
theorem cil_end {P : Params} {g h' : Heap} {L D1 x1 d1 e1 : Addr} {s : Shared} {Q : Value → Shared → Prop} {m : Str → Option Value} {rest : List (Addr × Obj)} {d : Oct} {k e en : Int} {ts : List Tr} {k1 k2 k3 k4 k5 k6 k7 t1 t2 t3 t4 te : Tok} {kk : Nat}
    (ret : ∀ r h' tk' mt', g.StaysIn h' → Led g h' mt' → CilPost P d k (.l ts) mt' r → Q r { s with heap := h', toks := tk' }) (F : Fr g L h' m)
    (N : News g L h' ((D1, tupO [.ref x1, .int en te]) :: (e1, W.listOf #[] 0) :: (x1, instObj 152 d1) :: (d1, dictOf (lzEs P ⟨d, e, ts, d1, e1⟩ ⟨k1, k2, k3, k4, k5, k6, k7, t1, t2, t3, t4, e, [], .none, 7, 0⟩) 7) :: rest))
    (he : en = k + (enc (.l ts)).length) (H : At d e (encs ts)) : Q (.ref D1) { s with heap := h', toks := kk } :=
  ret _ _ _ ((D1, tupO [.ref x1, .int en te]) :: l3 P x1 ⟨d, e, ts, d1, e1⟩ ⟨k1, k2, k3, k4, k5, k6, k7, t1, t2, t3, t4, e, [], .none, 7, 0⟩) F.keep (fun q hq => by
    have z := N q (by
      simp only [l3, List.mem_cons, List.not_mem_nil, or_false] at hq ⊢
      rcases hq with q | q | q | q <;> simp [q])
    exact ⟨z.1, z.2.2⟩) ⟨_, _, _, _, _, rfl, rfl, he, x1, _, _, rfl, rfl, rfl, rfl, H, rfl, rfl, rfl, rfl⟩

section
variable {w : World} {p : Program} {loose : List Str} {mean : ExcName → Option Value} {mg mb : Str → Option Value}

set_option maxHeartbeats 4000000 in
theorem cil_spec (t : Tr) (g : Heap) (d : Oct) (k : Int) (td tk : Tok) (H : At d k (enc t)) (hz : d.length ≤ 2000000) (he : (enc t).length ≤ 1000000) :
    Call0 Challenge.rw_is0005_01.row.prog w (hd.heap_1 w.params) p loose mean mg mb 113 [.bytes d.toArray td, .int k tk] (dep t + 12) (8 * dep t + 120) g [] (CilPost w.params d k t) := by
  have hel := congrArg List.length (enc_eq t)
  rw [List.length_append] at hel
  have hm : (bod t).length < 16777216 := by omega
  have H2 := H
  rw [enc_eq] at H2
  have Hb := (at_app H2).2.2.1
  w_top off
  k_fill
  intro dp un gd base outer s Q E C st sz N hdp hun ret
  walk_at "MINE enter"
  intro L' h' tk0 F' N' l1 B' X' T' CB'
  clear C
  replace F' : Fr g L' h' (fun y => List.lookup y [(Str.ofString "start", Value.int k tk), (Str.ofString "rlp", Value.bytes d.toArray td)]) := F'
  dsimp only
  try k_fold
  (repeat' ((fail_if_success (with_reducible first | (show wpAny _ _ (PySem.eval _ _) _ _ _; first | show wpAny _ _ (PySem.eval (.ListComp (.Call _ _ _ _) _ _ _) _) _ _ _) | (show wpAny _ _ (exec _ _) _ _ _; first | show wpAny _ _ (exec (.While _ _ _ _) _) _ _ _ | show wpAny _ _ (exec (.For _ _ _ _ _) _) _ _ _) | (show wpAny _ _ (PySem.call _ _) _ _ _; first | refine h_ref (by decide) ?_) | show wpAny _ _ (pyIter _) (fun it s₂ => LoopAtV _ _ _ _ _ _ _ _ _ it s₂) _ _)); (first | (k_unfold; (try dsimp only)) | walk1 | (dsimp only; walk1) | (leave1; walk_say "STEP leave1"; try dsimp only) | ((fail_if_success (show wpAny _ _ _ _ _ _)); dsimp only) | fail "no step")))
  refine useP B' CB' F' N' rfl rfl (fun g2 _ _ => clp_spec t hm g2 d _ _ _ H hz) (by walk_at "MINE room") (by walk_at "MINE room") ?_
  rintro r h2 tk2 tl2 kF kN hd ⟨a1, u1, u2, u3, u4, rfl, rfl⟩
  dsimp only
  cases t with
  | b bs =>
    rw [knd] at kN
    (repeat' ((fail_if_success (with_reducible first | (show wpAny _ _ (PySem.eval _ _) _ _ _; first | show wpAny _ _ (PySem.eval (.ListComp (.Call _ _ _ _) _ _ _) _) _ _ _) | (show wpAny _ _ (exec _ _) _ _ _; first | show wpAny _ _ (exec (.While _ _ _ _) _) _ _ _ | show wpAny _ _ (exec (.For _ _ _ _ _) _) _ _ _) | (show wpAny _ _ (PySem.call _ _) _ _ _; first | refine h_ref (by decide) ?_) | show wpAny _ _ (pyIter _) (fun it s₂ => LoopAtV _ _ _ _ _ _ _ _ _ it s₂) _ _)); (first | (k_unfold; (try dsimp only)) | walk1 | (dsimp only; walk1) | (leave1; walk_say "STEP leave1"; try dsimp only) | ((fail_if_success (show wpAny _ _ _ _ _ _)); dsimp only) | fail "no step")))
    refine useP B' CB' (by assumption) (by assumption) rfl rfl (fun g2 _ _ => cp_spec (.b bs) g2 d _ _ _ _ _ _ Hb hz he) (by walk_at "MINE room") (by walk_at "MINE room") ?_
    rintro r h3 tk3 tl3 kF kN hd3 ⟨a2, b2, v2, s1, s2, n3, vs3, tl3, rfl, rfl, hit⟩
    dsimp only
    (repeat' ((fail_if_success (with_reducible first | (show wpAny _ _ (PySem.eval _ _) _ _ _; first | show wpAny _ _ (PySem.eval (.ListComp (.Call _ _ _ _) _ _ _) _) _ _ _) | (show wpAny _ _ (exec _ _) _ _ _; first | show wpAny _ _ (exec (.While _ _ _ _) _) _ _ _ | show wpAny _ _ (exec (.For _ _ _ _ _) _) _ _ _) | (show wpAny _ _ (PySem.call _ _) _ _ _; first | refine h_ref (by decide) ?_) | show wpAny _ _ (pyIter _) (fun it s₂ => LoopAtV _ _ _ _ _ _ _ _ _ it s₂) _ _)); (first | (k_unfold; (try dsimp only)) | walk1 | (dsimp only; walk1) | (leave1; walk_say "STEP leave1"; try dsimp only) | ((fail_if_success (show wpAny _ _ _ _ _ _)); dsimp only) | fail "no step")))
    rename Fr _ _ _ _ => kF
    rename News _ _ _ _ => kM
    obtain ⟨tv, rfl⟩ := hit
    exact ret _ _ _ [_] kF.keep (fun q hq => ⟨(kM q (by rw [List.mem_singleton.mp hq]; exact .head _)).1, (kM q (by rw [List.mem_singleton.mp hq]; exact .head _)).2.2⟩) ⟨_, _, _, _, [], rfl, rfl, by rw [hel]; omega, ⟨_, rfl⟩, rfl⟩
  | l ts =>
    rw [knd] at kN
    (repeat' ((fail_if_success (with_reducible first | (show wpAny _ _ (PySem.eval _ _) _ _ _; first | show wpAny _ _ (PySem.eval (.ListComp (.Call _ _ _ _) _ _ _) _) _ _ _) | (show wpAny _ _ (exec _ _) _ _ _; first | show wpAny _ _ (exec (.While _ _ _ _) _) _ _ _ | show wpAny _ _ (exec (.For _ _ _ _ _) _) _ _ _) | (show wpAny _ _ (PySem.call _ _) _ _ _; first | refine h_ref (by decide) ?_) | show wpAny _ _ (pyIter _) (fun it s₂ => LoopAtV _ _ _ _ _ _ _ _ _ it s₂) _ _)); (first | (k_unfold; (try dsimp only)) | walk1 | (dsimp only; walk1) | (leave1; walk_say "STEP leave1"; try dsimp only) | ((fail_if_success (show wpAny _ _ _ _ _ _)); dsimp only) | fail "no step")))
    rename Fr _ _ _ _ => kF
    rename News _ _ _ _ => kM
    exact cil_end ret kF kM (by rw [hel]; omega) Hb
end
end Mine

-- P8
namespace Mine

/-- a call that may raise; when it comes back it leaves what stands in g -/
def CallN (prog : Program) (w : World) (K : Frag) (p : Program) (loose : List Str) (mean : ExcName → Option Value) (mg mb : Str → Option Value)
    (f : Addr) (vs : List Value) (d u : Nat) (g : Heap) (mt : List (Addr × Obj)) (Post : List (Addr × Obj) → Value → Prop) (Exc : String → Addr → Heap → List (Addr × Obj) → Prop) : Prop :=
  ∀ (dp un : Nat) (gd : Option (List Code)) (base : Heap) (outer : List Env) (s : Shared) (Q E : Value → Shared → Prop),
    Cx K p loose mean mg mb base outer (arnd dp un gd outer) g → g.StaysIn s.heap → g.objs.size ≤ s.heap.objs.size → Led g s.heap mt → dp + d < recursionLimit → un + u < cLine →
    (∀ r h' tk' mt', g.StaysIn h' → Led g h' mt' → Post mt' r → Q r { s with heap := h', toks := tk' }) →
    (∀ cls e h' tk' mt', RaisedSN base g outer e (.type cls) mt' h' → g.UpToSlots h' → Exc cls e h' mt' → E (.ref e) { s with heap := h', toks := tk' }) →
    wpAny (model prog w) (arnd dp un gd outer) (call (.ref f) vs) Q E s
/-- a call that does not raise, but may catch: it turns the slots of what stands in g -/
def CallT (prog : Program) (w : World) (K : Frag) (p : Program) (loose : List Str) (mean : ExcName → Option Value) (mg mb : Str → Option Value)
    (f : Addr) (vs : List Value) (d u : Nat) (g : Heap) (mt : List (Addr × Obj)) (Post : List (Addr × Obj) → Value → Prop) : Prop :=
  ∀ (dp un : Nat) (gd : Option (List Code)) (base : Heap) (outer : List Env) (s : Shared) (Q E : Value → Shared → Prop),
    Cx K p loose mean mg mb base outer (arnd dp un gd outer) g → g.StaysIn s.heap → g.objs.size ≤ s.heap.objs.size → Led g s.heap mt → dp + d < recursionLimit → un + u < cLine →
    (∀ r h' tk' mt' g', KtsTurn (outer.filterMap (·.frame)) g g' → g'.StaysIn h' → Led g' h' mt' → Post mt' r → Q r { s with heap := h', toks := tk' }) →
    wpAny (model prog w) (arnd dp un gd outer) (call (.ref f) vs) Q E s

section
variable {prog : Program} {w : World} {K : Frag} {p : Program} {loose : List Str} {mean : ExcName → Option Value} {mg mb : Str → Option Value}

theorem Call0.toT {f : Addr} {vs : List Value} {d u : Nat} {g : Heap} {mt : List (Addr × Obj)} {Post : List (Addr × Obj) → Value → Prop}
    (C : Call0 prog w K p loose mean mg mb f vs d u g mt Post) : CallT prog w K p loose mean mg mb f vs d u g mt Post :=
  fun dp un gd base outer s Q E X st sz N hd hu ret => C dp un gd base outer s Q E X st sz N hd hu fun r h' tk' mt' st' N' p => ret r h' tk' mt' g .refl st' N' p
theorem Call0.toN {f : Addr} {vs : List Value} {d u : Nat} {g : Heap} {mt : List (Addr × Obj)} {Post : List (Addr × Obj) → Value → Prop} {Exc : String → Addr → Heap → List (Addr × Obj) → Prop}
    (C : Call0 prog w K p loose mean mg mb f vs d u g mt Post) : CallN prog w K p loose mean mg mb f vs d u g mt Post Exc :=
  fun dp un gd base outer s Q E X st sz N hd hu ret _ => C dp un gd base outer s Q E X st sz N hd hu ret

theorem turn_upTo {fs : List Addr} {g g' : Heap} (x : KtsTurn fs g g') : g.UpToSlots g' := fun _ _ e _ => x.up e
theorem turn_back {fs : List Addr} {g g' : Heap} (x : KtsTurn fs g g') {b : Addr} (e : g'.get? b = none) : g.get? b = none := by
  cases q : g.get? b with
  | none => rfl
  | some o => obtain ⟨_, h⟩ := x.up q; rw [e] at h; cases h
/-- what was raised over a turned ground was raised over the ground -/
theorem raised_back {fs : List Addr} {base g g' h : Heap} {l : List Env} {e : Addr} {cls : Value} {news : List (Addr × Obj)} (T : KtsTurn fs g g') (hfs : ∀ b ∈ fs, b ∈ l.filterMap (·.frame)) (R : RaisedSN base g' l e cls news h) : RaisedSN base g l e cls news h := by
  obtain ⟨B, a0, hB, hBG, hl, hfl⟩ := R
  exact ⟨B, a0, hB, fun b o q nm => hBG b o (T.other b o q fun m => nm (hfs b m)) nm, fun q hq => ⟨(hl q hq).1, turn_back T (hl q hq).2.1, (hl q hq).2.2⟩, hfl⟩

theorem ground' {A₀ A : Around} {base h₀ h : Heap} {outer : List Env} {L : Addr} {m : Str → Option Value} {env : Env} {news mt keep : List (Addr × Obj)}
    (B : Below A₀ base outer h₀) (C₀ : Cb K p loose mean mg mb base outer h₀) (F : Fr h₀ L h m) (N : News h₀ L h news) (hA : A.frames = some (env :: outer)) (hf : env.frame = some L) (hke : env.scope.kind = .function)
    (hm : ∀ q ∈ mt, q ∈ news) (hk : ∀ q ∈ keep, q ∈ news) (hd : ∀ q ∈ mt, ∀ r ∈ keep, q.1 ≠ r.1) :
    ∃ g, Cx K p loose mean mg mb base (env :: outer) A g ∧ g.StaysIn h ∧ g.objs.size ≤ h.objs.size ∧ Led g h mt ∧ h₀.StaysIn g ∧ (∀ q ∈ keep, g.get? q.1 = some q.2) ∧ Fr h₀ L g m ∧
      (∀ g' h' mt', KtsTurn ((env :: outer).filterMap (·.frame)) g g' → g'.StaysIn h' → Led g' h' mt' → ∃ h₀', KtsTurn (outer.filterMap (·.frame)) h₀ h₀' ∧ Fr h₀' L h' m ∧ News h₀' L h' (mt' ++ keep) ∧ (∀ q ∈ mt', ∀ r ∈ keep, q.1 ≠ r.1) ∧
        Below A₀ base outer h₀' ∧ Cb K p loose mean mg mb base outer h₀') ∧
      (∀ h' mt', g.StaysIn h' → Led g h' mt' → Fr h₀ L h' m ∧ News h₀ L h' (mt' ++ keep) ∧ ∀ q ∈ mt', ∀ r ∈ keep, q.1 ≠ r.1) ∧
      (∀ cls e h' mt', RaisedSN base g (env :: outer) e cls mt' h' → g.UpToSlots h' → ∃ G, Fr h₀ L G m ∧ RaisedSN base G (env :: outer) e cls (mt' ++ keep) h' ∧ G.UpToSlots h' ∧ ∀ q ∈ mt', ∀ r ∈ keep, q.1 ≠ r.1) := by
  obtain ⟨g, Cg, st, sz, Lm, st0, hkp, Fg, back⟩ := ground (A := A) B C₀ F N hA hf hke hm hk hd
  obtain ⟨oL, es, ep, hL, hLd, hLk, hLf⟩ := Fg.ns
  have nL₀ : h₀.get? L = none := kts_self F
  have hmem : ∀ b, b ∈ (env :: outer).filterMap (·.frame) → b = L ∨ b ∈ outer.filterMap (·.frame) := fun b hm => by
    obtain ⟨e, he, hfe⟩ := List.mem_filterMap.mp hm
    rcases List.mem_cons.mp he with rfl | he
    · exact .inl (Option.some.inj (hfe.symm.trans hf))
    · exact .inr (List.mem_filterMap.mpr ⟨e, he, hfe⟩)
  have hkf : ∀ q ∈ keep, q.1 ∉ (env :: outer).filterMap (·.frame) := fun q hq hm => by
    rcases hmem _ hm with z | z
    · exact (N q (hk q hq)).2.1 z
    · obtain ⟨_, o, ho, _⟩ := B.frames.mem z
      rw [(N q (hk q hq)).2.2] at ho; cases ho
  refine ⟨g, Cg, st, sz, Lm, st0, hkp, Fg, fun g' h' mt' T st' N' => ?_, back, fun cls e h' mt' R hup => ?_⟩
  · have nmem : ∀ b o, h₀.get? b = some o → b ∉ outer.filterMap (·.frame) → b ∉ (env :: outer).filterMap (·.frame) := fun b o e hm z => by
      rcases hmem _ z with z | z
      · rw [z, nL₀] at e; cases e
      · exact hm z
    obtain ⟨sl, hs⟩ := T.up hL
    obtain ⟨T₁, S₁⟩ := kts_turn_at (h := h') (fs := outer.filterMap (·.frame)) (g := h₀)
      (fun b hb => by obtain ⟨_, o, ho', _⟩ := B.frames.mem hb; exact ⟨o, ho'⟩)
      (fun b o e nm => st' b o (T.other b o (st0 b o e) (nmem b o e nm)))
      (fun b o e _ => by obtain ⟨sl', hs'⟩ := T.up (st0 b o e); exact ⟨sl', st' _ _ hs'⟩)
    have B₃ : Below A₀ base outer (ktsHeap h' (outer.filterMap (·.frame)) h₀) := ⟨B.stack, fun b o e => T₁.other b o (B.stays b o e) (fun hm => by
      rw [(B.frames.mem hm).1] at e; cases e), B.frames.of_keeps fun b o e _ => by
      obtain ⟨sl', hs'⟩ := T₁.up e
      exact ⟨_, hs', rfl⟩⟩
    refine ⟨_, T₁, ⟨⟨_, es, ep, st' _ _ hs, hLd, hLk, hLf⟩, S₁, by rw [T₁.size]; exact F.above⟩, fun q hq => ?_, fun q hq r hr e => ?_, B₃, ⟨C₀.XB, C₀.TB, C₀.D.turn T₁⟩⟩
    · rcases List.mem_append.mp hq with hq | hq
      · refine ⟨(N' q hq).1, fun z => ?_, T₁.none_ _ ?_⟩
        · have := (N' q hq).2; rw [z, hs] at this; cases this
        · cases z : h₀.get? q.1 with
          | none => rfl
          | some o =>
            obtain ⟨sl', hs'⟩ := T.up (st0 _ _ z)
            have := (N' q hq).2; rw [hs'] at this; cases this
      · exact ⟨st' _ _ (T.other _ _ (hkp q hq) (hkf q hq)), (N q (hk q hq)).2.1, T₁.none_ _ (N q (hk q hq)).2.2⟩
    · have := (N' q hq).2; rw [e, T.other _ _ (hkp r hr) (hkf r hr)] at this; cases this
  · obtain ⟨Bx, a0, hB, hBG, hl, hfl⟩ := R
    have gG : ∀ b o, (hideAll g (keep.map (·.1))).get? b = some o → g.get? b = some o := fun b o q => of_hideAll _ q
    refine ⟨hideAll g (keep.map (·.1)), ⟨⟨oL, es, ep, hideAll_get _ hL fun z => ?_, hLd, hLk, hLf⟩, fun b o e => hideAll_get _ (st0 b o e) fun z => ?_, Fg.above⟩, ⟨Bx, a0, hB, fun b o q nm => hBG b o (gG b o q) nm, fun q hq => ?_, hfl⟩, fun b o e h => hup b o (gG b o e) h, fun q hq r hr e => ?_⟩
    · obtain ⟨q, hq, e⟩ := List.mem_map.mp z
      exact (N q (hk q hq)).2.1 e
    · obtain ⟨q, hq, rfl⟩ := List.mem_map.mp z
      rw [(N q (hk q hq)).2.2] at e; cases e
    · rcases List.mem_append.mp hq with hq | hq
      · exact ⟨(hl q hq).1, kts_none gG (hl q hq).2.1, (hl q hq).2.2⟩
      · exact ⟨hBG _ _ (hkp q hq) (hkf q hq), hideAll_none _ (List.mem_map_of_mem hq), fresh_of_stays B.stays (N q (hk q hq)).2.2⟩
    · have := (hl q hq).2.1; rw [e, hkp r hr] at this; cases this

theorem useN {A₀ : Around} {base h₀ : Heap} {dp un : Nat} {gd : Option (List Code)} {outer : List Env} {env : Env} {L : Addr} {m : Str → Option Value} {news : List (Addr × Obj)} {s : Shared} {f : Addr} {vs : List Value} {d u : Nat} {Post : List (Addr × Obj) → Value → Prop} {Exc : String → Addr → Heap → List (Addr × Obj) → Prop} {Q E : Value → Shared → Prop}
    (mt keep : List (Addr × Obj))
    (B : Below A₀ base outer h₀) (C₀ : Cb K p loose mean mg mb base outer h₀) (F : Fr h₀ L s.heap m) (N : News h₀ L s.heap news) (hf : env.frame = some L) (hke : env.scope.kind = .function)
    (hm : ∀ q ∈ mt, q ∈ news) (hk : ∀ q ∈ keep, q ∈ news) (hd : ∀ q ∈ mt, ∀ r ∈ keep, q.1 ≠ r.1)
    (C : ∀ g, h₀.StaysIn g → (∀ q ∈ keep, g.get? q.1 = some q.2) → CallN prog w K p loose mean mg mb f vs d u g mt Post Exc)
    (hdp : dp + d < recursionLimit) (hun : un + u < cLine)
    (ret : ∀ r h' tk' mt', Fr h₀ L h' m → News h₀ L h' (mt' ++ keep) → (∀ q ∈ mt', ∀ r ∈ keep, q.1 ≠ r.1) → Post mt' r → Q r { s with heap := h', toks := tk' })
    (exc : ∀ cls e h' tk' mt' G, Fr h₀ L G m → RaisedSN base G (env :: outer) e (.type cls) (mt' ++ keep) h' → G.UpToSlots h' → (∀ q ∈ mt', ∀ r ∈ keep, q.1 ≠ r.1) → Exc cls e h' mt' → E (.ref e) { s with heap := h', toks := tk' }) :
    wpAny (model prog w) { handled := none, depth := dp, frames := some (env :: outer), guards := gd, units := un } (call (.ref f) vs) Q E s := by
  obtain ⟨g, Cg, st, sz, Lm, st0, hkp, Fg, _, back, bx⟩ := ground' (A := { handled := none, depth := dp, frames := some (env :: outer), guards := gd, units := un }) B C₀ F N rfl hf hke hm hk hd
  refine C g st0 hkp dp un gd base (env :: outer) s Q E Cg st sz Lm hdp hun (fun r h' tk' mt' st' N' hp => ?_) fun cls e h' tk' mt' R up hp => ?_
  · obtain ⟨F', N'', hd'⟩ := back h' mt' st' N'
    exact ret r h' tk' mt' F' N'' hd' hp
  · obtain ⟨G, FG, RG, uG, hd'⟩ := bx _ e h' mt' R up
    exact exc cls e h' tk' mt' G FG RG uG hd' hp
theorem useT {A₀ : Around} {base h₀ : Heap} {dp un : Nat} {gd : Option (List Code)} {outer : List Env} {env : Env} {L : Addr} {m : Str → Option Value} {news : List (Addr × Obj)} {s : Shared} {f : Addr} {vs : List Value} {d u : Nat} {Post : List (Addr × Obj) → Value → Prop} {Q E : Value → Shared → Prop}
    (mt keep : List (Addr × Obj))
    (B : Below A₀ base outer h₀) (C₀ : Cb K p loose mean mg mb base outer h₀) (F : Fr h₀ L s.heap m) (N : News h₀ L s.heap news) (hf : env.frame = some L) (hke : env.scope.kind = .function)
    (hm : ∀ q ∈ mt, q ∈ news) (hk : ∀ q ∈ keep, q ∈ news) (hd : ∀ q ∈ mt, ∀ r ∈ keep, q.1 ≠ r.1)
    (C : ∀ g, h₀.StaysIn g → (∀ q ∈ keep, g.get? q.1 = some q.2) → CallT prog w K p loose mean mg mb f vs d u g mt Post)
    (hdp : dp + d < recursionLimit) (hun : un + u < cLine)
    (ret : ∀ r h' tk' mt' h₀', KtsTurn (outer.filterMap (·.frame)) h₀ h₀' → Fr h₀' L h' m → News h₀' L h' (mt' ++ keep) → (∀ q ∈ mt', ∀ r ∈ keep, q.1 ≠ r.1) → Below A₀ base outer h₀' → K.In h₀' → Top p loose mean mg mb h₀' → Cb K p loose mean mg mb base outer h₀' →
      Post mt' r → Q r { s with heap := h', toks := tk' }) :
    wpAny (model prog w) { handled := none, depth := dp, frames := some (env :: outer), guards := gd, units := un } (call (.ref f) vs) Q E s := by
  obtain ⟨g, Cg, st, sz, Lm, st0, hkp, Fg, back, _, _⟩ := ground' (A := { handled := none, depth := dp, frames := some (env :: outer), guards := gd, units := un }) B C₀ F N rfl hf hke hm hk hd
  refine C g st0 hkp dp un gd base (env :: outer) s Q E Cg st sz Lm hdp hun fun r h' tk' mt' g' T st' N' hp => ?_
  obtain ⟨h₀', T', F', N'', hd', B', C'⟩ := back g' h' mt' T st' N'
  exact ret r h' tk' mt' h₀' T' F' N'' hd' B' (C'.XB.keeps B'.stays) (C'.TB.keeps B'.stays) C' hp

/-- what stands beside: a contract on mt is one on mt and keep -/
theorem side {A : Around} {base g h : Heap} {outer : List Env} {mt keep : List (Addr × Obj)} (X : Cx K p loose mean mg mb base outer A g) (st : g.StaysIn h) (N : Led g h (mt ++ keep)) (hd : ∀ q ∈ mt, ∀ r ∈ keep, q.1 ≠ r.1) :
    ∃ g₂, Cx K p loose mean mg mb base outer A g₂ ∧ g₂.StaysIn h ∧ g₂.objs.size ≤ h.objs.size ∧ Led g₂ h mt ∧ g.StaysIn g₂ ∧ (∀ q ∈ keep, g₂.get? q.1 = some q.2) := by
  have nm : ∀ b o, g.get? b = some o → b ∉ mt.map (·.1) := fun b o e q => by
    obtain ⟨p, hp, rfl⟩ := List.mem_map.mp q
    rw [(N p (List.mem_append_left _ hp)).2] at e; cases e
  have sg : g.StaysIn (hideAll h (mt.map (·.1))) := fun b o e => hideAll_get _ (st b o e) (nm b o e)
  refine ⟨hideAll h (mt.map (·.1)), ⟨⟨X.B.stack, fun b o e => sg b o (X.B.stays b o e), X.B.frames.of_keeps fun b o e _ => ⟨o, sg b o e, rfl⟩⟩, X.C.XB, X.C.TB, fun b hb => ?_⟩, fun b o e => of_hideAll _ e, Nat.le_of_eq (hideAll_size _ _), fun q hq => ⟨(N q (List.mem_append_left _ hq)).1, hideAll_none _ (List.mem_map_of_mem hq)⟩, sg, fun q hq => hideAll_get _ (N q (List.mem_append_right _ hq)).1 fun e => ?_⟩
  · obtain ⟨o, es, n, ho, hdd⟩ := X.C.D b hb
    exact ⟨o, es, n, sg _ _ ho, hdd⟩
  · obtain ⟨r, hr, e⟩ := List.mem_map.mp e
    exact hd r hr q hq e
end
end Mine

-- C0
namespace Mine

/-- a flying exception that was raised outside a handler -/
def CtxT (h : Heap) (e : Addr) (fl : Value) : Prop :=
  ∃ oe vs T oT ts, h.get? e = some oe ∧ oe.data = .fields vs ∧ vs[2]? = some .none ∧ vs[1]? = some (.ref T) ∧ T ≠ e ∧ h.get? T = some oT ∧ oT.data = .fields ts ∧ ts[3]? = some fl

section
variable {M : Model} {A : Around} {E : Value → Shared → Prop} {s : Shared} {base : Heap} {env : Env} {outer : List Env} {L e : Addr} {oe : Obj} {vs : Array Value} {head : Value} {hadNext : Bool} {Q : Unit → Shared → Prop}

theorem ctx_entry (hfr : A.frames = some (env :: outer)) (hl : s.heap.FunFrames base (env :: outer)) (hf : env.frame = some L)
    (he : s.heap.get? e = some oe) (hd : oe.data = .fields vs) (h1 : 1 < vs.size) (h2 : vs[2]? = some .none) (hQ : ∀ s', CtxT s'.heap e (rawInt L) → Q () s') :
    wpAny M A (do let a ← frameOf env; let pl ← entryPlaceOf L hadNext; let b ← EntryCells.newEntry head a .none (rawInt L) .none pl; setField (.ref e) 1 b) Q E s := by
  have ne : e ∉ (env :: outer).filterMap (·.frame) := fun hm => by
    obtain ⟨_, o, ho, hn⟩ := hl.mem hm
    rw [he] at ho; cases ho; exact hn vs hd
  refine wpAny_bind (wpAny_frameOf_fun hfr hl hf fun g hg => ?_)
  refine wpAny_bind (wpAny_entryPlaceOf fun pl hp => ?_)
  unfold EntryCells.newEntry newFields
  refine wpAny_bind (wpAny_newObj_type ?_ (hp.sizeOk5 _ _ _ _ _))
  have eg : g.get? e = some oe := (hg.2.1 e ne).trans he
  have far : g.objs.size ≠ e := Nat.ne_of_gt (Heap.lt_size eg)
  refine wpAny_setField (Heap.get?_push_of_some _ eg) hd h1 (hQ _ ?_)
  have dd := Obj.data_mapFields hd (·.setIfInBounds 1 (Value.ref g.objs.size))
  refine ⟨_, _, g.objs.size, _, _, Heap.get?_update_self _ (Heap.get?_push_of_some _ eg) (Obj.isFreed_of_fields dd), dd, ?_, ?_, far, (Heap.get?_update_other _ _ (Ne.symm far)).trans (Heap.get?_push_size _ rfl), rfl, ?_⟩
  · rw [Array.getElem?_setIfInBounds_ne (by decide)]; exact h2
  · simp [h1]
  · rcases hp with rfl | ⟨_, _, _, _, _, _, _, rfl⟩ <;> simp

theorem ctx_note1 (hfr : A.frames = some (env :: outer)) (hl : s.heap.FunFrames base (env :: outer)) (hf : env.frame = some L)
    (he : s.heap.get? e = some oe) (hd : oe.data = .fields vs) (h1 : vs[1]? = some .none) (h2 : vs[2]? = some .none) (hQ : ∀ s', CtxT s'.heap e (rawInt L) → Q () s') :
    wpAny M A (noteFrame (.ref e) env) Q E s := by
  unfold noteFrame
  simp only [hf]
  refine wpAny_bind (wpAny_field he hd h1 ?_)
  rw [if_neg (by decide)]
  exact ctx_entry hfr hl hf he hd (Array.getElem?_eq_some_iff.mp h1).1 h2 hQ
theorem ctx_note2 (hfr : A.frames = some (env :: outer)) (hl : s.heap.FunFrames base (env :: outer)) (hf : env.frame = some L)
    (h : CtxT s.heap e .none) (hQ : ∀ s', CtxT s'.heap e (rawInt L) → Q () s') : wpAny M A (noteFrame (.ref e) env) Q E s := by
  obtain ⟨oe, vs, T, oT, ts, he, hd, h2, h1, far, hT, dT, h3⟩ := h
  unfold noteFrame
  simp only [hf]
  refine wpAny_bind (wpAny_field he hd h1 ?_)
  rw [if_pos (show (Value.ref T != Value.none) = true from by simp)]
  refine wpAny_bind (wpAny_field hT dT h3 ?_)
  rw [if_neg (show ¬ ((Value.none == rawInt L) = true) from by simp [rawInt])]
  refine wpAny_bind (wpAny_setField hT dT (Array.getElem?_eq_some_iff.mp h3).1 ?_)
  refine ctx_entry hfr (hl.of_keeps fun b o hb hn => ⟨o, (Heap.get?_update_other _ _ fun q => ?_).trans hb, rfl⟩) hf ((Heap.get?_update_other _ _ far).trans he) hd (Array.getElem?_eq_some_iff.mp h1).1 h2 hQ
  rw [← q, hT] at hb; cases hb; exact hn ts dT
theorem ctx_flight {fl : Value} (h : CtxT s.heap e fl) (hQ : ∀ s', CtxT s'.heap e .none → Q () s') : wpAny M A (setFlight (.ref e) none) Q E s := by
  obtain ⟨oe, vs, T, oT, ts, he, hd, h2, h1, far, hT, dT, h3⟩ := h
  unfold setFlight
  refine wpAny_bind (wpAny_field he hd h1 ?_)
  rw [if_pos (show (Value.ref T != Value.none) = true from by simp)]
  have i3 := (Array.getElem?_eq_some_iff.mp h3).1
  refine wpAny_setField hT dT i3 (hQ _ ?_)
  have dd := Obj.data_mapFields dT (·.setIfInBounds 3 ((none : Option Addr).elim Value.none fun f => rawInt f))
  exact ⟨oe, vs, T, _, _, (Heap.get?_update_other _ _ far).trans he, hd, h2, h1, far, Heap.get?_update_self _ hT (Obj.isFreed_of_fields dd), dd, by simp [i3]⟩
theorem ctx_leave1 (hfr : A.frames = some (env :: outer)) (hl : s.heap.FunFrames base (env :: outer)) (hf : env.frame = some L)
    (he : s.heap.get? e = some oe) (hd : oe.data = .fields vs) (h1 : vs[1]? = some .none) (h2 : vs[2]? = some .none) (hQ : ∀ s', CtxT s'.heap e .none → Q () s') :
    wpAny M A (leaving env (.ref e)) Q E s := by
  unfold leaving
  exact wpAny_bind (ctx_note1 hfr hl hf he hd h1 h2 fun s' c => ctx_flight c hQ)
end

/-- raised in a handler: a new exception, its context the one that is handled -/
theorem unchain_none {prog : Program} {w : World} {A : Around} {E : Value → Shared → Prop} {s : Shared} {e e₀ : Addr} {fl : Value} {Q : Value → Shared → Prop} (h : CtxT s.heap e₀ fl) (hQ : Q .none s) :
    wpAny (model prog w) A (runValue (.builtin "proto.unchain" ⟨[.ref e, .ref e₀, .ref e₀, .bool false], []⟩)) Q E s := by
  obtain ⟨oe, vs, T, oT, ts, he, hd, h2, h1, far, hT, dT, h3⟩ := h
  refine wpAny_runValue (codeAny_builtin (b := Builtin.«proto.unchain») (entryFor_of_tree (by kernel_rfl)) ?_)
  unfold Builtin.«proto.unchain»
  dsimp only
  refine wpAny_bind (wpAny_field he hd h2 ?_)
  rw [if_pos (by decide)]
  exact wpAny_pure hQ

theorem raise_within {α : Type} {prog : Program} {w : World} {A : Around} {E : Value → Shared → Prop} {s : Shared} {e e₀ : Addr} {fl : Value} {ob : Obj} {vs : Array Value} {Q : α → Shared → Prop} (hh : A.handled = some (.ref e₀)) (ne : e₀ ≠ e) (h : CtxT s.heap e₀ fl)
    (he : s.heap.get? e = some ob) (hd : ob.data = .fields vs) (h2 : 2 < vs.size) (hE : E (.ref e) { s with heap := s.heap.update e (Obj.mapFields (·.setIfInBounds 2 (.ref e₀))) }) : wpAny (model prog w) A (raiseNew (.ref e) : Sem α) Q E s := by
  unfold raiseNew
  refine wpAny_bind (wpAny_handled ?_)
  rw [hh]
  dsimp only
  rw [if_pos (show (Value.ref e₀ != Value.ref e) = true from by simpa using ne)]
  refine wpAny_bind (wpAny_holding (unchain_none h ?_))
  exact wpAny_bind (wpAny_setField he hd h2 (wpAny_throw hE))

/-- the end of a raise in a handler -/
def InH (e₀ : Addr) (E : Value → Shared → Prop) (v : Value) (s₁ : Shared) : Prop :=
  ∃ (a : Addr) (ob : Obj) (vs : Array Value) (fl : Value), v = .ref a ∧ e₀ ≠ a ∧ CtxT s₁.heap e₀ fl ∧ s₁.heap.get? a = some ob ∧ ob.data = .fields vs ∧ 2 < vs.size ∧ E (.ref a) { s₁ with heap := s₁.heap.update a (Obj.mapFields (·.setIfInBounds 2 (.ref e₀))) }
/-- `raise` of a new exception, in a handler -/
theorem Raise_newH {prog : Program} {w : World} {A : Around} {E : Value → Shared → Prop} {s : Shared} {env : Env} {e : Expr} {pos : Pos} {e₀ : Addr} {Q : Flow → Shared → Prop} (hh : A.handled = some (.ref e₀))
    (h : wpAny (model prog w) A (eval e env) (Raisable (InH e₀ E)) E s) :
    wpAny (model prog w) A (exec (.Raise (some e) none pos) env) Q E s := by
  show wpAny _ A (do standAt pos; raiseStmt env (some (do let v ← eval e env; standAt pos; pure v)) none) Q E s
  refine wpAny_bind (wpAny_standAt ?_)
  unfold raiseStmt
  dsimp only
  refine wpAny_bind (wpAny_bind (wpAny_mono h (fun v s₁ r => wpAny_bind (wpAny_standAt (wpAny_pure ?_))) fun _ _ x => x))
  obtain ⟨a, ob, vs, X, N, I, hc, rfl, ha, hcls, hd, h1, _, ob', vs', fl, q, ne, hx, ha', hd', h2, hE⟩ := r
  cases q
  have ty : s₁.TypeIs (.ref a) X := ⟨ob, ha, hcls⟩
  have nt : ∀ {Q' : Bool → Shared → Prop}, Q' false s₁ → wpAny (model prog w) A (isType (.ref a)) Q' E s₁ := by
    intro Q' hq
    simp only [isType, loadHead]
    refine wpAny_bind (wpAny_loadPart ha ?_)
    rw [hd]; exact wpAny_pure hq
  refine wpAny_bind (wpAny_pure (wpAny_bind (wpAny_holding ?_)))
  unfold excFromValue isExcClass
  refine wpAny_bind (wpAny_bind (nt ?_))
  simp only [Bool.false_eq_true, if_false]
  refine wpAny_pure ?_
  simp only [Bool.false_eq_true, if_false]
  refine wpAny_bind (wpAny_isInstance ty hc.base ?_)
  simp only [if_true]
  refine wpAny_pure (wpAny_bind (nt ?_))
  simp only [Bool.false_eq_true, if_false]
  unfold raisedInstance
  refine wpAny_bind (wpAny_bind (wpAny_typeOf ty (wpAny_bind (m := typeOf (.type X)) (wpAny_pure ?_))))
  rw [if_pos hc.metaType]
  refine wpAny_pure ?_
  unfold setFlight
  refine wpAny_bind (wpAny_bind (wpAny_field ha hd h1 ?_))
  rw [if_neg (by decide)]
  exact wpAny_pure (raise_within hh ne hx ha' hd' h2 hE)

section
variable {M : Model} {A : Around} {E : Value → Shared → Prop} {s' : Shared} {base g h : Heap} {outer : List Env} {L a e : Addr} {m : Str → Option Value} {name : Str} {scope : Scope} {cd : Value} {Q : Unit → Shared → Prop} {news : List (Addr × Obj)}
/-- a frame is left by an exception that is new over h, whatever its context -/
theorem leave_any {cls : Value} {ob : Obj} {vs : Array Value} {t : Value} (K : Below A base outer g) (hk : ∀ b o, h.get? b = some o → s'.heap.get? b = some o) (hnew : h.get? e = none) (he : s'.heap.get? e = some ob) (hcls : ob.cls = cls) (hd : ob.data = .fields vs)
    (h0 : vs[0]? = some t) (h1 : vs[1]? = some .none) (F : Fr g L h m) (N : News g L h news)
    (hQ : ∀ h', RaisedSN base g outer e cls news h' → g.UpToSlots h' → (vs[2]? = some .none → CtxT h' e .none) → Q () { s' with heap := h' }) (hfn : scope.kind = .function := by rfl) :
    wpAny M (A.deeper (envOf name scope L a cd)) (leaving (envOf name scope L a cd) (.ref e)) Q E s' := by
  have K' := K.push (name := name) (a := a) (cd := cd) F hfn
  have fin : ∀ env ∈ (envOf name scope L a cd :: outer), ∀ b, env.frame = some b → b ∈ (envOf name scope L a cd :: outer).filterMap (·.frame) := fun env he b hb => List.mem_filterMap.mpr ⟨env, he, hb⟩
  have st : base.StaysIn (hideAll h ((envOf name scope L a cd :: outer).filterMap (·.frame))) := fun b o q => hideAll_get _ (K'.stays b o q) fun hm => by
    rw [(K'.frames.mem hm).1] at q; cases q
  have sg : ∀ b o, g.get? b = some o → b ∉ outer.filterMap (·.frame) → (hideAll h ((envOf name scope L a cd :: outer).filterMap (·.frame))).get? b = some o := fun b o q nm => hideAll_get _ (F.keep b o q) fun hm => by
    rcases kts_mem hm with z | z
    · rw [z, kts_self F] at q; cases q
    · exact nm z
  have hl : ∀ q ∈ news, (hideAll h ((envOf name scope L a cd :: outer).filterMap (·.frame))).get? q.1 = some q.2 ∧ g.get? q.1 = none ∧ base.get? q.1 = none := fun q hq => by
    refine ⟨hideAll_get _ (N q hq).1 fun hm => ?_, (N q hq).2.2, fresh_of_stays K.stays (N q hq).2.2⟩
    rcases kts_mem hm with z | z
    · exact (N q hq).2.1 z
    · obtain ⟨_, o, ho, _⟩ := K.frames.mem z
      rw [(N q hq).2.2] at ho; cases ho
  have hen : (hideAll h ((envOf name scope L a cd :: outer).filterMap (·.frame))).get? e = none := by
    cases q : (hideAll h ((envOf name scope L a cd :: outer).filterMap (·.frame))).get? e with
    | none => rfl
    | some o => have := of_hideAll _ q; rw [hnew] at this; cases this
  have FF := (funFrames_hide K'.frames fin).of_keeps (h' := s'.heap) fun b o hb _ => ⟨o, hk b o hb, rfl⟩
  have both : wpAny M (A.deeper (envOf name scope L a cd)) (leaving (envOf name scope L a cd) (.ref e))
      (fun _ s'' => (∃ h', s'' = { s' with heap := h' } ∧ RaisedSN base g outer e cls news h' ∧ g.UpToSlots h') ∧ (vs[2]? = some .none → CtxT s''.heap e .none)) (fun e s => E e s ∧ E e s) s' := by
    refine wpAny_both (wpAny_leaving_firstW (a0 := t) K'.stack FF rfl he (fun b o hb => hk b o (of_hideAll _ hb)) hen hd h1 h0 fun h' hL => ?_) ?_
    · obtain ⟨k1, ⟨_, _, k2⟩, k3, k4⟩ := hL
      exact ⟨h', rfl, ⟨_, t, st, sg, hl, k1, hen, k2, by rw [← hcls]; exact k3⟩, ((Heap.UpToSlots.of_keeps F.keep).trans (Heap.UpToSlots.of_keeps hk)).trans k4⟩
    · by_cases h2 : vs[2]? = some .none
      · exact ctx_leave1 K'.stack FF rfl he hd h1 h2 fun s' c _ => c
      · exact wpAny_leaving_firstW (a0 := t) K'.stack FF rfl he (fun b o hb => hk b o (of_hideAll _ hb)) hen hd h1 h0 fun h' _ c => absurd c h2
  refine wpAny_mono both (fun _ s'' r => ?_) fun _ _ y => y.1
  obtain ⟨⟨h', rfl, R, U⟩, c⟩ := r
  exact hQ h' R U c
end

section
variable {prog : Program} {w : World} {A₀ : Around} {E : Value → Shared → Prop} {s' : Shared} {base g G : Heap} {outer : List Env} {L a e : Addr} {m : Str → Option Value} {name : Str} {scope : Scope} {cd : Value}
  {b₀ : Stmt} {suite : List Stmt} {pos np : Pos} {rest : List ExceptHandler} {Q : Flow → Shared → Prop} {news : List (Addr × Obj)} {KF : Frag}
  {p : Program} {loose : List Str} {mean : ExcName → Option Value} {mg mb : Str → Option Value} {x : Str} {X T' : String}
/-- caught, and its context told -/
theorem caught_C (R : RaisedSN base G (envOf name scope L a cd :: outer) e (.type X) news s'.heap) (hc : CtxT s'.heap e .none) (F : Fr g L G m) (K : Below A₀ base outer g) (hsm : G.UpToSlots s'.heap) (CB : Cb KF p loose mean mg mb base outer g)
    (ex : nsIn KF mainGlobals x = some none) (hv : bootBuiltins x = some (.type T')) (hn' : x ≠ "__name__")
    (hexc : isSubtype (.type T') (.type "BaseException") = pure true) (hnt : isSubtype (.type ((Manifest.find? T').elim "type" fun y => y.metatype)) (.type "tuple") = pure false) (hsub : isSubtype (.type X) (.type T') = pure true)
    (k : ∀ h' g', KtsTurn (outer.filterMap (·.frame)) g g' → Fr g' L h' m → News g' L h' news → Below A₀ base outer g' → KF.In g' → Top p loose mean mg mb g' → Cb KF p loose mean mg mb base outer g' → CtxT h' e .none →
      wpAny (model prog w) ((A₀.deeper (envOf name scope L a cd)).mark (some (.ref e))) (execs (b₀ :: suite) (envOf name scope L a cd)) Q E { s' with heap := h' })
    (hk : scope.kind = .function := by rfl) (hx : (envOf name scope L a cd).kindOf x = some .globalImplicit := by rfl) (hd : (x == ("__debug__" : Str)) = false := by decide)
    (hE : PassesOwnAt (model prog w) ((A₀.deeper (envOf name scope L a cd)).mark (some (.ref e))) (A₀.deeper (envOf name scope L a cd)) (envOf name scope L a cd) E := by passes_own) :
    wpAny (model prog w) (A₀.deeper (envOf name scope L a cd)) (noteFrame (.ref e) (envOf name scope L a cd))
      (fun _ s₂ => wpAny (model prog w) (A₀.deeper (envOf name scope L a cd)) (setFlight (.ref e) none) (fun _ s₃ =>
        wpAny (model prog w) (A₀.deeper (envOf name scope L a cd)) (handleBy (.ref e) (envOf name scope L a cd) (.ExceptHandler (some (.Name x np)) none (b₀ :: suite) pos :: rest)) Q E s₃) E s₂) E s' := by
  obtain ⟨B, a0, hB, hBG, hl, hfl⟩ := R
  have hL : B.get? L = none := by
    obtain ⟨_, ⟨L', _, hf, hn', _⟩, _⟩ := hfl.2.2.1
    obtain rfl : L = L' := Option.some.inj hf
    exact hn'
  have hfr := Around.frames_deeper (env := envOf name scope L a cd) K.stack
  -- the frame is noted
  have n1 := wpAny_both (wpAny_looks_onW (M := model prog w) (E := E) (Q := fun _ s₂ => ∃ h₄, s₂ = { s' with heap := h₄ } ∧ Heap.HeldW B (envOf name scope L a cd :: outer) e (.type X) a0 L h₄ ∧ s'.heap.UpToSlots h₄) hfr rfl hfl fun h₄ x y => ⟨h₄, rfl, x, y⟩)
    (ctx_note2 (E := E) (Q := fun _ s₂ => CtxT s₂.heap e (rawInt L)) hfr hfl.2.2.1 rfl hc fun _ c => c)
  refine wpAny_mono n1 (fun _ s₂ r => ?_) fun _ _ y => y.1
  obtain ⟨⟨h₄, rfl, held₄, sm₄⟩, c₄⟩ := r
  have n2 := wpAny_both (wpAny_landsW (M := model prog w) (A := A₀.deeper (envOf name scope L a cd)) (E := E) (s := { s' with heap := h₄ }) (Q := fun _ s₂ => ∃ h₅, s₂ = { s' with heap := h₅ } ∧ Heap.FlyingW B (envOf name scope L a cd :: outer) e (.type X) a0 h₅ ∧ h₄.UpToSlots h₅) held₄ fun h₅ x y => ⟨h₅, rfl, x, y⟩)
    (ctx_flight (E := E) (Q := fun _ s₂ => CtxT s₂.heap e .none) c₄ fun _ c => c)
  refine wpAny_mono n2 (fun _ s₃ r => ?_) fun _ _ y => y.1
  obtain ⟨⟨h₅, rfl, fly₅, sm₅'⟩, c₅⟩ := r
  have sm₅ := sm₄.trans sm₅'
  obtain ⟨g₅, T₅, F₅, K₅⟩ := kts_ground K F hBG fly₅.1 (hsm.trans sm₅)
  have X₅ : KF.In g₅ := CB.XB.keeps K₅.stays
  have P₅ : TopRead p loose mg mb g₅ := topRead_of (CB.TB.keeps K₅.stays)
  obtain ⟨ob, hob, hobc⟩ := fly₅.there
  refine wpAny_handleBy_builtin (X := X) (T := T') (b := true) hexc hnt hsub (name_B F₅ X₅ P₅ ex hv hn' ⟨rfl, ⟨ob, hob, hobc⟩, ?_⟩ hk hx hd)
  have n3 := wpAny_both (lands_againW (M := model prog w) (A := (A₀.deeper (envOf name scope L a cd)).mark (some (.ref e))) (E := notedBy (model prog w) ((A₀.deeper (envOf name scope L a cd)).mark (some (.ref e))) (envOf name scope L a cd) (cameBackBy (model prog w) (A₀.deeper (envOf name scope L a cd)) (envOf name scope L a cd) E))
    (s := { s' with heap := h₅ }) (Q := fun _ s₂ => ∃ h₆, s₂ = { s' with heap := h₆ } ∧ Heap.FlyingW B (envOf name scope L a cd :: outer) e (.type X) a0 h₆ ∧ h₅.UpToSlots h₆) fly₅ fun h₆ x y => ⟨h₆, rfl, x, y⟩)
    (ctx_flight (E := notedBy (model prog w) ((A₀.deeper (envOf name scope L a cd)).mark (some (.ref e))) (envOf name scope L a cd) (cameBackBy (model prog w) (A₀.deeper (envOf name scope L a cd)) (envOf name scope L a cd) E)) (Q := fun _ s₂ => CtxT s₂.heap e .none) c₅ fun _ c => c)
  refine wpAny_mono n3 (fun _ s₄ r => ?_) fun _ _ y => y.1
  obtain ⟨⟨h₆, rfl, fly₆, sm₆⟩, c₆⟩ := r
  obtain ⟨g₆, T₆, F₆, K₆⟩ := kts_ground K F hBG fly₆.1 ((hsm.trans sm₅).trans sm₆)
  have Nl : News g₆ L h₆ news := fun q hq => ⟨fly₆.1 _ _ (hl q hq).1, (fun z => by have := (hl q hq).1; rw [z, hL] at this; cases this), T₆.none_ _ (kts_none F.keep (hl q hq).2.1)⟩
  exact wpAny_passesOwnAt hE (k h₆ g₆ T₆ F₆ Nl K₆ (CB.XB.keeps K₆.stays) (CB.TB.keeps K₆.stays) ⟨CB.XB, CB.TB, CB.D.turn T₆⟩ c₆)
end
end Mine

-- P9
namespace Mine



section
variable {prog : Program} {w : World} {A : Around} {E : Value → Shared → Prop} {s : Shared} {h₀ : Heap} {L l : Addr} {m : Str → Option Value} {news : List (Addr × Obj)} {vs : List Value} {n : Nat}
theorem weak {l : List (Addr × Obj)} {h : Heap} (N : News h₀ L h news) (k : ∀ q ∈ l, q ∈ news) : News h₀ L h l := fun q hq => N q (k q hq)
theorem rot {A B : List (Addr × Obj)} {h : Heap} (N : News h₀ L h (A ++ B)) : News h₀ L h (B ++ A) := fun q hq => N q (by rw [List.mem_append] at hq ⊢; exact hq.symm)
theorem lenO {Q : Value → Shared → Prop} (N : News h₀ L s.heap news) (hm : (l, listOf vs.toArray n) ∈ news) (hf : vs.length ≤ 1000000) (h : Q (.int (vs.length : Nat) (s.toks + 1)) { s with toks := s.toks + 1 + 1 }) :
    wpAny (model prog w) A (call (.builtin "len") [.ref l]) Q E s := by
  have hl : s.heap.IsList l vs.toArray := ⟨_, (N _ hm).1, rfl, n, rfl⟩
  exact len_list hl (by rw [List.size_toArray]; omega) (by rw [List.size_toArray]; exact h)
theorem lenB {Q : Value → Shared → Prop} (hl : s.heap.IsList l vs.toArray) (hf : vs.length ≤ 1000000) (h : Q (.int (vs.length : Nat) (s.toks + 1)) { s with toks := s.toks + 1 + 1 }) :
    wpAny (model prog w) A (call (.builtin "len") [.ref l]) Q E s :=
  len_list hl (by rw [List.size_toArray]; omega) (by rw [List.size_toArray]; exact h)
end
end Mine
local macro_rules | `(tactic| walk_at "call builtin:len") => `(tactic| (k_here; (with_reducible show wpAny _ _ (call (Value.builtin "len") [Value.ref _]) _ _ _); (refine lenO (by k_asm) (by k_dflt k_mem) (by omega) ?_)))
namespace Mine
end Mine
local macro_rules | `(tactic| k_all) => `(tactic| assumption)
namespace Mine
end Mine
local macro_rules | `(tactic| k_ne) => `(tactic| assumption)
namespace Mine

def LiOk (i : LI) : Prop := At i.d i.e (encs i.ts) ∧ i.d.length ≤ 2000000 ∧ (encs i.ts).length ≤ 1000000
def StOk (i : LI) (s : LSt) : Prop := s.nd = 7 ∧ s.vs.length ≤ i.ts.length ∧ s.idx = i.e + (encs (i.ts.take s.vs.length)).length ∧ (s.lv = .none ∨ (s.vs.length = i.ts.length ∧ ∃ tk, s.lv = .int i.ts.length tk))

/-- what is drawn behind a state -/
def NextPost (P : Params) (x : Addr) (i : LI) (s : LSt) (mt : List (Addr × Obj)) (r : Value) : Prop :=
  ∃ s' t tl, mt = l3 P x i s' ++ tl ∧ i.ts[s.vs.length]? = some t ∧ VNew P i.d t r tl ∧ s'.vs = s.vs ++ [r] ∧ StOk i s' ∧ (∀ q ∈ tl, q.1 ≠ x ∧ q.1 ≠ i.dx ∧ q.1 ≠ i.ex)
def NextExc (P : Params) (x : Addr) (i : LI) (s : LSt) (cls : String) (e : Addr) (h : Heap) (mt : List (Addr × Obj)) : Prop :=
  cls = "StopIteration" ∧ CtxT h e .none ∧ ∃ s', mt = l3 P x i s' ∧ s'.vs = s.vs ∧ StOk i s' ∧ s.vs.length = i.ts.length

section
variable {w : World} {p : Program} {loose : List Str} {mean : ExcName → Option Value} {mg mb : Str → Option Value}

set_option maxHeartbeats 4000000 in
theorem next_spec (g : Heap) (x : Addr) (i : LI) (s₀ : LSt) (hi : LiOk i) (hs : StOk i s₀) (h1 : x ≠ i.dx) (h2 : x ≠ i.ex) (h3 : i.dx ≠ i.ex) :
    CallN Challenge.rw_is0005_01.row.prog w (hd.heap_1 w.params) p loose mean mg mb 135 [.ref x] (deps i.ts + 20) (8 * deps i.ts + 200) g (l3 w.params x i s₀) (NextPost w.params x i s₀) (NextExc w.params x i s₀) := by
  obtain ⟨H, hz, he⟩ := hi
  obtain ⟨hnd, hj, hx, hl⟩ := hs
  obtain ⟨d, e, ts, dx, ex⟩ := i
  obtain ⟨k1, k2, k3, k4, k5, k6, k7, t1, t2, t3, t4, idx, vs, lv, nd, ne⟩ := s₀
  dsimp only at hnd H hz he hj hx hl h1 h2 h3
  subst hx
  subst hnd
  have h1 : @Ne Nat x dx := h1
  have h2 : @Ne Nat x ex := h2
  have h3 : @Ne Nat dx ex := h3
  w_top off
  k_fill
  intro dp un gd base outer s Q E C st sz N hdp hun ret exc
  dsimp only [l3, lzEs] at N
  dsimp only at hdp hun
  walk_at "MINE enter"
  intro L' h' tk0 F' N' l1 B' X' T' CB'
  clear C
  replace F' : Fr g L' h' (fun y => List.lookup y [(Str.ofString "self", Value.ref x)]) := F'
  dsimp only
  try k_fold
  by_cases hlt : vs.length < ts.length
  · obtain ⟨t, hti⟩ : ∃ t, ts[vs.length]? = some t := ⟨ts[vs.length], by simp [hlt]⟩
    have hle := enc_le_encs hti
    have hpos := enc_pos t
    have hdt := deps_le hti
    have hf1 : ¬ e + ((encs (ts.take vs.length)).length : Int) = e + (encs ts).length := by omega
    have hf2 : e + ((encs (ts.take vs.length)).length : Int) < e + (encs ts).length := by omega
    have Ht : At d (e + (encs (ts.take vs.length)).length) (enc t) := by
      have H' := H
      rw [show encs ts = encs (ts.take vs.length) ++ (enc t ++ encs (ts.drop (vs.length + 1))) by rw [← List.append_assoc, ← encs_take_succ hti, ← encs_append, List.take_append_drop]] at H'
      obtain ⟨a, b, r, e'⟩ := (at_app H').2.2.1
      exact ⟨a, b, encs (ts.drop (vs.length + 1)) ++ r, by rw [e', List.append_assoc]⟩
    have hge := encs_ge ts
    (repeat' ((fail_if_success (with_reducible first | (show wpAny _ _ (PySem.eval _ _) _ _ _; first | show wpAny _ _ (PySem.eval (.ListComp _ _ _ _) _) _ _ _) | (show wpAny _ _ (exec _ _) _ _ _; first | show wpAny _ _ (exec (.While _ _ _ _) _) _ _ _ | show wpAny _ _ (exec (.For _ _ _ _ _) _) _ _ _ | show wpAny _ _ (exec (.Raise (some (.Call _ _ _ _)) _ _) _) _ _ _) | (show wpAny _ _ (PySem.call _ _) _ _ _; first | refine h_ref (by decide) ?_ | show wpAny _ _ (PySem.call (.type "IndexError") _) _ _ _) | show wpAny _ _ (pyIter _) (fun it s₂ => LoopAtV _ _ _ _ _ _ _ _ _ it s₂) _ _ | show wpAny _ _ (leaving _ _) _ _ _ | show wpAny _ _ (noteFrame _ _) _ _ _)); (first | (k_unfold; (try dsimp only)) | walk1 | (dsimp only; walk1) | (leave1; walk_say "STEP leave1"; try dsimp only) | ((fail_if_success (show wpAny _ _ _ _ _ _)); dsimp only) | fail "no step")))
    any_goals (exfalso; omega)
    rename Fr _ _ _ _ => kF
    rename News _ _ _ _ => kN
    refine useN [] [(x, _), (dx, _), (ex, _)] B' CB' kF kN (by exact rfl) (by exact rfl) (fun _ h => nomatch h) (fun _ h => h) (fun _ h => nomatch h) (fun g2 _ _ => (cil_spec t g2 d _ _ _ Ht hz (by omega)).toN (Exc := fun _ _ _ _ => False)) (by walk_at "MINE room") (by walk_at "MINE room") ?_ (fun _ _ _ _ _ _ _ _ _ _ h => h.elim)
    clear kF kN
    rintro r h2 tk2 tl kF kN hd ⟨a, v, en, te, tl, rfl, rfl, hen, hv⟩
    have ha : ∀ q ∈ tl, q.1 ≠ x ∧ q.1 ≠ dx ∧ q.1 ≠ ex := fun q hq => ⟨hd q (.tail _ hq) (x, _) (.head _), hd q (.tail _ hq) (dx, _) (.tail _ (.head _)), hd q (.tail _ hq) (ex, _) (.tail _ (.tail _ (.head _)))⟩
    have ha0 : @Ne Nat a x := hd (a, _) (.head _) (x, _) (.head _)
    have ha1 : @Ne Nat a dx := hd (a, _) (.head _) (dx, _) (.tail _ (.head _))
    have ha2 : @Ne Nat a ex := hd (a, _) (.head _) (ex, _) (.tail _ (.tail _ (.head _)))
    have hb1 : ∀ q ∈ tl, q.1 ≠ dx := fun q hq => (ha q hq).2.1
    have hb2 : ∀ q ∈ tl, q.1 ≠ ex := fun q hq => (ha q hq).2.2
    clear hd
    replace kN := rot kN
    dsimp only [List.cons_append, List.nil_append] at kN
    dsimp only
    (repeat' ((fail_if_success (with_reducible first | (show wpAny _ _ (PySem.eval _ _) _ _ _; first | show wpAny _ _ (PySem.eval (.ListComp _ _ _ _) _) _ _ _) | (show wpAny _ _ (exec _ _) _ _ _; first | show wpAny _ _ (exec (.While _ _ _ _) _) _ _ _ | show wpAny _ _ (exec (.For _ _ _ _ _) _) _ _ _ | show wpAny _ _ (exec (.Raise (some (.Call _ _ _ _)) _ _) _) _ _ _) | (show wpAny _ _ (PySem.call _ _) _ _ _; first | refine h_ref (by decide) ?_ | show wpAny _ _ (PySem.call (.type "IndexError") _) _ _ _) | show wpAny _ _ (pyIter _) (fun it s₂ => LoopAtV _ _ _ _ _ _ _ _ _ it s₂) _ _ | show wpAny _ _ (leaving _ _) _ _ _ | show wpAny _ _ (noteFrame _ _) _ _ _)); (first | (k_unfold; (try dsimp only)) | walk1 | (dsimp only; walk1) | (leave1; walk_say "STEP leave1"; try dsimp only) | ((fail_if_success (show wpAny _ _ _ _ _ _)); dsimp only) | fail "no step")))
    rename Fr _ _ _ _ => kF
    rename News _ _ _ _ => kN
    rw [List.push_toArray] at kN
    have hl0 : lv = .none := by
      rcases hl with h | h
      · exact h
      · omega
    have he2 : en = e + ((encs (ts.take (vs ++ [v]).length)).length : Int) := by
      rw [List.length_append, List.length_singleton, encs_take_succ hti, List.length_append, hen]; omega
    refine ret _ _ _ (l3 w.params x ⟨d, e, ts, dx, ex⟩ ⟨k1, k2, k3, k4, k5, k6, k7, t1, t2, t3, te, en, vs ++ [v], lv, 7, ne + 1⟩ ++ tl) kF.keep (fun q hq => ?_) ⟨⟨k1, k2, k3, k4, k5, k6, k7, t1, t2, t3, te, en, vs ++ [v], lv, 7, ne + 1⟩, t, tl, rfl, hti, hv, rfl, ⟨rfl, by simp only [List.length_append, List.length_singleton]; omega, he2, .inl hl0⟩, ha⟩
    have z := kN q (by
      simp only [l3, lzEs, List.mem_cons, List.mem_append, List.cons_append, List.nil_append] at hq ⊢
      rcases hq with q | q | q | q <;> simp only [q, true_or, or_true])
    exact ⟨z.1, z.2.2⟩
  · have hjj : vs.length = ts.length := by omega
    have hge := encs_ge ts
    have hf1 : e + ((encs (ts.take vs.length)).length : Int) = e + (encs ts).length := by rw [hjj, List.take_length]
    rw [hf1] at N'
    have hj0 := hjj
    (repeat' ((fail_if_success (with_reducible first | (show wpAny _ _ (PySem.eval _ _) _ _ _; first | show wpAny _ _ (PySem.eval (.ListComp _ _ _ _) _) _ _ _) | (show wpAny _ _ (exec _ _) _ _ _; first | show wpAny _ _ (exec (.While _ _ _ _) _) _ _ _ | show wpAny _ _ (exec (.For _ _ _ _ _) _) _ _ _ | show wpAny _ _ (exec (.Raise (some (.Call _ _ _ _)) _ _) _) _ _ _) | (show wpAny _ _ (PySem.call _ _) _ _ _; first | refine h_ref (by decide) ?_ | show wpAny _ _ (PySem.call (.type "IndexError") _) _ _ _) | show wpAny _ _ (pyIter _) (fun it s₂ => LoopAtV _ _ _ _ _ _ _ _ _ it s₂) _ _ | show wpAny _ _ (leaving _ _) _ _ _ | show wpAny _ _ (noteFrame _ _) _ _ _)); (first | (k_unfold; (try dsimp only)) | walk1 | (dsimp only; walk1) | (leave1; walk_say "STEP leave1"; try dsimp only) | ((fail_if_success (show wpAny _ _ _ _ _ _)); dsimp only) | fail "no step")))
    any_goals (exact absurd rfl (by assumption))
    rename Fr _ _ _ _ => kF
    rename News _ _ _ _ => kN
    rename Heap.MadeExc _ _ _ _ _ => kX
    obtain ⟨at1, at2, _, _⟩ := (Heap.MadeExc.of kX).there
    refine leave_any B' (Heap.MadeExc.of kX).keeps (Heap.MadeExc.of kX).new at2 rfl rfl rfl rfl kF kN (fun h3 R up c => ?_)
    refine exc _ _ _ _ _ R up ⟨rfl, c rfl, ⟨k1, k2, k3, k4, k5, k6, k7, t1, t2, t3, t4, _, vs, _, _, ne⟩, rfl, rfl, ⟨rfl, hj, hf1.symm, .inr ⟨hjj, _, by rw [hjj]⟩⟩, hjj⟩
end
end Mine

-- P10
namespace Mine

def VRel (W : Addr → Option LI) : Tr → Value → Prop
  | .b bs, v => ∃ tk, v = .bytes bs.toArray tk
  | .l ts, v => ∃ x i, v = .ref x ∧ W x = some i ∧ i.ts = ts
def VRels (W : Addr → Option LI) (ts : List Tr) (vs : List Value) : Prop := ∀ (j : Nat) v, vs[j]? = some v → ∃ t, ts[j]? = some t ∧ VRel W t v
def Wle (W W' : Addr → Option LI) : Prop := ∀ x i, W x = some i → W' x = some i
theorem Wle.refl {W : Addr → Option LI} : Wle W W := fun _ _ e => e
theorem Wle.trans {W W' W'' : Addr → Option LI} (a : Wle W W') (b : Wle W' W'') : Wle W W'' := fun x i e => b x i (a x i e)
theorem VRel.mono {W W' : Addr → Option LI} (k : Wle W W') : ∀ {t : Tr} {v : Value}, VRel W t v → VRel W' t v
  | .b _, _, x => x
  | .l _, _, ⟨x, i, e, h, z⟩ => ⟨x, i, e, k _ _ h, z⟩
theorem VRels.mono {W W' : Addr → Option LI} (k : Wle W W') {ts : List Tr} {vs : List Value} (h : VRels W ts vs) : VRels W' ts vs :=
  fun j v e => let ⟨t, a, b⟩ := h j v e; ⟨t, a, b.mono k⟩
theorem VRels.snoc {W : Addr → Option LI} {ts : List Tr} {vs : List Value} {t : Tr} {v : Value} (h : VRels W ts vs) (e : ts[vs.length]? = some t) (r : VRel W t v) : VRels W ts (vs ++ [v]) := by
  intro j u hu
  by_cases hj : j < vs.length
  · rw [List.getElem?_append_left hj] at hu; exact h j u hu
  · by_cases hj2 : j = vs.length
    · subst hj2; simp at hu; exact ⟨t, e, hu ▸ r⟩
    · rw [List.getElem?_eq_none (by simp; omega)] at hu; cases hu

def trip (x : Addr) (i : LI) : List Addr := [x, i.dx, i.ex]
structure Ob1 (P : Params) (W : Addr → Option LI) (led : List (Addr × Obj)) (x : Addr) (i : LI) : Prop where
  ok : LiOk i
  st : ∃ s, StOk i s ∧ (∀ q ∈ l3 P x i s, q ∈ led) ∧ VRels W i.ts s.vs
structure Wd (P : Params) (W : Addr → Option LI) (led : List (Addr × Obj)) : Prop where
  ob : ∀ x i, W x = some i → Ob1 P W led x i
  ap : ∀ x i y j, W x = some i → W y = some j → x ≠ y → ∀ a ∈ trip x i, a ∉ trip y j
/-- all but x -/
structure WdX (P : Params) (W : Addr → Option LI) (x : Addr) (i : LI) (rest : List (Addr × Obj)) : Prop where
  me : W x = some i
  ok : LiOk i
  ob : ∀ y j, W y = some j → y ≠ x → Ob1 P W rest y j
  ap : ∀ x i y j, W x = some i → W y = some j → x ≠ y → ∀ a ∈ trip x i, a ∉ trip y j
  off : ∀ q ∈ rest, q.1 ∉ trip x i
theorem Ob1.mono {P : Params} {W W' : Addr → Option LI} {led led' : List (Addr × Obj)} {x : Addr} {i : LI} (k : Wle W W') (m : ∀ q ∈ led, q ∈ led') (h : Ob1 P W led x i) : Ob1 P W' led' x i := by
  obtain ⟨a, s, b, c, d⟩ := h
  exact ⟨a, s, b, fun q hq => m q (c q hq), d.mono k⟩
theorem mem_l3 {P : Params} {x : Addr} {i : LI} {s : LSt} {q : Addr × Obj} (h : q ∈ l3 P x i s) : q.1 ∈ trip x i := by
  simp only [l3, List.mem_cons, List.not_mem_nil, or_false] at h
  rcases h with rfl | rfl | rfl <;> simp [trip]
theorem trip_l3 {P : Params} {x : Addr} {i : LI} {s : LSt} {a : Addr} (h : a ∈ trip x i) : ∃ q ∈ l3 P x i s, q.1 = a := by
  simp only [trip, List.mem_cons, List.not_mem_nil, or_false] at h
  rcases h with rfl | rfl | rfl
  · exact ⟨_, .head _, rfl⟩
  · exact ⟨_, .tail _ (.head _), rfl⟩
  · exact ⟨_, .tail _ (.tail _ (.head _)), rfl⟩
theorem Wd.open_ {P : Params} {W : Addr → Option LI} {led : List (Addr × Obj)} {x : Addr} {i : LI} (h : Wd P W led) (e : W x = some i) :
    ∃ s rest, WdX P W x i rest ∧ StOk i s ∧ VRels W i.ts s.vs ∧ (∀ q ∈ l3 P x i s ++ rest, q ∈ led) := by
  obtain ⟨ok, s, b, c, d⟩ := h.ob x i e
  refine ⟨s, led.filter fun q => !(trip x i).contains q.1, ⟨e, ok, fun y j ey hy => ?_, h.ap, fun q hq => ?_⟩, b, d, fun q hq => ?_⟩
  · obtain ⟨ok', s', b', c', d'⟩ := h.ob y j ey
    refine ⟨ok', s', b', fun q hq => List.mem_filter.mpr ⟨c' q hq, ?_⟩, d'⟩
    have := h.ap y j x i ey e hy q.1 (mem_l3 hq)
    simpa using this
  · have := (List.mem_filter.mp hq).2
    simpa using this
  · rcases List.mem_append.mp hq with hq | hq
    · exact c q hq
    · exact (List.mem_filter.mp hq).1
theorem WdX.close {P : Params} {W : Addr → Option LI} {rest : List (Addr × Obj)} {x : Addr} {i : LI} {s : LSt} (h : WdX P W x i rest) (hs : StOk i s) (hv : VRels W i.ts s.vs) : Wd P W (l3 P x i s ++ rest) := by
  refine ⟨fun y j e => ?_, h.ap⟩
  by_cases hy : y = x
  · subst hy
    rw [h.me] at e; cases e
    exact ⟨h.ok, s, hs, fun q hq => List.mem_append_left _ hq, hv⟩
  · exact (h.ob y j e hy).mono .refl fun q hq => List.mem_append_right _ hq
theorem WdX.apart {P : Params} {W : Addr → Option LI} {rest : List (Addr × Obj)} {x : Addr} {i : LI} {s : LSt} (h : WdX P W x i rest) : ∀ q ∈ l3 P x i s, ∀ r ∈ rest, q.1 ≠ r.1 :=
  fun _ hq r hr e => h.off r hr (e ▸ mem_l3 hq)
theorem l3_ne {P : Params} {x : Addr} {i : LI} {s : LSt} {h : Heap} (k : ∀ q ∈ l3 P x i s, h.get? q.1 = some q.2) : x ≠ i.dx ∧ x ≠ i.ex ∧ i.dx ≠ i.ex := by
  have a := k _ (.head _)
  have b := k _ (.tail _ (.head _))
  have c := k _ (.tail _ (.tail _ (.head _)))
  dsimp only at a b c
  refine ⟨fun e => ?_, fun e => ?_, fun e => ?_⟩
  · rw [← e, a] at b; simp [instObj, dictOf] at b
  · rw [← e, a] at c; simp [instObj, W.listOf] at c
  · rw [← e, b] at c; simp [dictOf, W.listOf] at c
/-- a world where one more is known -/
theorem WdX.grow {P : Params} {W : Addr → Option LI} {rest tl : List (Addr × Obj)} {x : Addr} {i : LI} {t : Tr} {v : Value} {n : Nat} (h : WdX P W x i rest) (hti : i.ts[n]? = some t) (hv : VNew P i.d t v tl)
    (a1 : ∀ q ∈ tl, q.1 ∉ trip x i) (a2 : ∀ q ∈ tl, ∀ r ∈ rest, q.1 ≠ r.1) : ∃ W', Wle W W' ∧ WdX P W' x i (tl ++ rest) ∧ VRel W' t v := by
  cases t with
  | b bs => obtain ⟨e, rfl⟩ := hv; exact ⟨W, .refl, h, e⟩
  | l us =>
    obtain ⟨y, j, s, rfl, rfl, ed, et, H, e1, e2, e3, e4⟩ := hv
    subst et
    have far : ∀ z k, W z = some k → ∀ a ∈ trip y j, a ∉ trip z k := by
      intro z k ez a ha hz
      obtain ⟨q, hq, rfl⟩ := trip_l3 (P := P) (s := s) ha
      by_cases hzx : z = x
      · subst hzx; rw [h.me] at ez; cases ez; exact a1 q hq hz
      · obtain ⟨_, s', _, c', _⟩ := h.ob z k ez hzx
        obtain ⟨r, hr, e⟩ := trip_l3 (P := P) (s := s') hz
        exact a2 q hq r (c' r hr) e.symm
    have hy : W y = none := by
      cases e : W y with
      | none => rfl
      | some k => exact absurd (List.Mem.head _) (far y k e y (.head _))
    have k : Wle W (fun z => if z = y then some j else W z) := fun z k e => by
      by_cases hz : z = y
      · subst hz; rw [hy] at e; cases e
      · simp only [hz, if_false]; exact e
    have hyx : x ≠ y := fun e => by rw [← e, h.me] at hy; cases hy
    have hle := enc_le_encs hti
    have hbl := congrArg List.length (enc_eq (.l j.ts))
    rw [List.length_append] at hbl
    have hbl2 : (bod (.l j.ts)).length = (encs j.ts).length := rfl
    refine ⟨_, k, ⟨k _ _ h.me, h.ok, fun z k' e hz => ?_, fun z k₁ z' k₂ e₁ e₂ hzz a ha hb => ?_, fun q hq => ?_⟩, y, j, rfl, by simp, rfl⟩
    · by_cases hzy : z = y
      · subst hzy
        simp only [if_true] at e; cases e
        exact ⟨⟨ed ▸ H, ed ▸ h.ok.2.1, by have := h.ok.2.2; omega⟩, s, ⟨e4, by rw [e1]; exact Nat.zero_le _, by rw [e1, e2]; simp [encs], .inl e3⟩, fun q hq => List.mem_append_left _ hq, by rw [e1]; intro j v hj; simp at hj⟩
      · simp only [hzy, if_false] at e
        exact (h.ob z k' e hz).mono k fun q hq => List.mem_append_right _ hq
    · by_cases h1 : z = y
      · subst h1
        simp only [if_true] at e₁; cases e₁
        have h2 : z' ≠ z := fun e => hzz e.symm
        simp only [h2, if_false] at e₂
        exact far z' k₂ e₂ a ha hb
      · simp only [h1, if_false] at e₁
        by_cases h2 : z' = y
        · subst h2
          simp only [if_true] at e₂; cases e₂
          exact far z k₁ e₁ a hb ha
        · simp only [h2, if_false] at e₂
          exact h.ap z k₁ z' k₂ e₁ e₂ hzz a ha hb
    · rcases List.mem_append.mp hq with hq | hq
      · exact a1 q hq
      · exact h.off q hq
theorem Wd.inst {P : Params} {W : Addr → Option LI} {led : List (Addr × Obj)} {x : Addr} {i : LI} (h : Wd P W led) (e : W x = some i) : ∃ od : Obj, ∀ q ∈ (x, instObj 152 i.dx) :: (i.dx, od) :: led, q ∈ led := by
  obtain ⟨_, s, b, c, _⟩ := h.ob x i e
  have c1 := c _ (.head _)
  have c2 := c _ (.tail _ (.head _))
  exact ⟨_, fun q hq => (List.mem_cons.mp hq).elim (fun e => e ▸ c1) fun hq => (List.mem_cons.mp hq).elim (fun e => e ▸ c2) id⟩
end Mine

-- P11
namespace Mine

theorem isExc_StopIteration : isSubtype (.type "StopIteration") (.type "BaseException") = pure true := by rw [isSubtype_type]; kernel_rfl
theorem notTuple_StopIteration : isSubtype (.type ((Manifest.find? "StopIteration").elim "type" fun x => x.metatype)) (.type "tuple") = pure false := by
  rw [isSubtype_type]; kernel_rfl
theorem call_IE {prog : Program} {w : World} {A : Around} {E E' : Value → Shared → Prop} {s : Shared} {v : Value} (h : ∀ h' e, Heap.NewExc s.heap h' e "IndexError" → E' (.ref e) { s with heap := h' }) :
    wpAny (model prog w) A (call (.type "IndexError") [v]) (Raisable E') E s :=
  call_exc (hrest := by rw [sizeLine_eq]; show 1 ≤ 16777216; decide) excClass_IndexError fun h' e hx => by
    obtain ⟨ob, t, he, hcls, hd⟩ := hx.there
    exact ⟨e, ob, _, "IndexError", _, _, excClass_IndexError, rfl, he, hcls, hd, rfl, h h' e hx⟩
theorem idx_fits {a : Str} {k : Int} (h0 : 0 ≤ k) (h1 : k ≤ 1000000) (ha : a.length ≤ 1000) : (a ++ Str.ofString (toString k)).length ≤ sizeLine := by
  have := toString_length_le h0 (k := 10) (by decide) (by omega)
  rw [Str.length_append, sizeLine_eq]; omega
theorem idx_fits2 {a b : Str} {k : Int} (h0 : 0 ≤ k) (h1 : k ≤ 1000000) (ha : a.length ≤ 1000) (hb : b.length ≤ 1000) : (a ++ Str.ofString (toString k) ++ b).length ≤ sizeLine := by
  have := toString_length_le h0 (k := 10) (by decide) (by omega)
  rw [Str.length_append, Str.length_append, sizeLine_eq]; omega
end Mine
local macro_rules | `(tactic| walk_at "And") => `(tactic| ((with_reducible show PySem.Str.length (_ ++ Str.ofString (toString _)) ≤ sizeLine ∧ _); refine ⟨idx_fits (by assumption) (by assumption) (by decide), ?_⟩))
namespace Mine
end Mine
local macro_rules | `(tactic| walk_at "And") => `(tactic| ((with_reducible show PySem.Str.length (_ ++ Str.ofString (toString _) ++ _) ≤ sizeLine ∧ _); refine ⟨idx_fits2 (by assumption) (by assumption) (by decide) (by decide), ?_⟩))
namespace Mine
end Mine
local macro_rules | `(tactic| walk_at "joinParts") => `(tactic| ((with_reducible show wpAny _ _ (joinParts (_ ++ Str.ofString (toString _) ++ _) (evalEach [] _)) _ _ _); refine joinParts_nilE (joinParts_nil ?_ (idx_fits2 (by assumption) (by assumption) (by decide) (by decide)))))
namespace Mine

def GetPost (P : Params) (W : Addr → Option LI) (ts : List Tr) (k : Int) (led : List (Addr × Obj)) (r : Value) : Prop :=
  ∃ W' t, Wle W W' ∧ Wd P W' led ∧ ts[k.toNat]? = some t ∧ VRel W' t r
def GetExc (P : Params) (W : Addr → Option LI) (ts : List Tr) (k : Int) (cls : String) (_ : Addr) (_ : Heap) (led : List (Addr × Obj)) : Prop :=
  cls = "IndexError" ∧ ts.length ≤ k.toNat ∧ ∃ W', Wle W W' ∧ Wd P W' led

section
variable {w : World} {p : Program} {loose : List Str} {mean : ExcName → Option Value} {mg mb : Str → Option Value}

set_option maxHeartbeats 4000000 in
theorem getitem_spec (g : Heap) (x : Addr) (i : LI) (W : Addr → Option LI) (led : List (Addr × Obj)) (hW : Wd w.params W led) (hx : W x = some i) (k : Int) (kt : Tok) (hk : 0 ≤ k) (hk2 : k ≤ 1000000) :
    CallN Challenge.rw_is0005_01.row.prog w (hd.heap_1 w.params) p loose mean mg mb 142 [.ref x, .int k kt] (deps i.ts + 30) (8 * deps i.ts + 300) g led (GetPost w.params W i.ts k) (GetExc w.params W i.ts k) := by
  have hnx := fun g2 s (hi : LiOk i) (hs : StOk i s) n1 n2 n3 => next_spec (w := w) (p := p) (loose := loose) (mean := mean) (mg := mg) (mb := mb) g2 x i s hi hs n1 n2 n3
  obtain ⟨d, e, ts, dx, ex⟩ := i
  w_top off
  k_fill
  intro dp un gd base outer s Q E C st sz N hdp hun ret exc
  walk_at "MINE enter"
  intro L' h' tk0 F' N' l1 B' X' T' CB'
  clear C
  replace F' : Fr g L' h' (fun y => List.lookup y [(Str.ofString "i", Value.int k kt), (Str.ofString "self", Value.ref x)]) := F'
  obtain ⟨s₀, rest, hX, hS, hV, hsub⟩ := hW.open_ hx
  replace N' := weak N' hsub
  clear hsub
  dsimp only at hdp hun
  dsimp only
  try k_fold
  (repeat' ((fail_if_success (with_reducible first | (show wpAny _ _ (PySem.eval _ _) _ _ _; first | show wpAny _ _ (PySem.eval (.ListComp _ _ _ _) _) _ _ _) | (show wpAny _ _ (exec _ _) _ _ _; first | show wpAny _ _ (exec (.While _ _ _ _) _) _ _ _ | show wpAny _ _ (exec (.For _ _ _ _ _) _) _ _ _ | show wpAny _ _ (exec (.Raise (some (.Call _ _ _ _)) _ _) _) _ _ _) | (show wpAny _ _ (PySem.call _ _) _ _ _; first | refine h_ref (by decide) ?_ | show wpAny _ _ (PySem.call (.type "IndexError") _) _ _ _) | show wpAny _ _ (pyIter _) (fun it s₂ => LoopAtV _ _ _ _ _ _ _ _ _ it s₂) _ _ | show wpAny _ _ (leaving _ _) _ _ _ | show wpAny _ _ (noteFrame _ _) _ _ _)); (first | (k_unfold; (try dsimp only)) | walk1 | (dsimp only; walk1) | (leave1; walk_say "STEP leave1"; try dsimp only) | ((fail_if_success (show wpAny _ _ _ _ _ _)); dsimp only) | fail "no step")))
  rename Fr _ _ _ _ => kF
  rename News _ _ _ _ => kN
  obtain ⟨h1, h2, h3⟩ := l3_ne (fun q hq => (kN q (List.mem_append_left _ hq)).1)
  have hge := encs_ge ts
  have hok := hX.ok
  refine While_inv2 (fun q m₁ nx => (∃ t1 t2, m₁ (Str.ofString "self") = some (.ref x) ∧ m₁ (Str.ofString "i") = some (.int k kt) ∧ m₁ (Str.ofString "start") = some (.int k t1) ∧ m₁ (Str.ofString "stop") = some (.int (k + 1) t2)) ∧
    ∃ s' W' rest', nx = l3 w.params x ⟨d, e, ts, dx, ex⟩ s' ++ rest' ∧ Wle W W' ∧ WdX w.params W' x ⟨d, e, ts, dx, ex⟩ rest' ∧ StOk ⟨d, e, ts, dx, ex⟩ s' ∧ VRels W' ts s'.vs ∧ q = ts.length - s'.vs.length) kF kN ⟨⟨_, _, rfl, rfl, rfl, rfl⟩, s₀, W, rest, rfl, .refl, hX, hS, hV, rfl⟩ ?_
  clear kF kN
  rintro n m₁ nx h₁ tk₁ kF kN ⟨⟨u1, u2, m1, m2, m3, m4⟩, s', W', rest', rfl, hle, hX', hS', hV', rfl⟩
  clear hX hS hV
  have hS0 := hS'
  obtain ⟨k1, k2, k3, k4, k5, k6, k7, t1, t2, t3, t4, idx, vs, lv, nd, ne⟩ := s'
  obtain ⟨hnd, hj, hidx, hl⟩ := hS'
  dsimp only at hnd hj hidx hl hV'
  subst hnd
  have he6 := hok.2.2
  dsimp only at he6
  dsimp only [l3, lzEs, List.cons_append, List.nil_append] at kN
  (repeat' ((fail_if_success (with_reducible first | (show wpAny _ _ (PySem.eval _ _) _ _ _; first | show wpAny _ _ (PySem.eval (.ListComp _ _ _ _) _) _ _ _) | (show wpAny _ _ (exec _ _) _ _ _; first | show wpAny _ _ (exec (.While _ _ _ _) _) _ _ _ | show wpAny _ _ (exec (.For _ _ _ _ _) _) _ _ _ | show wpAny _ _ (exec (.Raise (some (.Call _ _ _ _)) _ _) _) _ _ _) | (show wpAny _ _ (PySem.call _ _) _ _ _; first | refine h_ref (by decide) ?_ | show wpAny _ _ (PySem.call (.type "IndexError") _) _ _ _) | show wpAny _ _ (pyIter _) (fun it s₂ => LoopAtV _ _ _ _ _ _ _ _ _ it s₂) _ _ | show wpAny _ _ (leaving _ _) _ _ _ | show wpAny _ _ (noteFrame _ _) _ _ _)); (first | (k_unfold; (try dsimp only)) | walk1 | (dsimp only; walk1) | (leave1; walk_say "STEP leave1"; try dsimp only) | ((fail_if_success (show wpAny _ _ _ _ _ _)); dsimp only) | fail "no step")))
  · dsimp only [List.cons_append, List.nil_append]
    refine useN (news := l3 w.params x ⟨d, e, ts, dx, ex⟩ ⟨k1, k2, k3, k4, k5, k6, k7, t1, t2, t3, t4, idx, vs, lv, 7, ne⟩ ++ rest') (l3 w.params x ⟨d, e, ts, dx, ex⟩ ⟨k1, k2, k3, k4, k5, k6, k7, t1, t2, t3, t4, idx, vs, lv, 7, ne⟩) rest' B' CB' kF kN rfl rfl
      (fun q hq => List.mem_append_left _ hq) (fun q hq => List.mem_append_right _ hq) hX'.apart (fun g2 _ _ => hnx g2 _ hok hS0 h1 h2 h3) (by walk_at "MINE room") (by walk_at "MINE room") ?_ ?_
    · clear kF kN
      rintro r h2 tk2 mt2 kF kN hd ⟨s2, t, tl, rfl, hti, hv, hvs, hst, htl⟩
      obtain ⟨W2, hle2, hX2, hr⟩ := hX'.grow hti hv (fun q hq hm => by
        have := htl q hq
        simp only [trip, List.mem_cons, List.not_mem_nil, or_false] at hm
        rcases hm with z | z | z
        · exact this.1 z
        · exact this.2.1 z
        · exact this.2.2 z) (fun q hq => hd q (List.mem_append_right _ hq))
      have hlen : vs.length < ts.length := by
        have := (List.getElem?_eq_some_iff.mp hti).1
        exact this
      rw [List.append_assoc] at kN
      (repeat' ((fail_if_success (with_reducible first | (show wpAny _ _ (PySem.eval _ _) _ _ _; first | show wpAny _ _ (PySem.eval (.ListComp _ _ _ _) _) _ _ _) | (show wpAny _ _ (exec _ _) _ _ _; first | show wpAny _ _ (exec (.While _ _ _ _) _) _ _ _ | show wpAny _ _ (exec (.For _ _ _ _ _) _) _ _ _ | show wpAny _ _ (exec (.Raise (some (.Call _ _ _ _)) _ _) _) _ _ _) | (show wpAny _ _ (PySem.call _ _) _ _ _; first | refine h_ref (by decide) ?_ | show wpAny _ _ (PySem.call (.type "IndexError") _) _ _ _) | show wpAny _ _ (pyIter _) (fun it s₂ => LoopAtV _ _ _ _ _ _ _ _ _ it s₂) _ _ | show wpAny _ _ (leaving _ _) _ _ _ | show wpAny _ _ (noteFrame _ _) _ _ _)); (first | (k_unfold; (try dsimp only)) | walk1 | (dsimp only; walk1) | (leave1; walk_say "STEP leave1"; try dsimp only) | ((fail_if_success (show wpAny _ _ _ _ _ _)); dsimp only) | fail "no step")))
      have hvl : s2.vs.length = vs.length + 1 := by rw [hvs]; simp
      refine ⟨_, _, _, l3 w.params x ⟨d, e, ts, dx, ex⟩ s2 ++ (tl ++ rest'), ts.length - s2.vs.length, rfl, kF, kN, by omega, ⟨_, _, m1, m2, m3, m4⟩, s2, W2, tl ++ rest', rfl, hle.trans hle2, hX2, hst, ?_, rfl⟩
      rw [hvs]
      exact (hV'.mono hle2).snoc hti hr
    · rintro cls e1 h2 tk2 mt2 G FG RG uG hd ⟨rfl, hctx, s2, rfl, hvs, hst, hlen⟩
      dsimp only
      (repeat' ((fail_if_success (with_reducible first | (show wpAny _ _ (PySem.eval _ _) _ _ _; first | show wpAny _ _ (PySem.eval (.ListComp _ _ _ _) _) _ _ _) | (show wpAny _ _ (exec _ _) _ _ _; first | show wpAny _ _ (exec (.While _ _ _ _) _) _ _ _ | show wpAny _ _ (exec (.For _ _ _ _ _) _) _ _ _ | show wpAny _ _ (exec (.Raise (some (.Call _ _ _ _)) _ _) _) _ _ _) | (show wpAny _ _ (PySem.call _ _) _ _ _; first | refine h_ref (by decide) ?_ | show wpAny _ _ (PySem.call (.type "IndexError") _) _ _ _) | show wpAny _ _ (pyIter _) (fun it s₂ => LoopAtV _ _ _ _ _ _ _ _ _ it s₂) _ _ | show wpAny _ _ (leaving _ _) _ _ _ | show wpAny _ _ (noteFrame _ _) _ _ _)); (first | (k_unfold; (try dsimp only)) | walk1 | (dsimp only; walk1) | (leave1; walk_say "STEP leave1"; try dsimp only) | ((fail_if_success (show wpAny _ _ _ _ _ _)); dsimp only) | fail "no step")))
      k_dflt (refine' caught_C (T' := "StopIteration") RG hctx FG B' uG CB' ?ex PyProof.Rows.Boot.«StopIteration» ?hn isExc_StopIteration notTuple_StopIteration ?hs ?_; (case hs => kts_sub); (case ex => k_is); (case hn => decide))
      intro h3 g3 T3 F3 N3 B3 X3 P3 CB3 ctx3
      clear B' X' T' CB' RG FG uG
      clear hx
      have hst0 := hst
      obtain ⟨k1, k2, k3, k4, k5, k6, k7, t1, t2, t3, t4, idx, vs2, lv, nd, ne⟩ := s2
      obtain ⟨hnd, hj2, hidx2, hl2⟩ := hst
      dsimp only at hnd hj2 hidx2 hl2 hvs hlen
      subst hnd
      have hfi : idx = e + ((encs ts).length : Int) := by rw [hidx2, hvs, hlen, List.take_length]
      subst hfi
      dsimp only [l3, lzEs, List.cons_append, List.nil_append] at N3
      (repeat' ((fail_if_success (with_reducible first | (show wpAny _ _ (PySem.eval _ _) _ _ _; first | show wpAny _ _ (PySem.eval (.ListComp _ _ _ _) _) _ _ _) | (show wpAny _ _ (exec _ _) _ _ _; first | show wpAny _ _ (exec (.While _ _ _ _) _) _ _ _ | show wpAny _ _ (exec (.For _ _ _ _ _) _) _ _ _ | show wpAny _ _ (exec (.Raise (some (.Call _ _ _ _)) _ _) _) _ _ _) | (show wpAny _ _ (PySem.call _ _) _ _ _; first | refine h_ref (by decide) ?_ | show wpAny _ _ (PySem.call (.type "IndexError") _) _ _ _) | show wpAny _ _ (pyIter _) (fun it s₂ => LoopAtV _ _ _ _ _ _ _ _ _ it s₂) _ _ | show wpAny _ _ (leaving _ _) _ _ _ | show wpAny _ _ (noteFrame _ _) _ _ _)); (first | (k_unfold; (try dsimp only)) | walk1 | (dsimp only; walk1) | (leave1; walk_say "STEP leave1"; try dsimp only) | ((fail_if_success (show wpAny _ _ _ _ _ _)); dsimp only) | fail "no step")))
      refine Raise_newH rfl ?_
      (repeat' ((fail_if_success (with_reducible first | (show wpAny _ _ (PySem.eval _ _) _ _ _; first | show wpAny _ _ (PySem.eval (.ListComp _ _ _ _) _) _ _ _) | (show wpAny _ _ (exec _ _) _ _ _; first | show wpAny _ _ (exec (.While _ _ _ _) _) _ _ _ | show wpAny _ _ (exec (.For _ _ _ _ _) _) _ _ _ | show wpAny _ _ (exec (.Raise (some (.Call _ _ _ _)) _ _) _) _ _ _) | (show wpAny _ _ (PySem.call _ _) _ _ _; first | refine h_ref (by decide) ?_ | show wpAny _ _ (PySem.call (.type "IndexError") _) _ _ _) | show wpAny _ _ (pyIter _) (fun it s₂ => LoopAtV _ _ _ _ _ _ _ _ _ it s₂) _ _ | show wpAny _ _ (leaving _ _) _ _ _ | show wpAny _ _ (noteFrame _ _) _ _ _)); (first | (k_unfold; (try dsimp only)) | walk1 | (dsimp only; walk1) | (leave1; walk_say "STEP leave1"; try dsimp only) | ((fail_if_success (show wpAny _ _ _ _ _ _)); dsimp only) | fail "no step")))
      rename Fr _ _ _ _ => kF
      rename News _ _ _ _ => kN
      with_reducible refine call_IE ?_
      intro h4 e2 hx2
      obtain ⟨ob, t, he2, hc2, hd2⟩ := hx2.there
      obtain ⟨oe, _, _, _, _, hoe, _⟩ := id ctx3
      have hne : e1 ≠ e2 := fun q => by subst q; have := hx2.new; rw [hoe] at this; cases this
      have ctx4 : CtxT h4 e1 .none := by
        obtain ⟨oe, vs, T, oT, ts, a1, a2, a3, a4, a5, a6, a7, a8⟩ := ctx3
        exact ⟨oe, vs, T, oT, ts, hx2.keeps _ _ a1, a2, a3, a4, a5, hx2.keeps _ _ a6, a7, a8⟩
      refine ⟨e2, ob, _, .none, rfl, hne, ctx4, he2, hd2, (by simp), ?_⟩
      have dd := Obj.data_mapFields hd2 (·.setIfInBounds 2 (Value.ref e1))
      dsimp only
      refine leave_any B3 (h := h3) (t := t) (fun b o hb => (Heap.get?_update_other _ _ fun q => ?_).trans (hx2.keeps b o hb)) hx2.new (Heap.get?_update_self _ he2 (Obj.isFreed_of_fields dd)) ((Obj.cls_mapFields _ _).trans hc2) dd (by simp) (by simp) kF kN (fun h5 R up _ => ?_)
      · subst q; have := hx2.new; rw [hb] at this; cases this
      exact exc _ _ _ _ (l3 w.params x ⟨d, e, ts, dx, ex⟩ ⟨k1, k2, k3, k4, k5, k6, k7, t1, t2, t3, t4, e + ((encs ts).length : Int), vs2, lv, 7, ne⟩ ++ rest') (raised_back T3 (fun _ h => h) R) ((turn_upTo T3).trans up) ⟨rfl, by dsimp only; omega, W', hle, hX'.close hst0 (by dsimp only; rw [hvs]; exact hV')⟩
  · have hin : k.toNat < vs.length := by omega
    obtain ⟨v, hv⟩ : ∃ v, vs[k.toNat]? = some v := ⟨vs[k.toNat], by simp [hin]⟩
    obtain ⟨t, hti, hr⟩ := hV' _ _ hv
    refine item_listL (PySem.IsL.isList (n := ne) (kN _ (.tail _ (.tail _ (.head _)))).1) hk (by omega) hv ?_
    (repeat' ((fail_if_success (with_reducible first | (show wpAny _ _ (PySem.eval _ _) _ _ _; first | show wpAny _ _ (PySem.eval (.ListComp _ _ _ _) _) _ _ _) | (show wpAny _ _ (exec _ _) _ _ _; first | show wpAny _ _ (exec (.While _ _ _ _) _) _ _ _ | show wpAny _ _ (exec (.For _ _ _ _ _) _) _ _ _ | show wpAny _ _ (exec (.Raise (some (.Call _ _ _ _)) _ _) _) _ _ _) | (show wpAny _ _ (PySem.call _ _) _ _ _; first | refine h_ref (by decide) ?_ | show wpAny _ _ (PySem.call (.type "IndexError") _) _ _ _) | show wpAny _ _ (pyIter _) (fun it s₂ => LoopAtV _ _ _ _ _ _ _ _ _ it s₂) _ _ | show wpAny _ _ (leaving _ _) _ _ _ | show wpAny _ _ (noteFrame _ _) _ _ _)); (first | (k_unfold; (try dsimp only)) | walk1 | (dsimp only; walk1) | (leave1; walk_say "STEP leave1"; try dsimp only) | ((fail_if_success (show wpAny _ _ _ _ _ _)); dsimp only) | fail "no step")))
    refine ret _ _ _ (l3 w.params x ⟨d, e, ts, dx, ex⟩ ⟨k1, k2, k3, k4, k5, k6, k7, t1, t2, t3, t4, idx, vs, lv, 7, ne⟩ ++ rest') kF.keep (fun q hq => ⟨(kN q hq).1, (kN q hq).2.2⟩) ⟨W', t, hle, hX'.close hS0 hV', hti, hr⟩
end
end Mine

-- P12
namespace Mine
theorem isExc_StopIteration' : isSubtype (.type "StopIteration") (.type "BaseException") = pure true := by rw [isSubtype_type]; kernel_rfl
theorem notTuple_StopIteration' : isSubtype (.type ((Manifest.find? "StopIteration").elim "type" fun x => x.metatype)) (.type "tuple") = pure false := by
  rw [isSubtype_type]; kernel_rfl

def LenPost (P : Params) (W : Addr → Option LI) (ts : List Tr) (led : List (Addr × Obj)) (r : Value) : Prop :=
  ∃ W', Wle W W' ∧ Wd P W' led ∧ ∃ tk, r = .int ts.length tk

section
variable {w : World} {p : Program} {loose : List Str} {mean : ExcName → Option Value} {mg mb : Str → Option Value}

set_option maxHeartbeats 4000000 in
theorem len_spec (g : Heap) (x : Addr) (i : LI) (W : Addr → Option LI) (led : List (Addr × Obj)) (hW : Wd w.params W led) (hx : W x = some i) :
    CallT Challenge.rw_is0005_01.row.prog w (hd.heap_1 w.params) p loose mean mg mb 149 [.ref x] (deps i.ts + 30) (8 * deps i.ts + 300) g led (LenPost w.params W i.ts) := by
  have hnx := fun g2 s (hi : LiOk i) (hs : StOk i s) n1 n2 n3 => next_spec (w := w) (p := p) (loose := loose) (mean := mean) (mg := mg) (mb := mb) g2 x i s hi hs n1 n2 n3
  obtain ⟨d, e, ts, dx, ex⟩ := i
  w_top off
  k_fill
  intro dp un gd base outer s Q E C st sz N hdp hun ret
  walk_at "MINE enter"
  intro L' h' tk0 F' N' l1 B' X' T' CB'
  clear C
  replace F' : Fr g L' h' (fun y => List.lookup y [(Str.ofString "self", Value.ref x)]) := F'
  obtain ⟨s₀, rest, hX, hS, hV, hsub⟩ := hW.open_ hx
  replace N' := weak N' hsub
  clear hsub
  dsimp only at hdp hun
  obtain ⟨h1, h2, h3⟩ := l3_ne (fun q hq => (N' q (List.mem_append_left _ hq)).1)
  have h1 : @Ne Nat x dx := h1
  have h2 : @Ne Nat x ex := h2
  have h3 : @Ne Nat dx ex := h3
  have hge := encs_ge ts
  have hok := hX.ok
  have he6 := hok.2.2
  dsimp only at he6
  have hS0 := hS
  obtain ⟨k1, k2, k3, k4, k5, k6, k7, t1, t2, t3, t4, idx, vs, lv, nd, ne⟩ := s₀
  obtain ⟨hnd, hj, hidx, hl⟩ := hS
  dsimp only at hnd hj hidx hl hV
  subst hnd
  dsimp only [l3, lzEs, List.cons_append, List.nil_append] at N'
  dsimp only
  try k_fold
  by_cases hlv : lv ≠ .none ∧ ts.length ≠ 0
  · obtain ⟨hlv1, hlv2⟩ := hlv
    obtain ⟨hfull, tkl, rfl⟩ := hl.resolve_left hlv1
    (repeat' ((fail_if_success (with_reducible first | (show wpAny _ _ (PySem.eval _ _) _ _ _; first | show wpAny _ _ (PySem.eval (.ListComp _ _ _ _) _) _ _ _) | (show wpAny _ _ (exec _ _) _ _ _; first | show wpAny _ _ (exec (.While _ _ _ _) _) _ _ _ | show wpAny _ _ (exec (.For _ _ _ _ _) _) _ _ _ | show wpAny _ _ (exec (.Raise (some (.Call _ _ _ _)) _ _) _) _ _ _) | (show wpAny _ _ (PySem.call _ _) _ _ _; first | refine h_ref (by decide) ?_ | show wpAny _ _ (PySem.call (.type "IndexError") _) _ _ _) | show wpAny _ _ (pyIter _) (fun it s₂ => LoopAtV _ _ _ _ _ _ _ _ _ it s₂) _ _ | show wpAny _ _ (leaving _ _) _ _ _ | show wpAny _ _ (noteFrame _ _) _ _ _)); (first | (k_unfold; (try dsimp only)) | walk1 | (dsimp only; walk1) | (leave1; walk_say "STEP leave1"; try dsimp only) | ((fail_if_success (show wpAny _ _ _ _ _ _)); dsimp only) | fail "no step")))
    any_goals (exfalso; omega)
    rename Fr _ _ _ _ => kF
    rename News _ _ _ _ => kN
    refine ret _ _ _ (l3 w.params x ⟨d, e, ts, dx, ex⟩ ⟨k1, k2, k3, k4, k5, k6, k7, t1, t2, t3, t4, idx, vs, .int ts.length tkl, 7, ne⟩ ++ rest) g .refl kF.keep (fun q hq => ⟨(kN q hq).1, (kN q hq).2.2⟩) ⟨W, .refl, hX.close hS0 hV, _, rfl⟩
  · have hz : lv = .none ∨ (ts.length = 0 ∧ ∃ tk, lv = .int ts.length tk) := by
      rcases hl with h | h
      · exact .inl h
      · refine .inr ⟨?_, h.2⟩
        obtain ⟨_, tk, rfl⟩ := h
        rcases Nat.eq_zero_or_pos ts.length with q | q
        · exact q
        · exact absurd ⟨by simp, by omega⟩ hlv
    clear hlv hl
    rcases hz with rfl | ⟨hz0, tkl, rfl⟩
    all_goals (
      (repeat' ((fail_if_success (with_reducible first | (show wpAny _ _ (PySem.eval _ _) _ _ _; first | show wpAny _ _ (PySem.eval (.ListComp _ _ _ _) _) _ _ _) | (show wpAny _ _ (exec _ _) _ _ _; first | show wpAny _ _ (exec (.While _ _ _ _) _) _ _ _ | show wpAny _ _ (exec (.For _ _ _ _ _) _) _ _ _ | show wpAny _ _ (exec (.Raise (some (.Call _ _ _ _)) _ _) _) _ _ _) | (show wpAny _ _ (PySem.call _ _) _ _ _; first | refine h_ref (by decide) ?_ | show wpAny _ _ (PySem.call (.type "IndexError") _) _ _ _) | show wpAny _ _ (pyIter _) (fun it s₂ => LoopAtV _ _ _ _ _ _ _ _ _ it s₂) _ _ | show wpAny _ _ (leaving _ _) _ _ _ | show wpAny _ _ (noteFrame _ _) _ _ _)); (first | (k_unfold; (try dsimp only)) | walk1 | (dsimp only; walk1) | (leave1; walk_say "STEP leave1"; try dsimp only) | ((fail_if_success (show wpAny _ _ _ _ _ _)); dsimp only) | fail "no step")))
      try any_goals (exfalso; omega)
      rename Fr _ _ _ _ => kF
      rename News _ _ _ _ => kN
      refine While_inv2 (fun q m₁ nx => m₁ (Str.ofString "self") = some (.ref x) ∧
        ∃ s' W' rest', nx = l3 w.params x ⟨d, e, ts, dx, ex⟩ s' ++ rest' ∧ Wle W W' ∧ WdX w.params W' x ⟨d, e, ts, dx, ex⟩ rest' ∧ StOk ⟨d, e, ts, dx, ex⟩ s' ∧ VRels W' ts s'.vs ∧ q = ts.length - s'.vs.length) kF kN ⟨rfl, _, W, rest, rfl, .refl, hX, hS0, hV, rfl⟩ ?_
      clear kF kN
      rintro n m₁ nx h₁ tk₁ kF kN ⟨m1, s', W', rest', rfl, hle, hX', hS', hV', rfl⟩
      clear hX hS0 hV hidx hj k1 k2 k3 k4 k5 k6 k7 vs idx ne
      have hS1 := hS'
      obtain ⟨k1, k2, k3, k4, k5, k6, k7, t1, t2, t3, t4, idx, vs, lv, nd, ne⟩ := s'
      obtain ⟨hnd, hj, hidx, hl⟩ := hS'
      dsimp only at hnd hj hidx hl hV'
      subst hnd
      dsimp only [l3, lzEs, List.cons_append, List.nil_append] at kN
      (repeat' ((fail_if_success (with_reducible first | (show wpAny _ _ (PySem.eval _ _) _ _ _; first | show wpAny _ _ (PySem.eval (.ListComp _ _ _ _) _) _ _ _) | (show wpAny _ _ (exec _ _) _ _ _; first | show wpAny _ _ (exec (.While _ _ _ _) _) _ _ _ | show wpAny _ _ (exec (.For _ _ _ _ _) _) _ _ _ | show wpAny _ _ (exec (.Raise (some (.Call _ _ _ _)) _ _) _) _ _ _) | (show wpAny _ _ (PySem.call _ _) _ _ _; first | refine h_ref (by decide) ?_ | show wpAny _ _ (PySem.call (.type "IndexError") _) _ _ _) | show wpAny _ _ (pyIter _) (fun it s₂ => LoopAtV _ _ _ _ _ _ _ _ _ it s₂) _ _ | show wpAny _ _ (leaving _ _) _ _ _ | show wpAny _ _ (noteFrame _ _) _ _ _)); (first | (k_unfold; (try dsimp only)) | walk1 | (dsimp only; walk1) | (leave1; walk_say "STEP leave1"; try dsimp only) | ((fail_if_success (show wpAny _ _ _ _ _ _)); dsimp only) | fail "no step")))
      dsimp only [List.cons_append, List.nil_append]
      refine useN (news := l3 w.params x ⟨d, e, ts, dx, ex⟩ ⟨k1, k2, k3, k4, k5, k6, k7, t1, t2, t3, t4, idx, vs, lv, 7, ne⟩ ++ rest') (l3 w.params x ⟨d, e, ts, dx, ex⟩ ⟨k1, k2, k3, k4, k5, k6, k7, t1, t2, t3, t4, idx, vs, lv, 7, ne⟩) rest' B' CB' kF kN rfl rfl
        (fun q hq => List.mem_append_left _ hq) (fun q hq => List.mem_append_right _ hq) hX'.apart (fun g2 _ _ => hnx g2 _ hok hS1 h1 h2 h3) (by walk_at "MINE room") (by walk_at "MINE room") ?_ ?_
      · clear kF kN
        rintro r h2 tk2 mt2 kF kN hd ⟨s2, t, tl, rfl, hti, hv, hvs, hst, htl⟩
        obtain ⟨W2, hle2, hX2, hr⟩ := hX'.grow hti hv (fun q hq hm => by
          have := htl q hq
          simp only [trip, List.mem_cons, List.not_mem_nil, or_false] at hm
          rcases hm with z | z | z
          · exact this.1 z
          · exact this.2.1 z
          · exact this.2.2 z) (fun q hq => hd q (List.mem_append_right _ hq))
        have hlen : vs.length < ts.length := (List.getElem?_eq_some_iff.mp hti).1
        rw [List.append_assoc] at kN
        (repeat' ((fail_if_success (with_reducible first | (show wpAny _ _ (PySem.eval _ _) _ _ _; first | show wpAny _ _ (PySem.eval (.ListComp _ _ _ _) _) _ _ _) | (show wpAny _ _ (exec _ _) _ _ _; first | show wpAny _ _ (exec (.While _ _ _ _) _) _ _ _ | show wpAny _ _ (exec (.For _ _ _ _ _) _) _ _ _ | show wpAny _ _ (exec (.Raise (some (.Call _ _ _ _)) _ _) _) _ _ _) | (show wpAny _ _ (PySem.call _ _) _ _ _; first | refine h_ref (by decide) ?_ | show wpAny _ _ (PySem.call (.type "IndexError") _) _ _ _) | show wpAny _ _ (pyIter _) (fun it s₂ => LoopAtV _ _ _ _ _ _ _ _ _ it s₂) _ _ | show wpAny _ _ (leaving _ _) _ _ _ | show wpAny _ _ (noteFrame _ _) _ _ _)); (first | (k_unfold; (try dsimp only)) | walk1 | (dsimp only; walk1) | (leave1; walk_say "STEP leave1"; try dsimp only) | ((fail_if_success (show wpAny _ _ _ _ _ _)); dsimp only) | fail "no step")))
        have hvl : s2.vs.length = vs.length + 1 := by rw [hvs]; simp
        refine ⟨_, _, _, l3 w.params x ⟨d, e, ts, dx, ex⟩ s2 ++ (tl ++ rest'), ts.length - s2.vs.length, rfl, kF, kN, by omega, m1, s2, W2, tl ++ rest', rfl, hle.trans hle2, hX2, hst, ?_, rfl⟩
        rw [hvs]
        exact (hV'.mono hle2).snoc hti hr
      · rintro cls e1 h2 tk2 mt2 G FG RG uG hd ⟨rfl, hctx, s2, rfl, hvs, hst, hlen⟩
        dsimp only
        (repeat' ((fail_if_success (with_reducible first | (show wpAny _ _ (PySem.eval _ _) _ _ _; first | show wpAny _ _ (PySem.eval (.ListComp _ _ _ _) _) _ _ _) | (show wpAny _ _ (exec _ _) _ _ _; first | show wpAny _ _ (exec (.While _ _ _ _) _) _ _ _ | show wpAny _ _ (exec (.For _ _ _ _ _) _) _ _ _ | show wpAny _ _ (exec (.Raise (some (.Call _ _ _ _)) _ _) _) _ _ _) | (show wpAny _ _ (PySem.call _ _) _ _ _; first | refine h_ref (by decide) ?_ | show wpAny _ _ (PySem.call (.type "IndexError") _) _ _ _) | show wpAny _ _ (pyIter _) (fun it s₂ => LoopAtV _ _ _ _ _ _ _ _ _ it s₂) _ _ | show wpAny _ _ (leaving _ _) _ _ _ | show wpAny _ _ (noteFrame _ _) _ _ _)); (first | (k_unfold; (try dsimp only)) | walk1 | (dsimp only; walk1) | (leave1; walk_say "STEP leave1"; try dsimp only) | ((fail_if_success (show wpAny _ _ _ _ _ _)); dsimp only) | fail "no step")))
        k_dflt (refine' caught_C (T' := "StopIteration") RG hctx FG B' uG CB' ?ex PyProof.Rows.Boot.«StopIteration» ?hn isExc_StopIteration' notTuple_StopIteration' ?hs ?_; (case hs => kts_sub); (case ex => k_is); (case hn => decide))
        intro h3 g3 T3 F3 N3 B3 X3 P3 CB3 ctx3
        clear B' X' T' CB' RG FG uG hx
        clear hj hidx hl kN hS1
        obtain ⟨k1, k2, k3, k4, k5, k6, k7, t1, t2, t3, t4, idx, vs2, lv, nd, ne⟩ := s2
        obtain ⟨hnd, hj2, hidx2, hl2⟩ := hst
        dsimp only at hnd hj2 hidx2 hl2 hvs hlen
        subst hnd
        dsimp only [l3, lzEs, List.cons_append, List.nil_append] at N3
        have hb1 : ∀ q ∈ rest', q.1 ≠ dx := fun q hq e => hX'.off q hq (by rw [e]; simp [trip])
        (repeat' ((fail_if_success (with_reducible first | (show wpAny _ _ (PySem.eval _ _) _ _ _; first | show wpAny _ _ (PySem.eval (.ListComp _ _ _ _) _) _ _ _) | (show wpAny _ _ (exec _ _) _ _ _; first | show wpAny _ _ (exec (.While _ _ _ _) _) _ _ _ | show wpAny _ _ (exec (.For _ _ _ _ _) _) _ _ _ | show wpAny _ _ (exec (.Raise (some (.Call _ _ _ _)) _ _) _) _ _ _) | (show wpAny _ _ (PySem.call _ _) _ _ _; first | refine h_ref (by decide) ?_ | show wpAny _ _ (PySem.call (.type "IndexError") _) _ _ _) | show wpAny _ _ (pyIter _) (fun it s₂ => LoopAtV _ _ _ _ _ _ _ _ _ it s₂) _ _ | show wpAny _ _ (leaving _ _) _ _ _ | show wpAny _ _ (noteFrame _ _) _ _ _)); (first | (k_unfold; (try dsimp only)) | walk1 | (dsimp only; walk1) | (leave1; walk_say "STEP leave1"; try dsimp only) | ((fail_if_success (show wpAny _ _ _ _ _ _)); dsimp only) | fail "no step")))
        rename Fr _ _ _ _ => kF
        rename News _ _ _ _ => kN
        have hv2 : vs2.length = ts.length := by rw [hvs]; exact hlen
        have hV2 : VRels W' ts vs2 := by rw [hvs]; exact hV'
        rw [hv2] at kN ⊢
        refine ret _ _ _ (l3 w.params x ⟨d, e, ts, dx, ex⟩ ⟨k1, k2, k3, k4, k5, k6, k7, t1, t2, t3, t4, idx, vs2, .int ts.length _, 7, ne⟩ ++ rest') g3 T3 kF.keep (fun q hq => ⟨(kN q hq).1, (kN q hq).2.2⟩) ⟨W', hle, hX'.close ⟨rfl, hj2, hidx2, .inr ⟨hv2, _, rfl⟩⟩ hV2, _, rfl⟩)
end
end Mine

-- P13
namespace Mine
theorem at_self (d : Oct) : At d 0 d := by
  exact ⟨Int.le_refl _, by omega, [], by simp⟩

section
variable {w : World} {p : Program} {loose : List Str} {mean : ExcName → Option Value} {mg mb : Str → Option Value}

set_option maxHeartbeats 4000000 in
theorem dl_spec (t : Tr) (g : Heap) (td : Tok) (he : (enc t).length ≤ 1000000) :
    Call0 Challenge.rw_is0005_01.row.prog w (hd.heap_1 w.params) p loose mean mg mb 106 [.bytes (enc t).toArray td] (dep t + 16) (8 * dep t + 160) g [] (fun mt r => VNew w.params (enc t) t r mt) := by
  w_top off
  k_fill
  intro dp un gd base outer s Q E C st sz N hdp hun ret
  have hXs := C.X.keeps st
  walk_at "MINE enter"
  clear hXs
  intro L' h' tk0 F' N' l1 B' X' T' CB'
  clear C
  replace F' : Fr g L' h' (fun y => List.lookup y [(Str.ofString "sedes", Value.none), (Str.ofString "rlp", Value.bytes (enc t).toArray td)]) := F'
  dsimp only
  try k_fold
  (repeat' ((fail_if_success (with_reducible first | (show wpAny _ _ (PySem.eval _ _) _ _ _; first | show wpAny _ _ (PySem.eval (.ListComp _ _ _ _) _) _ _ _) | (show wpAny _ _ (exec _ _) _ _ _; first | show wpAny _ _ (exec (.While _ _ _ _) _) _ _ _ | show wpAny _ _ (exec (.For _ _ _ _ _) _) _ _ _ | show wpAny _ _ (exec (.Raise (some (.Call _ _ _ _)) _ _) _) _ _ _) | (show wpAny _ _ (PySem.call _ _) _ _ _; first | refine h_ref (by decide) ?_ | show wpAny _ _ (PySem.call (.type "IndexError") _) _ _ _) | show wpAny _ _ (pyIter _) (fun it s₂ => LoopAtV _ _ _ _ _ _ _ _ _ it s₂) _ _ | show wpAny _ _ (leaving _ _) _ _ _ | show wpAny _ _ (noteFrame _ _) _ _ _)); (first | (k_unfold; (try dsimp only)) | walk1 | (dsimp only; walk1) | (leave1; walk_say "STEP leave1"; try dsimp only) | ((fail_if_success (show wpAny _ _ _ _ _ _)); dsimp only) | fail "no step")))
  rename Fr _ _ _ _ => kF
  rename News _ _ _ _ => kN
  refine useP B' CB' kF kN rfl rfl (fun g2 _ _ => cil_spec t g2 (enc t) 0 td _ (at_self _) (by omega) he) (by walk_at "MINE room") (by walk_at "MINE room") ?_
  clear kF kN
  rintro r h2 tk2 tl2 kF kN hd ⟨a, v, en, te, tl, rfl, rfl, hen, hv⟩
  have hen : en = ((enc t).length : Int) := by omega
  subst hen
  dsimp only
  cases t with
  | b bs =>
    obtain ⟨⟨tv, rfl⟩, rfl⟩ := hv
    (repeat' ((fail_if_success (with_reducible first | (show wpAny _ _ (PySem.eval _ _) _ _ _; first | show wpAny _ _ (PySem.eval (.ListComp _ _ _ _) _) _ _ _) | (show wpAny _ _ (exec _ _) _ _ _; first | show wpAny _ _ (exec (.While _ _ _ _) _) _ _ _ | show wpAny _ _ (exec (.For _ _ _ _ _) _) _ _ _ | show wpAny _ _ (exec (.Raise (some (.Call _ _ _ _)) _ _) _) _ _ _) | (show wpAny _ _ (PySem.call _ _) _ _ _; first | refine h_ref (by decide) ?_ | show wpAny _ _ (PySem.call (.type "IndexError") _) _ _ _) | show wpAny _ _ (pyIter _) (fun it s₂ => LoopAtV _ _ _ _ _ _ _ _ _ it s₂) _ _ | show wpAny _ _ (leaving _ _) _ _ _ | show wpAny _ _ (noteFrame _ _) _ _ _)); (first | (k_unfold; (try dsimp only)) | walk1 | (dsimp only; walk1) | (leave1; walk_say "STEP leave1"; try dsimp only) | ((fail_if_success (show wpAny _ _ _ _ _ _)); dsimp only) | fail "no step")))
    any_goals (have hq : ((enc (.b bs)).length : Int) = ((enc (.b bs)).toArray.size : Int) := congrArg Int.ofNat (List.size_toArray (as := enc (.b bs))).symm; contradiction)
    rename Fr _ _ _ _ => kF
    exact ret _ _ _ [] kF.keep (fun _ h => nomatch h) ⟨⟨_, rfl⟩, rfl⟩
  | l ts =>
    obtain ⟨y, i, s', rfl, rfl, ed, et, H, e1, e2, e3, e4⟩ := hv
    obtain ⟨d, e, ts', dx, ex⟩ := i
    obtain ⟨k1, k2, k3, k4, k5, k6, k7, t1, t2, t3, t4, idx, vs, lv, nd, ne⟩ := s'
    dsimp only at ed et H e1 e2 e3 e4
    subst ed et e1 e2 e3 e4
    obtain ⟨h1, h2, h3⟩ := l3_ne (fun q hq => (kN q (List.mem_append_left _ (.tail _ hq))).1)
    have h1 : @Ne Nat y dx := h1
    have h2 : @Ne Nat y ex := h2
    have h3 : @Ne Nat dx ex := h3
    have h4 : @Ne Nat a dx := fun q => by
      have u := (kN _ (.head _)).1
      have v := (kN _ (.tail _ (.tail _ (.head _)))).1
      dsimp only at u v
      rw [q, v] at u
      simp [tupO, dictOf] at u
    dsimp only [l3, lzEs, List.cons_append, List.nil_append] at kN
    clear hd
    (repeat' ((fail_if_success (with_reducible first | (show wpAny _ _ (PySem.eval _ _) _ _ _; first | show wpAny _ _ (PySem.eval (.ListComp _ _ _ _) _) _ _ _) | (show wpAny _ _ (exec _ _) _ _ _; first | show wpAny _ _ (exec (.While _ _ _ _) _) _ _ _ | show wpAny _ _ (exec (.For _ _ _ _ _) _) _ _ _ | show wpAny _ _ (exec (.Raise (some (.Call _ _ _ _)) _ _) _) _ _ _) | (show wpAny _ _ (PySem.call _ _) _ _ _; first | refine h_ref (by decide) ?_ | show wpAny _ _ (PySem.call (.type "IndexError") _) _ _ _) | show wpAny _ _ (pyIter _) (fun it s₂ => LoopAtV _ _ _ _ _ _ _ _ _ it s₂) _ _ | show wpAny _ _ (leaving _ _) _ _ _ | show wpAny _ _ (noteFrame _ _) _ _ _)); (first | (k_unfold; (try dsimp only)) | walk1 | (dsimp only; walk1) | (leave1; walk_say "STEP leave1"; try dsimp only) | ((fail_if_success (show wpAny _ _ _ _ _ _)); dsimp only) | fail "no step")))
    any_goals (have hq : ((enc (.l ts')).length : Int) = ((enc (.l ts')).toArray.size : Int) := congrArg Int.ofNat (List.size_toArray (as := enc (.l ts'))).symm; contradiction)
    rename Fr _ _ _ _ => kF
    rename News _ _ _ _ => kM
    refine ret _ _ _ (l3 w.params y ⟨enc (.l ts'), idx, ts', dx, ex⟩ ⟨k1, k2, k3, k4, k5, k6, k7, t1, t2, t3, t4, idx, [], .none, 7, ne⟩) kF.keep (fun q hq => ?_) ⟨y, _, _, rfl, rfl, rfl, rfl, H, rfl, rfl, rfl, rfl⟩
    have z := kM q (by
      simp only [l3, lzEs, List.mem_cons, List.not_mem_nil, or_false] at hq ⊢
      rcases hq with q | q | q <;> simp only [q, true_or, or_true])
    exact ⟨z.1, z.2.2⟩
end
end Mine

-- P14
namespace Mine

/-- what stands at a path -/
def att : Tr → List Int → Option Tr
  | t, [] => some t
  | .b _, _ :: _ => none
  | .l ts, k :: ks => match ts[k.toNat]? with
    | some t => att t ks
    | none => none
theorem att_drop {t : Tr} {ks : List Int} {i : Nat} {k : Int} (h : ks[i]? = some k) : att t (ks.drop i) = att t (k :: ks.drop (i + 1)) := by
  rw [List.drop_eq_getElem_cons (List.getElem?_eq_some_iff.mp h).1, (List.getElem?_eq_some_iff.mp h).2]
def AtPost (P : Addr → List Value → Prop) (t : Tr) (ks : List Int) (mt : List (Addr × Obj)) (r : Value) : Prop :=
  (att t ks = none ∧ r = .none ∧ mt = []) ∨ ∃ t' v a, att t ks = some t' ∧ Item P t' v ∧ r = .ref a ∧ mt = [(a, tupO [v])]

section
variable {w : World} {p : Program} {loose : List Str} {mean : ExcName → Option Value} {mg mb : Str → Option Value}

set_option maxHeartbeats 4000000 in
theorem at_spec (g : Heap) (P : Addr → List Value → Prop) (hPG : ∀ a vs, P a vs → PG g a vs) (t : Tr) (v : Value) (pa : Addr) (pvs : List Value) (ks : List Int) (hit : Item P t v) (he : (enc t).length ≤ 1000000) (hp : PG g pa pvs) (hI : IntsAre pvs ks) (hb : ∀ k ∈ ks, 0 ≤ k ∧ k < 4) :
    Call0 Challenge.rw_is0005_01.row.prog w (hd.heap_1 w.params) p loose mean mg mb 197 [v, .ref pa] 10 80 g [] (AtPost P t ks) := by
  w_top off
  k_fill
  intro dp un gd base outer s Q E C st sz N hdp hun ret
  walk_at "MINE enter"
  intro L' h' tk0 F' N' l1 B' X' T' CB'
  clear C
  replace F' : Fr g L' h' (fun y => List.lookup y [(Str.ofString "path", Value.ref pa), (Str.ofString "item", v)]) := F'
  dsimp only
  try k_fold
  (repeat' ((fail_if_success (with_reducible first | (show wpAny _ _ (PySem.eval _ _) _ _ _; first | show wpAny _ _ (PySem.eval (.ListComp _ _ _ _) _) _ _ _) | (show wpAny _ _ (exec _ _) _ _ _; first | show wpAny _ _ (exec (.While _ _ _ _) _) _ _ _ | show wpAny _ _ (exec (.For _ _ _ _ _) _) _ _ _ | show wpAny _ _ (exec (.Raise (some (.Call _ _ _ _)) _ _) _) _ _ _) | (show wpAny _ _ (PySem.call _ _) _ _ _; first | refine h_ref (by decide) ?_ | show wpAny _ _ (PySem.call (.type "IndexError") _) _ _ _) | show wpAny _ _ (pyIter _) (fun it s₂ => LoopAtV _ _ _ _ _ _ _ _ _ it s₂) _ _ | show wpAny _ _ (leaving _ _) _ _ _ | show wpAny _ _ (noteFrame _ _) _ _ _)); (first | (k_unfold; (try dsimp only)) | walk1 | (dsimp only; walk1) | (leave1; walk_say "STEP leave1"; try dsimp only) | ((fail_if_success (show wpAny _ _ _ _ _ _)); dsimp only) | fail "no step")))
  rename Fr _ _ _ _ => kF
  rename News _ _ _ _ => kN
  refine For_invVF kF rfl rfl ?_
  (repeat' ((fail_if_success (with_reducible first | (show wpAny _ _ (PySem.eval _ _) _ _ _; first | show wpAny _ _ (PySem.eval (.ListComp _ _ _ _) _) _ _ _) | (show wpAny _ _ (exec _ _) _ _ _; first | show wpAny _ _ (exec (.While _ _ _ _) _) _ _ _ | show wpAny _ _ (exec (.For _ _ _ _ _) _) _ _ _ | show wpAny _ _ (exec (.Raise (some (.Call _ _ _ _)) _ _) _) _ _ _) | (show wpAny _ _ (PySem.call _ _) _ _ _; first | refine h_ref (by decide) ?_ | show wpAny _ _ (PySem.call (.type "IndexError") _) _ _ _) | show wpAny _ _ (pyIter _) (fun it s₂ => LoopAtV _ _ _ _ _ _ _ _ _ it s₂) _ _ | show wpAny _ _ (leaving _ _) _ _ _ | show wpAny _ _ (noteFrame _ _) _ _ _)); (first | (k_unfold; (try dsimp only)) | walk1 | (dsimp only; walk1) | (leave1; walk_say "STEP leave1"; try dsimp only) | ((fail_if_success (show wpAny _ _ _ _ _ _)); dsimp only) | fail "no step")))
  refine for_list (vs := pvs) (fun i m₁ nx => nx = [] ∧ ∃ t' v', m₁ (Str.ofString "item") = some v' ∧ Item P t' v' ∧ (enc t').length ≤ 1000000 ∧ att t ks = att t' (ks.drop i)) rfl hp.isList kF kN ?_ ?_ ?_
  · exact ⟨rfl, t, v, rfl, hit, he, rfl⟩
  · rintro i u m₁ nx h₁ tk₁ own hv hoff ⟨rfl, t', v', m1, hit', he', hat⟩ kF kN
    change Fr g L' _ _ at kF
    change News g L' _ _ at kN
    obtain ⟨k, tk, rfl, hk⟩ := hI.at _ _ hv
    have hkb := hb k (List.mem_of_getElem? hk)
    rw [att_drop hk] at hat
    have e1 : (fun y => if y = Str.ofString "place" then some (Value.int k tk) else m₁ y) (Str.ofString "item") = some v' := m1
    have e2 : (fun y => if y = Str.ofString "place" then some (Value.int k tk) else m₁ y) (Str.ofString "place") = some (Value.int k tk) := rfl
    generalize (fun y => if y = Str.ofString "place" then some (Value.int k tk) else m₁ y) = m₂ at kF e1 e2
    clear m1 m₁
    try k_fold
    cases t' with
    | b bs =>
      obtain ⟨tb, rfl⟩ := hit'
      (repeat' ((fail_if_success (with_reducible first | (show wpAny _ _ (PySem.eval _ _) _ _ _; first | show wpAny _ _ (PySem.eval (.ListComp _ _ _ _) _) _ _ _) | (show wpAny _ _ (exec _ _) _ _ _; first | show wpAny _ _ (exec (.While _ _ _ _) _) _ _ _ | show wpAny _ _ (exec (.For _ _ _ _ _) _) _ _ _ | show wpAny _ _ (exec (.Raise (some (.Call _ _ _ _)) _ _) _) _ _ _) | (show wpAny _ _ (PySem.call _ _) _ _ _; first | refine h_ref (by decide) ?_ | show wpAny _ _ (PySem.call (.type "IndexError") _) _ _ _) | show wpAny _ _ (pyIter _) (fun it s₂ => LoopAtV _ _ _ _ _ _ _ _ _ it s₂) _ _ | show wpAny _ _ (leaving _ _) _ _ _ | show wpAny _ _ (noteFrame _ _) _ _ _)); (first | (k_unfold; (try dsimp only)) | walk1 | (dsimp only; walk1) | (leave1; walk_say "STEP leave1"; try dsimp only) | ((fail_if_success (show wpAny _ _ _ _ _ _)); dsimp only) | fail "no step")))
      exact ret _ _ _ [] kF.keep (fun _ h => nomatch h) (.inl ⟨hat, rfl, rfl⟩)
    | l ts =>
      obtain ⟨a, vs, rfl, hP, hIs⟩ := hit'
      have hlen := hIs.length
      have hle := @encs_len_l ts
      have hge := encs_ge ts
      have hl := (hPG _ _ hP).isList
      (repeat' ((fail_if_success (with_reducible first | (show wpAny _ _ (PySem.eval _ _) _ _ _; first | show wpAny _ _ (PySem.eval (.ListComp _ _ _ _) _) _ _ _) | (show wpAny _ _ (exec _ _) _ _ _; first | show wpAny _ _ (exec (.While _ _ _ _) _) _ _ _ | show wpAny _ _ (exec (.For _ _ _ _ _) _) _ _ _ | show wpAny _ _ (exec (.Raise (some (.Call _ _ _ _)) _ _) _) _ _ _) | (show wpAny _ _ (PySem.call _ _) _ _ _; first | refine h_ref (by decide) ?_ | show wpAny _ _ (PySem.call (.type "IndexError") _) _ _ _ | show wpAny _ _ (PySem.call (.builtin "len") [.ref _]) _ _ _) | show wpAny _ _ (pyIter _) (fun it s₂ => LoopAtV _ _ _ _ _ _ _ _ _ it s₂) _ _ | show wpAny _ _ (leaving _ _) _ _ _ | show wpAny _ _ (noteFrame _ _) _ _ _ | show wpAny _ _ (subscriptTail _ _ (.ref _) (.int _ _)) _ _ _ | show wpAny _ _ (binaryOp .Add (.bytes _ _) (.bytes _ _)) _ _ _)); (first | (k_unfold; (try dsimp only)) | walk1 | (dsimp only; walk1) | (leave1; walk_say "STEP leave1"; try dsimp only) | ((fail_if_success (show wpAny _ _ _ _ _ _)); dsimp only) | fail "no step")))
      refine lenB (hl.at fun o e => kF.keep a o e) (by omega) ?_
      (repeat' ((fail_if_success (with_reducible first | (show wpAny _ _ (PySem.eval _ _) _ _ _; first | show wpAny _ _ (PySem.eval (.ListComp _ _ _ _) _) _ _ _) | (show wpAny _ _ (exec _ _) _ _ _; first | show wpAny _ _ (exec (.While _ _ _ _) _) _ _ _ | show wpAny _ _ (exec (.For _ _ _ _ _) _) _ _ _ | show wpAny _ _ (exec (.Raise (some (.Call _ _ _ _)) _ _) _) _ _ _) | (show wpAny _ _ (PySem.call _ _) _ _ _; first | refine h_ref (by decide) ?_ | show wpAny _ _ (PySem.call (.type "IndexError") _) _ _ _) | show wpAny _ _ (pyIter _) (fun it s₂ => LoopAtV _ _ _ _ _ _ _ _ _ it s₂) _ _ | show wpAny _ _ (leaving _ _) _ _ _ | show wpAny _ _ (noteFrame _ _) _ _ _)); (first | (k_unfold; (try dsimp only)) | walk1 | (dsimp only; walk1) | (leave1; walk_say "STEP leave1"; try dsimp only) | ((fail_if_success (show wpAny _ _ _ _ _ _)); dsimp only) | fail "no step")))
      · rename (_ ≤ _) => hk2
        have hno : ts[k.toNat]? = none := by rw [List.getElem?_eq_none_iff]; omega
        rw [att, hno] at hat
        exact ret _ _ _ [] kF.keep (fun _ h => nomatch h) (.inl ⟨hat, rfl, rfl⟩)
      · rename ¬ _ => hk2
        obtain ⟨v2, hv2⟩ : ∃ v, vs[k.toNat]? = some v := ⟨vs[k.toNat]'(by omega), by simp⟩
        obtain ⟨t2, ht2, hit2⟩ := hIs.get hv2
        have hle3 := enc_le_encs ht2
        rw [att, ht2] at hat
        refine item_listL (hl.at fun o e => kF.keep a o e) hkb.1 (by omega) hv2 ?_
        (repeat' ((fail_if_success (with_reducible first | (show wpAny _ _ (PySem.eval _ _) _ _ _; first | show wpAny _ _ (PySem.eval (.ListComp _ _ _ _) _) _ _ _) | (show wpAny _ _ (exec _ _) _ _ _; first | show wpAny _ _ (exec (.While _ _ _ _) _) _ _ _ | show wpAny _ _ (exec (.For _ _ _ _ _) _) _ _ _ | show wpAny _ _ (exec (.Raise (some (.Call _ _ _ _)) _ _) _) _ _ _) | (show wpAny _ _ (PySem.call _ _) _ _ _; first | refine h_ref (by decide) ?_ | show wpAny _ _ (PySem.call (.type "IndexError") _) _ _ _) | show wpAny _ _ (pyIter _) (fun it s₂ => LoopAtV _ _ _ _ _ _ _ _ _ it s₂) _ _ | show wpAny _ _ (leaving _ _) _ _ _ | show wpAny _ _ (noteFrame _ _) _ _ _)); (first | (k_unfold; (try dsimp only)) | walk1 | (dsimp only; walk1) | (leave1; walk_say "STEP leave1"; try dsimp only) | ((fail_if_success (show wpAny _ _ _ _ _ _)); dsimp only) | fail "no step")))
        rename Fr _ _ _ _ => kF
        rename News _ _ _ _ => kN
        exact ⟨_, _, _, _, [], rfl, kF, kN, (fun _ h => nomatch h), (fun q hq => by simpa using hq), (fun _ _ _ h => nomatch h), rfl, t2, v2, rfl, hit2, by omega, hat⟩
  · rintro m₁ nx h₁ tk₁ ⟨rfl, t', v', m1, hit', he', hat⟩ kF kN
    change Fr g L' _ _ at kF
    change News g L' _ _ at kN
    (repeat' ((fail_if_success (with_reducible first | (show wpAny _ _ (PySem.eval _ _) _ _ _; first | show wpAny _ _ (PySem.eval (.ListComp _ _ _ _) _) _ _ _) | (show wpAny _ _ (exec _ _) _ _ _; first | show wpAny _ _ (exec (.While _ _ _ _) _) _ _ _ | show wpAny _ _ (exec (.For _ _ _ _ _) _) _ _ _ | show wpAny _ _ (exec (.Raise (some (.Call _ _ _ _)) _ _) _) _ _ _) | (show wpAny _ _ (PySem.call _ _) _ _ _; first | refine h_ref (by decide) ?_ | show wpAny _ _ (PySem.call (.type "IndexError") _) _ _ _) | show wpAny _ _ (pyIter _) (fun it s₂ => LoopAtV _ _ _ _ _ _ _ _ _ it s₂) _ _ | show wpAny _ _ (leaving _ _) _ _ _ | show wpAny _ _ (noteFrame _ _) _ _ _)); (first | (k_unfold; (try dsimp only)) | walk1 | (dsimp only; walk1) | (leave1; walk_say "STEP leave1"; try dsimp only) | ((fail_if_success (show wpAny _ _ _ _ _ _)); dsimp only) | fail "no step")))
    rename Fr _ _ _ _ => kF
    rename News _ _ _ _ => kN
    rw [hI.length, List.drop_length] at hat
    exact ret _ _ _ _ kF.keep (fun q hq => ⟨(kN q hq).1, (kN q hq).2.2⟩) (.inr ⟨t', v', _, hat, hit', rfl, rfl⟩)
end
end Mine

-- P16
namespace Mine

/-- what a turn of a loop leaves; the base may be another -/
def TurnEnd (L I : Addr) (oI : Obj) (J : Heap → (Str → Option Value) → List (Addr × Obj) → Prop) (Q : Flow → Shared → Prop) (s₁ : Shared) (f : Flow) (s₂ : Shared) : Prop :=
  match f with
  | .ret v => Q (.ret v) s₂
  | .brk => Q .next s₂
  | _ => ∃ h' tk g m nx, s₂ = { s₁ with heap := h', toks := tk } ∧ Fr g L h' m ∧ News g L h' (nx ++ [(I, oI)]) ∧ (∀ q ∈ nx, q.1 ≠ I) ∧ J g m nx
def TurnAt (prog : Program) (w : World) (A : Around) (env : Env) (x : Str) (body : List Stmt) (Q : Flow → Shared → Prop) (E : Value → Shared → Prop) (it : Value) (s₂ : Shared) : Prop :=
  ∃ (I : Addr) (a : Int) (n : Nat) (g : Heap) (m : Str → Option Value) (nx : List (Addr × Obj)) (J : Nat → Heap → (Str → Option Value) → List (Addr × Obj) → Prop),
    it = .ref I ∧ A.handled = none ∧ IsRangeIter s₂.heap I a n 1 ∧ env.locals ≠ I ∧ g.get? I = none ∧ Fr g env.locals s₂.heap m ∧ News g env.locals s₂.heap nx ∧ (∀ q ∈ nx, q.1 ≠ I) ∧ J 0 g m nx ∧
    (∀ i t g₁ m₁ nx₁ h tk oI, i < n → J i g₁ m₁ nx₁ → (∀ q ∈ nx₁, q.1 ≠ I) → Fr g₁ env.locals h (fun y => if y = x then some (.int (a + (i : Int)) t) else m₁ y) → News g₁ env.locals h (nx₁ ++ [(I, oI)]) →
      wpAny (model prog w) A (execs body env) (TurnEnd env.locals I oI (J (i + 1)) Q { s₂ with heap := h, toks := tk }) E { s₂ with heap := h, toks := tk }) ∧
    ∀ h' tk g' m' nx', Fr g' env.locals h' m' → News g' env.locals h' nx' → J n g' m' nx' → Q .next { s₂ with heap := h', toks := tk }
structure RangeAt (prog : Program) (w : World) (A : Around) (env : Env) (x : Str) (body : List Stmt) (Q : Flow → Shared → Prop) (E : Value → Shared → Prop) (xv : Value) (s : Shared) : Prop where
  go : wpAny (model prog w) A (pyIter xv) (fun it s₂ => TurnAt prog w A env x body Q E it s₂) E s

section
variable {prog : Program} {w : World} {A : Around} {s : Shared} {env : Env}
theorem turn_loop {R : Result → Shared → Prop} {x : Str} {px : Pos} {body : List Stmt} {I : Addr} {a : Int} {n : Nat} {g : Heap} {m : Str → Option Value} {news : List (Addr × Obj)} (hh : A.handled = none) (hx : env.kindOf x = some .local)
    (hp : (env.scope.kind == .class || (env.scope.kind == .module && env.locals != env.globals)) = false)
    (hit : IsRangeIter s.heap I a n 1) (hLI : env.locals ≠ I) (hI : g.get? I = none) (F : Fr g env.locals s.heap m) (N : News g env.locals s.heap news) (hoff : ∀ q ∈ news, q.1 ≠ I)
    (J : Nat → Heap → (Str → Option Value) → List (Addr × Obj) → Prop) (h0 : J 0 g m news)
    (step : ∀ i t g₁ m₁ nx₁ h tk oI, i < n → J i g₁ m₁ nx₁ → (∀ q ∈ nx₁, q.1 ≠ I) → Fr g₁ env.locals h (fun y => if y = x then some (.int (a + (i : Int)) t) else m₁ y) → News g₁ env.locals h (nx₁ ++ [(I, oI)]) →
      wpAny (model prog w) A (execs body env) (TurnEnd env.locals I oI (J (i + 1)) (fun f s' => R (.ok f) s') { s with heap := h, toks := tk }) (notedBy (model prog w) A env fun e s' => R (.error e) s') { s with heap := h, toks := tk })
    (hR : ∀ h' tk g' m' nx', Fr g' env.locals h' m' → News g' env.locals h' nx' → J n g' m' nx' → R (.ok .next) { s with heap := h', toks := tk }) :
    codeAny (model prog w) A (.forLoop (.Name x px) (.ref I) body [] env) R s := by
  refine codeAny_forLoop
    (fun k s' => ∃ h' tk g₁ m' nx i, s' = { s with heap := h', toks := tk } ∧ IsRangeIter h' I (a + (i : Nat) * 1) ((n : Int) - (i : Nat)) 1 ∧ g₁.get? I = none ∧ Fr g₁ env.locals h' m' ∧ News g₁ env.locals h' nx ∧ (∀ q ∈ nx, q.1 ≠ I) ∧ J i g₁ m' nx ∧ i ≤ n ∧ k = n + 1 - i) ?_ (n + 1)
    ⟨s.heap, s.toks, g, m, news, 0, rfl, by simpa using hit, hI, F, N, hoff, h0, Nat.zero_le _, rfl⟩
  rintro k s' ⟨h', tk, g₁, m', nx, i, rfl, hit', hI', F', N', ho', hJ, hi, rfl⟩
  by_cases hlt : i < n
  · refine wpAny_pyNext_range_item hit' (by omega) fun h₁ hit₁ hs₁ => ?_
    have hk₁ : ∀ b o, b ≠ I → h'.get? b = some o → h₁.get? b = some o := fun b o hb e => hs₁.extBut b o hb e
    have F₁ : Fr g₁ env.locals h₁ m' := ⟨F'.ns.at' fun o e => hk₁ _ o hLI e, fun b o e => hk₁ b o (fun q => by rw [q, hI'] at e; cases e) (F'.keep b o e), F'.above⟩
    have N₁ : News g₁ env.locals h₁ nx := fun q hq => ⟨hk₁ _ _ (ho' q hq) (N' q hq).1, (N' q hq).2⟩
    refine wpAny_assign_Name (wpAny_storeName_local hx F₁.ns (fun h₂ hn₂ hs₂ => ?_) hp)
    have F₂ := F₁.set hn₂ hs₂
    have N₂ := N₁.set hs₂
    obtain ⟨oI, hoI, hit₂⟩ : ∃ o : Obj, some o = h₁.get? I ∧ h₂.get? I = some o := ⟨_, Eq.symm hit₁, (hs₂.2 I fun q => hLI q.symm).trans hit₁⟩
    have e0 : a + (i : Int) * 1 = a + (i : Int) := by omega
    rw [e0] at F₂
    refine wpAny_mono (step i _ g₁ m' nx _ _ oI hlt hJ ho' F₂ (fun q hq => ?_)) (fun f s₃ h₃ => ?_) fun _ _ e => e
    · rcases List.mem_append.mp hq with hq | hq
      · exact N₂ q hq
      · rw [List.mem_singleton.mp hq]
        exact ⟨hit₂, fun e => hLI e.symm, hI'⟩
    · have fin : (∃ h' tk' g m nx, s₃ = { s with heap := h', toks := tk' } ∧ Fr g env.locals h' m ∧ News g env.locals h' (nx ++ [(I, oI)]) ∧ (∀ q ∈ nx, q.1 ≠ I) ∧ J (i + 1) g m nx) →
          ∃ m, m < n + 1 - i ∧ ∃ h' tk g₁ m' nx i, s₃ = { s with heap := h', toks := tk } ∧ IsRangeIter h' I (a + (i : Nat) * 1) ((n : Int) - (i : Nat)) 1 ∧ g₁.get? I = none ∧ Fr g₁ env.locals h' m' ∧ News g₁ env.locals h' nx ∧ (∀ q ∈ nx, q.1 ≠ I) ∧ J i g₁ m' nx ∧ i ≤ n ∧ m = n + 1 - i := by
        rintro ⟨hh₃, tk₃, g₃, m₃, nx₃, rfl, F₃, N₃, ho₃, hJ₃⟩
        have z := N₃ _ (List.mem_append_right _ (List.mem_singleton.mpr rfl))
        refine ⟨n + 1 - (i + 1), by omega, hh₃, tk₃, g₃, m₃, nx₃, i + 1, rfl, ?_, z.2.2, F₃, fun q hq => N₃ q (List.mem_append_left _ hq), ho₃, hJ₃, hlt, rfl⟩
        have e1 : a + ((i + 1 : Nat) : Int) * 1 = a + (i : Int) * 1 + 1 := by push_cast; omega
        have e2 : (n : Int) - ((i + 1 : Nat) : Int) = (n : Int) - (i : Int) - 1 := by push_cast; omega
        rw [e1, e2]
        exact z.1.trans (hoI.trans hit₁)
      cases f with
      | ret v => exact h₃
      | brk => exact h₃
      | cont => exact fin h₃
      | next => exact fin h₃
  · have hin : i = n := by omega
    subst hin
    refine wpAny_pyNext_range_end hh hit' (by omega) fun h₁ hs₁ => wpAny_execs_nil ?_
    have hk₁ : ∀ b o, b ≠ I → h'.get? b = some o → h₁.get? b = some o := fun b o hb e => hs₁ b o hb e
    exact hR h₁ tk g₁ m' nx ⟨F'.ns.at' fun o e => hk₁ _ o hLI e, fun b o e => hk₁ b o (fun q => by rw [q, hI'] at e; cases e) (F'.keep b o e), F'.above⟩ (fun q hq => ⟨hk₁ _ _ (ho' q hq) (N' q hq).1, (N' q hq).2⟩) hJ

theorem For_turn {E : Value → Shared → Prop} {Q : Flow → Shared → Prop} {x : Str} {px pos : Pos} {iter : Expr} {body : List Stmt} (hx : env.kindOf x = some .local)
    (hp : (env.scope.kind == .class || (env.scope.kind == .module && env.locals != env.globals)) = false)
    (h : wpAny (model prog w) A (eval iter env) (fun xv s₁ => RangeAt prog w A env x body Q E xv s₁) E s)
    (hs : ∀ x, foldedSetIterable iter env x = pure x := by intro _; rfl)
    (hE : PassesOwn (model prog w) A env E := by passes_own) :
    wpAny (model prog w) A (exec (.For (.Name x px) iter body [] pos) env) Q E s := by
  refine wpAny_For (wpAny_mono h (fun xv s₁ h₁ => wpAny_mono h₁.go (fun it s₂ h₂ => ?_) fun _ _ e => e) fun _ _ e => e) hs
  obtain ⟨I, a, n, g, m, nx, J, rfl, hh, hit, hLI, hI, F, N, ho, h0, step, hQ⟩ := h₂
  exact turn_loop (R := fun r s' => match r with | .ok f => Q f s' | .error e => cameBackBy (model prog w) A env E e s') hh hx hp hit hLI hI F N ho J h0 (fun i t g₁ m₁ nx₁ h tk oI hi hJ hoff F N => wpAny_passesOwn hE (step i t g₁ m₁ nx₁ h tk oI hi hJ hoff F N)) hQ

theorem range_turn {E : Value → Shared → Prop} {Q : Flow → Shared → Prop} {x : Str} {body : List Stmt} {g : Heap} {r : Addr} {a₀ b₀ : Int} {t₀ u₀ v₀ : Tok} {n : Nat} {m₀ : Str → Option Value} {news : List (Addr × Obj)} (J : Nat → Heap → (Str → Option Value) → List (Addr × Obj) → Prop)
    (hh : A.handled = none) (hr : IsRange s.heap r a₀ b₀ 1 t₀ u₀ v₀) (hsmall : Builtin.Range.small a₀ b₀ 1 = true) (hn : Builtin.Range.rangeSize a₀ b₀ 1 = (n : Int)) (F : Fr g env.locals s.heap m₀) (N : News g env.locals s.heap news) (hj : J 0 g m₀ news)
    (turn : ∀ I i t g₁ m₁ nx₁ h tk oI, i < n → J i g₁ m₁ nx₁ → (∀ q ∈ nx₁, q.1 ≠ I) → Fr g₁ env.locals h (fun y => if y = x then some (.int (a₀ + (i : Int)) t) else m₁ y) → News g₁ env.locals h (nx₁ ++ [(I, oI)]) →
      wpAny (model prog w) A (execs body env) (TurnEnd env.locals I oI (J (i + 1)) Q { s with heap := h, toks := tk }) E { s with heap := h, toks := tk })
    (done : ∀ h' tk g' m' nx', Fr g' env.locals h' m' → News g' env.locals h' nx' → J n g' m' nx' → Q .next { s with heap := h', toks := tk }) :
    RangeAt prog w A env x body Q E (.ref r) s := by
  refine ⟨wpAny_pyIter_range hr hsmall ⟨s.heap.objs.size, a₀, n, g, m₀, news, J, rfl, hh, ?_, ?_, ?_, F.push _, fun p hp => ⟨Heap.get?_push_of_some _ (N p hp).1, (N p hp).2⟩, ?_, hj, fun i t g₁ m₁ nx₁ h tk oI => turn _ i t g₁ m₁ nx₁ h tk oI, done⟩⟩
  · show IsRangeIter _ _ _ _ _
    rw [hn]; simpa using Heap.get?_push_size _ rfl
  · exact Nat.ne_of_lt F.ns.lt
  · exact next_is_new F
  · intro q hq
    exact Nat.ne_of_lt (Heap.lt_size (N q hq).1)
end
end Mine

-- P15
namespace Mine

def PlPost (P : Params) (W : Addr → Option LI) (ts : List Tr) (k : Int) (mt : List (Addr × Obj)) (r : Value) : Prop :=
  ∃ W' led, Wle W W' ∧ Wd P W' led ∧ (∀ q ∈ led, q ∈ mt) ∧ ((∃ t v a, ts[k.toNat]? = some t ∧ VRel W' t v ∧ r = .ref a ∧ (a, tupO [v]) ∈ mt) ∨ (ts.length ≤ k.toNat ∧ r = .none))

section
variable {w : World} {p : Program} {loose : List Str} {mean : ExcName → Option Value} {mg mb : Str → Option Value}

set_option maxHeartbeats 4000000 in
theorem pl_spec (g : Heap) (x : Addr) (i : LI) (W : Addr → Option LI) (led : List (Addr × Obj)) (hW : Wd w.params W led) (hx : W x = some i) (k : Int) (kt : Tok) (hk : 0 ≤ k) (hk2 : k ≤ 1000000) :
    CallT Challenge.rw_is0005_01.row.prog w (hd.heap_1 w.params) p loose mean mg mb 211 [.ref x, .int k kt] (deps i.ts + 36) (8 * deps i.ts + 360) g led (PlPost w.params W i.ts k) := by
  w_top off
  k_fill
  intro dp un gd base outer s Q E C st sz N hdp hun ret
  walk_at "MINE enter"
  intro L' h' tk0 F' N' l1 B' X' T' CB'
  clear C
  replace F' : Fr g L' h' (fun y => List.lookup y [(Str.ofString "place", Value.int k kt), (Str.ofString "lazy", Value.ref x)]) := F'
  obtain ⟨od, hin0⟩ := hW.inst hx
  replace N' := weak N' hin0
  clear hin0
  have hgi := fun g2 => getitem_spec (w := w) (p := p) (loose := loose) (mean := mean) (mg := mg) (mb := mb) g2 x i W led hW hx k kt hk hk2
  dsimp only
  try k_fold
  (repeat' ((fail_if_success (with_reducible first | (show wpAny _ _ (PySem.eval _ _) _ _ _; first | show wpAny _ _ (PySem.eval (.ListComp _ _ _ _) _) _ _ _) | (show wpAny _ _ (exec _ _) _ _ _; first | show wpAny _ _ (exec (.While _ _ _ _) _) _ _ _ | show wpAny _ _ (exec (.For _ _ _ _ _) _) _ _ _ | show wpAny _ _ (exec (.Raise (some (.Call _ _ _ _)) _ _) _) _ _ _) | (show wpAny _ _ (PySem.call _ _) _ _ _; first | refine h_ref (by decide) ?_ | show wpAny _ _ (PySem.call (.type "IndexError") _) _ _ _) | show wpAny _ _ (pyIter _) (fun it s₂ => LoopAtV _ _ _ _ _ _ _ _ _ it s₂) _ _ | show wpAny _ _ (leaving _ _) _ _ _ | show wpAny _ _ (noteFrame _ _) _ _ _)); (first | (k_unfold; (try dsimp only)) | walk1 | (dsimp only; walk1) | (leave1; walk_say "STEP leave1"; try dsimp only) | ((fail_if_success (show wpAny _ _ _ _ _ _)); dsimp only) | fail "no step")))
  refine useN led [] B' CB' F' N' rfl rfl
      (fun q hq => .tail _ (.tail _ hq)) (fun _ h => nomatch h) (fun _ _ _ h => nomatch h) (fun g2 _ _ => hgi g2) (by walk_at "MINE room") (by walk_at "MINE room") ?_ ?_
  · rintro r h2 tk2 mt2 kF kN hd ⟨W2, t, hle, hW2, hti, hr⟩
    rw [List.append_nil] at kN
    dsimp only
    (repeat' ((fail_if_success (with_reducible first | (show wpAny _ _ (PySem.eval _ _) _ _ _; first | show wpAny _ _ (PySem.eval (.ListComp _ _ _ _) _) _ _ _) | (show wpAny _ _ (exec _ _) _ _ _; first | show wpAny _ _ (exec (.While _ _ _ _) _) _ _ _ | show wpAny _ _ (exec (.For _ _ _ _ _) _) _ _ _ | show wpAny _ _ (exec (.Raise (some (.Call _ _ _ _)) _ _) _) _ _ _) | (show wpAny _ _ (PySem.call _ _) _ _ _; first | refine h_ref (by decide) ?_ | show wpAny _ _ (PySem.call (.type "IndexError") _) _ _ _) | show wpAny _ _ (pyIter _) (fun it s₂ => LoopAtV _ _ _ _ _ _ _ _ _ it s₂) _ _ | show wpAny _ _ (leaving _ _) _ _ _ | show wpAny _ _ (noteFrame _ _) _ _ _)); (first | (k_unfold; (try dsimp only)) | walk1 | (dsimp only; walk1) | (leave1; walk_say "STEP leave1"; try dsimp only) | ((fail_if_success (show wpAny _ _ _ _ _ _)); dsimp only) | fail "no step")))
    rename Fr _ _ _ _ => kF
    rename News _ _ _ _ => kN
    exact ret _ _ _ _ g .refl kF.keep (fun q hq => ⟨(kN q hq).1, (kN q hq).2.2⟩) ⟨W2, mt2, hle, hW2, fun q hq => .tail _ hq, .inl ⟨t, r, _, hti, hr, rfl, .head _⟩⟩
  · rintro cls e1 h2 tk2 mt2 G FG RG uG hd ⟨rfl, hlen, W2, hle, hW2⟩
    dsimp only
    (repeat' ((fail_if_success (with_reducible first | (show wpAny _ _ (PySem.eval _ _) _ _ _; first | show wpAny _ _ (PySem.eval (.ListComp _ _ _ _) _) _ _ _) | (show wpAny _ _ (exec _ _) _ _ _; first | show wpAny _ _ (exec (.While _ _ _ _) _) _ _ _ | show wpAny _ _ (exec (.For _ _ _ _ _) _) _ _ _ | show wpAny _ _ (exec (.Raise (some (.Call _ _ _ _)) _ _) _) _ _ _) | (show wpAny _ _ (PySem.call _ _) _ _ _; first | refine h_ref (by decide) ?_ | show wpAny _ _ (PySem.call (.type "IndexError") _) _ _ _) | show wpAny _ _ (pyIter _) (fun it s₂ => LoopAtV _ _ _ _ _ _ _ _ _ it s₂) _ _ | show wpAny _ _ (leaving _ _) _ _ _ | show wpAny _ _ (noteFrame _ _) _ _ _)); (first | (k_unfold; (try dsimp only)) | walk1 | (dsimp only; walk1) | (leave1; walk_say "STEP leave1"; try dsimp only) | ((fail_if_success (show wpAny _ _ _ _ _ _)); dsimp only) | fail "no step")))
    rw [List.append_nil] at RG
    k_dflt (refine' caught_SN0 (T' := "IndexError") RG FG B' uG CB'.XB CB'.TB CB'.D .refl ?ex PyProof.Rows.Boot.«IndexError» ?hn PySem.F.isExc_IndexError PySem.F.notTuple_IndexError ?hs ?_; (case hs => kts_sub); (case ex => k_is); (case hn => decide))
    intro h3 g3 T3 F3 N3 B3 X3 P3 D3
    clear B' X' T' CB' RG FG uG
    (repeat' ((fail_if_success (with_reducible first | (show wpAny _ _ (PySem.eval _ _) _ _ _; first | show wpAny _ _ (PySem.eval (.ListComp _ _ _ _) _) _ _ _) | (show wpAny _ _ (exec _ _) _ _ _; first | show wpAny _ _ (exec (.While _ _ _ _) _) _ _ _ | show wpAny _ _ (exec (.For _ _ _ _ _) _) _ _ _ | show wpAny _ _ (exec (.Raise (some (.Call _ _ _ _)) _ _) _) _ _ _) | (show wpAny _ _ (PySem.call _ _) _ _ _; first | refine h_ref (by decide) ?_ | show wpAny _ _ (PySem.call (.type "IndexError") _) _ _ _) | show wpAny _ _ (pyIter _) (fun it s₂ => LoopAtV _ _ _ _ _ _ _ _ _ it s₂) _ _ | show wpAny _ _ (leaving _ _) _ _ _ | show wpAny _ _ (noteFrame _ _) _ _ _)); (first | (k_unfold; (try dsimp only)) | walk1 | (dsimp only; walk1) | (leave1; walk_say "STEP leave1"; try dsimp only) | ((fail_if_success (show wpAny _ _ _ _ _ _)); dsimp only) | fail "no step")))
    exact ret _ _ _ _ g3 T3 F3.keep (fun q hq => ⟨(N3 q hq).1, (N3 q hq).2.2⟩) ⟨W2, mt2, hle, hW2, fun q hq => hq, .inr ⟨hlen, rfl⟩⟩
end
end Mine

-- P17
namespace Mine

theorem kitAt_base {g h : Heap} {L a : Addr} {m : Str → Option Value} {vs : Array Value} (hl : g.IsList a vs) (F : Fr g L h m) : KitAt a "list" h := by
  obtain ⟨o, h1, h2, _⟩ := hl
  exact ⟨o, F.keep _ _ h1, h2⟩
end Mine
local macro_rules | `(tactic| kit_at) => `(tactic| exact kitAt_base (by assumption) (by k_asm))
namespace Mine

theorem VNew.world {P : Params} {t : Tr} {v : Value} {mt : List (Addr × Obj)} (h : VNew P (enc t) t v mt) (he : (enc t).length ≤ 1000000) : ∃ W, Wd P W mt ∧ VRel W t v := by
  cases t with
  | b bs => obtain ⟨e, rfl⟩ := h; exact ⟨fun _ => none, ⟨fun _ _ e => (nomatch e), fun _ _ _ _ e => (nomatch e)⟩, e⟩
  | l us =>
    obtain ⟨y, j, s, rfl, rfl, ed, et, H, e1, e2, e3, e4⟩ := h
    subst et
    have hle := @encs_len_l j.ts
    refine ⟨fun z => if z = y then some j else none, ⟨fun x i e => ?_, fun x i y' i' e e' hn => ?_⟩, y, j, rfl, by simp, rfl⟩
    · by_cases hx : x = y
      · subst hx
        simp only [if_true] at e; cases e
        exact ⟨⟨ed ▸ H, by rw [ed]; omega, by omega⟩, s, ⟨e4, by rw [e1]; exact Nat.zero_le _, by rw [e1, e2]; simp [encs], .inl e3⟩, fun q hq => hq, by rw [e1]; intro j v hj; simp at hj⟩
      · simp only [hx, if_false] at e; cases e
    · by_cases hx : x = y
      · by_cases hy : y' = y
        · exact absurd (hx.trans hy.symm) hn
        · simp only [hy, if_false] at e'; cases e'
      · simp only [hx, if_false] at e; cases e

def PkPost (P : Params) (t : Tr) (ks : List Int) (mt : List (Addr × Obj)) (r : Value) : Prop := ∃ W t', Wd P W mt ∧ att t ks = some t' ∧ VRel W t' r
def PkExc (t : Tr) (ks : List Int) (cls : String) (_ : Addr) (_ : Heap) (_ : List (Addr × Obj)) : Prop := cls = "IndexError" ∧ att t ks = none

section
variable {w : World} {p : Program} {loose : List Str} {mean : ExcName → Option Value} {mg mb : Str → Option Value}

set_option maxHeartbeats 4000000 in
theorem peek_spec (g : Heap) (t : Tr) (td : Tok) (pa : Addr) (pvs : List Value) (ks : List Int) (he : (enc t).length ≤ 1000000) (hp : PG g pa pvs) (hI : IntsAre pvs ks) (hb : ∀ k ∈ ks, 0 ≤ k ∧ k < 4) :
    CallN Challenge.rw_is0005_01.row.prog w (hd.heap_1 w.params) p loose mean mg mb 164 [.bytes (enc t).toArray td, .ref pa] (dep t + 40) (8 * dep t + 400) g [] (PkPost w.params t ks) (PkExc t ks) := by
  w_top off
  k_fill
  intro dp un gd base outer s Q E C st sz N hdp hun ret exc
  have hXs := C.X.keeps st
  walk_at "MINE enter"
  clear hXs
  intro L' h' tk0 F' N' l1 B' X' T' CB'
  clear C
  replace F' : Fr g L' h' (fun y => List.lookup y [(Str.ofString "sedes", Value.none), (Str.ofString "index", Value.ref pa), (Str.ofString "rlp", Value.bytes (enc t).toArray td)]) := F'
  have hl := hp.isList
  dsimp only
  try k_fold
  (repeat' ((fail_if_success (with_reducible first | (show wpAny _ _ (PySem.eval _ _) _ _ _; first | show wpAny _ _ (PySem.eval (.ListComp _ _ _ _) _) _ _ _) | (show wpAny _ _ (exec _ _) _ _ _; first | show wpAny _ _ (exec (.While _ _ _ _) _) _ _ _ | show wpAny _ _ (exec (.For _ _ _ _ _) _) _ _ _ | show wpAny _ _ (exec (.Raise (some (.Call _ _ _ _)) _ _) _) _ _ _) | (show wpAny _ _ (PySem.call _ _) _ _ _; first | refine h_ref (by decide) ?_ | show wpAny _ _ (PySem.call (.type "IndexError") _) _ _ _) | show wpAny _ _ (pyIter _) (fun it s₂ => LoopAtV _ _ _ _ _ _ _ _ _ it s₂) _ _ | show wpAny _ _ (leaving _ _) _ _ _ | show wpAny _ _ (noteFrame _ _) _ _ _)); (first | (k_unfold; (try dsimp only)) | walk1 | (dsimp only; walk1) | (leave1; walk_say "STEP leave1"; try dsimp only) | ((fail_if_success (show wpAny _ _ _ _ _ _)); dsimp only) | fail "no step")))
  rename Fr _ _ _ _ => kF
  rename News _ _ _ _ => kN
  refine useP B' CB' kF kN rfl rfl (fun g2 _ _ => dl_spec t g2 td he) (by walk_at "MINE room") (by walk_at "MINE room") ?_
  clear kF kN
  rintro r h2 tk2 tl2 kF kN hd hv
  obtain ⟨W0, hW0, hr0⟩ := hv.world he
  rw [List.append_nil] at kN
  dsimp only
  (repeat' ((fail_if_success (with_reducible first | (show wpAny _ _ (PySem.eval _ _) _ _ _; first | show wpAny _ _ (PySem.eval (.ListComp _ _ _ _) _) _ _ _) | (show wpAny _ _ (exec _ _) _ _ _; first | show wpAny _ _ (exec (.While _ _ _ _) _) _ _ _ | show wpAny _ _ (exec (.For _ _ _ _ _) _) _ _ _ | show wpAny _ _ (exec (.Raise (some (.Call _ _ _ _)) _ _) _) _ _ _) | (show wpAny _ _ (PySem.call _ _) _ _ _; first | refine h_ref (by decide) ?_ | show wpAny _ _ (PySem.call (.type "IndexError") _) _ _ _) | show wpAny _ _ (pyIter _) (fun it s₂ => LoopAtV _ _ _ _ _ _ _ _ _ it s₂) _ _ | show wpAny _ _ (leaving _ _) _ _ _ | show wpAny _ _ (noteFrame _ _) _ _ _)); (first | (k_unfold; (try dsimp only)) | walk1 | (dsimp only; walk1) | (leave1; walk_say "STEP leave1"; try dsimp only) | ((fail_if_success (show wpAny _ _ _ _ _ _)); dsimp only) | fail "no step")))
  rename Fr _ _ _ _ => kF
  refine For_invVF kF rfl rfl ?_
  (repeat' ((fail_if_success (with_reducible first | (show wpAny _ _ (PySem.eval _ _) _ _ _; first | show wpAny _ _ (PySem.eval (.ListComp _ _ _ _) _) _ _ _) | (show wpAny _ _ (exec _ _) _ _ _; first | show wpAny _ _ (exec (.While _ _ _ _) _) _ _ _ | show wpAny _ _ (exec (.For _ _ _ _ _) _) _ _ _ | show wpAny _ _ (exec (.Raise (some (.Call _ _ _ _)) _ _) _) _ _ _) | (show wpAny _ _ (PySem.call _ _) _ _ _; first | refine h_ref (by decide) ?_ | show wpAny _ _ (PySem.call (.type "IndexError") _) _ _ _) | show wpAny _ _ (pyIter _) (fun it s₂ => LoopAtV _ _ _ _ _ _ _ _ _ it s₂) _ _ | show wpAny _ _ (leaving _ _) _ _ _ | show wpAny _ _ (noteFrame _ _) _ _ _)); (first | (k_unfold; (try dsimp only)) | walk1 | (dsimp only; walk1) | (leave1; walk_say "STEP leave1"; try dsimp only) | ((fail_if_success (show wpAny _ _ _ _ _ _)); dsimp only) | fail "no step")))
  rename News _ _ _ _ => kN
  replace kN := weak (l := tl2) kN (fun q hq => by simp [hq])
  refine for_list (vs := pvs) (fun i m₁ nx => m₁ (Str.ofString "sedes") = some .none ∧ ∃ W t' v', Wd w.params W nx ∧ m₁ (Str.ofString "ll") = some v' ∧ VRel W t' v' ∧ dep t' ≤ dep t ∧ att t ks = att t' (ks.drop i)) rfl hl kF kN ?_ ?_ ?_
  · exact ⟨rfl, W0, t, r, hW0, rfl, hr0, Nat.le_refl _, rfl⟩
  · rintro i u m₁ nx h₁ tk₁ own hv hoff ⟨m0, W, t', v', hW, m1, hr', hdt, hat⟩ kF kN
    change Fr g L' _ _ at kF
    change News g L' _ _ at kN
    obtain ⟨k, tk, rfl, hk⟩ := hI.at _ _ hv
    have hkb := hb k (List.mem_of_getElem? hk)
    rw [att_drop hk] at hat
    have e0 : (fun y => if y = Str.ofString "i" then some (Value.int k tk) else m₁ y) (Str.ofString "sedes") = some .none := m0
    have e1 : (fun y => if y = Str.ofString "i" then some (Value.int k tk) else m₁ y) (Str.ofString "ll") = some v' := m1
    have e2 : (fun y => if y = Str.ofString "i" then some (Value.int k tk) else m₁ y) (Str.ofString "i") = some (Value.int k tk) := rfl
    generalize (fun y => if y = Str.ofString "i" then some (Value.int k tk) else m₁ y) = m₂ at kF e0 e1 e2
    clear m0 m1 m₁ hr0 hW0 hv
    try k_fold
    cases t' with
    | b bs =>
      obtain ⟨tb, rfl⟩ := hr'
      rw [att] at hat
      (repeat' ((fail_if_success (with_reducible first | (show wpAny _ _ (PySem.eval _ _) _ _ _; first | show wpAny _ _ (PySem.eval (.ListComp _ _ _ _) _) _ _ _) | (show wpAny _ _ (exec _ _) _ _ _; first | show wpAny _ _ (exec (.While _ _ _ _) _) _ _ _ | show wpAny _ _ (exec (.For _ _ _ _ _) _) _ _ _ | show wpAny _ _ (exec (.Raise (some (.Call _ _ _ _)) _ _) _) _ _ _) | (show wpAny _ _ (PySem.call _ _) _ _ _; first | refine h_ref (by decide) ?_ | show wpAny _ _ (PySem.call (.type "IndexError") _) _ _ _) | show wpAny _ _ (pyIter _) (fun it s₂ => LoopAtV _ _ _ _ _ _ _ _ _ it s₂) _ _ | show wpAny _ _ (leaving _ _) _ _ _ | show wpAny _ _ (noteFrame _ _) _ _ _)); (first | (k_unfold; (try dsimp only)) | walk1 | (dsimp only; walk1) | (leave1; walk_say "STEP leave1"; try dsimp only) | ((fail_if_success (show wpAny _ _ _ _ _ _)); dsimp only) | fail "no step")))
      walk1
      (repeat' ((fail_if_success (with_reducible first | (show wpAny _ _ (PySem.eval _ _) _ _ _; first | show wpAny _ _ (PySem.eval (.ListComp _ _ _ _) _) _ _ _) | (show wpAny _ _ (exec _ _) _ _ _; first | show wpAny _ _ (exec (.While _ _ _ _) _) _ _ _ | show wpAny _ _ (exec (.For _ _ _ _ _) _) _ _ _ | show wpAny _ _ (exec (.Raise (some (.Call _ _ _ _)) _ _) _) _ _ _) | (show wpAny _ _ (PySem.call _ _) _ _ _; first | refine h_ref (by decide) ?_ | show wpAny _ _ (PySem.call (.type "IndexError") _) _ _ _) | show wpAny _ _ (pyIter _) (fun it s₂ => LoopAtV _ _ _ _ _ _ _ _ _ it s₂) _ _ | show wpAny _ _ (leaving _ _) _ _ _ | show wpAny _ _ (noteFrame _ _) _ _ _)); (first | (k_unfold; (try dsimp only)) | walk1 | (dsimp only; walk1) | (leave1; walk_say "STEP leave1"; try dsimp only) | ((fail_if_success (show wpAny _ _ _ _ _ _)); dsimp only) | fail "no step")))
      walk1
      (repeat' ((fail_if_success (with_reducible first | (show wpAny _ _ (PySem.eval _ _) _ _ _; first | show wpAny _ _ (PySem.eval (.ListComp _ _ _ _) _) _ _ _) | (show wpAny _ _ (exec _ _) _ _ _; first | show wpAny _ _ (exec (.While _ _ _ _) _) _ _ _ | show wpAny _ _ (exec (.For _ _ _ _ _) _) _ _ _ | show wpAny _ _ (exec (.Raise (some (.Call _ _ _ _)) _ _) _) _ _ _) | (show wpAny _ _ (PySem.call _ _) _ _ _; first | refine h_ref (by decide) ?_ | show wpAny _ _ (PySem.call (.type "IndexError") _) _ _ _) | show wpAny _ _ (pyIter _) (fun it s₂ => LoopAtV _ _ _ _ _ _ _ _ _ it s₂) _ _ | show wpAny _ _ (leaving _ _) _ _ _ | show wpAny _ _ (noteFrame _ _) _ _ _)); (first | (k_unfold; (try dsimp only)) | walk1 | (dsimp only; walk1) | (leave1; walk_say "STEP leave1"; try dsimp only) | ((fail_if_success (show wpAny _ _ _ _ _ _)); dsimp only) | fail "no step")))
      rename Fr _ _ _ _ => kF
      rename News _ _ _ _ => kN
      rename Heap.NewExc _ _ _ _ => hx2
      obtain ⟨ob, tz, he2, hc2, hd2⟩ := hx2.there
      exact leave_any B' hx2.keeps hx2.new he2 hc2 hd2 rfl rfl kF kN (fun h3 R up c => exc _ _ _ _ _ R up ⟨rfl, hat⟩)
    | l ts =>
      obtain ⟨x, i', rfl, hx, rfl⟩ := hr'
      obtain ⟨od, hin0⟩ := hW.inst hx
      have hgi := fun g2 => getitem_spec (w := w) (p := p) (loose := loose) (mean := mean) (mg := mg) (mb := mb) g2 x i' W nx hW hx k tk hkb.1 (by omega)
      rw [dep] at hdt
      replace kN := weak (l := ((x, instObj 152 i'.dx) :: (i'.dx, od) :: nx) ++ own) kN (fun q hq => (List.mem_append.mp hq).elim (fun h => List.mem_append_left _ (hin0 q h)) (fun h => List.mem_append_right _ h))
      clear hin0
      dsimp only [List.cons_append] at kN
      (repeat' ((fail_if_success (with_reducible first | (show wpAny _ _ (PySem.eval _ _) _ _ _; first | show wpAny _ _ (PySem.eval (.ListComp _ _ _ _) _) _ _ _) | (show wpAny _ _ (exec _ _) _ _ _; first | show wpAny _ _ (exec (.While _ _ _ _) _) _ _ _ | show wpAny _ _ (exec (.For _ _ _ _ _) _) _ _ _ | show wpAny _ _ (exec (.Raise (some (.Call _ _ _ _)) _ _) _) _ _ _) | (show wpAny _ _ (PySem.call _ _) _ _ _; first | refine h_ref (by decide) ?_ | show wpAny _ _ (PySem.call (.type "IndexError") _) _ _ _) | show wpAny _ _ (pyIter _) (fun it s₂ => LoopAtV _ _ _ _ _ _ _ _ _ it s₂) _ _ | show wpAny _ _ (leaving _ _) _ _ _ | show wpAny _ _ (noteFrame _ _) _ _ _)); (first | (k_unfold; (try dsimp only)) | walk1 | (dsimp only; walk1) | (leave1; walk_say "STEP leave1"; try dsimp only) | ((fail_if_success (show wpAny _ _ _ _ _ _)); dsimp only) | fail "no step")))
      rename Fr _ _ _ _ => kF
      rename News _ _ _ _ => kN
      refine useN nx own B' CB' kF kN rfl rfl
          (fun q hq => by simp [hq]) (fun q hq => by simp [hq]) (fun q hq r hr e => hoff r hr q hq e.symm) (fun g2 _ _ => hgi g2) (by walk_at "MINE room") (by walk_at "MINE room") ?_ ?_
      · clear kF kN
        rintro r h2 tk2 mt2 kF kN hd ⟨W2, t2, hle, hW3, hti, hr⟩
        dsimp only at hti ⊢
        rw [att, hti] at hat
        dsimp only at hat
        have hdt2 := deps_le hti
        (repeat' ((fail_if_success (with_reducible first | (show wpAny _ _ (PySem.eval _ _) _ _ _; first | show wpAny _ _ (PySem.eval (.ListComp _ _ _ _) _) _ _ _) | (show wpAny _ _ (exec _ _) _ _ _; first | show wpAny _ _ (exec (.While _ _ _ _) _) _ _ _ | show wpAny _ _ (exec (.For _ _ _ _ _) _) _ _ _ | show wpAny _ _ (exec (.Raise (some (.Call _ _ _ _)) _ _) _) _ _ _) | (show wpAny _ _ (PySem.call _ _) _ _ _; first | refine h_ref (by decide) ?_ | show wpAny _ _ (PySem.call (.type "IndexError") _) _ _ _) | show wpAny _ _ (pyIter _) (fun it s₂ => LoopAtV _ _ _ _ _ _ _ _ _ it s₂) _ _ | show wpAny _ _ (leaving _ _) _ _ _ | show wpAny _ _ (noteFrame _ _) _ _ _)); (first | (k_unfold; (try dsimp only)) | walk1 | (dsimp only; walk1) | (leave1; walk_say "STEP leave1"; try dsimp only) | ((fail_if_success (show wpAny _ _ _ _ _ _)); dsimp only) | fail "no step")))
        rename Fr _ _ _ _ => kF
        rename News _ _ _ _ => kN
        exact ⟨_, _, _, mt2 ++ own, mt2, rfl, kF, kN, (fun q hq => List.mem_append_left _ hq), (fun q hq => List.mem_append_right _ hq), (fun q hq r hr e => hd r hr q hq e.symm), e0, W2, t2, r, hW3, rfl, hr, by omega, hat⟩
      · rintro cls e1 h2 tk2 mt2 G FG RG uG hd ⟨rfl, hlen, W2, hle, hW3⟩
        dsimp only at hlen ⊢
        have hti : i'.ts[k.toNat]? = none := by rw [List.getElem?_eq_none_iff]; omega
        rw [att, hti] at hat
        dsimp only at hat
        (repeat' ((fail_if_success (with_reducible first | (show wpAny _ _ (PySem.eval _ _) _ _ _; first | show wpAny _ _ (PySem.eval (.ListComp _ _ _ _) _) _ _ _) | (show wpAny _ _ (exec _ _) _ _ _; first | show wpAny _ _ (exec (.While _ _ _ _) _) _ _ _ | show wpAny _ _ (exec (.For _ _ _ _ _) _) _ _ _ | show wpAny _ _ (exec (.Raise (some (.Call _ _ _ _)) _ _) _) _ _ _) | (show wpAny _ _ (PySem.call _ _) _ _ _; first | refine h_ref (by decide) ?_ | show wpAny _ _ (PySem.call (.type "IndexError") _) _ _ _) | show wpAny _ _ (pyIter _) (fun it s₂ => LoopAtV _ _ _ _ _ _ _ _ _ it s₂) _ _ | show wpAny _ _ (leaving _ _) _ _ _ | show wpAny _ _ (noteFrame _ _) _ _ _)); (first | (k_unfold; (try dsimp only)) | walk1 | (dsimp only; walk1) | (leave1; walk_say "STEP leave1"; try dsimp only) | ((fail_if_success (show wpAny _ _ _ _ _ _)); dsimp only) | fail "no step")))
        refine leave_onSN B' FG RG uG ?_
        intro h3 R3 _ u3
        exact exc _ _ _ _ _ R3 u3 ⟨rfl, hat⟩
  · rintro m₁ nx h₁ tk₁ ⟨m0, W, t', v', hW, m1, hr', hdt, hat⟩ kF kN
    change Fr g L' _ _ at kF
    change News g L' _ _ at kN
    rw [hI.length, List.drop_length] at hat
    (repeat' ((fail_if_success (with_reducible first | (show wpAny _ _ (PySem.eval _ _) _ _ _; first | show wpAny _ _ (PySem.eval (.ListComp _ _ _ _) _) _ _ _) | (show wpAny _ _ (exec _ _) _ _ _; first | show wpAny _ _ (exec (.While _ _ _ _) _) _ _ _ | show wpAny _ _ (exec (.For _ _ _ _ _) _) _ _ _ | show wpAny _ _ (exec (.Raise (some (.Call _ _ _ _)) _ _) _) _ _ _) | (show wpAny _ _ (PySem.call _ _) _ _ _; first | refine h_ref (by decide) ?_ | show wpAny _ _ (PySem.call (.type "IndexError") _) _ _ _) | show wpAny _ _ (pyIter _) (fun it s₂ => LoopAtV _ _ _ _ _ _ _ _ _ it s₂) _ _ | show wpAny _ _ (leaving _ _) _ _ _ | show wpAny _ _ (noteFrame _ _) _ _ _)); (first | (k_unfold; (try dsimp only)) | walk1 | (dsimp only; walk1) | (leave1; walk_say "STEP leave1"; try dsimp only) | ((fail_if_success (show wpAny _ _ _ _ _ _)); dsimp only) | fail "no step")))
    exact ret _ _ _ nx kF.keep (fun q hq => ⟨(kN q hq).1, (kN q hq).2.2⟩) ⟨W, t', hW, hat, hr'⟩
end
end Mine

-- P18
namespace Mine
open PySem.SeqAt in
mutual
theorem eqAt_item : ∀ (t : Tr) (A : Around) (s : Shared) (v u : Value), Item (PG s.heap) t v → Item (PG s.heap) t u → A.units + dep t + 1 < cLine → EqAt A s v u true
  | .b bs, A, s, _, _, ⟨tk, rfl⟩, ⟨tk', rfl⟩, _ => fun prog w E Q h => eqBool_bytes (by simpa using h)
  | .l ts, A, s, _, _, ⟨a, vs, rfl, hP, hI⟩, ⟨b, us, rfl, hP', hI'⟩, hu => by
    rw [dep] at hu
    by_cases hab : a = b
    · subst hab; exact EqAt.same _
    · have n1 := hI.length
      have n2 := hI'.length
      have := RcAt.lists (A := A) (e := fun _ => true) hP.isList hP'.isList (by simp; omega) (by omega) (fun j j1 j2 => by
        have := eqAt_items ts A.in1 s vs us hI hI' (by simp only [units_in1]; omega) j (by simpa using j1) (by simpa using j2)
        simpa using this)
      have e : ((List.range (vs.toArray.size)).all fun _ => true) = true := by simp
      rw [e] at this
      exact EqAt.of_refs hab this
theorem eqAt_items : ∀ (ts : List Tr) (A : Around) (s : Shared) (vs us : List Value), Items (PG s.heap) ts vs → Items (PG s.heap) ts us → A.units + deps ts + 1 < cLine → ∀ j (h1 : j < vs.length) (h2 : j < us.length), EqAt A s vs[j] us[j] true
  | [], _, _, vs, _, e, _, _, j, h1, _ => by
    have e : vs = [] := e
    subst e; exact absurd h1 (Nat.not_lt_zero _)
  | t :: ts, A, s, _, _, ⟨v, r, rfl, hv, hr⟩, ⟨v', r', rfl, hv', hr'⟩, hu, j, h1, h2 => by
    rw [deps] at hu
    cases j with
    | zero => exact eqAt_item t A s v v' hv hv' (by omega)
    | succ j => exact eqAt_items ts A s r r' hr hr' (by omega) j (Nat.lt_of_succ_lt_succ h1) (Nat.lt_of_succ_lt_succ h2)
end
section
variable {prog : Program} {w : World} {A : Around} {E : Value → Shared → Prop} {s : Shared}
open PySem.SeqAt in
theorem ne_item {t : Tr} {v u : Value} {Q : Value → Shared → Prop} (h1 : Item (PG s.heap) t v) (h2 : Item (PG s.heap) t u) (hu : A.units + dep t + 1 < cLine) (h : Q (.bool false) s) : wpAny (model prog w) A (compareOp .NotEq v u) Q E s := by
  cases t with
  | b bs =>
    obtain ⟨tk, rfl⟩ := h1
    obtain ⟨tk', rfl⟩ := h2
    exact ne_bytes (by simpa using h)
  | l ts =>
    obtain ⟨a, vs, rfl, hP, hI⟩ := h1
    obtain ⟨b, us, rfl, hP', hI'⟩ := h2
    rw [dep] at hu
    have n1 := hI.length
    have n2 := hI'.length
    have := RcNeAt.lists (A := A) (e := fun _ => true) hP.isList hP'.isList (by simp; omega) (by omega) (fun j j1 j2 => by
        have := eqAt_items ts A.in1 s vs us hI hI' (by simp only [units_in1]; omega) j (by simpa using j1) (by simpa using j2)
        simpa using this)
    have e : ((List.range (vs.toArray.size)).all fun _ => true) = true := by simp
    rw [e] at this
    exact this prog w E Q h
end
end Mine

-- P19
namespace Mine


def DcPost (t : Tr) (mt : List (Addr × Obj)) (r : Value) : Prop := Item (PL mt) t r
def DrPost (t : Tr) (mt : List (Addr × Obj)) (r : Value) : Prop := ∃ a v b tl, r = .ref a ∧ mt = (a, tupO [v, b]) :: tl ∧ Item (PL tl) t v

section
variable {w : World} {p : Program} {loose : List Str} {mean : ExcName → Option Value} {mg mb : Str → Option Value}

set_option maxHeartbeats 4000000 in
theorem ci_spec (t : Tr) (g : Heap) (td tk : Tok) (he : (enc t).length ≤ 1000000) :
    Call0 Challenge.rw_is0005_01.row.prog w (hd.heap_1 w.params) p loose mean mg mb 90 [.bytes (enc t).toArray td, .int 0 tk] (dep t + 12) (8 * dep t + 120) g [] (CpPost t (enc t).length) := by
  have hel := congrArg List.length (enc_eq t)
  rw [List.length_append] at hel
  have hm : (bod t).length < 16777216 := by omega
  have H := at_self (enc t)
  have H2 : At (enc t) 0 (hdr t ++ bod t) := by rw [← enc_eq]; exact H
  have Hb := (at_app H2).2.2.1
  have hz : (enc t).length ≤ 2000000 := by omega
  have hen : (0 : Int) + ((hdr t).length : Int) + ((bod t).length : Int) = ((enc t).length : Int) := by rw [hel]; omega
  w_top off
  k_fill
  intro dp un gd base outer s Q E C st sz N hdp hun ret
  walk_at "MINE enter"
  intro L' h' tk0 F' N' l1 B' X' T' CB'
  clear C
  replace F' : Fr g L' h' (fun y => List.lookup y [(Str.ofString "start", Value.int 0 tk), (Str.ofString "rlp", Value.bytes (enc t).toArray td)]) := F'
  dsimp only
  try k_fold
  (repeat' ((fail_if_success (with_reducible first | (show wpAny _ _ (PySem.eval _ _) _ _ _; first | show wpAny _ _ (PySem.eval (.ListComp _ _ _ _) _) _ _ _ | show wpAny _ _ (PySem.eval (.JoinedStr _ _) _) _ _ _) | (show wpAny _ _ (exec _ _) _ _ _; first | show wpAny _ _ (exec (.While _ _ _ _) _) _ _ _ | show wpAny _ _ (exec (.For _ _ _ _ _) _) _ _ _ | show wpAny _ _ (exec (.Raise (some (.Call _ _ _ _)) _ _) _) _ _ _) | (show wpAny _ _ (PySem.call _ _) _ _ _; first | refine h_ref (by decide) ?_ | show wpAny _ _ (PySem.call (.type "IndexError") _) _ _ _) | show wpAny _ _ (pyIter _) (fun it s₂ => LoopAtV _ _ _ _ _ _ _ _ _ it s₂) _ _ | show wpAny _ _ (leaving _ _) _ _ _ | show wpAny _ _ (noteFrame _ _) _ _ _)); (first | (k_unfold; (try dsimp only)) | walk1 | (dsimp only; walk1) | (leave1; walk_say "STEP leave1"; try dsimp only) | ((fail_if_success (show wpAny _ _ _ _ _ _)); dsimp only) | fail "no step")))
  refine useP B' CB' F' N' rfl rfl (fun g2 _ _ => clp_spec t hm g2 (enc t) _ _ _ H hz) (by walk_at "MINE room") (by walk_at "MINE room") ?_
  rintro r h2 tk2 tl2 kF kN hd ⟨a1, u1, u2, u3, u4, rfl, rfl⟩
  dsimp only
  (repeat' ((fail_if_success (with_reducible first | (show wpAny _ _ (PySem.eval _ _) _ _ _; first | show wpAny _ _ (PySem.eval (.ListComp _ _ _ _) _) _ _ _ | show wpAny _ _ (PySem.eval (.JoinedStr _ _) _) _ _ _) | (show wpAny _ _ (exec _ _) _ _ _; first | show wpAny _ _ (exec (.While _ _ _ _) _) _ _ _ | show wpAny _ _ (exec (.For _ _ _ _ _) _) _ _ _ | show wpAny _ _ (exec (.Raise (some (.Call _ _ _ _)) _ _) _) _ _ _) | (show wpAny _ _ (PySem.call _ _) _ _ _; first | refine h_ref (by decide) ?_ | show wpAny _ _ (PySem.call (.type "IndexError") _) _ _ _) | show wpAny _ _ (pyIter _) (fun it s₂ => LoopAtV _ _ _ _ _ _ _ _ _ it s₂) _ _ | show wpAny _ _ (leaving _ _) _ _ _ | show wpAny _ _ (noteFrame _ _) _ _ _)); (first | (k_unfold; (try dsimp only)) | walk1 | (dsimp only; walk1) | (leave1; walk_say "STEP leave1"; try dsimp only) | ((fail_if_success (show wpAny _ _ _ _ _ _)); dsimp only) | fail "no step")))
  refine useP B' CB' (by assumption) (by assumption) rfl rfl (fun g2 _ _ => cp_spec t g2 (enc t) _ _ _ _ _ _ Hb hz he) (by walk_at "MINE room") (by walk_at "MINE room") ?_
  rintro r h3 tk3 tl3 kF kN hd3 hp
  dsimp only
  (repeat' ((fail_if_success (with_reducible first | (show wpAny _ _ (PySem.eval _ _) _ _ _; first | show wpAny _ _ (PySem.eval (.ListComp _ _ _ _) _) _ _ _ | show wpAny _ _ (PySem.eval (.JoinedStr _ _) _) _ _ _) | (show wpAny _ _ (exec _ _) _ _ _; first | show wpAny _ _ (exec (.While _ _ _ _) _) _ _ _ | show wpAny _ _ (exec (.For _ _ _ _ _) _) _ _ _ | show wpAny _ _ (exec (.Raise (some (.Call _ _ _ _)) _ _) _) _ _ _) | (show wpAny _ _ (PySem.call _ _) _ _ _; first | refine h_ref (by decide) ?_ | show wpAny _ _ (PySem.call (.type "IndexError") _) _ _ _) | show wpAny _ _ (pyIter _) (fun it s₂ => LoopAtV _ _ _ _ _ _ _ _ _ it s₂) _ _ | show wpAny _ _ (leaving _ _) _ _ _ | show wpAny _ _ (noteFrame _ _) _ _ _)); (first | (k_unfold; (try dsimp only)) | walk1 | (dsimp only; walk1) | (leave1; walk_say "STEP leave1"; try dsimp only) | ((fail_if_success (show wpAny _ _ _ _ _ _)); dsimp only) | fail "no step")))
  rename Fr _ _ _ _ => kF
  rename News _ _ _ _ => kM
  rw [hen] at hp
  exact ret _ _ _ tl3 kF.keep (fun q hq => ⟨(kM q (List.mem_append_left _ hq)).1, (kM q (List.mem_append_left _ hq)).2.2⟩) hp

end
end Mine

-- P20
namespace Mine

section
variable {w : World} {p : Program} {loose : List Str} {mean : ExcName → Option Value} {mg mb : Str → Option Value}

set_option maxHeartbeats 4000000 in
theorem dr_spec (t : Tr) (g : Heap) (td : Tok) (he : (enc t).length ≤ 1000000) :
    Call0 Challenge.rw_is0005_01.row.prog w (hd.heap_1 w.params) p loose mean mg mb 69 [.bytes (enc t).toArray td, .bool true, .bool false] (dep t + 16) (8 * dep t + 160) g [] (DrPost t) := by
  w_top off
  k_fill
  intro dp un gd base outer s Q E C st sz N hdp hun ret
  walk_at "MINE enter"
  intro L' h' tk0 F' N' l1 B' X' T' CB'
  clear C
  replace F' : Fr g L' h' (fun y => List.lookup y [(Str.ofString "_", Value.bool false), (Str.ofString "strict", Value.bool true), (Str.ofString "item", Value.bytes (enc t).toArray td)]) := F'
  dsimp only
  try k_fold
  (repeat' ((fail_if_success (with_reducible first | (show wpAny _ _ (PySem.eval _ _) _ _ _; first | show wpAny _ _ (PySem.eval (.ListComp _ _ _ _) _) _ _ _ | show wpAny _ _ (PySem.eval (.JoinedStr _ _) _) _ _ _) | (show wpAny _ _ (exec _ _) _ _ _; first | show wpAny _ _ (exec (.While _ _ _ _) _) _ _ _ | show wpAny _ _ (exec (.For _ _ _ _ _) _) _ _ _ | show wpAny _ _ (exec (.Raise (some (.Call _ _ _ _)) _ _) _) _ _ _) | (show wpAny _ _ (PySem.call _ _) _ _ _; first | refine h_ref (by decide) ?_ | show wpAny _ _ (PySem.call (.type "IndexError") _) _ _ _) | show wpAny _ _ (pyIter _) (fun it s₂ => LoopAtV _ _ _ _ _ _ _ _ _ it s₂) _ _ | show wpAny _ _ (leaving _ _) _ _ _ | show wpAny _ _ (noteFrame _ _) _ _ _)); (first | (k_unfold; (try dsimp only)) | walk1 | (dsimp only; walk1) | (leave1; walk_say "STEP leave1"; try dsimp only) | ((fail_if_success (show wpAny _ _ _ _ _ _)); dsimp only) | fail "no step")))
  refine useP B' CB' F' N' rfl rfl (fun g2 _ _ => ci_spec t g2 td _ he) (by walk_at "MINE room") (by walk_at "MINE room") ?_
  rintro r h2 tk2 tl2 kF kN hd ⟨a, b, v, t1, te, n, vs, tl, rfl, rfl, hit⟩
  dsimp only
  (repeat' ((fail_if_success (with_reducible first | (show wpAny _ _ (PySem.eval _ _) _ _ _; first | show wpAny _ _ (PySem.eval (.ListComp _ _ _ _) _) _ _ _ | show wpAny _ _ (PySem.eval (.JoinedStr _ _) _) _ _ _) | (show wpAny _ _ (exec _ _) _ _ _; first | show wpAny _ _ (exec (.While _ _ _ _) _) _ _ _ | show wpAny _ _ (exec (.For _ _ _ _ _) _) _ _ _ | show wpAny _ _ (exec (.Raise (some (.Call _ _ _ _)) _ _) _) _ _ _) | (show wpAny _ _ (PySem.call _ _) _ _ _; first | refine h_ref (by decide) ?_ | show wpAny _ _ (PySem.call (.type "IndexError") _) _ _ _) | show wpAny _ _ (pyIter _) (fun it s₂ => LoopAtV _ _ _ _ _ _ _ _ _ it s₂) _ _ | show wpAny _ _ (leaving _ _) _ _ _ | show wpAny _ _ (noteFrame _ _) _ _ _)); (first | (k_unfold; (try dsimp only)) | walk1 | (dsimp only; walk1) | (leave1; walk_say "STEP leave1"; try dsimp only) | ((fail_if_success (show wpAny _ _ _ _ _ _)); dsimp only) | fail "no step")))
  any_goals (have hq : ((enc t).length : Int) = ((enc t).toArray.size : Int) := congrArg Int.ofNat (List.size_toArray (as := enc t)).symm; contradiction)
  rename Fr _ _ _ _ => kF
  rename News _ _ _ _ => kN
  refine ret _ _ _ ((_, tupO [v, .ref b]) :: tl) kF.keep (fun q hq => ?_) ⟨_, v, .ref b, tl, rfl, rfl, hit⟩
  have z := kN q (by
    simp only [List.mem_cons, List.mem_append] at hq ⊢
    rcases hq with q | q <;> simp [q])
  exact ⟨z.1, z.2.2⟩

end
end Mine

-- P21
namespace Mine

section
variable {w : World} {p : Program} {loose : List Str} {mean : ExcName → Option Value} {mg mb : Str → Option Value}

set_option maxHeartbeats 4000000 in
theorem dc_spec (t : Tr) (g : Heap) (td : Tok) (he : (enc t).length ≤ 1000000) :
    Call0 Challenge.rw_is0005_01.row.prog w (hd.heap_1 w.params) p loose mean mg mb 98 [.bytes (enc t).toArray td] (dep t + 20) (8 * dep t + 200) g [] (DcPost t) := by
  w_top off
  k_fill
  intro dp un gd base outer s Q E C st sz N hdp hun ret
  have hXs := C.X.keeps st
  walk_at "MINE enter"
  clear hXs
  intro L' h' tk0 F' N' l1 B' X' T' CB'
  clear C
  replace F' : Fr g L' h' (fun y => List.lookup y [(Str.ofString "recursive_cache", Value.bool false), (Str.ofString "strict", Value.bool true), (Str.ofString "sedes", Value.none), (Str.ofString "rlp", Value.bytes (enc t).toArray td)]) := F'
  dsimp only
  try k_fold
  (repeat' ((fail_if_success (with_reducible first | (show wpAny _ _ (PySem.eval _ _) _ _ _; first | show wpAny _ _ (PySem.eval (.ListComp _ _ _ _) _) _ _ _ | show wpAny _ _ (PySem.eval (.JoinedStr _ _) _) _ _ _) | (show wpAny _ _ (exec _ _) _ _ _; first | show wpAny _ _ (exec (.While _ _ _ _) _) _ _ _ | show wpAny _ _ (exec (.For _ _ _ _ _) _) _ _ _ | show wpAny _ _ (exec (.Raise (some (.Call _ _ _ _)) _ _) _) _ _ _) | (show wpAny _ _ (PySem.call _ _) _ _ _; first | refine h_ref (by decide) ?_ | show wpAny _ _ (PySem.call (.type "IndexError") _) _ _ _) | show wpAny _ _ (pyIter _) (fun it s₂ => LoopAtV _ _ _ _ _ _ _ _ _ it s₂) _ _ | show wpAny _ _ (leaving _ _) _ _ _ | show wpAny _ _ (noteFrame _ _) _ _ _)); (first | (k_unfold; (try dsimp only)) | walk1 | (dsimp only; walk1) | (leave1; walk_say "STEP leave1"; try dsimp only) | ((fail_if_success (show wpAny _ _ _ _ _ _)); dsimp only) | fail "no step")))
  rename Fr _ _ _ _ => kF
  rename News _ _ _ _ => kN
  refine useP B' CB' kF kN rfl rfl (fun g2 _ _ => dr_spec t g2 td he) (by walk_at "MINE room") (by walk_at "MINE room") ?_
  clear kF kN
  rintro r h2 tk2 tl2 kF kN hd ⟨a, v, b, tl, rfl, rfl, hit⟩
  dsimp only
  (repeat' ((fail_if_success (with_reducible first | (show wpAny _ _ (PySem.eval _ _) _ _ _; first | show wpAny _ _ (PySem.eval (.ListComp _ _ _ _) _) _ _ _ | show wpAny _ _ (PySem.eval (.JoinedStr _ _) _) _ _ _) | (show wpAny _ _ (exec _ _) _ _ _; first | show wpAny _ _ (exec (.While _ _ _ _) _) _ _ _ | show wpAny _ _ (exec (.For _ _ _ _ _) _) _ _ _ | show wpAny _ _ (exec (.Raise (some (.Call _ _ _ _)) _ _) _) _ _ _) | (show wpAny _ _ (PySem.call _ _) _ _ _; first | refine h_ref (by decide) ?_ | show wpAny _ _ (PySem.call (.type "IndexError") _) _ _ _) | show wpAny _ _ (pyIter _) (fun it s₂ => LoopAtV _ _ _ _ _ _ _ _ _ it s₂) _ _ | show wpAny _ _ (leaving _ _) _ _ _ | show wpAny _ _ (noteFrame _ _) _ _ _)); (first | (k_unfold; (try dsimp only)) | walk1 | (dsimp only; walk1) | (leave1; walk_say "STEP leave1"; try dsimp only) | ((fail_if_success (show wpAny _ _ _ _ _ _)); dsimp only) | fail "no step")))
  rename Fr _ _ _ _ => kF
  rename News _ _ _ _ => kN
  refine ret _ _ _ tl kF.keep (fun q hq => ?_) hit
  have z := kN q (by simp [hq])
  exact ⟨z.1, z.2.2⟩
end
end Mine

-- P22
namespace Mine

def PdPost (P : Params) (t : Tr) (ks : List Int) (mt : List (Addr × Obj)) (r : Value) : Prop :=
  (att t ks = none ∧ r = .none) ∨ ∃ W led t' v a, Wd P W led ∧ (∀ q ∈ led, q ∈ mt) ∧ att t ks = some t' ∧ VRel W t' v ∧ r = .ref a ∧ (a, tupO [v]) ∈ mt

section
variable {w : World} {p : Program} {loose : List Str} {mean : ExcName → Option Value} {mg mb : Str → Option Value}

set_option maxHeartbeats 4000000 in
theorem pd_spec (g : Heap) (t : Tr) (td : Tok) (pa : Addr) (pvs : List Value) (ks : List Int) (he : (enc t).length ≤ 1000000) (hp : PG g pa pvs) (hI : IntsAre pvs ks) (hb : ∀ k ∈ ks, 0 ≤ k ∧ k < 4) :
    CallT Challenge.rw_is0005_01.row.prog w (hd.heap_1 w.params) p loose mean mg mb 204 [.bytes (enc t).toArray td, .ref pa] (dep t + 46) (8 * dep t + 460) g [] (PdPost w.params t ks) := by
  w_top off
  k_fill
  intro dp un gd base outer s Q E C st sz N hdp hun ret
  walk_at "MINE enter"
  intro L' h' tk0 F' N' l1 B' X' T' CB'
  clear C
  replace F' : Fr g L' h' (fun y => List.lookup y [(Str.ofString "path", Value.ref pa), (Str.ofString "data", Value.bytes (enc t).toArray td)]) := F'
  dsimp only
  try k_fold
  (repeat' ((fail_if_success (with_reducible first | (show wpAny _ _ (PySem.eval _ _) _ _ _; first | show wpAny _ _ (PySem.eval (.ListComp _ _ _ _) _) _ _ _ | show wpAny _ _ (PySem.eval (.JoinedStr _ _) _) _ _ _) | (show wpAny _ _ (exec _ _) _ _ _; first | show wpAny _ _ (exec (.While _ _ _ _) _) _ _ _ | show wpAny _ _ (exec (.For _ _ _ _ _) _) _ _ _ | show wpAny _ _ (exec (.Raise (some (.Call _ _ _ _)) _ _) _) _ _ _) | (show wpAny _ _ (PySem.call _ _) _ _ _; first | refine h_ref (by decide) ?_ | show wpAny _ _ (PySem.call (.type "IndexError") _) _ _ _) | show wpAny _ _ (pyIter _) (fun it s₂ => LoopAtV _ _ _ _ _ _ _ _ _ it s₂) _ _ | show wpAny _ _ (leaving _ _) _ _ _ | show wpAny _ _ (noteFrame _ _) _ _ _)); (first | (k_unfold; (try dsimp only)) | walk1 | (dsimp only; walk1) | (leave1; walk_say "STEP leave1"; try dsimp only) | ((fail_if_success (show wpAny _ _ _ _ _ _)); dsimp only) | fail "no step")))
  refine useN [] [] B' CB' F' N' rfl rfl (fun _ h => nomatch h) (fun _ h => nomatch h) (fun _ h => nomatch h) (fun g2 st2 _ => peek_spec g2 t td pa pvs ks he (hp.keeps st2) hI hb) (by walk_at "MINE room") (by walk_at "MINE room") ?_ ?_
  · rintro r h2 tk2 mt2 kF kN hd ⟨W2, t2, hW2, hat, hr⟩
    rw [List.append_nil] at kN
    dsimp only
    (repeat' ((fail_if_success (with_reducible first | (show wpAny _ _ (PySem.eval _ _) _ _ _; first | show wpAny _ _ (PySem.eval (.ListComp _ _ _ _) _) _ _ _ | show wpAny _ _ (PySem.eval (.JoinedStr _ _) _) _ _ _) | (show wpAny _ _ (exec _ _) _ _ _; first | show wpAny _ _ (exec (.While _ _ _ _) _) _ _ _ | show wpAny _ _ (exec (.For _ _ _ _ _) _) _ _ _ | show wpAny _ _ (exec (.Raise (some (.Call _ _ _ _)) _ _) _) _ _ _) | (show wpAny _ _ (PySem.call _ _) _ _ _; first | refine h_ref (by decide) ?_ | show wpAny _ _ (PySem.call (.type "IndexError") _) _ _ _) | show wpAny _ _ (pyIter _) (fun it s₂ => LoopAtV _ _ _ _ _ _ _ _ _ it s₂) _ _ | show wpAny _ _ (leaving _ _) _ _ _ | show wpAny _ _ (noteFrame _ _) _ _ _)); (first | (k_unfold; (try dsimp only)) | walk1 | (dsimp only; walk1) | (leave1; walk_say "STEP leave1"; try dsimp only) | ((fail_if_success (show wpAny _ _ _ _ _ _)); dsimp only) | fail "no step")))
    rename Fr _ _ _ _ => kF
    rename News _ _ _ _ => kN
    exact ret _ _ _ _ g .refl kF.keep (fun q hq => ⟨(kN q hq).1, (kN q hq).2.2⟩) (.inr ⟨W2, mt2, t2, r, _, hW2, fun q hq => .tail _ hq, hat, hr, rfl, .head _⟩)
  · rintro cls e1 h2 tk2 mt2 G FG RG uG hd ⟨rfl, hat⟩
    dsimp only
    (repeat' ((fail_if_success (with_reducible first | (show wpAny _ _ (PySem.eval _ _) _ _ _; first | show wpAny _ _ (PySem.eval (.ListComp _ _ _ _) _) _ _ _ | show wpAny _ _ (PySem.eval (.JoinedStr _ _) _) _ _ _) | (show wpAny _ _ (exec _ _) _ _ _; first | show wpAny _ _ (exec (.While _ _ _ _) _) _ _ _ | show wpAny _ _ (exec (.For _ _ _ _ _) _) _ _ _ | show wpAny _ _ (exec (.Raise (some (.Call _ _ _ _)) _ _) _) _ _ _) | (show wpAny _ _ (PySem.call _ _) _ _ _; first | refine h_ref (by decide) ?_ | show wpAny _ _ (PySem.call (.type "IndexError") _) _ _ _) | show wpAny _ _ (pyIter _) (fun it s₂ => LoopAtV _ _ _ _ _ _ _ _ _ it s₂) _ _ | show wpAny _ _ (leaving _ _) _ _ _ | show wpAny _ _ (noteFrame _ _) _ _ _)); (first | (k_unfold; (try dsimp only)) | walk1 | (dsimp only; walk1) | (leave1; walk_say "STEP leave1"; try dsimp only) | ((fail_if_success (show wpAny _ _ _ _ _ _)); dsimp only) | fail "no step")))
    rw [List.append_nil] at RG
    k_dflt (refine' caught_SN0 (T' := "IndexError") RG FG B' uG CB'.XB CB'.TB CB'.D .refl ?ex PyProof.Rows.Boot.«IndexError» ?hn PySem.F.isExc_IndexError PySem.F.notTuple_IndexError ?hs ?_; (case hs => kts_sub); (case ex => k_is); (case hn => decide))
    intro h3 g3 T3 F3 N3 B3 X3 P3 D3
    clear B' X' T' CB' RG FG uG
    (repeat' ((fail_if_success (with_reducible first | (show wpAny _ _ (PySem.eval _ _) _ _ _; first | show wpAny _ _ (PySem.eval (.ListComp _ _ _ _) _) _ _ _ | show wpAny _ _ (PySem.eval (.JoinedStr _ _) _) _ _ _) | (show wpAny _ _ (exec _ _) _ _ _; first | show wpAny _ _ (exec (.While _ _ _ _) _) _ _ _ | show wpAny _ _ (exec (.For _ _ _ _ _) _) _ _ _ | show wpAny _ _ (exec (.Raise (some (.Call _ _ _ _)) _ _) _) _ _ _) | (show wpAny _ _ (PySem.call _ _) _ _ _; first | refine h_ref (by decide) ?_ | show wpAny _ _ (PySem.call (.type "IndexError") _) _ _ _) | show wpAny _ _ (pyIter _) (fun it s₂ => LoopAtV _ _ _ _ _ _ _ _ _ it s₂) _ _ | show wpAny _ _ (leaving _ _) _ _ _ | show wpAny _ _ (noteFrame _ _) _ _ _)); (first | (k_unfold; (try dsimp only)) | walk1 | (dsimp only; walk1) | (leave1; walk_say "STEP leave1"; try dsimp only) | ((fail_if_success (show wpAny _ _ _ _ _ _)); dsimp only) | fail "no step")))
    exact ret _ _ _ _ g3 T3 F3.keep (fun q hq => ⟨(N3 q hq).1, (N3 q hq).2.2⟩) (.inl ⟨hat, rfl⟩)
end
end Mine

-- P23
namespace Mine

theorem PG.turn {fs : List Addr} {g g' : Heap} {a : Addr} {vs : List Value} (x : PG g a vs) (D : KtsDicts fs g) (T : KtsTurn fs g g') : PG g' a vs := by
  obtain ⟨n, e⟩ := x
  refine ⟨n, T.other _ _ e fun hm => ?_⟩
  obtain ⟨o, es, k, ho, hd⟩ := D a hm
  rw [e] at ho; cases ho
  simp at hd

theorem q_gen {α : Type} {M : Model} {A : Around} {c : Sem α} {QQ : α → Shared → Prop} {E : Value → Shared → Prop} {s : Shared} (h : ∀ Q2 : α → Shared → Prop, (∀ a s', QQ a s' → Q2 a s') → wpAny M A c Q2 E s) : wpAny M A c QQ E s := h QQ fun _ _ x => x
theorem q_gen0 {α : Type} {M : Model} {A : Around} {c : Sem α} {QQ : α → Shared → Prop} {E : Value → Shared → Prop} {s : Shared} (h : ∀ Q2 : α → Shared → Prop, (∀ a s', QQ a s' → Q2 a s') → wpAny M A c Q2 (fun _ _ => False) s) : wpAny M A c QQ E s := wpAny_mono (h QQ fun _ _ x => x) (fun _ _ x => x) fun _ _ x => x.elim

def SmPost (P : Params) (W : Addr → Option LI) (mt : List (Addr × Obj)) (r : Value) : Prop := r = .bool true ∧ ∃ W', Wle W W' ∧ Wd P W' mt

section
variable {w : World} {p : Program} {loose : List Str} {mean : ExcName → Option Value} {mg mb : Str → Option Value}

set_option maxHeartbeats 4000000 in
theorem sm_all : ∀ (n : Nat) (t : Tr), dep t < n → ∀ (g : Heap) (W : Addr → Option LI) (led : List (Addr × Obj)) (v u : Value), Wd w.params W led → VRel W t v → Item (PG g) t u → (enc t).length ≤ 1000000 →
    CallT Challenge.rw_is0005_01.row.prog w (hd.heap_1 w.params) p loose mean mg mb 190 [v, u] (2 * dep t + 40) (20 * dep t + 400) g led (SmPost w.params W) := by
  intro n
  induction n with
  | zero => intro t ht; exact absurd ht (Nat.not_lt_zero _)
  | succ n ih =>
    intro t ht g W led v u hW hv hu he
    w_top off
    k_fill
    intro dp un gd base outer s Q E C st sz N hdp hun ret
    walk_at "MINE enter"
    intro L' h' tk0 F' N' l1 B' X' T' CB'
    clear C
    replace F' : Fr g L' h' (fun y => List.lookup y [(Str.ofString "item", u), (Str.ofString "told", v)]) := F'
    dsimp only
    try k_fold
    refine q_gen0 ?_
    intro Q2 hQ2
    cases t with
    | b bs =>
      obtain ⟨tv, rfl⟩ := hv
      obtain ⟨tu, rfl⟩ := hu
      (repeat' ((fail_if_success (with_reducible first | (show wpAny _ _ (PySem.eval _ _) _ _ _; first | show wpAny _ _ (PySem.eval (.ListComp _ _ _ _) _) _ _ _ | show wpAny _ _ (PySem.eval (.JoinedStr _ _) _) _ _ _) | (show wpAny _ _ (exec _ _) _ _ _; first | show wpAny _ _ (exec (.While _ _ _ _) _) _ _ _ | show wpAny _ _ (exec (.For _ _ _ _ _) _) _ _ _ | show wpAny _ _ (exec (.Raise (some (.Call _ _ _ _)) _ _) _) _ _ _) | (show wpAny _ _ (PySem.call _ _) _ _ _; first | refine h_ref (by decide) ?_ | show wpAny _ _ (PySem.call (.type "IndexError") _) _ _ _) | show wpAny _ _ (pyIter _) (fun it s₂ => LoopAtV _ _ _ _ _ _ _ _ _ it s₂) _ _ | show wpAny _ _ (leaving _ _) _ _ _ | show wpAny _ _ (noteFrame _ _) _ _ _)); (first | (k_unfold; (try dsimp only)) | walk1 | (dsimp only; walk1) | (leave1; walk_say "STEP leave1"; try dsimp only) | ((fail_if_success (show wpAny _ _ _ _ _ _)); dsimp only) | fail "no step")))
      rename Fr _ _ _ _ => kF
      rw [beq_self_eq_true]
      refine hQ2 _ _ ?_
      dsimp only
      exact ret _ _ _ led g .refl kF.keep (fun q hq => ⟨(N' q hq).1, (N' q hq).2.2⟩) ⟨rfl, W, .refl, hW⟩
    | l ts =>
      obtain ⟨x, i, rfl, hx, rfl⟩ := hv
      obtain ⟨a, vs, rfl, hP, hIs⟩ := hu
      have hl := hP.isList
      have hlen := hIs.length
      have hle := @encs_len_l i.ts
      have hge := encs_ge i.ts
      obtain ⟨d, e, ts, dx, ex⟩ := i
      dsimp only at hle hge hlen hIs
      rw [dep] at ht hdp hun
      dsimp only at ht hdp hun he
      have hD := CB'.D
      have hgl : ∀ {g1}, KtsTurn (outer.filterMap (·.frame)) g g1 → g1.IsList a vs.toArray := fun T => (hP.turn hD T).isList
      have hlp := fun (W1 : Addr → Option LI) (led1 : List (Addr × Obj)) (h1 : Wle W W1) (h2 : Wd w.params W1 led1) (g2 : Heap) => len_spec (w := w) (p := p) (loose := loose) (mean := mean) (mg := mg) (mb := mb) g2 x _ W1 led1 h2 (h1 _ _ hx)
      have hin : ∀ (W1 : Addr → Option LI) (led1 : List (Addr × Obj)), Wle W W1 → Wd w.params W1 led1 → ∃ od : Obj, ∀ q ∈ (x, instObj 152 dx) :: (dx, od) :: led1, q ∈ led1 := fun W1 led1 h1 h2 => h2.inst (h1 _ _ hx)
      dsimp only at hlp
      obtain ⟨od, hin0⟩ := hin W led .refl hW
      replace N' := weak N' hin0
      clear hin0
      (repeat' ((fail_if_success (with_reducible first | (show wpAny _ _ (PySem.eval _ _) _ _ _; first | show wpAny _ _ (PySem.eval (.ListComp _ _ _ _) _) _ _ _ | show wpAny _ _ (PySem.eval (.JoinedStr _ _) _) _ _ _) | (show wpAny _ _ (exec _ _) _ _ _; first | show wpAny _ _ (exec (.While _ _ _ _) _) _ _ _ | show wpAny _ _ (exec (.For _ _ _ _ _) _) _ _ _ | show wpAny _ _ (exec (.Raise (some (.Call _ _ _ _)) _ _) _) _ _ _) | (show wpAny _ _ (PySem.call _ _) _ _ _; first | refine h_ref (by decide) ?_ | show wpAny _ _ (PySem.call (.type "IndexError") _) _ _ _) | show wpAny _ _ (pyIter _) (fun it s₂ => LoopAtV _ _ _ _ _ _ _ _ _ it s₂) _ _ | show wpAny _ _ (leaving _ _) _ _ _ | show wpAny _ _ (noteFrame _ _) _ _ _)); (first | (k_unfold; (try dsimp only)) | walk1 | (dsimp only; walk1) | (leave1; walk_say "STEP leave1"; try dsimp only) | ((fail_if_success (show wpAny _ _ _ _ _ _)); dsimp only) | fail "no step")))
      rename Fr _ _ _ _ => kF
      rename News _ _ _ _ => kN
      refine q_gen ?_
      intro Q3 hQ3
      refine useT led [] B' CB' kF kN rfl rfl (fun q hq => by simp [hq]) (fun _ h => nomatch h) (fun _ _ _ h => nomatch h) (fun g2 _ _ => hlp W led .refl hW g2) (by walk_at "MINE room") (by walk_at "MINE room") ?_
      clear kF kN
      clear od
      rintro r h2 tk2 mt2 g2 T2 kF kN hd B2 X2 P2 CB2 ⟨W2, hle2, hW2, tkl, rfl⟩
      clear B' X' T' CB' hd
      rw [List.append_nil] at kN
      have hl := hgl T2
      obtain ⟨od, hin0⟩ := hin W2 mt2 hle2 hW2
      replace kN := weak kN hin0
      clear hin0
      refine hQ3 _ _ ?_
      dsimp only [PySem.W.LenBack]
      refine ⟨⟨by omega, by omega⟩, ?_⟩
      (repeat' ((fail_if_success (with_reducible first | (show wpAny _ _ (PySem.eval _ _) _ _ _; first | show wpAny _ _ (PySem.eval (.ListComp _ _ _ _) _) _ _ _ | show wpAny _ _ (PySem.eval (.JoinedStr _ _) _) _ _ _) | (show wpAny _ _ (exec _ _) _ _ _; first | show wpAny _ _ (exec (.While _ _ _ _) _) _ _ _ | show wpAny _ _ (exec (.For _ _ _ _ _) _) _ _ _ | show wpAny _ _ (exec (.Raise (some (.Call _ _ _ _)) _ _) _) _ _ _) | (show wpAny _ _ (PySem.call _ _) _ _ _; first | refine h_ref (by decide) ?_ | show wpAny _ _ (PySem.call (.type "IndexError") _) _ _ _ | show wpAny _ _ (PySem.call (.builtin "len") [.ref _]) _ _ _) | show wpAny _ _ (pyIter _) (fun it s₂ => LoopAtV _ _ _ _ _ _ _ _ _ it s₂) _ _ | show wpAny _ _ (leaving _ _) _ _ _ | show wpAny _ _ (noteFrame _ _) _ _ _ | show wpAny _ _ (subscriptTail _ _ (.ref _) (.int _ _)) _ _ _ | show wpAny _ _ (binaryOp .Add (.bytes _ _) (.bytes _ _)) _ _ _)); (first | (k_unfold; (try dsimp only)) | walk1 | (dsimp only; walk1) | (leave1; walk_say "STEP leave1"; try dsimp only) | ((fail_if_success (show wpAny _ _ _ _ _ _)); dsimp only) | fail "no step")))
      refine lenB (hl.at fun o e => kF.keep a o e) (by omega) ?_
      (repeat' ((fail_if_success (with_reducible first | (show wpAny _ _ (PySem.eval _ _) _ _ _; first | show wpAny _ _ (PySem.eval (.ListComp _ _ _ _) _) _ _ _ | show wpAny _ _ (PySem.eval (.JoinedStr _ _) _) _ _ _) | (show wpAny _ _ (exec _ _) _ _ _; first | show wpAny _ _ (exec (.While _ _ _ _) _) _ _ _ | show wpAny _ _ (exec (.For _ _ _ _ _) _) _ _ _ | show wpAny _ _ (exec (.Raise (some (.Call _ _ _ _)) _ _) _) _ _ _) | (show wpAny _ _ (PySem.call _ _) _ _ _; first | refine h_ref (by decide) ?_ | show wpAny _ _ (PySem.call (.type "IndexError") _) _ _ _) | show wpAny _ _ (pyIter _) (fun it s₂ => LoopAtV _ _ _ _ _ _ _ _ _ it s₂) _ _ | show wpAny _ _ (leaving _ _) _ _ _ | show wpAny _ _ (noteFrame _ _) _ _ _)); (first | (k_unfold; (try dsimp only)) | walk1 | (dsimp only; walk1) | (leave1; walk_say "STEP leave1"; try dsimp only) | ((fail_if_success (show wpAny _ _ _ _ _ _)); dsimp only) | fail "no step")))
      any_goals (exfalso; omega)
      refine q_gen ?_
      intro Q4 hQ4
      refine useT mt2 [] B2 CB2 kF kN rfl rfl (fun q hq => by simp [hq]) (fun _ h => nomatch h) (fun _ _ _ h => nomatch h) (fun g2 _ _ => hlp W2 mt2 hle2 hW2 g2) (by walk_at "MINE room") (by walk_at "MINE room") ?_
      clear kF kN
      clear od
      rintro r h3 tk3 mt3 g3 T3 kF kN hd B3 X3 P3 CB3 ⟨W3, hle3, hW3, tkl3, rfl⟩
      clear B2 X2 P2 CB2 hd
      rw [List.append_nil] at kN
      have T3 := T2.trans T3
      have hle3 := hle2.trans hle3
      clear T2 hle2 hW2
      have hl := hgl T3
      refine hQ4 _ _ ?_
      dsimp only [PySem.W.LenBack]
      refine ⟨⟨by omega, by omega⟩, ?_⟩
      (repeat' ((fail_if_success (with_reducible first | (show wpAny _ _ (PySem.eval _ _) _ _ _; first | show wpAny _ _ (PySem.eval (.ListComp _ _ _ _) _) _ _ _ | show wpAny _ _ (PySem.eval (.JoinedStr _ _) _) _ _ _) | (show wpAny _ _ (exec _ _) _ _ _; first | show wpAny _ _ (exec (.While _ _ _ _) _) _ _ _ | show wpAny _ _ (exec (.For _ _ _ _ _) _) _ _ _ | show wpAny _ _ (exec (.Raise (some (.Call _ _ _ _)) _ _) _) _ _ _) | (show wpAny _ _ (PySem.call _ _) _ _ _; first | refine h_ref (by decide) ?_ | show wpAny _ _ (PySem.call (.type "IndexError") _) _ _ _ | show wpAny _ _ (PySem.call (.builtin "len") [.ref _]) _ _ _) | show wpAny _ _ (pyIter _) (fun it s₂ => LoopAtV _ _ _ _ _ _ _ _ _ it s₂) _ _ | show wpAny _ _ (leaving _ _) _ _ _ | show wpAny _ _ (noteFrame _ _) _ _ _ | show wpAny _ _ (subscriptTail _ _ (.ref _) (.int _ _)) _ _ _ | show wpAny _ _ (binaryOp .Add (.bytes _ _) (.bytes _ _)) _ _ _)); (first | (k_unfold; (try dsimp only)) | walk1 | (dsimp only; walk1) | (leave1; walk_say "STEP leave1"; try dsimp only) | ((fail_if_success (show wpAny _ _ _ _ _ _)); dsimp only) | fail "no step")))
      refine lenB (hl.at fun o e => kF.keep a o e) (by omega) ?_
      (repeat' ((fail_if_success (with_reducible first | (show wpAny _ _ (PySem.eval _ _) _ _ _; first | show wpAny _ _ (PySem.eval (.ListComp _ _ _ _) _) _ _ _ | show wpAny _ _ (PySem.eval (.JoinedStr _ _) _) _ _ _) | (show wpAny _ _ (exec _ _) _ _ _; first | show wpAny _ _ (exec (.While _ _ _ _) _) _ _ _ | show wpAny _ _ (exec (.For _ _ _ _ _) _) _ _ _ | show wpAny _ _ (exec (.Raise (some (.Call _ _ _ _)) _ _) _) _ _ _) | (show wpAny _ _ (PySem.call _ _) _ _ _; first | refine h_ref (by decide) ?_ | show wpAny _ _ (PySem.call (.type "IndexError") _) _ _ _) | show wpAny _ _ (pyIter _) (fun it s₂ => LoopAtV _ _ _ _ _ _ _ _ _ it s₂) _ _ | show wpAny _ _ (leaving _ _) _ _ _ | show wpAny _ _ (noteFrame _ _) _ _ _)); (first | (k_unfold; (try dsimp only)) | walk1 | (dsimp only; walk1) | (leave1; walk_say "STEP leave1"; try dsimp only) | ((fail_if_success (show wpAny _ _ _ _ _ _)); dsimp only) | fail "no step")))
      any_goals (exfalso; omega)
      refine For_turn rfl rfl ?_
      (repeat' ((fail_if_success (with_reducible first | (show wpAny _ _ (PySem.eval _ _) _ _ _; first | show wpAny _ _ (PySem.eval (.ListComp _ _ _ _) _) _ _ _ | show wpAny _ _ (PySem.eval (.JoinedStr _ _) _) _ _ _) | (show wpAny _ _ (exec _ _) _ _ _; first | show wpAny _ _ (exec (.While _ _ _ _) _) _ _ _ | show wpAny _ _ (exec (.For _ _ _ _ _) _) _ _ _ | show wpAny _ _ (exec (.Raise (some (.Call _ _ _ _)) _ _) _) _ _ _) | (show wpAny _ _ (PySem.call _ _) _ _ _; first | refine h_ref (by decide) ?_ | show wpAny _ _ (PySem.call (.type "IndexError") _) _ _ _ | show wpAny _ _ (PySem.call (.builtin "len") [.ref _]) _ _ _) | show wpAny _ _ (pyIter _) (fun it s₂ => LoopAtV _ _ _ _ _ _ _ _ _ it s₂) _ _ | show wpAny _ _ (leaving _ _) _ _ _ | show wpAny _ _ (noteFrame _ _) _ _ _ | show wpAny _ _ (subscriptTail _ _ (.ref _) (.int _ _)) _ _ _ | show wpAny _ _ (binaryOp .Add (.bytes _ _) (.bytes _ _)) _ _ _)); (first | (k_unfold; (try dsimp only)) | walk1 | (dsimp only; walk1) | (leave1; walk_say "STEP leave1"; try dsimp only) | ((fail_if_success (show wpAny _ _ _ _ _ _)); dsimp only) | fail "no step")))
      refine lenB (hl.at fun o e => kF.keep a o e) (by omega) ?_
      (repeat' ((fail_if_success (with_reducible first | (show wpAny _ _ (PySem.eval _ _) _ _ _; first | show wpAny _ _ (PySem.eval (.ListComp _ _ _ _) _) _ _ _ | show wpAny _ _ (PySem.eval (.JoinedStr _ _) _) _ _ _) | (show wpAny _ _ (exec _ _) _ _ _; first | show wpAny _ _ (exec (.While _ _ _ _) _) _ _ _ | show wpAny _ _ (exec (.For _ _ _ _ _) _) _ _ _ | show wpAny _ _ (exec (.Raise (some (.Call _ _ _ _)) _ _) _) _ _ _) | (show wpAny _ _ (PySem.call _ _) _ _ _; first | refine h_ref (by decide) ?_ | show wpAny _ _ (PySem.call (.type "IndexError") _) _ _ _) | show wpAny _ _ (pyIter _) (fun it s₂ => LoopAtV _ _ _ _ _ _ _ _ _ it s₂) _ _ | show wpAny _ _ (leaving _ _) _ _ _ | show wpAny _ _ (noteFrame _ _) _ _ _)); (first | (k_unfold; (try dsimp only)) | walk1 | (dsimp only; walk1) | (leave1; walk_say "STEP leave1"; try dsimp only) | ((fail_if_success (show wpAny _ _ _ _ _ _)); dsimp only) | fail "no step")))
      rename Fr _ _ _ _ => kF
      rename News _ _ _ _ => kN
      rename IsRange _ _ _ _ _ _ _ _ => hr
      have hgi := fun (W1 : Addr → Option LI) (led1 : List (Addr × Obj)) (h1 : Wle W W1) (h2 : Wd w.params W1 led1) (g2 : Heap) => getitem_spec (w := w) (p := p) (loose := loose) (mean := mean) (mg := mg) (mb := mb) g2 x _ W1 led1 h2 (h1 _ _ hx)
      dsimp only at hgi
      refine range_turn (n := vs.length) (fun j g₁ m₁ nx => m₁ (Str.ofString "told") = some (.ref x) ∧ m₁ (Str.ofString "item") = some (.ref a) ∧ ∃ W', Wle W W' ∧ Wd w.params W' nx ∧ KtsTurn (outer.filterMap (·.frame)) g g₁ ∧
        Below (arnd dp un gd outer) base outer g₁ ∧ (Mine.hd.heap_1 w.params).In g₁ ∧ Top p loose mean mg mb g₁ ∧ Cb (Mine.hd.heap_1 w.params) p loose mean mg mb base outer g₁) rfl hr (small_one (by omega) (by omega) (by omega) (by omega)) ((rangeSize_nat _ _).trans (by omega)) kF kN
        ⟨rfl, rfl, W3, hle3, hW3, T3, B3, X3, P3, CB3⟩ ?_ ?_
      · clear kF kN hr hle3 hW3 T3 B3 X3 P3 CB3 hl hW
        rintro I j tj g₁ m₁ nx h₁ tk₁ oI hj ⟨m1, m2, W1, hle1, hW1, T1, B1, X1, P1, CB1⟩ hoff kF kN
        change Fr g₁ L' _ _ at kF
        change News g₁ L' _ _ at kN
        simp only [Int.zero_add] at kF
        have hl := hgl T1
        have e1 : (fun y => if y = Str.ofString "k" then some (Value.int (j : Int) tj) else m₁ y) (Str.ofString "told") = some (.ref x) := m1
        have e2 : (fun y => if y = Str.ofString "k" then some (Value.int (j : Int) tj) else m₁ y) (Str.ofString "item") = some (.ref a) := m2
        have e3 : (fun y => if y = Str.ofString "k" then some (Value.int (j : Int) tj) else m₁ y) (Str.ofString "k") = some (Value.int (j : Int) tj) := rfl
        generalize (fun y => if y = Str.ofString "k" then some (Value.int (j : Int) tj) else m₁ y) = m₂ at kF e1 e2 e3
        clear m1 m2 m₁
        obtain ⟨od, hin0⟩ := hin W1 nx hle1 hW1
        replace kN := weak (l := ((x, instObj 152 dx) :: (dx, od) :: nx) ++ [(I, oI)]) kN (fun q hq => (List.mem_append.mp hq).elim (fun h => List.mem_append_left _ (hin0 q h)) (fun h => List.mem_append_right _ h))
        clear hin0
        dsimp only [List.cons_append] at kN
        try k_fold
        (repeat' ((fail_if_success (with_reducible first | (show wpAny _ _ (PySem.eval _ _) _ _ _; first | show wpAny _ _ (PySem.eval (.ListComp _ _ _ _) _) _ _ _ | show wpAny _ _ (PySem.eval (.JoinedStr _ _) _) _ _ _) | (show wpAny _ _ (exec _ _) _ _ _; first | show wpAny _ _ (exec (.While _ _ _ _) _) _ _ _ | show wpAny _ _ (exec (.For _ _ _ _ _) _) _ _ _ | show wpAny _ _ (exec (.Raise (some (.Call _ _ _ _)) _ _) _) _ _ _) | (show wpAny _ _ (PySem.call _ _) _ _ _; first | refine h_ref (by decide) ?_ | show wpAny _ _ (PySem.call (.type "IndexError") _) _ _ _) | show wpAny _ _ (pyIter _) (fun it s₂ => LoopAtV _ _ _ _ _ _ _ _ _ it s₂) _ _ | show wpAny _ _ (leaving _ _) _ _ _ | show wpAny _ _ (noteFrame _ _) _ _ _)); (first | (k_unfold; (try dsimp only)) | walk1 | (dsimp only; walk1) | (leave1; walk_say "STEP leave1"; try dsimp only) | ((fail_if_success (show wpAny _ _ _ _ _ _)); dsimp only) | fail "no step")))
        refine q_gen ?_
        intro Q5 hQ5
        refine useN nx [(I, oI)] B1 CB1 kF kN rfl rfl (fun q hq => by simp [hq]) (fun q hq => by rw [List.mem_singleton.mp hq]; simp) (fun q hq r hr => by rw [List.mem_singleton.mp hr]; exact hoff q hq) (fun g2 _ _ => hgi W1 nx hle1 hW1 g2 _ _ (by omega) (by omega)) (by walk_at "MINE room") (by walk_at "MINE room") ?_ ?_
        · clear kF kN hoff
          rintro r h2 tk2 mt2 kF kN hd2 ⟨W2, t', hle2, hW2, hti, hr⟩
          refine hQ5 _ _ ?_
          dsimp only
          have hw2 := hle1.trans hle2
          rw [Int.toNat_natCast] at hti
          obtain ⟨u', hu'⟩ : ∃ v, vs[j]? = some v := ⟨vs[j], by simp [hj]⟩
          obtain ⟨t'', hti', hit⟩ := hIs.get hu'
          rw [hti] at hti'; cases hti'
          have hdt := deps_le hti
          have hle4 := enc_le_encs hti
          clear od hle1 hle2 hW1
          (repeat' ((fail_if_success (with_reducible first | (show wpAny _ _ (PySem.eval _ _) _ _ _; first | show wpAny _ _ (PySem.eval (.ListComp _ _ _ _) _) _ _ _ | show wpAny _ _ (PySem.eval (.JoinedStr _ _) _) _ _ _) | (show wpAny _ _ (exec _ _) _ _ _; first | show wpAny _ _ (exec (.While _ _ _ _) _) _ _ _ | show wpAny _ _ (exec (.For _ _ _ _ _) _) _ _ _ | show wpAny _ _ (exec (.Raise (some (.Call _ _ _ _)) _ _) _) _ _ _) | (show wpAny _ _ (PySem.call _ _) _ _ _; first | refine h_ref (by decide) ?_ | show wpAny _ _ (PySem.call (.type "IndexError") _) _ _ _ | show wpAny _ _ (PySem.call (.builtin "len") [.ref _]) _ _ _) | show wpAny _ _ (pyIter _) (fun it s₂ => LoopAtV _ _ _ _ _ _ _ _ _ it s₂) _ _ | show wpAny _ _ (leaving _ _) _ _ _ | show wpAny _ _ (noteFrame _ _) _ _ _ | show wpAny _ _ (subscriptTail _ _ (.ref _) (.int _ _)) _ _ _ | show wpAny _ _ (binaryOp .Add (.bytes _ _) (.bytes _ _)) _ _ _)); (first | (k_unfold; (try dsimp only)) | walk1 | (dsimp only; walk1) | (leave1; walk_say "STEP leave1"; try dsimp only) | ((fail_if_success (show wpAny _ _ _ _ _ _)); dsimp only) | fail "no step")))
          refine item_listL (hl.at fun o e => kF.keep a o e) (by omega) (by omega) (by rw [Int.toNat_natCast]; exact hu') ?_
          (repeat' ((fail_if_success (with_reducible first | (show wpAny _ _ (PySem.eval _ _) _ _ _; first | show wpAny _ _ (PySem.eval (.ListComp _ _ _ _) _) _ _ _ | show wpAny _ _ (PySem.eval (.JoinedStr _ _) _) _ _ _) | (show wpAny _ _ (exec _ _) _ _ _; first | show wpAny _ _ (exec (.While _ _ _ _) _) _ _ _ | show wpAny _ _ (exec (.For _ _ _ _ _) _) _ _ _ | show wpAny _ _ (exec (.Raise (some (.Call _ _ _ _)) _ _) _) _ _ _) | (show wpAny _ _ (PySem.call _ _) _ _ _; first | refine h_ref (by decide) ?_ | show wpAny _ _ (PySem.call (.type "IndexError") _) _ _ _) | show wpAny _ _ (pyIter _) (fun it s₂ => LoopAtV _ _ _ _ _ _ _ _ _ it s₂) _ _ | show wpAny _ _ (leaving _ _) _ _ _ | show wpAny _ _ (noteFrame _ _) _ _ _)); (first | (k_unfold; (try dsimp only)) | walk1 | (dsimp only; walk1) | (leave1; walk_say "STEP leave1"; try dsimp only) | ((fail_if_success (show wpAny _ _ _ _ _ _)); dsimp only) | fail "no step")))
          refine q_gen ?_
          intro Q6 hQ6
          refine useT mt2 [(I, oI)] B1 CB1 kF kN rfl rfl (fun q hq => List.mem_append_left _ hq) (fun q hq => List.mem_append_right _ hq) hd2 (fun g2 st2 _ => ih t' (by omega) g2 W2 mt2 r u' hW2 hr (hit.mono fun b ws y => (y.turn hD T1).keeps st2) (by omega)) (by walk_at "MINE room") (by walk_at "MINE room") ?_
          clear kF kN
          rintro r3 h3 tk3 mt3 g3 T3 kF kN hd3 B3 X3 P3 CB3 ⟨rfl, W3, hle3, hW3⟩
          refine hQ6 _ _ ?_
          dsimp only
          (repeat' ((fail_if_success (with_reducible first | (show wpAny _ _ (PySem.eval _ _) _ _ _; first | show wpAny _ _ (PySem.eval (.ListComp _ _ _ _) _) _ _ _ | show wpAny _ _ (PySem.eval (.JoinedStr _ _) _) _ _ _) | (show wpAny _ _ (exec _ _) _ _ _; first | show wpAny _ _ (exec (.While _ _ _ _) _) _ _ _ | show wpAny _ _ (exec (.For _ _ _ _ _) _) _ _ _ | show wpAny _ _ (exec (.Raise (some (.Call _ _ _ _)) _ _) _) _ _ _) | (show wpAny _ _ (PySem.call _ _) _ _ _; first | refine h_ref (by decide) ?_ | show wpAny _ _ (PySem.call (.type "IndexError") _) _ _ _) | show wpAny _ _ (pyIter _) (fun it s₂ => LoopAtV _ _ _ _ _ _ _ _ _ it s₂) _ _ | show wpAny _ _ (leaving _ _) _ _ _ | show wpAny _ _ (noteFrame _ _) _ _ _)); (first | (k_unfold; (try dsimp only)) | walk1 | (dsimp only; walk1) | (leave1; walk_say "STEP leave1"; try dsimp only) | ((fail_if_success (show wpAny _ _ _ _ _ _)); dsimp only) | fail "no step")))
          exact ⟨_, _, g3, _, mt3, rfl, kF, kN, fun q hq => hd3 q hq _ (.head _), e1, e2, W3, hw2.trans hle3, hW3, T1.trans T3, B3, X3, P3, CB3⟩
        · rintro cls e1 h2 tk2 mt2 G FG RG uG hd2 ⟨rfl, hlen2, _⟩
          exfalso; omega
      · clear kF kN hr hle3 hW3 T3 B3 X3 P3 CB3 hl hW
        rintro h₁ tk₁ g₁ m₁ nx kF kN ⟨m1, m2, W1, hle1, hW1, T1, B1, X1, P1, CB1⟩
        change Fr g₁ L' _ _ at kF
        change News g₁ L' _ _ at kN
        (repeat' ((fail_if_success (with_reducible first | (show wpAny _ _ (PySem.eval _ _) _ _ _; first | show wpAny _ _ (PySem.eval (.ListComp _ _ _ _) _) _ _ _ | show wpAny _ _ (PySem.eval (.JoinedStr _ _) _) _ _ _) | (show wpAny _ _ (exec _ _) _ _ _; first | show wpAny _ _ (exec (.While _ _ _ _) _) _ _ _ | show wpAny _ _ (exec (.For _ _ _ _ _) _) _ _ _ | show wpAny _ _ (exec (.Raise (some (.Call _ _ _ _)) _ _) _) _ _ _) | (show wpAny _ _ (PySem.call _ _) _ _ _; first | refine h_ref (by decide) ?_ | show wpAny _ _ (PySem.call (.type "IndexError") _) _ _ _) | show wpAny _ _ (pyIter _) (fun it s₂ => LoopAtV _ _ _ _ _ _ _ _ _ it s₂) _ _ | show wpAny _ _ (leaving _ _) _ _ _ | show wpAny _ _ (noteFrame _ _) _ _ _)); (first | (k_unfold; (try dsimp only)) | walk1 | (dsimp only; walk1) | (leave1; walk_say "STEP leave1"; try dsimp only) | ((fail_if_success (show wpAny _ _ _ _ _ _)); dsimp only) | fail "no step")))
        refine hQ2 _ _ ?_
        dsimp only
        exact ret _ _ _ nx g₁ T1 kF.keep (fun q hq => ⟨(kN q hq).1, (kN q hq).2.2⟩) ⟨rfl, W1, hle1, hW1⟩

theorem sm_spec (t : Tr) (g : Heap) (W : Addr → Option LI) (led : List (Addr × Obj)) (v u : Value) (hW : Wd w.params W led) (hv : VRel W t v) (hu : Item (PG g) t u) (he : (enc t).length ≤ 1000000) :
    CallT Challenge.rw_is0005_01.row.prog w (hd.heap_1 w.params) p loose mean mg mb 190 [v, u] (2 * dep t + 40) (20 * dep t + 400) g led (SmPost w.params W) :=
  sm_all (dep t + 1) t (Nat.lt_succ_self _) g W led v u hW hv hu he
end
end Mine

-- P24
namespace Mine

/-- with nothing below, a turn turns nothing -/
theorem turn0F {g g' h : Heap} {L : Addr} {m : Str → Option Value} (T : KtsTurn [] g g') (F : Fr g' L h m) : Fr g L h m :=
  ⟨F.ns, fun b o e => F.keep b o (T.other b o e (List.not_mem_nil)), by rw [← T.size]; exact F.above⟩
theorem turn0N {g g' h : Heap} {L : Addr} {nx : List (Addr × Obj)} (T : KtsTurn [] g g') (N : News g' L h nx) : News g L h nx :=
  fun q hq => ⟨(N q hq).1, (N q hq).2.1, turn_back T (N q hq).2.2⟩

section
variable {prog : Program} {w : World} {K : Frag} {p : Program} {loose : List Str} {mean : ExcName → Option Value} {mg mb : Str → Option Value}
theorem useT0 {A₀ : Around} {base h₀ : Heap} {dp un : Nat} {gd : Option (List Code)} {env : Env} {L : Addr} {m : Str → Option Value} {news : List (Addr × Obj)} {s : Shared} {f : Addr} {vs : List Value} {d u : Nat} {Post : List (Addr × Obj) → Value → Prop} {Q E : Value → Shared → Prop}
    (mt keep : List (Addr × Obj))
    (B : Below A₀ base [] h₀) (C₀ : Cb K p loose mean mg mb base [] h₀) (F : Fr h₀ L s.heap m) (N : News h₀ L s.heap news) (hf : env.frame = some L) (hke : env.scope.kind = .function)
    (hm : ∀ q ∈ mt, q ∈ news) (hk : ∀ q ∈ keep, q ∈ news) (hd : ∀ q ∈ mt, ∀ r ∈ keep, q.1 ≠ r.1)
    (C : ∀ g, h₀.StaysIn g → (∀ q ∈ keep, g.get? q.1 = some q.2) → CallT prog w K p loose mean mg mb f vs d u g mt Post)
    (hdp : dp + d < recursionLimit) (hun : un + u < cLine)
    (ret : ∀ r h' tk' mt', Fr h₀ L h' m → News h₀ L h' (mt' ++ keep) → (∀ q ∈ mt', ∀ r ∈ keep, q.1 ≠ r.1) → Post mt' r → Q r { s with heap := h', toks := tk' }) :
    wpAny (model prog w) { handled := none, depth := dp, frames := some [env], guards := gd, units := un } (call (.ref f) vs) Q E s :=
  useT mt keep B C₀ F N hf hke hm hk hd C hdp hun fun r h' tk' mt' _ T F' N' hd' _ _ _ _ hp => ret r h' tk' mt' (turn0F T F') (turn0N T N') hd' hp
end
end Mine
local macro_rules | `(tactic| walk_at "MINE room") => `(tactic| (
  have e1 : callerA.depth = 301 := rfl
  have e2 : callerA.units = 4 := rfl
  have e3 : recursionLimit = 1000 := rfl
  have e4 : cLine = 9900 := rfl
  first | omega | (simp only [depth_in1, depth_deeper, units_in1, units_deeper, Around.in1, Around.deeper]; omega)))
namespace Mine
end Mine

-- P25
namespace Mine
section
variable {prog : Program} {w : World} {A : Around} {E : Value → Shared → Prop} {s : Shared} {env : Env} {h₀ : Heap} {x : Str} {body : List Stmt} {Q : Flow → Shared → Prop}
/-- a loop over a list that was made here -/
theorem for_listL {l : Addr} {vs : List Value} {m₀ : Str → Option Value} {news : List (Addr × Obj)} (J : Nat → (Str → Option Value) → List (Addr × Obj) → Prop)
    (hh : A.handled = none) (hl : s.heap.IsList l vs.toArray) (hlL : l ≠ env.locals) (hln : h₀.get? l = none) (hnl : ∀ q ∈ news, q.1 ≠ l) (F : Fr h₀ env.locals s.heap m₀) (N : News h₀ env.locals s.heap news) (hj : J 0 m₀ news)
    (turn : ∀ i v m₁ nx h tk own, vs[i]? = some v → TbOff own nx → J i m₁ nx → Fr h₀ env.locals h (fun y => if y = x then some v else m₁ y) → News h₀ env.locals h (nx ++ own) →
      wpAny (model prog w) A (execs body env) (TbPost h₀ env.locals (J (i + 1)) own { s with heap := h, toks := tk } Q) E { s with heap := h, toks := tk })
    (done : ∀ m₁ nx h tk, J vs.length m₁ nx → Fr h₀ env.locals h m₁ → News h₀ env.locals h nx → Q .next { s with heap := h, toks := tk }) :
    wpAny (model prog w) A (pyIter (.ref l)) (fun it s₂ => LoopAtV prog w A h₀ env x body Q E it s₂) E s := by
  obtain ⟨ol, hol, _⟩ := id hl
  have hlt : l < s.heap.objs.size := Heap.lt_size hol
  have hne : l ≠ s.heap.objs.size := Nat.ne_of_lt hlt
  refine wpAny_pyIter_list hl ?_
  have W := Walks.list (prog := prog) (w := w) hh s.heap.objs.size l hne vs.toArray
  rw [List.size_toArray] at W
  refine ⟨_, _, _, vs.length, _, _, m₀, news, fun i m nx => J i m nx ∧ ∀ q ∈ nx, q.1 ≠ l, rfl, W, ?_, ?_, ?_, ⟨⟨_, Heap.get?_push_size _ rfl, rfl, rfl⟩, hl.at fun o e => Heap.get?_push_of_some _ e⟩, F.push _, (fun p hp => ⟨Heap.get?_push_of_some _ (N p hp).1, (N p hp).2⟩), ⟨hj, hnl⟩, ?_, ?_⟩
  · intro hm
    rcases List.mem_cons.mp hm with e | hm
    · exact absurd F.ns.lt (e ▸ Nat.lt_irrefl _)
    · exact hlL (List.mem_singleton.mp hm).symm
  · intro b hb
    rw [List.mem_singleton.mp hb]
    exact next_is_new F
  · intro p hp hI
    exact absurd (Heap.lt_size (N p hp).1) ((List.mem_singleton.mp hI) ▸ Nat.lt_irrefl _)
  · rintro i v m₁ news₁ s₁ own ⟨hh', tk', rfl⟩ hin hP ⟨hJ, hnl₁⟩ hoff hown _ hmem hst F₁ N₁
    have hv : vs[i]? = some v := by simpa using hP
    have hsep : TbOff own news₁ := by
      intro p hp q hq e
      rcases List.mem_cons.mp (hown p hp) with h1 | h1
      · exact hoff q hq (List.mem_singleton.mpr (e ▸ h1))
      · exact hnl₁ q hq (e.symm.trans (List.mem_singleton.mp h1))
    have N₂ : News h₀ env.locals hh' (news₁ ++ own) := fun p hp => N₁ p ((List.mem_append.mp hp).elim (fun h => List.mem_append.mpr (.inr h)) fun h => List.mem_append.mpr (.inl h))
    refine wpAny_mono (turn i v m₁ news₁ hh' tk' own hv hsep hJ F₁ N₂) (fun f s₂ p => ?_) fun _ _ e => e
    have fin : TbEnd h₀ env.locals (J (i + 1)) own { s with heap := hh', toks := tk' } s₂ → LoopStepU h₀ env.locals [s.heap.objs.size] own (fun m nx => J (i + 1) m nx ∧ ∀ q ∈ nx, q.1 ≠ l) { s with heap := hh', toks := tk' } .next s₂ := by
      rintro ⟨h', tk, m', news', nx, e, F', N', hn, ho, ha, hm⟩
      obtain ⟨o, hbo, _⟩ := hst.1
      obtain ⟨o2, hbo2, _⟩ := hst.2
      have hI : h₀.get? s.heap.objs.size = none := next_is_new F
      exact ⟨rfl, h', tk, m', nx, e, F', fun p hp => N' p ((List.mem_append.mp hp).elim (ho p) (hn p)), fun p hp hq => ha _ (hmem _ (.head _) hI o hbo) p hp (List.mem_singleton.mp hq).symm, hm, fun q hq e => ha _ (hmem _ (.tail _ (.head _)) hln o2 hbo2) q hq e.symm⟩
    cases f with
    | ret v => exact .ret p
    | brk => exact .brk p
    | next => exact .next (fin p)
    | cont => exact .cont (fin p)
  · rintro h' tk m' news' F' N' _ ⟨hJ, _⟩
    exact done m' news' h' tk hJ F' N'
end
theorem off1_mem {D : Addr} : ∀ {l : List (Addr × Obj)}, LCg.Off1 D l → ∀ q ∈ l, q.1 ≠ D
  | [], _, _, h => nomatch h
  | _ :: _, x, q, h => (List.mem_cons.mp h).elim (fun e => e ▸ x.1) (fun h => off1_mem x.2 q h)
theorem att_le : ∀ (ks : List Int) (t t' : Tr), att t ks = some t' → (enc t').length ≤ (enc t).length ∧ dep t' ≤ dep t
  | [], t, t', h => by cases t <;> (rw [att] at h; cases h; exact ⟨Nat.le_refl _, Nat.le_refl _⟩)
  | k :: ks, .b bs, t', h => by rw [att] at h; cases h
  | k :: ks, .l ts, t', h => by
    rw [att] at h
    cases hu : ts[k.toNat]? with
    | none => rw [hu] at h; cases h
    | some u =>
      rw [hu] at h
      obtain ⟨a, b⟩ := att_le ks u t' h
      have h1 := enc_le_encs hu
      have h2 := @encs_len_l ts
      have h3 := deps_le hu
      rw [dep]
      omega
/-- a statement that goes on -/
structure Cut (P : Shared → Prop) (fl : Flow) (s : Shared) : Prop where
  e : fl = .next
  p : P s
theorem next_cut {M : Model} {A : Around} {c : Sem Flow} {QQ : Flow → Shared → Prop} {E : Value → Shared → Prop} {s : Shared} (P : Shared → Prop) (h1 : ∀ s', P s' → QQ .next s') (h2 : wpAny M A c (Cut P) E s) : wpAny M A c QQ E s :=
  wpAny_mono h2 (fun _ s' p => p.e ▸ h1 s' p.p) fun _ _ e => e
end Mine

-- P27
namespace Mine
/-- a call that raises an object of a class -/
def CallR (prog : Program) (w : World) (K : Frag) (p : Program) (loose : List Str) (mean : ExcName → Option Value) (mg mb : Str → Option Value)
    (f : Addr) (vs : List Value) (d u : Nat) (g : Heap) (cls : Value) : Prop :=
  ∀ (dp un : Nat) (gd : Option (List Code)) (base : Heap) (outer : List Env) (s : Shared) (Q E : Value → Shared → Prop),
    Cx K p loose mean mg mb base outer (arnd dp un gd outer) g → g.StaysIn s.heap → g.objs.size ≤ s.heap.objs.size → dp + d < recursionLimit → un + u < cLine →
    (∀ e h' tk', RaisedSN base g outer e cls [] h' → g.UpToSlots h' → E (.ref e) { s with heap := h', toks := tk' }) →
    wpAny (model prog w) (arnd dp un gd outer) (call (.ref f) vs) Q E s
section
variable {prog : Program} {w : World} {K : Frag} {p : Program} {loose : List Str} {mean : ExcName → Option Value} {mg mb : Str → Option Value}
theorem useR {A₀ : Around} {base h₀ : Heap} {dp un : Nat} {gd : Option (List Code)} {outer : List Env} {env : Env} {L : Addr} {m : Str → Option Value} {news : List (Addr × Obj)} {s : Shared} {f : Addr} {vs : List Value} {d u : Nat} {cls : Value} {Q E : Value → Shared → Prop}
    (B : Below A₀ base outer h₀) (C₀ : Cb K p loose mean mg mb base outer h₀) (F : Fr h₀ L s.heap m) (N : News h₀ L s.heap news) (hf : env.frame = some L) (hke : env.scope.kind = .function)
    (C : ∀ g, h₀.StaysIn g → CallR prog w K p loose mean mg mb f vs d u g cls)
    (hdp : dp + d < recursionLimit) (hun : un + u < cLine)
    (exc : ∀ e h' tk' G, Fr h₀ L G m → RaisedSN base G (env :: outer) e cls news h' → G.UpToSlots h' → E (.ref e) { s with heap := h', toks := tk' }) :
    wpAny (model prog w) { handled := none, depth := dp, frames := some (env :: outer), guards := gd, units := un } (call (.ref f) vs) Q E s := by
  obtain ⟨g, Cg, st, sz, Lm, st0, hkp, Fg, _, back, bx⟩ := ground' (mt := []) (keep := news) (A := { handled := none, depth := dp, frames := some (env :: outer), guards := gd, units := un }) B C₀ F N rfl hf hke (fun _ h => nomatch h) (fun _ h => h) (fun _ h => nomatch h)
  refine C g st0 dp un gd base (env :: outer) s Q E Cg st sz hdp hun fun e h' tk' R up => ?_
  obtain ⟨G, FG, RG, uG, _⟩ := bx _ e h' [] R up
  exact exc e h' tk' G FG RG uG
end
section
variable {prog : Program} {w : World} {A₀ : Around} {E : Value → Shared → Prop} {s' : Shared} {base g G : Heap} {outer : List Env} {L a e C : Addr} {m : Str → Option Value} {name : Str} {scope : Scope} {cd : Value}
  {b₀ : Stmt} {suite : List Stmt} {pos np : Pos} {rest : List ExceptHandler} {Q : Flow → Shared → Prop} {news : List (Addr × Obj)} {KF : Frag}
  {p : Program} {loose : List Str} {mean : ExcName → Option Value} {mg mb : Str → Option Value} {x : Str}
/-- one of an own class, caught by its name -/
theorem caught_ON (R : RaisedSN base G (envOf name scope L a cd :: outer) e (.ref C) news s'.heap) (F : Fr g L G m) (K : Below A₀ base outer g) (hsm : G.UpToSlots s'.heap) (CB : Cb KF p loose mean mg mb base outer g)
    (ex : nsIn KF mainGlobals x = some (some (.ref C))) (q : ktsIn KF C "BaseException" = true)
    (k : ∀ h' g', KtsTurn (outer.filterMap (·.frame)) g g' → Fr g' L h' m → News g' L h' news → Below A₀ base outer g' → KF.In g' → Top p loose mean mg mb g' → Cb KF p loose mean mg mb base outer g' →
      wpAny (model prog w) ((A₀.deeper (envOf name scope L a cd)).mark (some (.ref e))) (execs (b₀ :: suite) (envOf name scope L a cd)) Q E { s' with heap := h' })
    (hk : scope.kind = .function := by rfl) (hx : (envOf name scope L a cd).kindOf x = some .globalImplicit := by rfl) (hd : (x == ("__debug__" : Str)) = false := by decide)
    (hE : PassesOwnAt (model prog w) ((A₀.deeper (envOf name scope L a cd)).mark (some (.ref e))) (A₀.deeper (envOf name scope L a cd)) (envOf name scope L a cd) E := by passes_own) :
    wpAny (model prog w) (A₀.deeper (envOf name scope L a cd)) (noteFrame (.ref e) (envOf name scope L a cd))
      (fun _ s₂ => wpAny (model prog w) (A₀.deeper (envOf name scope L a cd)) (setFlight (.ref e) none) (fun _ s₃ =>
        wpAny (model prog w) (A₀.deeper (envOf name scope L a cd)) (handleBy (.ref e) (envOf name scope L a cd) (.ExceptHandler (some (.Name x np)) none (b₀ :: suite) pos :: rest)) Q E s₃) E s₂) E s' := by
  obtain ⟨B, a0, hB, hBG, hl, hfl⟩ := R
  have hL : B.get? L = none := by
    obtain ⟨_, ⟨L', _, hf, hn', _⟩, _⟩ := hfl.2.2.1
    obtain rfl : L = L' := Option.some.inj hf
    exact hn'
  refine wpAny_looks_onW (Around.frames_deeper K.stack) rfl hfl fun h₄ hheld₄ hsm₄ => ?_
  refine wpAny_landsW hheld₄ fun h₅ hheld hsm₅' => ?_
  have hsm₅ := hsm₄.trans hsm₅'
  obtain ⟨g₅, T₅, F₅, K₅⟩ := kts_ground K F hBG hheld.1 (hsm.trans hsm₅)
  have X₅ : KF.In g₅ := CB.XB.keeps K₅.stays
  have P₅ : TopRead p loose mg mb g₅ := topRead_of (CB.TB.keeps K₅.stays)
  obtain ⟨ob, hob, hobc⟩ := hheld.there
  obtain ⟨nm, q', N, bs, bm, hdct, sn, sub, ab, col, dd, k0, k1, k2, k3, k5, newId, hC, hbase, hbT⟩ := kts_cls X₅ q
  have hC₅ := F₅.keep _ _ hC
  refine wpAny_handleBy_cons (codeAny_handlers_test (name_K F₅ X₅ P₅ ex ?_ hk hx hd)) (by intro q; cases q)
  refine wpAny_excMatches_sub_self hC₅ hob hobc hbase (codeAny_handlers_suite ?_)
  refine lands_againW hheld fun h₆ hfl₆ hsm₆ => ?_
  obtain ⟨g₆, T₆, F₆, K₆⟩ := kts_ground K F hBG hfl₆.1 ((hsm.trans hsm₅).trans hsm₆)
  have Nl : News g₆ L h₆ news := fun q hq => ⟨hfl₆.1 _ _ (hl q hq).1, (fun z => by have := (hl q hq).1; rw [z, hL] at this; cases this), T₆.none_ _ (kts_none F.keep (hl q hq).2.1)⟩
  exact wpAny_passesOwnAt hE (k h₆ g₆ T₆ F₆ Nl K₆ (CB.XB.keeps K₆.stays) (CB.TB.keeps K₆.stays) ⟨CB.XB, CB.TB, CB.D.turn T₆⟩)
end
end Mine

-- X1
namespace Mine
theorem wd_type : typeOf (.builtin "Exception.__init__") = pure (.type "wrapper_descriptor") := by kernel_rfl
theorem wd_slot : Slot "wrapper_descriptor" "__get__" "wrapper_descriptor.__get__" :=
  .of (owner := "wrapper_descriptor") (n := "__get__") (by rw [typeLookup_type, builtinLookup_eq_fast]; kernel_rfl) (by decide +kernel) (by decide +kernel) (by decide +kernel) (by first | exact .inl (by decide +kernel) | exact .inr (by decide +kernel)) (by rw [isSubtype_type]; kernel_rfl)
theorem wd_entry : entryFor table "wrapper_descriptor.__get__" = some Builtin.«wrapper_descriptor.__get__» := entryFor_of_tree (by kernel_rfl)
theorem wd_args (a b c : Value) : argsOk "wrapper_descriptor.__get__" ⟨[a, b, c], []⟩ := by unfold argsOk; kernel_rfl

section
variable {prog : Program} {w : World} {M : Model} {A : Around} {E : Value → Shared → Prop} {h : Heap} {g : Array GenState} {d : Drawn} {t : Nat} {os : OsState}
/-- a slot of Exception, handed out by a super object -/
theorem sx_get {x C C' : Addr} {ox : Obj} {Q : Fin → Shared → Prop} (hx : h.get? x = some ox) (hxc : ox.cls = .ref C) (hi : Looks (model prog w) h (isSubtype (.ref C) (.type "Exception")) true)
    (hq : Q (.done (.ret (.ref h.objs.size))) ⟨h.push { cls := .type "method-wrapper", data := .fields #[.builtin "Exception.__init__", .ref x] }, g, d, t, os⟩) :
    wpAny (model prog w) A (Builtin.«wrapper_descriptor.__get__» ⟨[.builtin "Exception.__init__", .ref x, .ref C'], []⟩) Q E ⟨h, g, d, t, os⟩ := by
  have e0 : (".".intercalate ("Exception.__init__".cutAt '.').dropLast) = "Exception" := by decide +kernel
  unfold Builtin.«wrapper_descriptor.__get__»
  repeat (first
    | wp_step
    | dsimp only)
  rw [hxc, e0]
  refine Looks.at hi ?_
  repeat (first
    | wp_step
    | dsimp only)
  exact hq

theorem sx_super_ga {so D x C : Addr} {ox : Obj} {l₀ l : List Value} {K : Frag} {name : Str} {tk : Tok} {Q : Fin → Shared → Prop}
    (hso : h.get? so = some { cls := .type "super", dict := none, data := .fields #[.ref D, .ref x, .ref C], slots := #[] }) (hno : Looks (model prog w) h (opaqueClassAbove (.ref C)) none)
    (hC : Looks (model prog w) h (mroOf (.ref C)) l₀) (hl : (l₀.dropWhile (· != .ref D)).drop 1 = l) (X : K.In h)
    (hf : alongIn K name l = some (some (.builtin "Exception.__init__"))) (hx : h.get? x = some ox) (hxc : ox.cls = .ref C) (hi : Looks (model prog w) h (isSubtype (.ref C) (.type "Exception")) true) (hxC : x ≠ C) (hn : (name == ("__class__" : Str)) = false)
    (hq : Q (.done (.ret (.ref h.objs.size))) ⟨h.push { cls := .type "method-wrapper", data := .fields #[.builtin "Exception.__init__", .ref x] }, g, d, t, os⟩) :
    wpAny (model prog w) A (Builtin.«super.__getattribute__» ⟨[.ref so, .str name tk], []⟩) Q E ⟨h, g, d, t, os⟩ := by
  have hlk := wd_slot.lookup
  have hne : (Value.ref x == Value.ref C) = false := by simp [hxC]
  have hT : (⟨h, g, d, t, os⟩ : Shared).TypeIs (.builtin "Exception.__init__") "wrapper_descriptor" := wd_type
  have hdt : ({ cls := .type "super", dict := none, data := .fields #[.ref D, .ref x, .ref C], slots := #[] } : Obj).data = .fields #[.ref D, .ref x, .ref C] := rfl
  have f0 : (#[.ref D, .ref x, .ref C] : Array Value)[0]? = some (.ref D) := rfl
  have f1 : (#[.ref D, .ref x, .ref C] : Array Value)[1]? = some (.ref x) := rfl
  have f2 : (#[.ref D, .ref x, .ref C] : Array Value)[2]? = some (.ref C) := rfl
  unfold Builtin.«super.__getattribute__»
  repeat (first
    | (with_reducible refine wpAny_field hso hdt f0 ?_) | (with_reducible refine wpAny_field hso hdt f1 ?_) | (with_reducible refine wpAny_field hso hdt f2 ?_)
    | (with_reducible refine ks_wpAny_notOpaque hno ?_)
    | (with_reducible refine Looks.at hC ?_; rw [hl])
    | (refine ks_forIn_along X (fun _ _ => rfl) rfl ?_ hf)
    | (with_reducible refine wpAny_typeOf hT ?_)
    | (with_reducible refine wpAny_call_entry wd_slot hT wd_entry ?_ (wd_args _ _ _))
    | (with_reducible refine sx_get hx hxc hi ?_)
    | (with_reducible refine ⟨_, rfl, ?_⟩)
    | (simp only [hn, hne, Bool.or_false, Bool.false_eq_true, if_false])
    | wp_step
    | dsimp only)
  all_goals exact hq

theorem sx_getMethod {so D x C : Addr} {ox : Obj} {l₀ l : List Value} {K : Frag} {name : Str} {pl : Sem Bool} {Q : Value × List Value → Shared → Prop}
    (hso : h.get? so = some { cls := .type "super", dict := none, data := .fields #[.ref D, .ref x, .ref C], slots := #[] }) (hno : Looks (model prog w) h (opaqueClassAbove (.ref C)) none)
    (hC : Looks (model prog w) h (mroOf (.ref C)) l₀) (hl : (l₀.dropWhile (· != .ref D)).drop 1 = l) (X : K.In h)
    (hf : alongIn K name l = some (some (.builtin "Exception.__init__"))) (hx : h.get? x = some ox) (hxc : ox.cls = .ref C) (hi : Looks (model prog w) h (isSubtype (.ref C) (.type "Exception")) true) (hxC : x ≠ C) (hn : (name == ("__class__" : Str)) = false)
    (hq : Q (.ref h.objs.size, []) ⟨h.push { cls := .type "method-wrapper", data := .fields #[.builtin "Exception.__init__", .ref x] }, g, d, t + 1, os⟩) :
    wpAny (model prog w) A (getMethod (.ref so) name pl) Q E ⟨h, g, d, t, os⟩ := by
  have hlk := F.ks_slot_super_ga.lookup
  have hcan := F.ks_canon_super_ga
  have hT : ∀ t', (⟨h, g, d, t', os⟩ : Shared).TypeIs (.ref so) "super" := fun _ => ⟨_, hso, rfl⟩
  unfold getMethod
  refine wpAny_bind (wpAny_specialOf (hT _) hlk ?_)
  show wpAny _ _ (if (Manifest.canonical "super.__getattribute__" != "object.__getattribute__") = true then _ else _) _ _ _
  rw [if_pos hcan]
  unfold getAttr getAttrBy
  refine wpAny_bind (wpAny_bind (wpAny_mkText (wpAny_holding (wpAny_bind (wpAny_typeOf (hT _) (wpAny_bind (wpAny_of_eq hlk ?_)))))))
  show wpAny _ _ (getAttrByItsOwn (.ref so) (.str name t) (.type "super") (.builtin "super.__getattribute__") true false) _ _ _
  unfold getAttrByItsOwn hookBefore callGetattribute boundAndCalled
  refine wpAny_bind (wpAny_of_eq (show (if onTheHeap (.type "super") then typeLookup (.type "super") "__getattr__" else pure none) = pure none from rfl) ?_)
  refine wpAny_bind (wpAny_attempt (wpAny_holding ?_))
  show wpAny _ _ (bindSpecial (.builtin "super.__getattribute__") (.ref so) >>= _) _ _ _
  refine wpAny_bind (wpAny_of_eq (F.ks_slot_super_ga.bind _) ?_)
  refine wpAny_mono (Q := fun v s' => v = .ref h.objs.size ∧ s' = ⟨h.push { cls := .type "method-wrapper", data := .fields #[.builtin "Exception.__init__", .ref x] }, g, d, t + 1, os⟩) (E := fun _ _ => False)
    (wpAny_call_entry F.ks_slot_super_ga (hT _) F.ks_entry_super_ga (sx_super_ga hso hno hC hl X hf hx hxc hi hxC hn ⟨_, rfl, rfl, rfl⟩) (F.ks_gaArgs_super _ _)) (fun v s' hv => ?_) fun _ _ z => z.elim
  obtain ⟨rfl, rfl⟩ := hv
  exact wpAny_pure (wpAny_pure hq)

end
end Mine

-- X2
namespace Mine
section
variable {prog : Program} {w : World} {A : Around} {E : Value → Shared → Prop}
theorem sx_base {s : Shared} {e t0 : Addr} {ob : Obj} {vs : Array Value} {rest : List Value} {Q : Fin → Shared → Prop} (he : s.heap.get? e = some ob) (hd : ob.data = .fields vs) (h0 : vs[0]? = some (.ref t0)) (hl : rest.length ≤ sizeLine)
    (h : Q (.done (.ret .none)) { s with heap := (s.heap.push { cls := .type "tuple", data := .seq rest.toArray }).update e (Obj.mapFields (·.setIfInBounds 0 (.ref s.heap.objs.size))) }) :
    wpAny (model prog w) A (Builtin.«BaseException.__init__» ⟨.ref e :: rest, []⟩) Q E s := by
  unfold Builtin.«BaseException.__init__»
  dsimp only
  rw [if_neg (by simp)]
  unfold newTuple Builtin.BaseException.bexcPut
  have hsz : 0 < vs.size := (Array.getElem?_eq_some_iff.mp h0).1
  have he₁ := Heap.get?_push_of_some (h := s.heap) { cls := .type "tuple", data := .seq rest.toArray } he
  refine wpAny_bind (wpAny_newObj_type (wpAny_bind (wpAny_bind (wpAny_field he₁ hd h0 (wpAny_bind (wpAny_setField he₁ hd hsz ?_))))) (by show rest.toArray.size ≤ sizeLine; simpa using hl))
  exact wpAny_letGo (wpAny_pure h)

variable {nm qn : Str} {C N : Addr} {bs bm : List Value} {hdct : Bool} {sn : List Str} {sub : List Value} {ab : Bool} {col : Option Bool} {dd : Option Addr} {k0 k1 k2 k3 k5 : Option Value} {newId : String}
theorem sx_call {q x t0 : Addr} {ox : Obj} {vs : Array Value} {rest : List Value} {Q : Value → Shared → Prop} {h : Heap} {g : Array GenState} {d : Drawn} {t : Nat} {os : OsState}
    (hC : h.get? C = some (excClassObj nm qn C N bs bm hdct sn sub ab col dd k0 k1 k2 k3 k5 newId)) (hb : bm.contains (.type "Exception") = true)
    (hq : h.get? q = some { cls := .type "method-wrapper", dict := none, data := .fields #[.builtin "Exception.__init__", .ref x], slots := #[] })
    (hx : h.get? x = some ox) (hxc : ox.cls = .ref C) (hd : ox.data = .fields vs) (h0 : vs[0]? = some (.ref t0)) (hl : rest.length ≤ sizeLine)
    (k : Q .none ⟨(h.push { cls := .type "tuple", data := .seq rest.toArray }).update x (Obj.mapFields (·.setIfInBounds 0 (.ref h.objs.size))), g, d, t, os⟩) :
    wpAny (model prog w) A (call (.ref q) rest) Q E ⟨h, g, d, t, os⟩ := by
  have FB := PySem.F.excBase_Exception
  have hcB : (Value.ref C :: bm).contains (.type "Exception") = true := by rw [List.contains_cons, hb, Bool.or_true]
  refine wpAny_call (codeAny_of_tree ?_)
  show wpAny _ _ (callAny (.ref q) _) _ _ _
  unfold callAny
  refine wpAny_bind (wpAny_load hq ?_)
  dsimp only
  repeat (first
    | (with_reducible refine wpAny_loadPart_at hx ?_; rw [hxc])
    | with_reducible refine wpAny_loadPart_at hC ?_
    | (with_reducible refine wpAny_isSubtype_exc hC ?_; rw [hcB])
    | rw [hxc]
    | wp_step
    | dsimp only)
  refine wpAny_onRaise ?_
  rw [show ∀ (a b : String) (n : Nat), Bind.check ⟨.positional, "*", "Exception", .self, [⟨"args", .varPos, false⟩]⟩ a b n (List.map (fun x => x.fst) ([] : List (Str × Value))) = pure () from
    fun a b n => check_star_args _ _ _ _ _ _]
  refine wpAny_pure (wpAny_pure ⟨Code.quiet_builtin _ (by decide +kernel), ?_⟩)
  exact codeAny_builtin FB.initEntry (sx_base hx hd h0 hl k)
end
end Mine

-- X3
namespace Mine
section
variable {M : Model} {A : Around} {E : Value → Shared → Prop} {env : Env}
variable {nm q : Str} {C N : Addr} {bs bm : List Value} {hdct : Bool} {sn : List Str} {sub : List Value} {ab : Bool} {col : Option Bool} {dd : Option Addr} {k0 k1 k2 k3 k5 : Option Value} {newId : String}
theorem raise_ownO {s : Shared} {x : Sem Value} {Q : Flow → Shared → Prop} (hbase : bm.contains (.type "BaseException") = true) (hh : A.handled = none)
    (h : wpAny M A x (fun v s₁ => ∃ e t dx, v = .ref e ∧ s₁.heap.get? C = some (excClassObj nm q C N bs bm hdct sn sub ab col dd k0 k1 k2 k3 k5 newId) ∧
      s₁.heap.get? e = some { cls := .ref C, dict := dx, data := .fields #[.ref t, .none, .none, .none, .bool false, .none] } ∧ E (.ref e) s₁) E s) :
    wpAny M A (raiseStmt env (some x) none) Q E s := by
  have hcB : (Value.ref C :: bm).contains (.type "BaseException") = true := by rw [List.contains_cons, hbase, Bool.or_true]
  unfold raiseStmt
  refine wpAny_bind (wpAny_mono h (fun v s₁ h₁ => ?_) fun _ _ x => x)
  obtain ⟨e, t, dx, rfl, hC, he, hE⟩ := h₁
  obtain ⟨hp, g, d, tk, os⟩ := s₁
  repeat (first | with_reducible refine wpAny_loadPart_at he ?_ | with_reducible refine wpAny_loadPart_at hC ?_ | (with_reducible refine wpAny_isSubtype_exc hC ?_; rw [hcB]) | wp_step)
  exact wpAny_raiseNew_none hh hE
end

section
variable {prog : Program} {w : World} {A : Around} {E : Value → Shared → Prop} {s : Shared} {env : Env} {h : Heap}
variable {nm q : Str} {C N : Addr} {bs bm bmB : List Value} {hdct : Bool} {sn : List Str} {sub : List Value} {ab : Bool} {col : Option Bool} {dd : Option Addr} {k0 k1 k2 k3 k5 : Option Value} {B newId initId : String}
theorem Raise_ownI {x : Str} {np cpos pos : Pos} {args : List Expr} {Q : Flow → Shared → Prop}
    (hbase : bm.contains (.type "BaseException") = true) (hh : A.handled = none) (hplain : (backTo cpos (starEach args env)).any (·.1) = false)
    (h : wpAny (model prog w) A (eval (.Name x np) env) (fun f s₁ => f = .ref C ∧ wpAny (model prog w) A (evalArgs (.ref C) true (backTo cpos (starEach args env)) [])
      (fun a s₂ => a.kw = [] ∧ s₂.heap.get? C = some (excClassObj nm q C N bs bm hdct sn sub ab col dd k0 k1 k2 k3 k5 newId) ∧
        wpAny (model prog w) A (call (.ref C) a.pos) (fun v s₃ => ∃ e t dx, v = .ref e ∧ s₃.heap.get? C = some (excClassObj nm q C N bs bm hdct sn sub ab col dd k0 k1 k2 k3 k5 newId) ∧ s₃.heap.get? e = some { cls := .ref C, dict := dx, data := .fields #[.ref t, .none, .none, .none, .bool false, .none] } ∧ E (.ref e) s₃) E s₂) E s₁) E s) :
    wpAny (model prog w) A (exec (.Raise (some (.Call (.Name x np) args [] cpos)) none pos) env) Q E s := by
  rw [arm_exec_Raise]
  simp only [evalOpt, Option.map]
  refine wpAny_bind (wpAny_standAt (raise_ownO (C := C) (nm := nm) (q := q) (N := N) (bs := bs) (bm := bm) (hdct := hdct) (sn := sn) (sub := sub) (ab := ab) (col := col) (dd := dd) (k0 := k0) (k1 := k1) (k2 := k2) (k3 := k3) (k5 := k5) (newId := newId) hbase hh ?_))
  refine wpAny_bind (wpAny_mono (wpAny_Call_ofName (wpAny_mono h (fun f s₁ h₁ => ?_) fun _ _ x => x)) (fun v s₃ h₃ => wpAny_bind (wpAny_standAt (wpAny_pure h₃))) fun _ _ x => x)
  obtain ⟨rfl, h₁⟩ := h₁
  unfold callWith
  refine wpAny_bind (wpAny_holding (wpAny_mono h₁ (fun a s₂ h₂ => wpAny_bind (wpAny_standAt ?_)) fun _ _ x => x))
  obtain ⟨apos, akw⟩ := a
  obtain ⟨hkw, hC, h₂⟩ := h₂
  obtain rfl : akw = [] := hkw
  obtain ⟨hp, g, d, tk, os⟩ := s₂
  simp only [hplain]
  refine wpAny_bind (wpAny_keeperOf_exc hC ?_)
  refine wpAny_bind (wpAny_mono h₂ (fun v s₃ h₃ => wpAny_bind (wpAny_holding (wpAny_point (wpAny_pure h₃)))) fun _ _ x => x)

/-- an object of an own exception class, whose __init__ is a def of the text's own -/
theorem type_call_I (F : ExcBaseFacts B newId initId bmB) (T : OwnTail h bmB bm) {mN : Str → Option Value} {fI : Addr} {K : Frag} {rest : List Value} {Q : Fin → Shared → Prop} {g : Array GenState} {d : Drawn} {t : Nat} {os : OsState}
    (hC : h.get? C = some (excClassObj nm q C N bs bm hdct sn sub ab col dd k0 k1 k2 k3 k5 newId)) (hn : h.Ns N mN) (hni : mN "__init__" = some (.ref fI)) (X : K.In h) (hf : typeIn K (.ref fI) = some (.type "function"))
    (hq : wpAny (model prog w) A (call (.ref fI) (.ref (h.objs.size + 1) :: rest)) (fun v s' => v = .none ∧ Q (.done (.ret (.ref (h.objs.size + 1)))) s') E
      ⟨(h.push { cls := .type "tuple", data := .seq rest.toArray }).push { cls := .ref C, data := .fields #[.ref h.objs.size, .none, .none, .none, .bool false, .none] }, g, d, t, os⟩) (hrest : rest.length ≤ sizeLine) :
    wpAny (model prog w) A (Builtin.«type.__call__» ⟨.ref C :: rest, []⟩) Q E ⟨h, g, d, t, os⟩ := by
  repeat (first | with_reducible refine wpAny_loadPart_at hC ?_ | with_reducible refine wpAny_madeBy_exc hC ?_ | wp_step)
  refine codeAny_call_builtin_code (Code.quiet_builtin _ F.quiet) (wpAny_check_new_subT F T hC ?_)
  refine codeAny_exc_new_subT F T hC ?_ hrest
  show wpAny _ _ _ _ _ _
  have hC₁ := Heap.get?_push_of_some { cls := .ref C, data := .fields #[.ref h.objs.size, .none, .none, .none, .bool false, .none] }
    (Heap.get?_push_of_some { cls := .type "tuple", data := .seq rest.toArray } hC)
  have hn₁ : ((h.push { cls := .type "tuple", data := .seq rest.toArray }).push { cls := .ref C, data := .fields #[.ref h.objs.size, .none, .none, .none, .bool false, .none] }).Ns N mN :=
    let ⟨o, es, ep, e, r⟩ := hn; ⟨o, es, ep, Heap.get?_push_of_some _ (Heap.get?_push_of_some _ e), r⟩
  have hget : ((h.push { cls := .type "tuple", data := .seq rest.toArray }).push
      { cls := .ref C, data := .fields #[.ref h.objs.size, .none, .none, .none, .bool false, .none] }).get? (h.objs.size + 1) = some
      { cls := .ref C, data := .fields #[.ref h.objs.size, .none, .none, .none, .bool false, .none] } := by heap_get
  have hcC : (Value.ref C :: bm).contains (.ref C) = true := by simp
  have kp : h.StaysIn ((h.push { cls := .type "tuple", data := .seq rest.toArray }).push { cls := .ref C, data := .fields #[.ref h.objs.size, .none, .none, .none, .bool false, .none] }) := fun b o e => Heap.get?_push_of_some _ (Heap.get?_push_of_some _ e)
  have T₁ := T.keeps kp
  have X₁ := X.keeps kp
  unfold isInstance
  repeat (first | with_reducible refine wpAny_loadPart_at hget ?_ | (with_reducible refine wpAny_isSubtype_exc hC₁ ?_; rw [hcC]) | wp_step)
  show wpAny _ _ (typeLookup (.ref C) _) _ _ _
  refine wpAny_typeLookup_tail hC₁ hn₁ T₁ F.mroIs F.init.lookup ?_
  rw [hni]
  refine wpAny_holding (wpAny_bind (Looks.at (bind_fn X₁ (.ref (h.objs.size + 1)) hf) ?_))
  refine wpAny_bind (wpAny_mono hq (fun v s' hv => ?_) fun _ _ x => x)
  obtain ⟨rfl, hv⟩ := hv
  obtain ⟨hp, g', d', t', os'⟩ := s'
  repeat (first | wp_step | dsimp only)

  exact hv
end
end Mine

-- X4
namespace Mine
section
variable {prog : Program} {w : World} {A : Around} {E : Value → Shared → Prop} {s : Shared} {env : Env} {h : Heap}
variable {nm q : Str} {C N : Addr} {bs bm bmB : List Value} {hdct : Bool} {sn : List Str} {sub : List Value} {ab : Bool} {col : Option Bool} {dd : Option Addr} {k0 k1 k2 k3 k5 : Option Value} {B newId initId : String}
theorem call_I (F : ExcBaseFacts B newId initId bmB) (T : OwnTail h bmB bm) {mN : Str → Option Value} {fI : Addr} {K : Frag} {rest : List Value} {Q : Value → Shared → Prop} {g : Array GenState} {d : Drawn} {t : Nat} {os : OsState}
    (hC : h.get? C = some (excClassObj nm q C N bs bm hdct sn sub ab col dd k0 k1 k2 k3 k5 newId)) (hn : h.Ns N mN) (hni : mN "__init__" = some (.ref fI)) (X : K.In h) (hf : typeIn K (.ref fI) = some (.type "function"))
    (hq : wpAny (model prog w) (A.under (.builtin "type.__call__" ⟨.ref C :: rest, []⟩)) (call (.ref fI) (.ref (h.objs.size + 1) :: rest)) (fun v s' => v = .none ∧ Q (.ref (h.objs.size + 1)) s') E
      ⟨(h.push { cls := .type "tuple", data := .seq rest.toArray }).push { cls := .ref C, data := .fields #[.ref h.objs.size, .none, .none, .none, .bool false, .none] }, g, d, t, os⟩) (hrest : rest.length ≤ sizeLine) :
    wpAny (model prog w) A (call (.ref C) rest) Q E ⟨h, g, d, t, os⟩ := by
  have f1 := tc_lookup
  have f2 := tc_bind (.ref C)
  have hT : (⟨h, g, d, t, os⟩ : Shared).TypeIs (.ref C) "type" := ⟨_, hC, rfl⟩
  refine wpAny_call (codeAny_of_tree ?_)
  show wpAny _ _ (callAny (.ref C) _) _ _ _
  repeat (any_goals (first | assumption | with_reducible refine wpAny_loadPart_at hC ?_ | wp_step))
  refine ⟨rfl, ?_⟩
  refine codeAny_call_builtin_at (Code.quiet_builtin _ (by decide +kernel)) entry_typeCall (wpAny_check_type_call_sub hC ?_)
  exact type_call_I F T hC hn hni X hf hq hrest
end
end Mine

-- X5
namespace Mine
theorem sx_refuse (self : Value) (a b : Addr) : refuseLoop self "__setattr__" [.ref a, .ref b, .type "Exception", .type "BaseException", .type "object"] = pure () := by
  rw [refuseLoop_ref, refuseLoop_ref]
  kernel_rfl
section
variable {prog : Program} {w : World} {A : Around} {E : Value → Shared → Prop} {K : Frag}
theorem sx_set {h : Heap} {g : Array GenState} {d : Drawn} {t : Nat} {os : OsState} {x C b : Addr} {vs : Array Value} {cd : ClassData} {name : Str} {v : Value} {Q : Unit → Shared → Prop} (X : K.In h) (hx : h.get? x = some ⟨.ref C, none, .fields vs, #[]⟩)
    (hs : findIn K (.ref C) "__setattr__" = some (some (.builtin "object.__setattr__"))) (ht : findIn K (.ref C) name = some none) (hc : clsIn K C = some cd) (hm : cd.mro = [.ref C, .ref b, .type "Exception", .type "BaseException", .type "object"]) (hh : cd.hasDict = true)
    (k : ∀ h' dx tk, h'.get? x = some ⟨.ref C, some dx, .fields vs, #[]⟩ → (∀ b o, b ≠ x → h.get? b = some o → h'.get? b = some o) → Q () ⟨h', g, d, tk, os⟩) :
    wpAny (model prog w) A (setAttr (.ref x) name v) Q E ⟨h, g, d, t, os⟩ := by
  have I : InstAt h x ⟨.ref C, none, .fields vs, #[]⟩ C none := ⟨hx, rfl, rfl, trivial⟩
  refine set_plain (s := ⟨h, g, d, t, os⟩) X I hs ?_
  have SF := PySem.F.store_object
  have ne : cd.mro.isEmpty = false := by rw [hm]; rfl
  have sub : Looks (model prog w) h (isInstance (.ref x) (.type "object")) true := I.type.andThen (looks_mroIn X (by unfold mroIn; rw [hc, Option.bind_some, if_neg (by rw [ne]; decide), hm]; rfl))
  refine codeAny_call_builtin SF.slot.plain SF.entry (@check_slot (model prog w) _ _ ⟨h, g, d, t + 1, os⟩ "object.__setattr__" "object" "__setattr__" (.ref x) [.str name t, v] [] _ SF.kind SF.split sub (SF.args (.ref x) (.str name t) v) ?_)
  have hmm : Looks (model prog w) h (mroOf (.ref C)) cd.mro := (looks_clsIn X hc).andThen .now
  rw [osa_eq, refuse_eq]
  refine wpAny_bind (wpAny_bind (I.type.here (wpAny_bind (hmm.here ?_))))
  rw [hm, sx_refuse]
  refine wpAny_pure (wpAny_bind (I.type.here (wpAny_bind ((looks_findIn X ht).here (wpAny_bind (wpAny_pure ?_))))))
  dsimp only
  refine wpAny_bind (wpAny_pure (wpAny_bind (wpAny_bind (wpAny_loadPart hx (wpAny_bind ((looks_clsIn X hc).here ?_))))))
  rw [hh]
  show wpAny _ _ (alloc { cls := Value.type "dict", data := Data.dict #[] } >>= fun d => update x (fun o => { o with dict := some d }) >>= fun _ => dictMade (.ref C) x d) _ _ _
  have hx1 := Heap.get?_push_of_some { cls := Value.type "dict", data := Data.dict #[] } hx
  refine wpAny_bind (wpAny_alloc (wpAny_bind (wpAny_update hx1 ?_)))
  refine wpAny_pure ?_
  dsimp only
  have hlt := Heap.lt_size hx
  have hx2 : ((h.push { cls := Value.type "dict", data := Data.dict #[] }).update x (fun o => { o with dict := some h.objs.size })).get? x = some ⟨.ref C, some h.objs.size, .fields vs, #[]⟩ := Heap.get?_update_self _ hx1 rfl
  have D : ((h.push { cls := Value.type "dict", data := Data.dict #[] }).update x (fun o => { o with dict := some h.objs.size })).get? h.objs.size = some { cls := Value.type "dict", data := Data.dict #[] } := by
    rw [Heap.get?_update_other _ _ (Nat.ne_of_lt hlt)]
    exact Heap.get?_push_size _ rfl
  refine wpAny_bind (wpAny_pure (wpAny_bind ?_))
  unfold nsSet
  refine wpAny_bind (wpAny_bind (wpAny_askSetting (wpAny_pure (wpAny_bind (wpAny_mkText (wpAny_bind (wpAny_loadPart D ?_)))))))
  dsimp only
  rw [aRefKeyMayBeTheName_at, show (!(#[] : Array DictEntry).any (·.key.isStr name) && (#[] : Array DictEntry).any (·.refKey)) = false from by simp]
  refine wpAny_updatePart D ?_
  generalize hkh : (if name.cps.isEmpty = true then (0 : Int) else reduceHash ((model prog w).w.params.strHash name.cps)) = kh
  have e1 : Obj.putName name kh (Value.str name (t + 1)) v { cls := Value.type "dict", data := Data.dict #[] } = { cls := Value.type "dict", data := Data.dict #[⟨kh, Value.str name (t + 1), v⟩] 1 } := by
    rfl
  have D' := Heap.get?_update_self (Obj.putName name kh (Value.str name (t + 1)) v) D (by rw [e1]; rfl)
  rw [e1] at D'
  refine wpAny_bind (wpAny_lookBehind D' (pastItsLine_dict (by show 1 ≤ sizeLine + 1; omega)) ?_)
  refine wpAny_pure (k _ h.objs.size _ ?_ fun b o hb ho => ?_)
  · rw [Heap.get?_update_other _ _ (Nat.ne_of_gt hlt)]
    exact hx2
  · have hb2 : b < h.objs.size := Heap.lt_size ho
    rw [Heap.get?_update_other _ _ (Nat.ne_of_gt hb2), Heap.get?_update_other _ _ (Ne.symm hb)]
    exact Heap.get?_push_of_some _ ho
end
end Mine

-- X6
namespace Mine
theorem ns_some_of {K : Frag} {h : Heap} {N : Addr} {mg : Str → Option Value} {n : Str} {v : Value} (X : K.In h) (G : h.Ns N mg) (e : nsIn K N n = some (some v)) : mg n = some v := by
  obtain ⟨o, es, ep, ho, hd, _, hf⟩ := G
  unfold nsIn at e
  split at e
  · rename_i c d es' n' sl q
    have := X _ _ q
    rw [ho] at this
    cases this
    cases hd
    split at e
    · rename_i en he
      cases e
      rw [← hf]
      unfold nsFind findBy
      rw [← Array.find?_toList, he]
      rfl
    · split at e <;> cases e
  · cases e
def exTail : List Value := [.type "Exception", .type "BaseException", .type "object"]
/-- an own exception class of an own exception class of Exception, its __init__ a def at fI -/
def excInI (K : Frag) (C B fI : Addr) : Bool := match K.lookup C with
  | some ⟨.type "type", _, .cls cd, sl⟩ => cd.mro == .ref C :: .ref B :: exTail && !cd.hasDel && cd.hasDict && nsOkIn K cd.ns && nsIn K cd.ns "__init__" == some (some (.ref fI)) && (match sl.toList with
      | [_, _, _, _, some (.builtin n), _] => n == "Exception.__new__"
      | _ => false) && (match K.lookup B with
      | some ⟨_, _, .cls ca, _⟩ => nsOkIn K ca.ns && nsIn K ca.ns "__init__" == some none
      | _ => false)
  | _ => false
theorem sx_cls {K : Frag} {h : Heap} {C B fI : Addr} (X : K.In h) (q : excInI K C B fI = true) : ∃ nm qn N bs hdct sn sub ab col dd k0 k1 k2 k3 k5 cd,
    h.get? C = some (excClassObj nm qn C N bs (.ref B :: exTail) hdct sn sub ab col dd k0 k1 k2 k3 k5 "Exception.__new__") ∧ h.Ns N (h.nsMap N) ∧ h.nsMap N "__init__" = some (.ref fI) ∧ OwnTail h exTail (.ref B :: exTail) ∧
    clsIn K C = some cd ∧ cd.mro = .ref C :: .ref B :: exTail ∧ cd.hasDict = true := by
  unfold excInI at q
  split at q
  · rename_i dd cd sl ho
    simp only [Bool.and_eq_true, beq_iff_eq, Bool.not_eq_true'] at q
    obtain ⟨⟨⟨⟨⟨⟨hm, hdel⟩, hdict⟩, hok⟩, hin⟩, hsl⟩, hB⟩ := q
    have hc : clsIn K C = some cd := by unfold clsIn; rw [ho]
    split at hsl
    · rename_i k0 k1 k2 k3 n k5 hs
      have hsl2 : sl = #[k0, k1, k2, k3, some (.builtin n), k5] := by
        obtain ⟨l⟩ := sl
        simp only at hs
        rw [hs]
      have hn := beq_iff_eq.mp hsl
      subst hn
      subst hsl2
      split at hB
      · rename_i ca _ hoB
        simp only [Bool.and_eq_true, beq_iff_eq] at hB
        have hm0 := hm
        obtain ⟨nm, bs, mro, ns, qn, hd, sn, sub, ab, col, del⟩ := cd
        dsimp only at hm hdel hdict hok hin
        subst hm hdel
        exact ⟨nm, qn, ns, bs, hd, sn, sub, ab, col, dd, k0, k1, k2, k3, k5, _, X _ _ ho, .of_isNs (isNs_of_in X hok), ns_some_of X (.of_isNs (isNs_of_in X hok)) hin,
          .own (X _ _ hoB) (.of_isNs (isNs_of_in X hB.1)) (nsMap_none_of_in X hB.1 hB.2) .base, hc, rfl, hdict⟩
      · cases hB
    · cases hsl
  · cases q
end Mine

-- X7
namespace Mine
theorem exc46 (P : Params) : excInI (Mine.hd.heap_1 P) 46 24 43 = true := by kernel_rfl
/-- an exception object stands, and may be raised -/
structure ExMade (h₀ : Heap) (C : Addr) (E : Value → Shared → Prop) (v : Value) (s : Shared) : Prop where
  st : h₀.StaysIn s.heap
  ob : ∃ e t dx, v = .ref e ∧ s.heap.get? e = some { cls := .ref C, dict := dx, data := .fields #[.ref t, .none, .none, .none, .bool false, .none] } ∧ E (.ref e) s
section
variable {prog : Program} {w : World} {A : Around} {E : Value → Shared → Prop} {s : Shared} {name : Str} {scope : Scope} {L a : Addr} {cd : Value} {h₀ : Heap} {m mg mb : Str → Option Value} {K : Frag} {p : Program} {loose : List Str} {mean : ExcName → Option Value}
  {x : Str} {np cpos pos : Pos} {Q : Flow → Shared → Prop}
variable {nm q : Str} {C N : Addr} {bs bm : List Value} {hdct : Bool} {sn : List Str} {sub : List Value} {ab : Bool} {col : Option Bool} {dd : Option Addr} {k0 k1 k2 k3 k5 : Option Value} {newId : String}
theorem Raise_ownK {e₀ : Expr} {rest : List Expr} (hbase : bm.contains (.type "BaseException") = true) (hC : h₀.get? C = some (excClassObj nm q C N bs bm hdct sn sub ab col dd k0 k1 k2 k3 k5 newId)) (F : Fr h₀ L s.heap m) (X : K.In h₀) (T : Top p loose mean mg mb h₀)
    (ex : nsIn K mainGlobals x = some (some (.ref C))) (hh : A.handled = none)
    (h : wpAny (model prog w) A (spliced (backTo cpos (starEach (e₀ :: rest) (envOf name scope L a cd)))) (fun vs s₂ => h₀.StaysIn s₂.heap ∧
      wpAny (model prog w) A (call (.ref C) vs) (ExMade h₀ C E) E s₂) E s)
    (he : starEach (e₀ :: rest) (envOf name scope L a cd) = (false, eval e₀ (envOf name scope L a cd)) :: starEach rest (envOf name scope L a cd) := by rfl)
    (hplain : (backTo cpos (starEach rest (envOf name scope L a cd))).any (·.1) = false := by rfl)
    (hk : scope.kind = .function := by rfl) (hx : (envOf name scope L a cd).kindOf x = some .globalImplicit := by rfl) (hd : (x == ("__debug__" : Str)) = false := by decide) :
    wpAny (model prog w) A (exec (.Raise (some (.Call (.Name x np) (e₀ :: rest) [] cpos)) none pos) (envOf name scope L a cd)) Q E s := by
  refine Raise_ownI (C := C) (nm := nm) (q := q) (N := N) (bs := bs) (bm := bm) (hdct := hdct) (sn := sn) (sub := sub) (ab := ab) (col := col) (dd := dd) (k0 := k0) (k1 := k1) (k2 := k2) (k3 := k3) (k5 := k5) (newId := newId)
    hbase hh (by rw [he]; show (false || (backTo cpos (starEach rest (envOf name scope L a cd))).any (·.1)) = false; rw [hplain]; rfl) (name_K F X (topRead_of T) ex ⟨rfl, ?_⟩ hk hx hd)
  rw [he] at h ⊢
  refine Calls.evalArgs_plain (wpAny_mono h (fun vs s₂ h₂ => ⟨rfl, h₂.1 _ _ hC, ?_⟩) fun _ _ y => y)
  exact wpAny_mono h₂.2 (fun v s₃ h₃ => by
    obtain ⟨st, e, t, dx, rfl, he', hE⟩ := h₃
    exact ⟨e, t, dx, rfl, st _ _ hC, he', hE⟩) fun _ _ y => y
end
end Mine

-- X8
namespace Mine
abbrev wrapO (x : Addr) : Obj := { cls := .type "method-wrapper", data := .fields #[.builtin "Exception.__init__", .ref x] }
abbrev excO (C t : Addr) : Obj := { cls := .ref C, data := .fields #[.ref t, .none, .none, .none, .bool false, .none] }
section
variable {prog : Program} {w : World} {A : Around} {E : Value → Shared → Prop} {s : Shared} {h₀ : Heap} {L : Addr} {m mg mb : Str → Option Value} {news : List (Addr × Obj)} {K : Frag} {x C D so : Addr} {ox : Obj} {odx : Option Obj}
theorem sx_method {name : Str} {pl : Sem Bool} {Q : Value × List Value → Shared → Prop} (F : Fr h₀ L s.heap m) (X₀ : K.In h₀) (N : News h₀ L s.heap news) (hso : (so, ks_superObj D x C) ∈ news) (I : InstAt s.heap x ox C odx) (ho : nsIn K cStatics "thirdparty.any" = some none)
    (hm : ks_superIn K C D name = some (some (.builtin "Exception.__init__"))) (hi : mroIn K C (.type "Exception") = some true) (hn : (name == ("__class__" : Str)) = false)
    (h : ∀ q h', Fr h₀ L h' m → News h₀ L h' ((q, wrapO x) :: news) → (∀ p ∈ news, p.1 < q) → Q (.ref q, []) { s with heap := h', toks := s.toks + 1 }) : wpAny (model prog w) A (getMethod (.ref so) name pl) Q E s := by
  have X : K.In s.heap := X₀.keeps F.keep
  obtain ⟨hh, g, d, t, os⟩ := s
  cases hc : clsIn K C with
  | none => unfold ks_superIn at hm; rw [hc] at hm; cases hm
  | some cd =>
    unfold ks_superIn at hm
    rw [hc] at hm
    refine sx_getMethod (N _ hso).1 (looks_opaque X ho) (l₀ := cd.mro) ?_ rfl X hm I.at_ I.cls (looks_mroIn X hi) (ks_ne X I hc) hn ?_
    · exact fun A Q E s k q => wpAny_bind ((looks_clsIn X hc) A _ E s k (wpAny_pure q))
    · obtain ⟨F', N', l'⟩ := ks_newsPush (s := ⟨hh, g, d, t, os⟩) (o := wrapO x) F N rfl (Heap.get?_push_at rfl rfl) (fun b o e => Heap.get?_push_of_some _ e)
      exact h _ _ F' N' l'

variable {nm qn : Str} {N0 : Addr} {bs bm : List Value} {hdct : Bool} {sn : List Str} {sub : List Value} {ab : Bool} {col : Option Bool} {dd : Option Addr} {k0 k1 k2 k3 k5 : Option Value} {newId : String}
/-- a frame and its ledger when one object of the ledger is another -/
theorem fr_one {h h' : Heap} {o' : Obj} {keep : List (Addr × Obj)} (F : Fr h₀ L h m) (N : News h₀ L h ((x, ox) :: keep)) (hk : ∀ p ∈ keep, p.1 ≠ x) (hx : h'.get? x = some o') (k : ∀ b o, b ≠ x → h.get? b = some o → h'.get? b = some o) :
    Fr h₀ L h' m ∧ News h₀ L h' ((x, o') :: keep) := by
  obtain ⟨hx0, hxL, hxn⟩ := N _ (.head _)
  have hL : L ≠ x := fun e => hxL e.symm
  refine ⟨⟨F.ns.at' fun o e => k _ o hL e, fun b o e => k b o (fun q => ?_) (F.keep b o e), F.above⟩, fun p hp => ?_⟩
  · rw [q] at e; dsimp only at hxn; rw [hxn] at e; cases e
  · rcases List.mem_cons.mp hp with rfl | hp
    · exact ⟨hx, hxL, hxn⟩
    · exact ⟨k _ _ (hk p hp) (N p (.tail _ hp)).1, (N p (.tail _ hp)).2⟩
theorem sx_callN {q t0 : Addr} {rest : List Value} {Q : Value → Shared → Prop} {keep : List (Addr × Obj)} (hC : h₀.get? C = some (excClassObj nm qn C N0 bs bm hdct sn sub ab col dd k0 k1 k2 k3 k5 newId)) (hb : bm.contains (.type "Exception") = true)
    (F : Fr h₀ L s.heap m) (N : News h₀ L s.heap ((x, excO C t0) :: keep)) (hk : ∀ p ∈ keep, p.1 ≠ x) (hq : (q, wrapO x) ∈ keep) (hl : rest.length ≤ sizeLine)
    (k : ∀ T h', Fr h₀ L h' m → News h₀ L h' ((x, excO C T) :: keep) → Q .none { s with heap := h' }) :
    wpAny (model prog w) A (call (.ref q) rest) Q E s := by
  obtain ⟨hh, g, d, t, os⟩ := s
  have hx := (N _ (.head _)).1
  have hlt := Heap.lt_size hx
  refine sx_call (F.keep _ _ hC) hb (N _ (.tail _ hq)).1 hx rfl rfl rfl hl ?_
  have e1 := Heap.get?_update_self (Obj.mapFields (·.setIfInBounds 0 (.ref hh.objs.size))) (Heap.get?_push_of_some { cls := .type "tuple", data := .seq rest.toArray } hx) rfl
  obtain ⟨F', N'⟩ := fr_one (o' := excO C hh.objs.size) F N hk (h' := (hh.push { cls := .type "tuple", data := .seq rest.toArray }).update x (Obj.mapFields (·.setIfInBounds 0 (.ref hh.objs.size)))) e1
    (fun b o hb ho => by rw [Heap.get?_update_other _ _ (Ne.symm hb)]; exact Heap.get?_push_of_some _ ho)
  exact k _ _ F' N'
theorem sx_setN {name : Str} {v : Value} {B t0 : Addr} {cd : ClassData} {Q : Unit → Shared → Prop} {keep : List (Addr × Obj)} (X₀ : K.In h₀) (F : Fr h₀ L s.heap m) (N : News h₀ L s.heap ((x, excO C t0) :: keep)) (hk : ∀ p ∈ keep, p.1 ≠ x)
    (hs : findIn K (.ref C) "__setattr__" = some (some (.builtin "object.__setattr__"))) (ht : findIn K (.ref C) name = some none) (hc : clsIn K C = some cd) (hm : cd.mro = .ref C :: .ref B :: exTail) (hh : cd.hasDict = true)
    (k : ∀ h' dx tk, Fr h₀ L h' m → News h₀ L h' ((x, { excO C t0 with dict := some dx }) :: keep) → Q () { s with heap := h', toks := tk }) :
    wpAny (model prog w) A (setAttr (.ref x) name v) Q E s := by
  obtain ⟨h, g, d, t, os⟩ := s
  refine sx_set (X₀.keeps F.keep) (N _ (.head _)).1 hs ht hc hm hh fun h' dx tk hx hkp => ?_
  obtain ⟨F', N'⟩ := fr_one (o' := { excO C t0 with dict := some dx }) F N hk hx hkp
  exact k _ dx tk F' N'
/-- the ledger when an exception object was made -/
theorem made_news {h : Heap} {o1 : Obj} {C : Addr} (F : Fr h₀ L h m) (N : News h₀ L h news) : ∃ e t0, e = h.objs.size + 1 ∧ t0 = h.objs.size ∧
    Fr h₀ L ((h.push o1).push (excO C t0)) m ∧ News h₀ L ((h.push o1).push (excO C t0)) ((e, excO C t0) :: news) ∧ ∀ p ∈ news, p.1 ≠ e := by
  refine ⟨_, _, rfl, rfl, ?_⟩
  have kF1 := F.push o1
  have kF2 := kF1.push (excO C h.objs.size)
  refine ⟨kF2, fun p hp => ?_, fun p hp => Nat.ne_of_lt (Nat.lt_succ_of_lt (Heap.lt_size (N p hp).1))⟩
  rcases List.mem_cons.mp hp with rfl | hp
  · have e1 : ((h.push o1).push (excO C h.objs.size)).get? (h.objs.size + 1) = some (excO C h.objs.size) := Heap.get?_push_at (by rw [Heap.size_push]) rfl
    refine ⟨e1, fun q => ?_, ?_⟩
    · have := F.ns.lt
      rw [← q] at this
      exact absurd this (Nat.not_lt.mpr (Nat.le_succ _))
    · cases z : h₀.get? (h.objs.size + 1) with
      | none => rfl
      | some o => exact absurd (Heap.lt_size (F.keep _ _ z)) (Nat.not_lt.mpr (Nat.le_succ _))
  · exact ⟨Heap.get?_push_of_some _ (Heap.get?_push_of_some _ (N p hp).1), (N p hp).2⟩
theorem callWith_wrap {env : Env} {pos : Pos} {q : Addr} {ex : Expr} {rest : List Expr} {Q : Value → Shared → Prop}
    (h : wpAny (model prog w) A (spliced (backTo pos (starEach (ex :: rest) env))) (fun vs s₁ => s₁.heap.get? q = some (wrapO x) ∧ wpAny (model prog w) A (call (.ref q) vs) Q E s₁) E s)
    (he : starEach (ex :: rest) env = (false, eval ex env) :: starEach rest env := by rfl)
    (hplain : (backTo pos (starEach rest env)).any (·.1) = false := by rfl) :
    wpAny (model prog w) A (callWith pos (.ref q) [] (backTo pos (starEach (ex :: rest) env)) []) Q E s := by
  rw [he] at h ⊢
  have hst : ((backTo pos ((false, eval ex env) :: starEach rest env)).any (fun x => x.fst) || ([] : List (Option Str × Sem Value)).any fun x => x.fst.isNone) = false := by
    show ((false || (backTo pos (starEach rest env)).any (·.1)) || false) = false
    rw [hplain]; rfl
  unfold callWith
  refine wpAny_bind (wpAny_holding (Calls.evalArgs_plain (wpAny_mono h (fun vs s₁ h₁ => ?_) fun _ _ x => x)))
  obtain ⟨hh, g, d, t, os⟩ := s₁
  refine wpAny_bind (wpAny_standAt ?_)
  show wpAny _ _ (keeperOf (.ref q) >>= _) _ _ _
  unfold keeperOf
  refine wpAny_bind (wpAny_bind (wpAny_load h₁.1 (wpAny_pure ?_)))
  dsimp only
  rw [hst]
  show wpAny _ _ (call (.ref q) vs [] >>= fun r => do holding [r] point; pure r) _ _ _
  exact wpAny_bind (wpAny_mono h₁.2 (fun r s' hr => wpAny_bind (wpAny_holding (wpAny_point (wpAny_pure hr)))) fun _ _ x => x)
end
end Mine

-- P26
namespace Mine
section
variable {w : World} {p : Program} {loose : List Str} {mean : ExcName → Option Value} {mg mb : Str → Option Value}

set_option maxHeartbeats 4000000 in
theorem dlbad_spec (t : Tr) (g : Heap) (td : Tok) (d : Oct) (he : (enc t).length ≤ 1000000) (hdl : d.length = (enc t).length + 1) (hAt : At d 0 (enc t)) :
    CallR Challenge.rw_is0005_01.row.prog w (hd.heap_1 w.params) p loose mean mg mb 106 [.bytes d.toArray td] (dep t + 30) (8 * dep t + 300) g (.ref 46) := by
  have hd2 : d.length ≤ 1000001 := by omega
  have hd3 : d.toArray.size = d.length := List.size_toArray
  w_top off
  k_fill
  intro dp un gd base outer s Q E C st sz hdp hun exc
  have N : Led g s.heap [] := fun _ h => nomatch h
  have hXs := C.X.keeps st
  walk_at "MINE enter"
  clear hXs
  intro L' h' tk0 F' N' l1 B' X' T' CB'
  clear C
  replace F' : Fr g L' h' (fun y => List.lookup y [(Str.ofString "sedes", Value.none), (Str.ofString "rlp", Value.bytes d.toArray td)]) := F'
  dsimp only
  try k_fold
  (repeat' ((fail_if_success (with_reducible first | (show wpAny _ _ (PySem.eval _ _) _ _ _; first | show wpAny _ _ (PySem.eval (.ListComp _ _ _ _) _) _ _ _ | show wpAny _ _ (PySem.eval (.JoinedStr _ _) _) _ _ _) | (show wpAny _ _ (exec _ _) _ _ _; first | show wpAny _ _ (exec (.While _ _ _ _) _) _ _ _ | show wpAny _ _ (exec (.For _ _ _ _ _) _) _ _ _ | show wpAny _ _ (exec (.Raise (some (.Call _ _ _ _)) _ _) _) _ _ _ | show wpAny _ _ (exec (.Return (some (.Constant (.bool false) _ _)) _) _) _ _ _) | (show wpAny _ _ (PySem.call _ _) _ _ _; first | refine h_ref (by decide) ?_ | show wpAny _ _ (PySem.call (.type "IndexError") _) _ _ _) | show wpAny _ _ (pyIter _) (fun it s₂ => LoopAtV _ _ _ _ _ _ _ _ _ it s₂) _ _ | show wpAny _ _ (leaving _ _) _ _ _ | show wpAny _ _ (noteFrame _ _) _ _ _ | show wpAny _ _ (subscriptTail _ _ (.ref _) (.int _ _)) _ _ _)); (first | (k_unfold; (try dsimp only)) | walk1 | (dsimp only; walk1) | (leave1; walk_say "STEP leave1"; try dsimp only) | ((fail_if_success (show wpAny _ _ _ _ _ _)); dsimp only) | fail "no step")))
  rename Fr _ _ _ _ => kF
  rename News _ _ _ _ => kN
  refine useP B' CB' kF kN rfl rfl (fun g2 _ _ => cil_spec t g2 d 0 td _ hAt (by omega) he) (by walk_at "MINE room") (by walk_at "MINE room") ?_
  clear kF kN
  rintro r h2 tk2 tl2 kF kN hdx ⟨a, v, en, te, tl, rfl, rfl, hen, hv⟩
  have hen : en = ((enc t).length : Int) := by omega
  subst hen
  clear hv hdx
  replace kN := weak (l := [(a, tupO [v, .int ((enc t).length) te])]) kN (fun q hq => by rw [List.mem_singleton.mp hq]; exact .head _)
  dsimp only
  (repeat' ((fail_if_success (with_reducible first | (show wpAny _ _ (PySem.eval _ _) _ _ _; first | show wpAny _ _ (PySem.eval (.ListComp _ _ _ _) _) _ _ _ | show wpAny _ _ (PySem.eval (.JoinedStr _ _) _) _ _ _) | (show wpAny _ _ (exec _ _) _ _ _; first | show wpAny _ _ (exec (.While _ _ _ _) _) _ _ _ | show wpAny _ _ (exec (.For _ _ _ _ _) _) _ _ _ | show wpAny _ _ (exec (.Raise (some (.Call _ _ _ _)) _ _) _) _ _ _ | show wpAny _ _ (exec (.Return (some (.Constant (.bool false) _ _)) _) _) _ _ _) | (show wpAny _ _ (PySem.call _ _) _ _ _; first | refine h_ref (by decide) ?_ | show wpAny _ _ (PySem.call (.type "IndexError") _) _ _ _) | show wpAny _ _ (pyIter _) (fun it s₂ => LoopAtV _ _ _ _ _ _ _ _ _ it s₂) _ _ | show wpAny _ _ (leaving _ _) _ _ _ | show wpAny _ _ (noteFrame _ _) _ _ _ | show wpAny _ _ (subscriptTail _ _ (.ref _) (.int _ _)) _ _ _)); (first | (k_unfold; (try dsimp only)) | walk1 | (dsimp only; walk1) | (leave1; walk_say "STEP leave1"; try dsimp only) | ((fail_if_success (show wpAny _ _ _ _ _ _)); dsimp only) | fail "no step")))
  any_goals (exfalso; omega)
  rename Fr _ _ _ _ => kF
  rename News _ _ _ _ => kN
  obtain ⟨nm, qn, N0, bs, hdct, sn, sub, ab, col, dd, k0, k1, k2, k3, k5, cd, hC, hNs, hni, hT, hcd, hmro, hdict⟩ := sx_cls X' (exc46 w.params)
  refine Raise_ownK (C := 46) (bm := .ref 24 :: exTail) rfl hC kF X' T' (by k_is) rfl ?_
  (repeat' ((fail_if_success (with_reducible first | (show wpAny _ _ (PySem.eval _ _) _ _ _; first | show wpAny _ _ (PySem.eval (.ListComp _ _ _ _) _) _ _ _ | show wpAny _ _ (PySem.eval (.JoinedStr _ _) _) _ _ _) | (show wpAny _ _ (exec _ _) _ _ _; first | show wpAny _ _ (exec (.While _ _ _ _) _) _ _ _ | show wpAny _ _ (exec (.For _ _ _ _ _) _) _ _ _ | show wpAny _ _ (exec (.Raise (some (.Call _ _ _ _)) _ _) _) _ _ _ | show wpAny _ _ (exec (.Return (some (.Constant (.bool false) _ _)) _) _) _ _ _) | (show wpAny _ _ (PySem.call _ _) _ _ _; first | refine h_ref (by decide) ?_ | show wpAny _ _ (PySem.call (.type "IndexError") _) _ _ _) | show wpAny _ _ (pyIter _) (fun it s₂ => LoopAtV _ _ _ _ _ _ _ _ _ it s₂) _ _ | show wpAny _ _ (leaving _ _) _ _ _ | show wpAny _ _ (noteFrame _ _) _ _ _ | show wpAny _ _ (subscriptTail _ _ (.ref _) (.int _ _)) _ _ _)); (first | (k_unfold; (try dsimp only)) | walk1 | (dsimp only; walk1) | (leave1; walk_say "STEP leave1"; try dsimp only) | ((fail_if_success (show wpAny _ _ _ _ _ _)); dsimp only) | fail "no step")))
  · exact kF.keep
  rename Fr _ _ _ _ => kF
  rename News _ _ _ _ => kN
  refine call_I PySem.F.excBase_Exception (hT.keeps kF.keep) (kF.keep _ _ hC) (hNs.keeps kF.keep) hni (X'.keeps kF.keep) (by k_is) ?_ (by rw [sizeLine_eq]; show 2 ≤ 16777216; decide)
  obtain ⟨e, t0, ee, et, kF2, kN2, hne⟩ := made_news (C := 46) (o1 := { cls := .type "tuple", data := .seq [Value.str (Str.ofString "RLP length prefix announced wrong length") tk, Value.bytes d.toArray td].toArray }) kF kN
  rw [← ee, ← et]
  replace kN2 := weak (l := [(e, excO 46 t0)]) kN2 (fun q hq => by rw [List.mem_singleton.mp hq]; exact .head _)
  clear kN hne
  refine wpAny_call ?_
  ks_enter
  rename_i g4 L4 h4 FG4 F4 N4 B4 X4 T4 l4
  replace F4 : Fr g4 L4 h4 (fun y => List.lookup y [(Str.ofString "rlp", Value.bytes d.toArray td), (Str.ofString "message", Value.str (Str.ofString "RLP length prefix announced wrong length") tk), (Str.ofString "self", Value.ref e)]) := F4
  have I4 : InstAt h4 e (excO 46 t0) 46 none := ⟨(N4 _ (.head _)).1, rfl, rfl, trivial⟩
  refine ks_wpAt_execs_cons ?_
  refine ks_wpAt_Expr_any ?_
  refine ks_wpAt_MethodCall ?_
  k_dflt (refine ks_node F4 X4 N4 T4 (by k_is) (by rfl) (by rfl) I4 (by k_is) (by rfl) (by first | rfl | decide +kernel) (by k_is) (by k_is) (by k_is) (by k_is) (by decide) (by rfl) (by rfl) (by rfl) (by rfl) (by decide +kernel) (by first | boot_by_name | rfl | kernel_rfl) ?_)
  intro so5 h5 F5 N5 l5
  have I5 : InstAt h5 e (excO 46 t0) 46 none := ⟨(N5 _ (.tail _ (.head _))).1, rfl, rfl, trivial⟩
  k_dflt (refine' sx_method F5 X4 N5 (.head _) I5 ?k6 ?k7 ?k8 (by decide) ?_; (case k6 => k_is); (case k7 => ks_is); (case k8 => k_is))
  intro q5 h6 F6 N6 l6
  dsimp only
  refine callWith_wrap (x := e) ?_
  (repeat' ((fail_if_success (with_reducible first | (show wpAny _ _ (PySem.eval _ _) _ _ _; first | show wpAny _ _ (PySem.eval (.ListComp _ _ _ _) _) _ _ _ | show wpAny _ _ (PySem.eval (.JoinedStr _ _) _) _ _ _) | (show wpAny _ _ (exec _ _) _ _ _; first | show wpAny _ _ (exec (.While _ _ _ _) _) _ _ _ | show wpAny _ _ (exec (.For _ _ _ _ _) _) _ _ _ | show wpAny _ _ (exec (.Raise (some (.Call _ _ _ _)) _ _) _) _ _ _ | show wpAny _ _ (exec (.Return (some (.Constant (.bool false) _ _)) _) _) _ _ _) | (show wpAny _ _ (PySem.call _ _) _ _ _; first | refine h_ref (by decide) ?_ | show wpAny _ _ (PySem.call (.type "IndexError") _) _ _ _) | show wpAny _ _ (pyIter _) (fun it s₂ => LoopAtV _ _ _ _ _ _ _ _ _ it s₂) _ _ | show wpAny _ _ (leaving _ _) _ _ _ | show wpAny _ _ (noteFrame _ _) _ _ _ | show wpAny _ _ (subscriptTail _ _ (.ref _) (.int _ _)) _ _ _)); (first | (k_unfold; (try dsimp only)) | walk1 | (dsimp only; walk1) | (leave1; walk_say "STEP leave1"; try dsimp only) | ((fail_if_success (show wpAny _ _ _ _ _ _)); dsimp only) | fail "no step")))
  · exact (N6 _ (.head _)).1
  have hne5 : ∀ p ∈ [(q5, wrapO e), (so5, ks_superObj 46 e 46)], p.1 ≠ e := by
    intro p hp
    have a5 := l5 _ (.head _)
    have a6 := l6 _ (.tail _ (.head _))
    rcases List.mem_cons.mp hp with rfl | hp
    · exact Nat.ne_of_gt a6
    · rw [List.mem_singleton.mp hp]; exact Nat.ne_of_gt a5
  refine sx_callN (keep := [(q5, wrapO e), (so5, ks_superObj 46 e 46)]) (FG4.keep _ _ hC) rfl F6 (weak N6 (fun p hp => (List.mem_cons.mp hp).elim (fun h => h ▸ .tail _ (.tail _ (.head _))) fun hp => (List.mem_cons.mp hp).elim (fun h => h ▸ .head _) fun hp => (List.mem_singleton.mp hp) ▸ .tail _ (.head _))) hne5 (.head _) (by rw [sizeLine_eq]; show 1 ≤ 16777216; decide) ?_
  intro T7 h7 F7 N7
  dsimp only
  (repeat' ((fail_if_success (with_reducible first | (show wpAny _ _ (PySem.eval _ _) _ _ _; first | show wpAny _ _ (PySem.eval (.ListComp _ _ _ _) _) _ _ _ | show wpAny _ _ (PySem.eval (.JoinedStr _ _) _) _ _ _) | (show wpAny _ _ (exec _ _) _ _ _; first | show wpAny _ _ (exec (.While _ _ _ _) _) _ _ _ | show wpAny _ _ (exec (.For _ _ _ _ _) _) _ _ _ | show wpAny _ _ (exec (.Raise (some (.Call _ _ _ _)) _ _) _) _ _ _ | show wpAny _ _ (exec (.Return (some (.Constant (.bool false) _ _)) _) _) _ _ _) | (show wpAny _ _ (PySem.call _ _) _ _ _; first | refine h_ref (by decide) ?_ | show wpAny _ _ (PySem.call (.type "IndexError") _) _ _ _) | show wpAny _ _ (pyIter _) (fun it s₂ => LoopAtV _ _ _ _ _ _ _ _ _ it s₂) _ _ | show wpAny _ _ (leaving _ _) _ _ _ | show wpAny _ _ (noteFrame _ _) _ _ _ | show wpAny _ _ (subscriptTail _ _ (.ref _) (.int _ _)) _ _ _)); (first | (k_unfold; (try dsimp only)) | walk1 | (dsimp only; walk1) | (leave1; walk_say "STEP leave1"; try dsimp only) | ((fail_if_success (show wpAny _ _ _ _ _ _)); dsimp only) | fail "no step")))
  refine sx_setN X4 F7 N7 hne5 (by k_is) (by k_is) hcd hmro hdict ?_
  intro h8 dx tk8 F8 N8
  dsimp only
  (repeat' ((fail_if_success (with_reducible first | (show wpAny _ _ (PySem.eval _ _) _ _ _; first | show wpAny _ _ (PySem.eval (.ListComp _ _ _ _) _) _ _ _ | show wpAny _ _ (PySem.eval (.JoinedStr _ _) _) _ _ _) | (show wpAny _ _ (exec _ _) _ _ _; first | show wpAny _ _ (exec (.While _ _ _ _) _) _ _ _ | show wpAny _ _ (exec (.For _ _ _ _ _) _) _ _ _ | show wpAny _ _ (exec (.Raise (some (.Call _ _ _ _)) _ _) _) _ _ _ | show wpAny _ _ (exec (.Return (some (.Constant (.bool false) _ _)) _) _) _ _ _) | (show wpAny _ _ (PySem.call _ _) _ _ _; first | refine h_ref (by decide) ?_ | show wpAny _ _ (PySem.call (.type "IndexError") _) _ _ _) | show wpAny _ _ (pyIter _) (fun it s₂ => LoopAtV _ _ _ _ _ _ _ _ _ it s₂) _ _ | show wpAny _ _ (leaving _ _) _ _ _ | show wpAny _ _ (noteFrame _ _) _ _ _ | show wpAny _ _ (subscriptTail _ _ (.ref _) (.int _ _)) _ _ _)); (first | (k_unfold; (try dsimp only)) | walk1 | (dsimp only; walk1) | (leave1; walk_say "STEP leave1"; try dsimp only) | ((fail_if_success (show wpAny _ _ _ _ _ _)); dsimp only) | fail "no step")))
  rename Fr _ _ _ _ => kF
  rename News _ _ _ _ => kN
  obtain ⟨hx9, hxL, hxg⟩ := kN _ (.head _)
  dsimp only at hx9 hxL hxg
  have hLe : L' ≠ e := fun q => hxL q.symm
  have F9 : Fr g L' (hideAll h8 [e]) _ := ⟨kF.ns.at' fun o q => hideAll_get _ q (by simpa using hLe), fun b o q => hideAll_get _ (kF.keep b o q) (fun z => by rw [List.mem_singleton.mp z, hxg] at q; cases q), kF.above⟩
  refine ⟨kF.keep, e, T7, some dx, rfl, hx9, ?_⟩
  exact leave_any B' (h := hideAll h8 [e]) (fun b o q => of_hideAll _ q) (hideAll_none _ (List.mem_singleton.mpr rfl)) hx9 rfl rfl rfl rfl F9 (news := []) (fun _ h => nomatch h) (fun h3 R up c => exc _ _ _ R up)
end
end Mine

-- P30
set_option maxHeartbeats 4000000
namespace Mine
end Mine
local macro_rules | `(tactic| k_qdec) => `(tactic| decide +kernel)
namespace Mine
end Mine
open Mine in
theorem Mine.law_try : PySem.Challenge.rw_is0005_01.Holds := Mine.hd (by
  w_top off
  k_go0
  all_goals try k_fold
  (repeat' ((fail_if_success (with_reducible first | (show wpAny _ _ (PySem.eval _ _) _ _ _; first | show wpAny _ _ (PySem.eval (.ListComp _ _ _ _) _) _ _ _ | show wpAny _ _ (PySem.eval (.JoinedStr _ _) _) _ _ _) | (show wpAny _ _ (exec _ _) _ _ _; first | show wpAny _ _ (exec (.While _ _ _ _) _) _ _ _ | show wpAny _ _ (exec (.For _ _ _ _ _) _) _ _ _ | show wpAny _ _ (exec (.Raise (some (.Call _ _ _ _)) _ _) _) _ _ _ | show wpAny _ _ (exec (.Return (some (.Constant (.bool false) _ _)) _) _) _ _ _) | (show wpAny _ _ (PySem.call _ _) _ _ _; first | refine h_ref (by decide) ?_ | show wpAny _ _ (PySem.call (.type "IndexError") _) _ _ _) | show wpAny _ _ (pyIter _) (fun it s₂ => LoopAtV _ _ _ _ _ _ _ _ _ it s₂) _ _ | show wpAny _ _ (leaving _ _) _ _ _ | show wpAny _ _ (noteFrame _ _) _ _ _ | show wpAny _ _ (subscriptTail _ _ (.ref _) (.int _ _)) _ _ _)); (first | (k_unfold; (try dsimp only)) | walk1 | (dsimp only; walk1) | (leave1; walk_say "STEP leave1"; try dsimp only) | ((fail_if_success (show wpAny _ _ _ _ _ _)); dsimp only) | fail "no step")))
  rename_i w s0 s1 mg mb G Y fa o pm doc kV ho hg KX X V GL T B TE TW w1 w2 M w3 w4 hcd w5 hs hlay0 hLy hr hl2 y1 y2 y3 y4 y5 hL ra w1' r0 hI hr' hcond hcond2 K0 hD h₁ D1 ws h2 hI' hC' hL' l1 D2 c2 h3 F' N' l1'
  clear G Y ho X V GL B TE TW M hcd hs hlay0 hLy hr hl2 ra w1' r0 hr' hcond2 hD l1 l1'
  have CB : Cb (Mine.hd.heap_1 w.params) _ _ _ mg mb s1.heap [] s1.heap := ⟨KX, T, fun b hb => nomatch hb⟩
  have hwl : ws.length ≤ 1000 := by rw [hI'.length]; omega
  refine use0 [(D2, PySem.W.listOf ws.toArray c2)] [] K0 CB F' N' rfl rfl (fun q hq => by rw [List.mem_singleton.mp hq]; exact .head _) (fun _ h => nomatch h) (fun _ _ _ h => nomatch h) (fun g2 _ _ => li_all 5 0 rfl (by decide) g2 D2 ws _ c2 _ hI' hwl) (by walk_at "MINE room") (by walk_at "MINE room") ?_
  clear F' N' 
  rintro v h4 tk4 mt4 kF kN hd4 ⟨t, ws2, ns2, n2, tl, rfl, hI2, hl2, hit, hdt, hbt, hoff⟩
  clear hd4 hI2 hl2 hI' hC' hL' hwl
  rw [List.append_nil] at kN
  replace kN := weak (l := tl) kN (fun q hq => .tail _ hq)
  clear hoff ns2 ws2 
  have h5 : bnd 5 = 62804 := rfl
  have he : (enc t).length ≤ 1000000 := by omega
  dsimp only
  (repeat' ((fail_if_success (with_reducible first | (show wpAny _ _ (PySem.eval _ _) _ _ _; first | show wpAny _ _ (PySem.eval (.ListComp _ _ _ _) _) _ _ _ | show wpAny _ _ (PySem.eval (.JoinedStr _ _) _) _ _ _) | (show wpAny _ _ (exec _ _) _ _ _; first | show wpAny _ _ (exec (.While _ _ _ _) _) _ _ _ | show wpAny _ _ (exec (.For _ _ _ _ _) _) _ _ _ | show wpAny _ _ (exec (.Raise (some (.Call _ _ _ _)) _ _) _) _ _ _ | show wpAny _ _ (exec (.Return (some (.Constant (.bool false) _ _)) _) _) _ _ _) | (show wpAny _ _ (PySem.call _ _) _ _ _; first | refine h_ref (by decide) ?_ | show wpAny _ _ (PySem.call (.type "IndexError") _) _ _ _) | show wpAny _ _ (pyIter _) (fun it s₂ => LoopAtV _ _ _ _ _ _ _ _ _ it s₂) _ _ | show wpAny _ _ (leaving _ _) _ _ _ | show wpAny _ _ (noteFrame _ _) _ _ _ | show wpAny _ _ (subscriptTail _ _ (.ref _) (.int _ _)) _ _ _)); (first | (k_unfold; (try dsimp only)) | walk1 | (dsimp only; walk1) | (leave1; walk_say "STEP leave1"; try dsimp only) | ((fail_if_success (show wpAny _ _ _ _ _ _)); dsimp only) | fail "no step")))
  rename Fr _ _ _ _ => kF
  rename News _ _ _ _ => kN
  refine useP K0 CB kF kN rfl rfl (fun g2 _ hk => law_encoded_spec t g2 v (hit.mono fun _ _ x => x.toG hk) he) (by walk_at "MINE room") (by walk_at "MINE room") ?_
  clear kF kN
  rintro r h5 tk5 tl5 kF kN hd5 ⟨rfl, td, rfl⟩
  clear hd5
  rw [List.nil_append] at kN
  dsimp only
  (repeat' ((fail_if_success (with_reducible first | (show wpAny _ _ (PySem.eval _ _) _ _ _; first | show wpAny _ _ (PySem.eval (.ListComp _ _ _ _) _) _ _ _ | show wpAny _ _ (PySem.eval (.JoinedStr _ _) _) _ _ _) | (show wpAny _ _ (exec _ _) _ _ _; first | show wpAny _ _ (exec (.While _ _ _ _) _) _ _ _ | show wpAny _ _ (exec (.For _ _ _ _ _) _) _ _ _ | show wpAny _ _ (exec (.Raise (some (.Call _ _ _ _)) _ _) _) _ _ _ | show wpAny _ _ (exec (.Return (some (.Constant (.bool false) _ _)) _) _) _ _ _) | (show wpAny _ _ (PySem.call _ _) _ _ _; first | refine h_ref (by decide) ?_ | show wpAny _ _ (PySem.call (.type "IndexError") _) _ _ _) | show wpAny _ _ (pyIter _) (fun it s₂ => LoopAtV _ _ _ _ _ _ _ _ _ it s₂) _ _ | show wpAny _ _ (leaving _ _) _ _ _ | show wpAny _ _ (noteFrame _ _) _ _ _ | show wpAny _ _ (subscriptTail _ _ (.ref _) (.int _ _)) _ _ _)); (first | (k_unfold; (try dsimp only)) | walk1 | (dsimp only; walk1) | (leave1; walk_say "STEP leave1"; try dsimp only) | ((fail_if_success (show wpAny _ _ _ _ _ _)); dsimp only) | fail "no step")))
  rename Fr _ _ _ _ => kF
  rename News _ _ _ _ => kN
  refine useP K0 CB kF kN rfl rfl (fun g2 _ hk => dc_spec t g2 td he) (by walk_at "MINE room") (by walk_at "MINE room") ?_
  clear kF kN
  rintro r h5 tk5 tl5 kF kN hd5 hit5
  clear hd5
  dsimp only
  (repeat' ((fail_if_success (with_reducible first | (show wpAny _ _ (PySem.eval _ _) _ _ _; first | show wpAny _ _ (PySem.eval (.ListComp _ _ _ _) _) _ _ _ | show wpAny _ _ (PySem.eval (.JoinedStr _ _) _) _ _ _) | (show wpAny _ _ (exec _ _) _ _ _; first | show wpAny _ _ (exec (.While _ _ _ _) _) _ _ _ | show wpAny _ _ (exec (.For _ _ _ _ _) _) _ _ _ | show wpAny _ _ (exec (.Raise (some (.Call _ _ _ _)) _ _) _) _ _ _ | show wpAny _ _ (exec (.Return (some (.Constant (.bool false) _ _)) _) _) _ _ _) | (show wpAny _ _ (PySem.call _ _) _ _ _; first | refine h_ref (by decide) ?_ | show wpAny _ _ (PySem.call (.type "IndexError") _) _ _ _) | show wpAny _ _ (pyIter _) (fun it s₂ => LoopAtV _ _ _ _ _ _ _ _ _ it s₂) _ _ | show wpAny _ _ (leaving _ _) _ _ _ | show wpAny _ _ (noteFrame _ _) _ _ _ | show wpAny _ _ (subscriptTail _ _ (.ref _) (.int _ _)) _ _ _)); (first | (k_unfold; (try dsimp only)) | walk1 | (dsimp only; walk1) | (leave1; walk_say "STEP leave1"; try dsimp only) | ((fail_if_success (show wpAny _ _ _ _ _ _)); dsimp only) | fail "no step")))
  refine ne_item (t := t) (hit5.mono fun _ _ x => x.toG (fun q hq => (kN q (List.mem_append_left _ hq)).1)) (hit.mono fun _ _ x => x.toG (fun q hq => (kN q (List.mem_append_right _ hq)).1)) (by show callerA.units + 3 + dep t + 1 < cLine; walk_at "MINE room") ?_
  clear hit5
  replace kN := weak (l := tl) kN (fun q hq => List.mem_append_right _ hq)
  (repeat' ((fail_if_success (with_reducible first | (show wpAny _ _ (PySem.eval _ _) _ _ _; first | show wpAny _ _ (PySem.eval (.ListComp _ _ _ _) _) _ _ _ | show wpAny _ _ (PySem.eval (.JoinedStr _ _) _) _ _ _) | (show wpAny _ _ (exec _ _) _ _ _; first | show wpAny _ _ (exec (.While _ _ _ _) _) _ _ _ | show wpAny _ _ (exec (.For _ _ _ _ _) _) _ _ _ | show wpAny _ _ (exec (.Raise (some (.Call _ _ _ _)) _ _) _) _ _ _ | show wpAny _ _ (exec (.Return (some (.Constant (.bool false) _ _)) _) _) _ _ _) | (show wpAny _ _ (PySem.call _ _) _ _ _; first | refine h_ref (by decide) ?_ | show wpAny _ _ (PySem.call (.type "IndexError") _) _ _ _) | show wpAny _ _ (pyIter _) (fun it s₂ => LoopAtV _ _ _ _ _ _ _ _ _ it s₂) _ _ | show wpAny _ _ (leaving _ _) _ _ _ | show wpAny _ _ (noteFrame _ _) _ _ _ | show wpAny _ _ (subscriptTail _ _ (.ref _) (.int _ _)) _ _ _)); (first | (k_unfold; (try dsimp only)) | walk1 | (dsimp only; walk1) | (leave1; walk_say "STEP leave1"; try dsimp only) | ((fail_if_success (show wpAny _ _ _ _ _ _)); dsimp only) | fail "no step")))
  refine useP K0 CB kF kN rfl rfl (fun g2 _ hk => dl_spec t g2 td he) (by walk_at "MINE room") (by walk_at "MINE room") ?_
  clear kF kN
  rintro r h6 tk6 led kF kN hd6 hv
  obtain ⟨W, hW, hr⟩ := hv.world he
  clear hv
  dsimp only
  (repeat' ((fail_if_success (with_reducible first | (show wpAny _ _ (PySem.eval _ _) _ _ _; first | show wpAny _ _ (PySem.eval (.ListComp _ _ _ _) _) _ _ _ | show wpAny _ _ (PySem.eval (.JoinedStr _ _) _) _ _ _) | (show wpAny _ _ (exec _ _) _ _ _; first | show wpAny _ _ (exec (.While _ _ _ _) _) _ _ _ | show wpAny _ _ (exec (.For _ _ _ _ _) _) _ _ _ | show wpAny _ _ (exec (.Raise (some (.Call _ _ _ _)) _ _) _) _ _ _ | show wpAny _ _ (exec (.Return (some (.Constant (.bool false) _ _)) _) _) _ _ _) | (show wpAny _ _ (PySem.call _ _) _ _ _; first | refine h_ref (by decide) ?_ | show wpAny _ _ (PySem.call (.type "IndexError") _) _ _ _) | show wpAny _ _ (pyIter _) (fun it s₂ => LoopAtV _ _ _ _ _ _ _ _ _ it s₂) _ _ | show wpAny _ _ (leaving _ _) _ _ _ | show wpAny _ _ (noteFrame _ _) _ _ _ | show wpAny _ _ (subscriptTail _ _ (.ref _) (.int _ _)) _ _ _)); (first | (k_unfold; (try dsimp only)) | walk1 | (dsimp only; walk1) | (leave1; walk_say "STEP leave1"; try dsimp only) | ((fail_if_success (show wpAny _ _ _ _ _ _)); dsimp only) | fail "no step")))
  refine useT0 led tl K0 CB kF kN rfl rfl (fun q hq => List.mem_append_left _ hq) (fun q hq => List.mem_append_right _ hq) hd6 (fun g2 _ hk => sm_spec t g2 W led r v hW hr (hit.mono fun _ _ x => x.toG hk) he) (by walk_at "MINE room") (by walk_at "MINE room") ?_
  clear kF kN hd6 hW hr
  rintro r h7 tk7 led7 kF kN _ ⟨rfl, -⟩
  replace kN := weak (l := tl) kN (fun q hq => List.mem_append_right _ hq)
  dsimp only
  (repeat' ((fail_if_success (with_reducible first | (show wpAny _ _ (PySem.eval _ _) _ _ _; first | show wpAny _ _ (PySem.eval (.ListComp _ _ _ _) _) _ _ _ | show wpAny _ _ (PySem.eval (.JoinedStr _ _) _) _ _ _) | (show wpAny _ _ (exec _ _) _ _ _; first | show wpAny _ _ (exec (.While _ _ _ _) _) _ _ _ | show wpAny _ _ (exec (.For _ _ _ _ _) _) _ _ _ | show wpAny _ _ (exec (.Raise (some (.Call _ _ _ _)) _ _) _) _ _ _ | show wpAny _ _ (exec (.Return (some (.Constant (.bool false) _ _)) _) _) _ _ _) | (show wpAny _ _ (PySem.call _ _) _ _ _; first | refine h_ref (by decide) ?_ | show wpAny _ _ (PySem.call (.type "IndexError") _) _ _ _) | show wpAny _ _ (pyIter _) (fun it s₂ => LoopAtV _ _ _ _ _ _ _ _ _ it s₂) _ _ | show wpAny _ _ (leaving _ _) _ _ _ | show wpAny _ _ (noteFrame _ _) _ _ _ | show wpAny _ _ (subscriptTail _ _ (.ref _) (.int _ _)) _ _ _)); (first | (k_unfold; (try dsimp only)) | walk1 | (dsimp only; walk1) | (leave1; walk_say "STEP leave1"; try dsimp only) | ((fail_if_success (show wpAny _ _ _ _ _ _)); dsimp only) | fail "no step")))
  refine useP K0 CB kF kN rfl rfl (fun g2 _ hk => dl_spec t g2 td he) (by walk_at "MINE room") (by walk_at "MINE room") ?_
  clear kF kN
  rintro r h8 tk8 led kF kN hd8 hv
  obtain ⟨W, hW, hr⟩ := hv.world he
  clear hv
  dsimp only
  walk_at "MINE upIf"
  rename Fr _ _ _ _ => kF
  rename News _ _ _ _ => kN
  refine next_cut (fun s' => ∃ h' tk' m, s' = { s1 with heap := h', toks := tk' } ∧ Fr s1.heap s1.heap.objs.size h' m ∧ News s1.heap s1.heap.objs.size h' tl ∧ m (Str.ofString "script") = some (.ref y3) ∧ m (Str.ofString "item") = some v ∧ m (Str.ofString "data") = some (.bytes (enc t).toArray td)) ?_ ?_
  · clear kF kN
    rintro s' ⟨h9, tk9, m, rfl, kF, kN, m1, m2, m3⟩
    try k_fold
    (repeat' ((fail_if_success (with_reducible first | (show wpAny _ _ (PySem.eval _ _) _ _ _; first | show wpAny _ _ (PySem.eval (.ListComp _ _ _ _) _) _ _ _ | show wpAny _ _ (PySem.eval (.JoinedStr _ _) _) _ _ _) | (show wpAny _ _ (exec _ _) _ _ _; first | show wpAny _ _ (exec (.While _ _ _ _) _) _ _ _ | show wpAny _ _ (exec (.For _ _ _ _ _) _) _ _ _ | show wpAny _ _ (exec (.Raise (some (.Call _ _ _ _)) _ _) _) _ _ _ | show wpAny _ _ (exec (.Return (some (.Constant (.bool false) _ _)) _) _) _ _ _) | (show wpAny _ _ (PySem.call _ _) _ _ _; first | refine h_ref (by decide) ?_ | show wpAny _ _ (PySem.call (.type "IndexError") _) _ _ _) | show wpAny _ _ (pyIter _) (fun it s₂ => LoopAtV _ _ _ _ _ _ _ _ _ it s₂) _ _ | show wpAny _ _ (leaving _ _) _ _ _ | show wpAny _ _ (noteFrame _ _) _ _ _ | show wpAny _ _ (subscriptTail _ _ (.ref _) (.int _ _)) _ _ _)); (first | (k_unfold; (try dsimp only)) | walk1 | (dsimp only; walk1) | (leave1; walk_say "STEP leave1"; try dsimp only) | ((fail_if_success (show wpAny _ _ _ _ _ _)); dsimp only) | fail "no step")))
    refine For_invVF kF rfl rfl ?_
    (repeat' ((fail_if_success (with_reducible first | (show wpAny _ _ (PySem.eval _ _) _ _ _; first | show wpAny _ _ (PySem.eval (.ListComp _ _ _ _) _) _ _ _ | show wpAny _ _ (PySem.eval (.JoinedStr _ _) _) _ _ _) | (show wpAny _ _ (exec _ _) _ _ _; first | show wpAny _ _ (exec (.While _ _ _ _) _) _ _ _ | show wpAny _ _ (exec (.For _ _ _ _ _) _) _ _ _ | show wpAny _ _ (exec (.Raise (some (.Call _ _ _ _)) _ _) _) _ _ _ | show wpAny _ _ (exec (.Return (some (.Constant (.bool false) _ _)) _) _) _ _ _) | (show wpAny _ _ (PySem.call _ _) _ _ _; first | refine h_ref (by decide) ?_ | show wpAny _ _ (PySem.call (.type "IndexError") _) _ _ _) | show wpAny _ _ (pyIter _) (fun it s₂ => LoopAtV _ _ _ _ _ _ _ _ _ it s₂) _ _ | show wpAny _ _ (leaving _ _) _ _ _ | show wpAny _ _ (noteFrame _ _) _ _ _ | show wpAny _ _ (subscriptTail _ _ (.ref _) (.int _ _)) _ _ _)); (first | (k_unfold; (try dsimp only)) | walk1 | (dsimp only; walk1) | (leave1; walk_say "STEP leave1"; try dsimp only) | ((fail_if_success (show wpAny _ _ _ _ _ _)); dsimp only) | fail "no step")))
    rename IsRange _ _ _ _ _ _ _ _ => hr
    rename News _ _ _ _ => kN
    rename Fr _ _ _ _ => kF
    refine tbr_invG (n := 4) (fun j m₁ nx => nx = tl ∧ m₁ (Str.ofString "script") = some (.ref y3) ∧ m₁ (Str.ofString "item") = some v ∧ m₁ (Str.ofString "data") = some (.bytes (enc t).toArray td)) rfl hr (by decide) (by decide) kF kN ⟨rfl, m1, m2, m3⟩ ?_ ?_
    · clear kF kN hr m1 m2 m3
      rintro j k kt m₁ nx h₁ tk₁ own hk hoff ⟨rfl, m1, m2, m3⟩ kF kN
      change Fr s1.heap s1.heap.objs.size _ _ at kF
      change News s1.heap s1.heap.objs.size _ _ at kN
      have hkb : 0 ≤ k ∧ k < 4 := by
        have hj : j < 4 := by have := (List.getElem?_eq_some_iff.mp hk).1; simpa [rangeKs] using this
        have hk2 : (rangeKs 0 4)[j]? = some (0 + (j : Int)) := by simp [rangeKs, hj]
        rw [hk2] at hk; cases hk; omega
      have e1 : (fun y => if y = Str.ofString "start" then some (Value.int k kt) else m₁ y) (Str.ofString "script") = some (.ref y3) := m1
      have e2 : (fun y => if y = Str.ofString "start" then some (Value.int k kt) else m₁ y) (Str.ofString "item") = some v := m2
      have e3 : (fun y => if y = Str.ofString "start" then some (Value.int k kt) else m₁ y) (Str.ofString "data") = some (.bytes (enc t).toArray td) := m3
      have e4 : (fun y => if y = Str.ofString "start" then some (Value.int k kt) else m₁ y) (Str.ofString "start") = some (.int k kt) := rfl
      generalize (fun y => if y = Str.ofString "start" then some (Value.int k kt) else m₁ y) = m₂ at kF e1 e2 e3 e4
      clear m1 m2 m3 m₁
      try k_fold
      repeat' ((fail_if_success (with_reducible show wpAny _ _ (exec (PySem.Stmt.Assign _ _ _) _) _ _ _)); (first | walk1 | (dsimp only; walk1)))
      refine next_cut (fun s' => ∃ h' tk' m' pa pvs ks n, s' = { s1 with heap := h', toks := tk' } ∧ Fr s1.heap s1.heap.objs.size h' m' ∧ News s1.heap s1.heap.objs.size h' ((pa, PySem.W.listOf (List.toArray pvs) n) :: (nx ++ own)) ∧ IntsAre pvs ks ∧ (∀ k ∈ ks, 0 ≤ k ∧ k < 4) ∧ (∀ q ∈ nx ++ own, q.1 ≠ pa) ∧
        m' (Str.ofString "script") = some (.ref y3) ∧ m' (Str.ofString "item") = some v ∧ m' (Str.ofString "data") = some (.bytes (enc t).toArray td) ∧ m' (Str.ofString "path") = some (.ref pa)) ?_ ?_
      · clear kF kN
        rintro s' ⟨h11, tk11, m', pa, pvs, ks, n, rfl, kF, kN, hI4, hb4, hpa, e1, e2, e3, e5⟩
        (repeat' ((fail_if_success (with_reducible first | (show wpAny _ _ (PySem.eval _ _) _ _ _; first | show wpAny _ _ (PySem.eval (.ListComp _ _ _ _) _) _ _ _ | show wpAny _ _ (PySem.eval (.JoinedStr _ _) _) _ _ _) | (show wpAny _ _ (exec _ _) _ _ _; first | show wpAny _ _ (exec (.While _ _ _ _) _) _ _ _ | show wpAny _ _ (exec (.For _ _ _ _ _) _) _ _ _ | show wpAny _ _ (exec (.Raise (some (.Call _ _ _ _)) _ _) _) _ _ _ | show wpAny _ _ (exec (.Return (some (.Constant (.bool false) _ _)) _) _) _ _ _) | (show wpAny _ _ (PySem.call _ _) _ _ _; first | refine h_ref (by decide) ?_ | show wpAny _ _ (PySem.call (.type "IndexError") _) _ _ _) | show wpAny _ _ (pyIter _) (fun it s₂ => LoopAtV _ _ _ _ _ _ _ _ _ it s₂) _ _ | show wpAny _ _ (leaving _ _) _ _ _ | show wpAny _ _ (noteFrame _ _) _ _ _ | show wpAny _ _ (subscriptTail _ _ (.ref _) (.int _ _)) _ _ _)); (first | (k_unfold; (try dsimp only)) | walk1 | (dsimp only; walk1) | (leave1; walk_say "STEP leave1"; try dsimp only) | ((fail_if_success (show wpAny _ _ _ _ _ _)); dsimp only) | fail "no step")))
        refine useP K0 CB kF kN rfl rfl (fun g2 _ hk => at_spec g2 (PL nx) (fun _ _ x => x.toG (fun q hq => hk q (.tail _ (List.mem_append_left _ hq)))) t v pa pvs ks hit he ⟨n, hk _ (.head _)⟩ hI4 hb4) (by walk_at "MINE room") (by walk_at "MINE room") ?_
        clear kF kN
        rintro r5 h14 tk14 tl5 kF kN hd5 hat
        dsimp only
        (repeat' ((fail_if_success (with_reducible first | (show wpAny _ _ (PySem.eval _ _) _ _ _; first | show wpAny _ _ (PySem.eval (.ListComp _ _ _ _) _) _ _ _ | show wpAny _ _ (PySem.eval (.JoinedStr _ _) _) _ _ _) | (show wpAny _ _ (exec _ _) _ _ _; first | show wpAny _ _ (exec (.While _ _ _ _) _) _ _ _ | show wpAny _ _ (exec (.For _ _ _ _ _) _) _ _ _ | show wpAny _ _ (exec (.Raise (some (.Call _ _ _ _)) _ _) _) _ _ _ | show wpAny _ _ (exec (.Return (some (.Constant (.bool false) _ _)) _) _) _ _ _) | (show wpAny _ _ (PySem.call _ _) _ _ _; first | refine h_ref (by decide) ?_ | show wpAny _ _ (PySem.call (.type "IndexError") _) _ _ _) | show wpAny _ _ (pyIter _) (fun it s₂ => LoopAtV _ _ _ _ _ _ _ _ _ it s₂) _ _ | show wpAny _ _ (leaving _ _) _ _ _ | show wpAny _ _ (noteFrame _ _) _ _ _ | show wpAny _ _ (subscriptTail _ _ (.ref _) (.int _ _)) _ _ _)); (first | (k_unfold; (try dsimp only)) | walk1 | (dsimp only; walk1) | (leave1; walk_say "STEP leave1"; try dsimp only) | ((fail_if_success (show wpAny _ _ _ _ _ _)); dsimp only) | fail "no step")))
        rename Fr _ _ _ _ => kF
        rename News _ _ _ _ => kN
        refine useT0 [] (tl5 ++ (pa, PySem.W.listOf (List.toArray pvs) n) :: (nx ++ own)) K0 CB kF kN rfl rfl (fun _ h => nomatch h) (fun q hq => hq) (fun _ h => nomatch h) (fun g2 _ hk => pd_spec g2 t td pa pvs ks he ⟨n, hk _ (List.mem_append_right _ (.head _))⟩ hI4 hb4) (by walk_at "MINE room") (by walk_at "MINE room") ?_
        clear kF kN
        rintro r6 h15 tk15 mt6 kF kN hd6 hpd
        have hw : ∀ {L : List (Addr × Obj)}, ∀ q ∈ nx ++ own, q ∈ L ++ (tl5 ++ (pa, PySem.W.listOf (List.toArray pvs) n) :: (nx ++ own)) := fun q hq => List.mem_append_right _ (List.mem_append_right _ (.tail _ hq))
        rcases hat with ⟨hat, rfl, rfl⟩ | ⟨t5, v5, a5, hat, hit5, rfl, rfl⟩
        · rcases hpd with ⟨_, rfl⟩ | ⟨W6, led6, t6, v6, a6, hW6, hsub6, hat6, hr6, rfl, hm6⟩
          · replace kN := weak kN hw
            dsimp only
            (repeat' ((fail_if_success (with_reducible first | (show wpAny _ _ (PySem.eval _ _) _ _ _; first | show wpAny _ _ (PySem.eval (.ListComp _ _ _ _) _) _ _ _ | show wpAny _ _ (PySem.eval (.JoinedStr _ _) _) _ _ _) | (show wpAny _ _ (exec _ _) _ _ _; first | show wpAny _ _ (exec (.While _ _ _ _) _) _ _ _ | show wpAny _ _ (exec (.For _ _ _ _ _) _) _ _ _ | show wpAny _ _ (exec (.Raise (some (.Call _ _ _ _)) _ _) _) _ _ _ | show wpAny _ _ (exec (.Return (some (.Constant (.bool false) _ _)) _) _) _ _ _) | (show wpAny _ _ (PySem.call _ _) _ _ _; first | refine h_ref (by decide) ?_ | show wpAny _ _ (PySem.call (.type "IndexError") _) _ _ _) | show wpAny _ _ (pyIter _) (fun it s₂ => LoopAtV _ _ _ _ _ _ _ _ _ it s₂) _ _ | show wpAny _ _ (leaving _ _) _ _ _ | show wpAny _ _ (noteFrame _ _) _ _ _ | show wpAny _ _ (subscriptTail _ _ (.ref _) (.int _ _)) _ _ _)); (first | (k_unfold; (try dsimp only)) | walk1 | (dsimp only; walk1) | (leave1; walk_say "STEP leave1"; try dsimp only) | ((fail_if_success (show wpAny _ _ _ _ _ _)); dsimp only) | fail "no step")))
            rename Fr _ _ _ _ => kF
            rename News _ _ _ _ => kN
            exact ⟨_, _, _, nx ++ own, nx, rfl, kF, kN, (fun q hq => List.mem_append_left _ hq), (fun q hq => List.mem_append_right _ hq), hoff, rfl, e1, e2, e3⟩
          · rw [hat] at hat6; cases hat6
        · rcases hpd with ⟨hat6, _⟩ | ⟨W6, led6, t6, v6, a6, hW6, hsub6, hat6, hr6, rfl, hm6⟩
          · rw [hat] at hat6; cases hat6
          · rw [hat] at hat6; cases hat6
            obtain ⟨he5, hd5'⟩ := att_le ks t t5 hat
            have hd7 : ∀ q ∈ led6, ∀ r ∈ [(a5, tupO [v5])] ++ (pa, PySem.W.listOf (List.toArray pvs) n) :: (nx ++ own), q.1 ≠ r.1 := fun q hq => hd6 q (hsub6 q hq)
            replace kN := weak (l := (a6, tupO [v6]) :: (led6 ++ ([(a5, tupO [v5])] ++ (pa, PySem.W.listOf (List.toArray pvs) n) :: (nx ++ own)))) kN (fun q hq => by
              rcases List.mem_cons.mp hq with rfl | hq
              · exact List.mem_append_left _ hm6
              · exact (List.mem_append.mp hq).elim (fun h => List.mem_append_left _ (hsub6 q h)) (fun h => List.mem_append_right _ h))
            dsimp only
            (repeat' ((fail_if_success (with_reducible first | (show wpAny _ _ (PySem.eval _ _) _ _ _; first | show wpAny _ _ (PySem.eval (.ListComp _ _ _ _) _) _ _ _ | show wpAny _ _ (PySem.eval (.JoinedStr _ _) _) _ _ _) | (show wpAny _ _ (exec _ _) _ _ _; first | show wpAny _ _ (exec (.While _ _ _ _) _) _ _ _ | show wpAny _ _ (exec (.For _ _ _ _ _) _) _ _ _ | show wpAny _ _ (exec (.Raise (some (.Call _ _ _ _)) _ _) _) _ _ _ | show wpAny _ _ (exec (.Return (some (.Constant (.bool false) _ _)) _) _) _ _ _) | (show wpAny _ _ (PySem.call _ _) _ _ _; first | refine h_ref (by decide) ?_ | show wpAny _ _ (PySem.call (.type "IndexError") _) _ _ _) | show wpAny _ _ (pyIter _) (fun it s₂ => LoopAtV _ _ _ _ _ _ _ _ _ it s₂) _ _ | show wpAny _ _ (leaving _ _) _ _ _ | show wpAny _ _ (noteFrame _ _) _ _ _ | show wpAny _ _ (subscriptTail _ _ (.ref _) (.int _ _)) _ _ _)); (first | (k_unfold; (try dsimp only)) | walk1 | (dsimp only; walk1) | (leave1; walk_say "STEP leave1"; try dsimp only) | ((fail_if_success (show wpAny _ _ _ _ _ _)); dsimp only) | fail "no step")))
            rename Fr _ _ _ _ => kF
            rename News _ _ _ _ => kN
            refine item_tupleL (j := 0) (l := [v6]) ⟨_, (kN _ (.head _)).1, rfl, _, rfl⟩ (by decide) (by decide) rfl rfl ?_
            (repeat' ((fail_if_success (with_reducible first | (show wpAny _ _ (PySem.eval _ _) _ _ _; first | show wpAny _ _ (PySem.eval (.ListComp _ _ _ _) _) _ _ _ | show wpAny _ _ (PySem.eval (.JoinedStr _ _) _) _ _ _) | (show wpAny _ _ (exec _ _) _ _ _; first | show wpAny _ _ (exec (.While _ _ _ _) _) _ _ _ | show wpAny _ _ (exec (.For _ _ _ _ _) _) _ _ _ | show wpAny _ _ (exec (.Raise (some (.Call _ _ _ _)) _ _) _) _ _ _ | show wpAny _ _ (exec (.Return (some (.Constant (.bool false) _ _)) _) _) _ _ _) | (show wpAny _ _ (PySem.call _ _) _ _ _; first | refine h_ref (by decide) ?_ | show wpAny _ _ (PySem.call (.type "IndexError") _) _ _ _ | show wpAny _ _ (PySem.call (.builtin "len") [.ref _]) _ _ _) | show wpAny _ _ (pyIter _) (fun it s₂ => LoopAtV _ _ _ _ _ _ _ _ _ it s₂) _ _ | show wpAny _ _ (leaving _ _) _ _ _ | show wpAny _ _ (noteFrame _ _) _ _ _ | show wpAny _ _ (subscriptTail _ _ (.ref _) (.int _ _)) _ _ _ | show wpAny _ _ (binaryOp .Add (.bytes _ _) (.bytes _ _)) _ _ _)); (first | (k_unfold; (try dsimp only)) | walk1 | (dsimp only; walk1) | (leave1; walk_say "STEP leave1"; try dsimp only) | ((fail_if_success (show wpAny _ _ _ _ _ _)); dsimp only) | fail "no step")))
            refine item_tupleL (j := 0) (l := [v5]) ⟨_, (kN (a5, tupO [v5]) (.tail _ (List.mem_append_right _ (.head _)))).1, rfl, _, rfl⟩ (by decide) (by decide) rfl rfl ?_
            (repeat' ((fail_if_success (with_reducible first | (show wpAny _ _ (PySem.eval _ _) _ _ _; first | show wpAny _ _ (PySem.eval (.ListComp _ _ _ _) _) _ _ _ | show wpAny _ _ (PySem.eval (.JoinedStr _ _) _) _ _ _) | (show wpAny _ _ (exec _ _) _ _ _; first | show wpAny _ _ (exec (.While _ _ _ _) _) _ _ _ | show wpAny _ _ (exec (.For _ _ _ _ _) _) _ _ _ | show wpAny _ _ (exec (.Raise (some (.Call _ _ _ _)) _ _) _) _ _ _ | show wpAny _ _ (exec (.Return (some (.Constant (.bool false) _ _)) _) _) _ _ _) | (show wpAny _ _ (PySem.call _ _) _ _ _; first | refine h_ref (by decide) ?_ | show wpAny _ _ (PySem.call (.type "IndexError") _) _ _ _) | show wpAny _ _ (pyIter _) (fun it s₂ => LoopAtV _ _ _ _ _ _ _ _ _ it s₂) _ _ | show wpAny _ _ (leaving _ _) _ _ _ | show wpAny _ _ (noteFrame _ _) _ _ _ | show wpAny _ _ (subscriptTail _ _ (.ref _) (.int _ _)) _ _ _)); (first | (k_unfold; (try dsimp only)) | walk1 | (dsimp only; walk1) | (leave1; walk_say "STEP leave1"; try dsimp only) | ((fail_if_success (show wpAny _ _ _ _ _ _)); dsimp only) | fail "no step")))
            refine useT0 led6 ([(a5, tupO [v5])] ++ (pa, PySem.W.listOf (List.toArray pvs) n) :: (nx ++ own)) K0 CB kF kN rfl rfl (fun q hq => .tail _ (List.mem_append_left _ hq)) (fun q hq => .tail _ (List.mem_append_right _ hq)) hd7
              (fun g2 _ hk => sm_spec t5 g2 W6 led6 v6 v5 hW6 hr6 (hit5.mono fun _ _ x => x.toG (fun q hq => hk q (List.mem_append_right _ (.tail _ (List.mem_append_left _ hq))))) (by omega)) (by walk_at "MINE room") (by walk_at "MINE room") ?_
            clear kF kN
            rintro r7 h17 tk17 led7' kF kN _ ⟨rfl, -⟩
            replace kN := weak kN hw
            dsimp only
            (repeat' ((fail_if_success (with_reducible first | (show wpAny _ _ (PySem.eval _ _) _ _ _; first | show wpAny _ _ (PySem.eval (.ListComp _ _ _ _) _) _ _ _ | show wpAny _ _ (PySem.eval (.JoinedStr _ _) _) _ _ _) | (show wpAny _ _ (exec _ _) _ _ _; first | show wpAny _ _ (exec (.While _ _ _ _) _) _ _ _ | show wpAny _ _ (exec (.For _ _ _ _ _) _) _ _ _ | show wpAny _ _ (exec (.Raise (some (.Call _ _ _ _)) _ _) _) _ _ _ | show wpAny _ _ (exec (.Return (some (.Constant (.bool false) _ _)) _) _) _ _ _) | (show wpAny _ _ (PySem.call _ _) _ _ _; first | refine h_ref (by decide) ?_ | show wpAny _ _ (PySem.call (.type "IndexError") _) _ _ _) | show wpAny _ _ (pyIter _) (fun it s₂ => LoopAtV _ _ _ _ _ _ _ _ _ it s₂) _ _ | show wpAny _ _ (leaving _ _) _ _ _ | show wpAny _ _ (noteFrame _ _) _ _ _ | show wpAny _ _ (subscriptTail _ _ (.ref _) (.int _ _)) _ _ _)); (first | (k_unfold; (try dsimp only)) | walk1 | (dsimp only; walk1) | (leave1; walk_say "STEP leave1"; try dsimp only) | ((fail_if_success (show wpAny _ _ _ _ _ _)); dsimp only) | fail "no step")))
            exact ⟨_, _, _, nx ++ own, nx, rfl, kF, kN, (fun q hq => List.mem_append_left _ hq), (fun q hq => List.mem_append_right _ hq), hoff, rfl, e1, e2, e3⟩
      · (repeat' ((fail_if_success (with_reducible first | (show wpAny _ _ (PySem.eval _ _) _ _ _; first | show wpAny _ _ (PySem.eval (.ListComp _ _ _ _) _) _ _ _ | show wpAny _ _ (PySem.eval (.JoinedStr _ _) _) _ _ _) | (show wpAny _ _ (exec _ _) _ _ _; first | show wpAny _ _ (exec (.While _ _ _ _) _) _ _ _ | show wpAny _ _ (exec (.For _ _ _ _ _) _) _ _ _ | show wpAny _ _ (exec (.Raise (some (.Call _ _ _ _)) _ _) _) _ _ _ | show wpAny _ _ (exec (.Return (some (.Constant (.bool false) _ _)) _) _) _ _ _) | (show wpAny _ _ (PySem.call _ _) _ _ _; first | refine h_ref (by decide) ?_ | show wpAny _ _ (PySem.call (.type "IndexError") _) _ _ _) | show wpAny _ _ (pyIter _) (fun it s₂ => LoopAtV _ _ _ _ _ _ _ _ _ it s₂) _ _ | show wpAny _ _ (leaving _ _) _ _ _ | show wpAny _ _ (noteFrame _ _) _ _ _ | show wpAny _ _ (subscriptTail _ _ (.ref _) (.int _ _)) _ _ _)); (first | (k_unfold; (try dsimp only)) | walk1 | (dsimp only; walk1) | (leave1; walk_say "STEP leave1"; try dsimp only) | ((fail_if_success (show wpAny _ _ _ _ _ _)); dsimp only) | fail "no step")))
        · have hkl : k < (w5.length : Int) := by assumption
          have hyl := hI.length
          obtain ⟨u4, hu4⟩ : ∃ v, y4[k.toNat]? = some v := ⟨y4[k.toNat]'(by omega), by simp⟩
          obtain ⟨n4, t4, rfl, hn4⟩ := hI.at _ _ hu4
          k_dflt (refine LCg.ListComp_U kF (by with_unfolding_all rfl) (by decide) (by rfl) (by decide) (by rfl) ?_)
          (repeat' ((fail_if_success (with_reducible first | (show wpAny _ _ (PySem.eval _ _) _ _ _; first | show wpAny _ _ (PySem.eval (.ListComp _ _ _ _) _) _ _ _ | show wpAny _ _ (PySem.eval (.JoinedStr _ _) _) _ _ _) | (show wpAny _ _ (exec _ _) _ _ _; first | show wpAny _ _ (exec (.While _ _ _ _) _) _ _ _ | show wpAny _ _ (exec (.For _ _ _ _ _) _) _ _ _ | show wpAny _ _ (exec (.Raise (some (.Call _ _ _ _)) _ _) _) _ _ _ | show wpAny _ _ (exec (.Return (some (.Constant (.bool false) _ _)) _) _) _ _ _) | (show wpAny _ _ (PySem.call _ _) _ _ _; first | refine h_ref (by decide) ?_ | show wpAny _ _ (PySem.call (.type "IndexError") _) _ _ _ | show wpAny _ _ (PySem.call (.builtin "len") [.ref _]) _ _ _) | show wpAny _ _ (pyIter _) (fun it s₂ => LoopAtV _ _ _ _ _ _ _ _ _ it s₂) _ _ | show wpAny _ _ (leaving _ _) _ _ _ | show wpAny _ _ (noteFrame _ _) _ _ _ | show wpAny _ _ (subscriptTail _ _ (.ref _) (.int _ _)) _ _ _ | show wpAny _ _ (binaryOp .Add (.bytes _ _) (.bytes _ _)) _ _ _)); (first | (k_unfold; (try dsimp only)) | walk1 | (dsimp only; walk1) | (leave1; walk_say "STEP leave1"; try dsimp only) | ((fail_if_success (show wpAny _ _ _ _ _ _)); dsimp only) | fail "no step")))
          refine item_listL (hL.at fun o e => kF.keep y3 o e) hkb.1 (by omega) hu4 ?_
          walk_at "MINE src"
          rename_i D6 ws6 h6 F6 N6 l6 hI6 hC6 q6
          clear l6
          have h6l := hI6.length
          refine LCg.CompSrc.ledger rfl F6 N6 (.head _) (by rw [List.size_toArray, sizeLine_eq]; omega) ?_
          intro gg
          refine compRest_ind (fun i ys news => ∃ ks, news = (D6, PySem.W.listOf ws6.toArray 0) :: (nx ++ own) ∧ IntsAre ys ks ∧ ∀ k ∈ ks, 0 ≤ k ∧ k < 4) ?_ ?_ _ 0 [] _ (Nat.zero_add _) ⟨[], rfl, .nil, fun _ h => nomatch h⟩
          · rintro i ys news hi ⟨ks, rfl, hI7, hb7⟩ u7 I oI C oC D m₃ h7 tk7 E7 hP7 hNs7 hx7 kF kN hof hne
            obtain ⟨n7, t7, rfl, hn7⟩ := hI6.at i u7 (by simpa using hP7)
            try k_fold
            (repeat' ((fail_if_success (with_reducible first | (show wpAny _ _ (PySem.eval _ _) _ _ _; first | show wpAny _ _ (PySem.eval (.ListComp _ _ _ _) _) _ _ _ | show wpAny _ _ (PySem.eval (.JoinedStr _ _) _) _ _ _) | (show wpAny _ _ (exec _ _) _ _ _; first | show wpAny _ _ (exec (.While _ _ _ _) _) _ _ _ | show wpAny _ _ (exec (.For _ _ _ _ _) _) _ _ _ | show wpAny _ _ (exec (.Raise (some (.Call _ _ _ _)) _ _) _) _ _ _ | show wpAny _ _ (exec (.Return (some (.Constant (.bool false) _ _)) _) _) _ _ _) | (show wpAny _ _ (PySem.call _ _) _ _ _; first | refine h_ref (by decide) ?_ | show wpAny _ _ (PySem.call (.type "IndexError") _) _ _ _) | show wpAny _ _ (pyIter _) (fun it s₂ => LoopAtV _ _ _ _ _ _ _ _ _ it s₂) _ _ | show wpAny _ _ (leaving _ _) _ _ _ | show wpAny _ _ (noteFrame _ _) _ _ _ | show wpAny _ _ (subscriptTail _ _ (.ref _) (.int _ _)) _ _ _)); (first | (k_unfold; (try dsimp only)) | walk1 | (dsimp only; walk1) | (leave1; walk_say "STEP leave1"; try dsimp only) | ((fail_if_success (show wpAny _ _ _ _ _ _)); dsimp only) | fail "no step")))
            refine LCg.CompEnd.intro kF kN _ (fun q hq => hq) hof (.inr ⟨_, .head _, rfl, _, rfl⟩) ⟨ks ++ [_], rfl, IntsAre.append hI7 (.cons _ _ .nil), fun k hk => ?_⟩
            rcases List.mem_append.mp hk with hk | hk
            · exact hb7 k hk
            · rw [List.mem_singleton.mp hk]
              exact ⟨fmod_lo _ (by decide), fmod_hi _ (by decide)⟩
          · rintro ys news ⟨ks, rfl, hI7, hb7⟩
            intro D h7 tk7 kF kN hof
            (repeat' ((fail_if_success (with_reducible first | (show wpAny _ _ (PySem.eval _ _) _ _ _; first | show wpAny _ _ (PySem.eval (.ListComp _ _ _ _) _) _ _ _ | show wpAny _ _ (PySem.eval (.JoinedStr _ _) _) _ _ _) | (show wpAny _ _ (exec _ _) _ _ _; first | show wpAny _ _ (exec (.While _ _ _ _) _) _ _ _ | show wpAny _ _ (exec (.For _ _ _ _ _) _) _ _ _ | show wpAny _ _ (exec (.Raise (some (.Call _ _ _ _)) _ _) _) _ _ _ | show wpAny _ _ (exec (.Return (some (.Constant (.bool false) _ _)) _) _) _ _ _) | (show wpAny _ _ (PySem.call _ _) _ _ _; first | refine h_ref (by decide) ?_ | show wpAny _ _ (PySem.call (.type "IndexError") _) _ _ _) | show wpAny _ _ (pyIter _) (fun it s₂ => LoopAtV _ _ _ _ _ _ _ _ _ it s₂) _ _ | show wpAny _ _ (leaving _ _) _ _ _ | show wpAny _ _ (noteFrame _ _) _ _ _ | show wpAny _ _ (subscriptTail _ _ (.ref _) (.int _ _)) _ _ _)); (first | (k_unfold; (try dsimp only)) | walk1 | (dsimp only; walk1) | (leave1; walk_say "STEP leave1"; try dsimp only) | ((fail_if_success (show wpAny _ _ _ _ _ _)); dsimp only) | fail "no step")))
            rename Fr _ _ _ _ => kF
            rename News _ _ _ _ => kN
            exact ⟨rfl, _, _, _, D, ys, ks, ys.length, rfl, kF, weak kN (fun q hq => (List.mem_cons.mp hq).elim (fun e => e ▸ .head _) (fun h => .tail _ (.tail _ h))), hI7, hb7, off1_mem hof.2, e1, e2, e3, rfl⟩
        · rename_i ll5 hh5 q5 hh6 F5 N5
          exact ⟨rfl, _, _, _, _, [], [], _, rfl, F5, N5, .nil, (fun _ h => nomatch h), (fun q hq => Nat.ne_of_lt (q5 q hq)), e1, e2, e3, rfl⟩
    · clear kF kN hr m1 m2 m3
      rintro m₁ nx h₁ tk₁ ⟨rfl, m1, m2, m3⟩ kF kN
      change Fr s1.heap s1.heap.objs.size _ _ at kF
      change News s1.heap s1.heap.objs.size _ _ at kN
      (repeat' ((fail_if_success (with_reducible first | (show wpAny _ _ (PySem.eval _ _) _ _ _; first | show wpAny _ _ (PySem.eval (.ListComp _ _ _ _) _) _ _ _ | show wpAny _ _ (PySem.eval (.JoinedStr _ _) _) _ _ _) | (show wpAny _ _ (exec _ _) _ _ _; first | show wpAny _ _ (exec (.While _ _ _ _) _) _ _ _ | show wpAny _ _ (exec (.For _ _ _ _ _) _) _ _ _ | show wpAny _ _ (exec (.Raise (some (.Call _ _ _ _)) _ _) _) _ _ _ | show wpAny _ _ (exec (.Return (some (.Constant (.bool false) _ _)) _) _) _ _ _) | (show wpAny _ _ (PySem.call _ _) _ _ _; first | refine h_ref (by decide) ?_ | show wpAny _ _ (PySem.call (.type "IndexError") _) _ _ _ | show wpAny _ _ (PySem.call (.builtin "len") [.ref _]) _ _ _) | show wpAny _ _ (pyIter _) (fun it s₂ => LoopAtV _ _ _ _ _ _ _ _ _ it s₂) _ _ | show wpAny _ _ (leaving _ _) _ _ _ | show wpAny _ _ (noteFrame _ _) _ _ _ | show wpAny _ _ (subscriptTail _ _ (.ref _) (.int _ _)) _ _ _ | show wpAny _ _ (binaryOp .Add (.bytes _ _) (.bytes _ _)) _ _ _)); (first | (k_unfold; (try dsimp only)) | walk1 | (dsimp only; walk1) | (leave1; walk_say "STEP leave1"; try dsimp only) | ((fail_if_success (show wpAny _ _ _ _ _ _)); dsimp only) | fail "no step")))
      refine addO (b := enc t) (c := [7]) (by rw [List.length_singleton]; omega) fun t' k => ?_
      (repeat' ((fail_if_success (with_reducible first | (show wpAny _ _ (PySem.eval _ _) _ _ _; first | show wpAny _ _ (PySem.eval (.ListComp _ _ _ _) _) _ _ _ | show wpAny _ _ (PySem.eval (.JoinedStr _ _) _) _ _ _) | (show wpAny _ _ (exec _ _) _ _ _; first | show wpAny _ _ (exec (.While _ _ _ _) _) _ _ _ | show wpAny _ _ (exec (.For _ _ _ _ _) _) _ _ _ | show wpAny _ _ (exec (.Raise (some (.Call _ _ _ _)) _ _) _) _ _ _ | show wpAny _ _ (exec (.Return (some (.Constant (.bool false) _ _)) _) _) _ _ _) | (show wpAny _ _ (PySem.call _ _) _ _ _; first | refine h_ref (by decide) ?_ | show wpAny _ _ (PySem.call (.type "IndexError") _) _ _ _) | show wpAny _ _ (pyIter _) (fun it s₂ => LoopAtV _ _ _ _ _ _ _ _ _ it s₂) _ _ | show wpAny _ _ (leaving _ _) _ _ _ | show wpAny _ _ (noteFrame _ _) _ _ _ | show wpAny _ _ (subscriptTail _ _ (.ref _) (.int _ _)) _ _ _)); (first | (k_unfold; (try dsimp only)) | walk1 | (dsimp only; walk1) | (leave1; walk_say "STEP leave1"; try dsimp only) | ((fail_if_success (show wpAny _ _ _ _ _ _)); dsimp only) | fail "no step")))
      rename Fr _ _ _ _ => kF
      rename News _ _ _ _ => kN
      refine useR K0 CB kF kN rfl rfl (fun g2 _ => dlbad_spec t g2 _ (enc t ++ [7]) he (by simp) ⟨Int.le_refl _, (by first | (simp; done) | (simp; omega)), [7], by simp⟩) (by walk_at "MINE room") (by walk_at "MINE room") ?_
      clear kF kN
      intro e2 h2 tk2 G FG RG uG
      (repeat' ((fail_if_success (with_reducible first | (show wpAny _ _ (PySem.eval _ _) _ _ _; first | show wpAny _ _ (PySem.eval (.ListComp _ _ _ _) _) _ _ _ | show wpAny _ _ (PySem.eval (.JoinedStr _ _) _) _ _ _) | (show wpAny _ _ (exec _ _) _ _ _; first | show wpAny _ _ (exec (.While _ _ _ _) _) _ _ _ | show wpAny _ _ (exec (.For _ _ _ _ _) _) _ _ _ | show wpAny _ _ (exec (.Raise (some (.Call _ _ _ _)) _ _) _) _ _ _ | show wpAny _ _ (exec (.Return (some (.Constant (.bool false) _ _)) _) _) _ _ _) | (show wpAny _ _ (PySem.call _ _) _ _ _; first | refine h_ref (by decide) ?_ | show wpAny _ _ (PySem.call (.type "IndexError") _) _ _ _) | show wpAny _ _ (pyIter _) (fun it s₂ => LoopAtV _ _ _ _ _ _ _ _ _ it s₂) _ _ | show wpAny _ _ (leaving _ _) _ _ _ | show wpAny _ _ (noteFrame _ _) _ _ _ | show wpAny _ _ (subscriptTail _ _ (.ref _) (.int _ _)) _ _ _)); (first | (k_unfold; (try dsimp only)) | walk1 | (dsimp only; walk1) | (leave1; walk_say "STEP leave1"; try dsimp only) | ((fail_if_success (show wpAny _ _ _ _ _ _)); dsimp only) | fail "no step")))
      k_dflt (refine' caught_ON RG FG K0 uG CB ?ex ?q ?_; (case ex => k_is); (case q => kts_isx))
      intro h3 g3 T3 F3 N3 B3 X3 P3 CB3
      (repeat' ((fail_if_success (with_reducible first | (show wpAny _ _ (PySem.eval _ _) _ _ _; first | show wpAny _ _ (PySem.eval (.ListComp _ _ _ _) _) _ _ _ | show wpAny _ _ (PySem.eval (.JoinedStr _ _) _) _ _ _) | (show wpAny _ _ (exec _ _) _ _ _; first | show wpAny _ _ (exec (.While _ _ _ _) _) _ _ _ | show wpAny _ _ (exec (.For _ _ _ _ _) _) _ _ _ | show wpAny _ _ (exec (.Raise (some (.Call _ _ _ _)) _ _) _) _ _ _ | show wpAny _ _ (exec (.Return (some (.Constant (.bool false) _ _)) _) _) _ _ _) | (show wpAny _ _ (PySem.call _ _) _ _ _; first | refine h_ref (by decide) ?_ | show wpAny _ _ (PySem.call (.type "IndexError") _) _ _ _) | show wpAny _ _ (pyIter _) (fun it s₂ => LoopAtV _ _ _ _ _ _ _ _ _ it s₂) _ _ | show wpAny _ _ (leaving _ _) _ _ _ | show wpAny _ _ (noteFrame _ _) _ _ _ | show wpAny _ _ (subscriptTail _ _ (.ref _) (.int _ _)) _ _ _)); (first | (k_unfold; (try dsimp only)) | walk1 | (dsimp only; walk1) | (leave1; walk_say "STEP leave1"; try dsimp only) | ((fail_if_success (show wpAny _ _ _ _ _ _)); dsimp only) | fail "no step")))
      have F4 : Fr s1.heap _ _ _ := turn0F T3 F3
      clear F3 N3
      wrow_close
  · cases t with
    | b bs =>
      obtain ⟨tv, rfl⟩ := hit
      (repeat' ((fail_if_success (with_reducible first | (show wpAny _ _ (PySem.eval _ _) _ _ _; first | show wpAny _ _ (PySem.eval (.ListComp _ _ _ _) _) _ _ _ | show wpAny _ _ (PySem.eval (.JoinedStr _ _) _) _ _ _) | (show wpAny _ _ (exec _ _) _ _ _; first | show wpAny _ _ (exec (.While _ _ _ _) _) _ _ _ | show wpAny _ _ (exec (.For _ _ _ _ _) _) _ _ _ | show wpAny _ _ (exec (.Raise (some (.Call _ _ _ _)) _ _) _) _ _ _ | show wpAny _ _ (exec (.Return (some (.Constant (.bool false) _ _)) _) _) _ _ _) | (show wpAny _ _ (PySem.call _ _) _ _ _; first | refine h_ref (by decide) ?_ | show wpAny _ _ (PySem.call (.type "IndexError") _) _ _ _) | show wpAny _ _ (pyIter _) (fun it s₂ => LoopAtV _ _ _ _ _ _ _ _ _ it s₂) _ _ | show wpAny _ _ (leaving _ _) _ _ _ | show wpAny _ _ (noteFrame _ _) _ _ _ | show wpAny _ _ (subscriptTail _ _ (.ref _) (.int _ _)) _ _ _)); (first | (k_unfold; (try dsimp only)) | walk1 | (dsimp only; walk1) | (leave1; walk_say "STEP leave1"; try dsimp only) | ((fail_if_success (show wpAny _ _ _ _ _ _)); dsimp only) | fail "no step")))
      exact ⟨rfl, _, _, _, rfl, by assumption, weak (by assumption) (fun q hq => List.mem_append_right _ hq), rfl, rfl, rfl⟩
    | l ts =>
      obtain ⟨a, vs, rfl, ⟨n, hmem⟩, hIs⟩ := hit
      obtain ⟨x, i, rfl, hx, hit⟩ := hr
      replace kN := weak (l := (a, PySem.W.listOf vs.toArray n) :: (led ++ tl)) kN (fun q hq => by
        rcases List.mem_cons.mp hq with rfl | hq
        · exact List.mem_append_right _ hmem
        · exact hq)
      (repeat' ((fail_if_success (with_reducible first | (show wpAny _ _ (PySem.eval _ _) _ _ _; first | show wpAny _ _ (PySem.eval (.ListComp _ _ _ _) _) _ _ _ | show wpAny _ _ (PySem.eval (.JoinedStr _ _) _) _ _ _) | (show wpAny _ _ (exec _ _) _ _ _; first | show wpAny _ _ (exec (.While _ _ _ _) _) _ _ _ | show wpAny _ _ (exec (.For _ _ _ _ _) _) _ _ _ | show wpAny _ _ (exec (.Raise (some (.Call _ _ _ _)) _ _) _) _ _ _ | show wpAny _ _ (exec (.Return (some (.Constant (.bool false) _ _)) _) _) _ _ _) | (show wpAny _ _ (PySem.call _ _) _ _ _; first | refine h_ref (by decide) ?_ | show wpAny _ _ (PySem.call (.type "IndexError") _) _ _ _) | show wpAny _ _ (pyIter _) (fun it s₂ => LoopAtV _ _ _ _ _ _ _ _ _ it s₂) _ _ | show wpAny _ _ (leaving _ _) _ _ _ | show wpAny _ _ (noteFrame _ _) _ _ _ | show wpAny _ _ (subscriptTail _ _ (.ref _) (.int _ _)) _ _ _)); (first | (k_unfold; (try dsimp only)) | walk1 | (dsimp only; walk1) | (leave1; walk_say "STEP leave1"; try dsimp only) | ((fail_if_success (show wpAny _ _ _ _ _ _)); dsimp only) | fail "no step")))
      rename Fr _ _ _ _ => kF
      refine For_invVF kF rfl rfl ?_
      (repeat' ((fail_if_success (with_reducible first | (show wpAny _ _ (PySem.eval _ _) _ _ _; first | show wpAny _ _ (PySem.eval (.ListComp _ _ _ _) _) _ _ _ | show wpAny _ _ (PySem.eval (.JoinedStr _ _) _) _ _ _) | (show wpAny _ _ (exec _ _) _ _ _; first | show wpAny _ _ (exec (.While _ _ _ _) _) _ _ _ | show wpAny _ _ (exec (.For _ _ _ _ _) _) _ _ _ | show wpAny _ _ (exec (.Raise (some (.Call _ _ _ _)) _ _) _) _ _ _ | show wpAny _ _ (exec (.Return (some (.Constant (.bool false) _ _)) _) _) _ _ _) | (show wpAny _ _ (PySem.call _ _) _ _ _; first | refine h_ref (by decide) ?_ | show wpAny _ _ (PySem.call (.type "IndexError") _) _ _ _) | show wpAny _ _ (pyIter _) (fun it s₂ => LoopAtV _ _ _ _ _ _ _ _ _ it s₂) _ _ | show wpAny _ _ (leaving _ _) _ _ _ | show wpAny _ _ (noteFrame _ _) _ _ _ | show wpAny _ _ (subscriptTail _ _ (.ref _) (.int _ _)) _ _ _)); (first | (k_unfold; (try dsimp only)) | walk1 | (dsimp only; walk1) | (leave1; walk_say "STEP leave1"; try dsimp only) | ((fail_if_success (show wpAny _ _ _ _ _ _)); dsimp only) | fail "no step")))
      rename_i h10 D3 ws3 h11 F3 N3 hI3 hC3 hL3 l3'
      subst hit
      have hlen := hIs.length
      have hle := @encs_len_l i.ts
      have hge := encs_ge i.ts
      rw [dep] at hdt
      have hDl := PySem.IsL.isList (N3 _ (.head _)).1
      refine for_listL (vs := ws3) (fun j m₁ nx => m₁ (Str.ofString "script") = some (.ref y3) ∧ m₁ (Str.ofString "item") = some (.ref a) ∧ m₁ (Str.ofString "data") = some (.bytes (enc (.l i.ts)).toArray td) ∧ m₁ (Str.ofString "lazy") = some (.ref x) ∧
        ∃ W' led', Wle W W' ∧ Wd w.params W' led' ∧ nx = led' ++ tl ∧ ∀ q ∈ led', ∀ r ∈ tl, q.1 ≠ r.1) rfl hDl (N3 _ (.head _)).2.1 (N3 _ (.head _)).2.2 (news := led ++ tl) (fun q hq => Nat.ne_of_lt (ktn_ltOf l3'.2 q hq)) F3 (weak N3 (fun q hq => .tail _ (.tail _ hq)))
        ⟨rfl, rfl, rfl, rfl, W, led, .refl, hW, rfl, hd8⟩ ?_ ?_
      · clear F3 N3 hDl l3'
        rintro j u m₁ nx h₁ tk₁ own hv hoff ⟨m1, m2, m3, m4, W1, led1, hle1, hW1, rfl, hd1⟩ kF kN
        change Fr s1.heap s1.heap.objs.size _ _ at kF
        change News s1.heap s1.heap.objs.size _ _ at kN
        obtain ⟨n0, t0, rfl, hn0⟩ := hI3.at _ _ hv
        have e1 : (fun y => if y = Str.ofString "number" then some (Value.int n0 t0) else m₁ y) (Str.ofString "script") = some (.ref y3) := m1
        have e2 : (fun y => if y = Str.ofString "number" then some (Value.int n0 t0) else m₁ y) (Str.ofString "item") = some (.ref a) := m2
        have e3 : (fun y => if y = Str.ofString "number" then some (Value.int n0 t0) else m₁ y) (Str.ofString "data") = some (.bytes (enc (.l i.ts)).toArray td) := m3
        have e4 : (fun y => if y = Str.ofString "number" then some (Value.int n0 t0) else m₁ y) (Str.ofString "lazy") = some (.ref x) := m4
        have e5 : (fun y => if y = Str.ofString "number" then some (Value.int n0 t0) else m₁ y) (Str.ofString "number") = some (Value.int n0 t0) := rfl
        generalize (fun y => if y = Str.ofString "number" then some (Value.int n0 t0) else m₁ y) = m₂ at kF e1 e2 e3 e4 e5
        clear m1 m2 m3 m4 m₁ hv
        replace kN := weak (l := (a, PySem.W.listOf vs.toArray n) :: (led1 ++ (tl ++ own))) kN (fun q hq => by
          rcases List.mem_cons.mp hq with rfl | hq
          · exact List.mem_append_left _ (List.mem_append_right _ hmem)
          · rw [List.append_assoc]; exact hq)
        try k_fold
        (repeat' ((fail_if_success (with_reducible first | (show wpAny _ _ (PySem.eval _ _) _ _ _; first | show wpAny _ _ (PySem.eval (.ListComp _ _ _ _) _) _ _ _ | show wpAny _ _ (PySem.eval (.JoinedStr _ _) _) _ _ _) | (show wpAny _ _ (exec _ _) _ _ _; first | show wpAny _ _ (exec (.While _ _ _ _) _) _ _ _ | show wpAny _ _ (exec (.For _ _ _ _ _) _) _ _ _ | show wpAny _ _ (exec (.Raise (some (.Call _ _ _ _)) _ _) _) _ _ _ | show wpAny _ _ (exec (.Return (some (.Constant (.bool false) _ _)) _) _) _ _ _) | (show wpAny _ _ (PySem.call _ _) _ _ _; first | refine h_ref (by decide) ?_ | show wpAny _ _ (PySem.call (.type "IndexError") _) _ _ _) | show wpAny _ _ (pyIter _) (fun it s₂ => LoopAtV _ _ _ _ _ _ _ _ _ it s₂) _ _ | show wpAny _ _ (leaving _ _) _ _ _ | show wpAny _ _ (noteFrame _ _) _ _ _ | show wpAny _ _ (subscriptTail _ _ (.ref _) (.int _ _)) _ _ _)); (first | (k_unfold; (try dsimp only)) | walk1 | (dsimp only; walk1) | (leave1; walk_say "STEP leave1"; try dsimp only) | ((fail_if_success (show wpAny _ _ _ _ _ _)); dsimp only) | fail "no step")))
        rename Fr _ _ _ _ => kF
        rename News _ _ _ _ => kN
        have hk0 := fmod_lo (if n0 < 0 then -n0 else n0) (n := (vs.length : Int) + 2) (by omega)
        have hk1 := fmod_hi (if n0 < 0 then -n0 else n0) (n := (vs.length : Int) + 2) (by omega)
        generalize (if n0 < 0 then -n0 else n0).fmod ((vs.length : Int) + 2) = k at kF hk0 hk1 ⊢
        obtain ⟨m₃, pt, kF, e1, e2, e3, e4, e6⟩ : ∃ m₃ pt, Fr s1.heap s1.heap.objs.size _ m₃ ∧ m₃ (Str.ofString "script") = some (.ref y3) ∧ m₃ (Str.ofString "item") = some (.ref a) ∧ m₃ (Str.ofString "data") = some (.bytes (enc (.l i.ts)).toArray td) ∧ m₃ (Str.ofString "lazy") = some (.ref x) ∧ m₃ (Str.ofString "place") = some (.int k pt) := ⟨_, _, kF, e1, e2, e3, e4, rfl⟩
        clear e5
        refine useT0 led1 (tl ++ own) K0 CB kF kN rfl rfl (fun q hq => by simp [hq]) (fun q hq => .tail _ (List.mem_append_right _ hq)) (fun q hq r hr e => (List.mem_append.mp hr).elim (fun h => hd1 q hq r h e) (fun h => hoff r h q (List.mem_append_left _ hq) e.symm))
          (fun g2 _ _ => pl_spec g2 x i W1 led1 hW1 (hle1 _ _ hx) k _ hk0 (by omega)) (by walk_at "MINE room") (by walk_at "MINE room") ?_
        have hoff2 : ∀ q ∈ own, ∀ r ∈ tl, q.1 ≠ r.1 := fun q hq r hr => hoff q hq r (List.mem_append_right _ hr)
        clear kF kN hW1 hd1 hoff
        rintro r2 h12 tk12 mt12 kF kN hd12 ⟨W2, led2, hle2, hW2, hsub2, hcase⟩
        have hw2 := hle1.trans hle2
        have hd2 : ∀ q ∈ led2, ∀ r ∈ tl ++ own, q.1 ≠ r.1 := fun q hq => hd12 q (hsub2 q hq)
        rcases hcase with ⟨t', v', ar, hti, hv', rfl, hm2⟩ | ⟨hlen2, rfl⟩
        · have hkl := (List.getElem?_eq_some_iff.mp hti).1
          obtain ⟨u', hu'⟩ : ∃ v, vs[k.toNat]? = some v := ⟨vs[k.toNat]'(by omega), by simp⟩
          obtain ⟨t'', hti', hit⟩ := hIs.get hu'
          rw [hti] at hti'; cases hti'
          have hdt2 := deps_le hti
          have hle4 := enc_le_encs hti
          replace kN := weak (l := (ar, tupO [v']) :: (a, PySem.W.listOf vs.toArray n) :: (led2 ++ (tl ++ own))) kN (fun q hq => by
            rcases List.mem_cons.mp hq with rfl | hq
            · exact List.mem_append_left _ hm2
            · rcases List.mem_cons.mp hq with rfl | hq
              · exact List.mem_append_right _ (List.mem_append_left _ hmem)
              · exact (List.mem_append.mp hq).elim (fun h => List.mem_append_left _ (hsub2 q h)) (fun h => List.mem_append_right _ h))
          clear hd12 hsub2 hm2
          dsimp only
          (repeat' ((fail_if_success (with_reducible first | (show wpAny _ _ (PySem.eval _ _) _ _ _; first | show wpAny _ _ (PySem.eval (.ListComp _ _ _ _) _) _ _ _ | show wpAny _ _ (PySem.eval (.JoinedStr _ _) _) _ _ _) | (show wpAny _ _ (exec _ _) _ _ _; first | show wpAny _ _ (exec (.While _ _ _ _) _) _ _ _ | show wpAny _ _ (exec (.For _ _ _ _ _) _) _ _ _ | show wpAny _ _ (exec (.Raise (some (.Call _ _ _ _)) _ _) _) _ _ _ | show wpAny _ _ (exec (.Return (some (.Constant (.bool false) _ _)) _) _) _ _ _) | (show wpAny _ _ (PySem.call _ _) _ _ _; first | refine h_ref (by decide) ?_ | show wpAny _ _ (PySem.call (.type "IndexError") _) _ _ _) | show wpAny _ _ (pyIter _) (fun it s₂ => LoopAtV _ _ _ _ _ _ _ _ _ it s₂) _ _ | show wpAny _ _ (leaving _ _) _ _ _ | show wpAny _ _ (noteFrame _ _) _ _ _ | show wpAny _ _ (subscriptTail _ _ (.ref _) (.int _ _)) _ _ _)); (first | (k_unfold; (try dsimp only)) | walk1 | (dsimp only; walk1) | (leave1; walk_say "STEP leave1"; try dsimp only) | ((fail_if_success (show wpAny _ _ _ _ _ _)); dsimp only) | fail "no step")))
          rename Fr _ _ _ _ => kF
          rename News _ _ _ _ => kN
          refine item_tupleL (j := 0) (l := [v']) ⟨_, (kN _ (.head _)).1, rfl, _, rfl⟩ (by decide) (by decide) rfl rfl ?_
          (repeat' ((fail_if_success (with_reducible first | (show wpAny _ _ (PySem.eval _ _) _ _ _; first | show wpAny _ _ (PySem.eval (.ListComp _ _ _ _) _) _ _ _ | show wpAny _ _ (PySem.eval (.JoinedStr _ _) _) _ _ _) | (show wpAny _ _ (exec _ _) _ _ _; first | show wpAny _ _ (exec (.While _ _ _ _) _) _ _ _ | show wpAny _ _ (exec (.For _ _ _ _ _) _) _ _ _ | show wpAny _ _ (exec (.Raise (some (.Call _ _ _ _)) _ _) _) _ _ _ | show wpAny _ _ (exec (.Return (some (.Constant (.bool false) _ _)) _) _) _ _ _) | (show wpAny _ _ (PySem.call _ _) _ _ _; first | refine h_ref (by decide) ?_ | show wpAny _ _ (PySem.call (.type "IndexError") _) _ _ _ | show wpAny _ _ (PySem.call (.builtin "len") [.ref _]) _ _ _) | show wpAny _ _ (pyIter _) (fun it s₂ => LoopAtV _ _ _ _ _ _ _ _ _ it s₂) _ _ | show wpAny _ _ (leaving _ _) _ _ _ | show wpAny _ _ (noteFrame _ _) _ _ _ | show wpAny _ _ (subscriptTail _ _ (.ref _) (.int _ _)) _ _ _ | show wpAny _ _ (binaryOp .Add (.bytes _ _) (.bytes _ _)) _ _ _)); (first | (k_unfold; (try dsimp only)) | walk1 | (dsimp only; walk1) | (leave1; walk_say "STEP leave1"; try dsimp only) | ((fail_if_success (show wpAny _ _ _ _ _ _)); dsimp only) | fail "no step")))
          refine item_listL (PySem.IsL.isList (kN _ (.tail _ (.head _))).1) hk0 (by omega) hu' ?_
          (repeat' ((fail_if_success (with_reducible first | (show wpAny _ _ (PySem.eval _ _) _ _ _; first | show wpAny _ _ (PySem.eval (.ListComp _ _ _ _) _) _ _ _ | show wpAny _ _ (PySem.eval (.JoinedStr _ _) _) _ _ _) | (show wpAny _ _ (exec _ _) _ _ _; first | show wpAny _ _ (exec (.While _ _ _ _) _) _ _ _ | show wpAny _ _ (exec (.For _ _ _ _ _) _) _ _ _ | show wpAny _ _ (exec (.Raise (some (.Call _ _ _ _)) _ _) _) _ _ _ | show wpAny _ _ (exec (.Return (some (.Constant (.bool false) _ _)) _) _) _ _ _) | (show wpAny _ _ (PySem.call _ _) _ _ _; first | refine h_ref (by decide) ?_ | show wpAny _ _ (PySem.call (.type "IndexError") _) _ _ _) | show wpAny _ _ (pyIter _) (fun it s₂ => LoopAtV _ _ _ _ _ _ _ _ _ it s₂) _ _ | show wpAny _ _ (leaving _ _) _ _ _ | show wpAny _ _ (noteFrame _ _) _ _ _ | show wpAny _ _ (subscriptTail _ _ (.ref _) (.int _ _)) _ _ _)); (first | (k_unfold; (try dsimp only)) | walk1 | (dsimp only; walk1) | (leave1; walk_say "STEP leave1"; try dsimp only) | ((fail_if_success (show wpAny _ _ _ _ _ _)); dsimp only) | fail "no step")))
          refine useT0 led2 (tl ++ own) K0 CB kF kN rfl rfl (fun q hq => by simp [hq]) (fun q hq => .tail _ (.tail _ (List.mem_append_right _ hq))) hd2
            (fun g2 _ hk => sm_spec t' g2 W2 led2 v' u' hW2 hv' (hit.mono fun _ _ x => x.toG (fun q hq => hk q (List.mem_append_left _ hq))) (by omega)) (by walk_at "MINE room") (by walk_at "MINE room") ?_
          clear kF kN hW2 hd2
          rintro r3 h13 tk13 led3 kF kN hd3 ⟨rfl, W3, hle3, hW3⟩
          dsimp only
          (repeat' ((fail_if_success (with_reducible first | (show wpAny _ _ (PySem.eval _ _) _ _ _; first | show wpAny _ _ (PySem.eval (.ListComp _ _ _ _) _) _ _ _ | show wpAny _ _ (PySem.eval (.JoinedStr _ _) _) _ _ _) | (show wpAny _ _ (exec _ _) _ _ _; first | show wpAny _ _ (exec (.While _ _ _ _) _) _ _ _ | show wpAny _ _ (exec (.For _ _ _ _ _) _) _ _ _ | show wpAny _ _ (exec (.Raise (some (.Call _ _ _ _)) _ _) _) _ _ _ | show wpAny _ _ (exec (.Return (some (.Constant (.bool false) _ _)) _) _) _ _ _) | (show wpAny _ _ (PySem.call _ _) _ _ _; first | refine h_ref (by decide) ?_ | show wpAny _ _ (PySem.call (.type "IndexError") _) _ _ _) | show wpAny _ _ (pyIter _) (fun it s₂ => LoopAtV _ _ _ _ _ _ _ _ _ it s₂) _ _ | show wpAny _ _ (leaving _ _) _ _ _ | show wpAny _ _ (noteFrame _ _) _ _ _ | show wpAny _ _ (subscriptTail _ _ (.ref _) (.int _ _)) _ _ _)); (first | (k_unfold; (try dsimp only)) | walk1 | (dsimp only; walk1) | (leave1; walk_say "STEP leave1"; try dsimp only) | ((fail_if_success (show wpAny _ _ _ _ _ _)); dsimp only) | fail "no step")))
          exact ⟨_, _, _, led3 ++ (tl ++ own), led3 ++ tl, rfl, kF, kN, (fun q hq => by rw [← List.append_assoc]; exact List.mem_append_left _ hq), (fun q hq => by simp [hq]),
            (fun q hq r hr e => (List.mem_append.mp hr).elim (fun h => hd3 r h q (List.mem_append_right _ hq) e.symm) (fun h => hoff2 q hq r h e)), e1, e2, e3, e4, W3, led3, hw2.trans hle3, hW3, rfl, fun q hq r hr => hd3 q hq r (List.mem_append_left _ hr)⟩
        · replace kN := weak (l := (a, PySem.W.listOf vs.toArray n) :: (led2 ++ (tl ++ own))) kN (fun q hq => by
            rcases List.mem_cons.mp hq with rfl | hq
            · exact List.mem_append_right _ (List.mem_append_left _ hmem)
            · exact (List.mem_append.mp hq).elim (fun h => List.mem_append_left _ (hsub2 q h)) (fun h => List.mem_append_right _ h))
          clear hd12 hsub2
          dsimp only
          (repeat' ((fail_if_success (with_reducible first | (show wpAny _ _ (PySem.eval _ _) _ _ _; first | show wpAny _ _ (PySem.eval (.ListComp _ _ _ _) _) _ _ _ | show wpAny _ _ (PySem.eval (.JoinedStr _ _) _) _ _ _) | (show wpAny _ _ (exec _ _) _ _ _; first | show wpAny _ _ (exec (.While _ _ _ _) _) _ _ _ | show wpAny _ _ (exec (.For _ _ _ _ _) _) _ _ _ | show wpAny _ _ (exec (.Raise (some (.Call _ _ _ _)) _ _) _) _ _ _ | show wpAny _ _ (exec (.Return (some (.Constant (.bool false) _ _)) _) _) _ _ _) | (show wpAny _ _ (PySem.call _ _) _ _ _; first | refine h_ref (by decide) ?_ | show wpAny _ _ (PySem.call (.type "IndexError") _) _ _ _) | show wpAny _ _ (pyIter _) (fun it s₂ => LoopAtV _ _ _ _ _ _ _ _ _ it s₂) _ _ | show wpAny _ _ (leaving _ _) _ _ _ | show wpAny _ _ (noteFrame _ _) _ _ _ | show wpAny _ _ (subscriptTail _ _ (.ref _) (.int _ _)) _ _ _)); (first | (k_unfold; (try dsimp only)) | walk1 | (dsimp only; walk1) | (leave1; walk_say "STEP leave1"; try dsimp only) | ((fail_if_success (show wpAny _ _ _ _ _ _)); dsimp only) | fail "no step")))
          try any_goals (exfalso; omega)
          rename Fr _ _ _ _ => kF
          rename News _ _ _ _ => kN
          exact ⟨_, _, _, led2 ++ (tl ++ own), led2 ++ tl, rfl, kF, weak kN (fun q hq => .tail _ hq), (fun q hq => by rw [← List.append_assoc]; exact List.mem_append_left _ hq), (fun q hq => by simp [hq]),
            (fun q hq r hr e => (List.mem_append.mp hr).elim (fun h => hd2 r h q (List.mem_append_right _ hq) e.symm) (fun h => hoff2 q hq r h e)), e1, e2, e3, e4, W2, led2, hw2, hW2, rfl, fun q hq r hr => hd2 q hq r (List.mem_append_left _ hr)⟩
      · clear F3 N3 hDl l3'
        rintro m₁ nx h₁ tk₁ ⟨m1, m2, m3, m4, W1, led1, hle1, hW1, rfl, hd1⟩ kF kN
        change Fr s1.heap s1.heap.objs.size _ _ at kF
        change News s1.heap s1.heap.objs.size _ _ at kN
        obtain ⟨od, hin0⟩ := hW1.inst (hle1 _ _ hx)
        replace kN := weak (l := (a, PySem.W.listOf vs.toArray n) :: (((x, instObj 152 i.dx) :: (i.dx, od) :: led1) ++ tl)) kN (fun q hq => by
          rcases List.mem_cons.mp hq with rfl | hq
          · exact List.mem_append_right _ hmem
          · rcases List.mem_append.mp hq with hq | hq
            · exact List.mem_append_left _ (hin0 q hq)
            · exact List.mem_append_right _ hq)
        dsimp only [List.cons_append, List.nil_append] at kN
        (repeat' ((fail_if_success (with_reducible first | (show wpAny _ _ (PySem.eval _ _) _ _ _; first | show wpAny _ _ (PySem.eval (.ListComp _ _ _ _) _) _ _ _ | show wpAny _ _ (PySem.eval (.JoinedStr _ _) _) _ _ _) | (show wpAny _ _ (exec _ _) _ _ _; first | show wpAny _ _ (exec (.While _ _ _ _) _) _ _ _ | show wpAny _ _ (exec (.For _ _ _ _ _) _) _ _ _ | show wpAny _ _ (exec (.Raise (some (.Call _ _ _ _)) _ _) _) _ _ _ | show wpAny _ _ (exec (.Return (some (.Constant (.bool false) _ _)) _) _) _ _ _) | (show wpAny _ _ (PySem.call _ _) _ _ _; first | refine h_ref (by decide) ?_ | show wpAny _ _ (PySem.call (.type "IndexError") _) _ _ _) | show wpAny _ _ (pyIter _) (fun it s₂ => LoopAtV _ _ _ _ _ _ _ _ _ it s₂) _ _ | show wpAny _ _ (leaving _ _) _ _ _ | show wpAny _ _ (noteFrame _ _) _ _ _ | show wpAny _ _ (subscriptTail _ _ (.ref _) (.int _ _)) _ _ _)); (first | (k_unfold; (try dsimp only)) | walk1 | (dsimp only; walk1) | (leave1; walk_say "STEP leave1"; try dsimp only) | ((fail_if_success (show wpAny _ _ _ _ _ _)); dsimp only) | fail "no step")))
        refine useT0 led1 tl K0 CB kF kN rfl rfl (fun q hq => by simp [hq]) (fun q hq => by simp [hq]) hd1 (fun g2 _ _ => len_spec g2 x i W1 led1 hW1 (hle1 _ _ hx)) (by walk_at "MINE room") (by walk_at "MINE room") ?_
        clear kF kN hin0 hW1 hle1
        rintro r2 h12 tk12 mt12 kF kN _ ⟨W2, _, _, tkl, rfl⟩
        replace kN := weak (l := (a, PySem.W.listOf vs.toArray n) :: tl) kN (fun q hq => by
          rcases List.mem_cons.mp hq with rfl | hq
          · exact List.mem_append_right _ hmem
          · exact List.mem_append_right _ hq)
        dsimp only [PySem.W.LenBack]
        refine ⟨⟨by omega, by omega⟩, ?_⟩
        (repeat' ((fail_if_success (with_reducible first | (show wpAny _ _ (PySem.eval _ _) _ _ _; first | show wpAny _ _ (PySem.eval (.ListComp _ _ _ _) _) _ _ _ | show wpAny _ _ (PySem.eval (.JoinedStr _ _) _) _ _ _) | (show wpAny _ _ (exec _ _) _ _ _; first | show wpAny _ _ (exec (.While _ _ _ _) _) _ _ _ | show wpAny _ _ (exec (.For _ _ _ _ _) _) _ _ _ | show wpAny _ _ (exec (.Raise (some (.Call _ _ _ _)) _ _) _) _ _ _ | show wpAny _ _ (exec (.Return (some (.Constant (.bool false) _ _)) _) _) _ _ _) | (show wpAny _ _ (PySem.call _ _) _ _ _; first | refine h_ref (by decide) ?_ | show wpAny _ _ (PySem.call (.type "IndexError") _) _ _ _) | show wpAny _ _ (pyIter _) (fun it s₂ => LoopAtV _ _ _ _ _ _ _ _ _ it s₂) _ _ | show wpAny _ _ (leaving _ _) _ _ _ | show wpAny _ _ (noteFrame _ _) _ _ _ | show wpAny _ _ (subscriptTail _ _ (.ref _) (.int _ _)) _ _ _)); (first | (k_unfold; (try dsimp only)) | walk1 | (dsimp only; walk1) | (leave1; walk_say "STEP leave1"; try dsimp only) | ((fail_if_success (show wpAny _ _ _ _ _ _)); dsimp only) | fail "no step")))
        any_goals (exfalso; omega)
        exact ⟨rfl, _, _, _, rfl, by assumption, weak (by assumption) (fun q hq => .tail _ hq), m1, m2, m3⟩)

theorem PySem.Challenge.cw_is0005_01_holds : PySem.Challenge.rw_is0005_01.Holds := by
  exact Mine.law_try
