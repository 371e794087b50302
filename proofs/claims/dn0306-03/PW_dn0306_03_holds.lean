import PyProof.Rows.All
import Wide.All
import OpenK.AllK
import Wide.FinOn
import PySem.Challenge.RW_dn0306_03
open PySem PySem.W PyProof.Rows
set_option Elab.async false
set_option maxRecDepth 100000
set_option maxHeartbeats 8000000
namespace Mine
def Up (s s' : Shared) : Prop := s.toks ≤ s'.toks ∧ s.heap.objs.size ≤ s'.heap.objs.size
theorem Up.refl (s : Shared) : Up s s := ⟨Nat.le_refl _, Nat.le_refl _⟩
theorem Up.trans {a b c : Shared} (h : Up a b) (k : Up b c) : Up a c := ⟨Nat.le_trans h.1 k.1, Nat.le_trans h.2 k.2⟩
theorem size_update (h : Heap) (a : Addr) (f : Obj → Obj) : (h.update a f).objs.size = h.objs.size := by
  cases h; simp [Heap.update]
theorem size_push (h : Heap) (o : Obj) : (h.push o).objs.size = h.objs.size + 1 := by
  cases h; simp [Heap.push]
theorem runs_up {M : Model} {Γ : Ctx} {p : Pos} {t : Sem Fin} {fs : List Frame} {s : Shared} {e : End} {s' : Shared} (r : Runs M Γ p t fs s e s') : Up s s' := by
  induction r with
  | done => exact Up.refl _
  | raise => exact Up.refl _
  | yield => exact Up.refl _
  | again _ _ ih => exact ih
  | rule _ ih => exact ih
  | «at» _ ih => exact ih
  | load _ _ ih => exact ih
  | update _ _ ih => exact ⟨ih.1, by have := ih.2; rw [size_update] at this; exact this⟩
  | loadIfAlive _ ih => exact ih
  | point _ ih => exact ih
  | alloc _ ih => exact ⟨ih.1, by have := ih.2; rw [size_push] at this; omega⟩
  | fresh _ ih => exact ⟨Nat.le_trans (Nat.le_succ _) ih.1, ih.2⟩
  | ask _ ih => exact ih
  | choose _ _ ih => exact ih
  | os _ ih => exact ih
  | handled _ ih => exact ih
  | genState _ _ ih => exact ih
  | stack _ ih => exact ih
  | thread _ ih => exact ih
  | newGen _ ih => exact ih
  | call _ _ i1 i2 => exact Up.trans i1 i2
  | callSusp _ ih => exact ih
  | resumeFresh _ _ _ _ i1 i2 => exact Up.trans i1 i2
  | resumeSuspended _ _ _ _ i1 i2 => exact Up.trans i1 i2
  | resumeJustStarted _ _ _ ih => exact ih
  | resumeThrowFresh _ _ ih => exact ih
  | resumeRunning _ _ ih => exact ih
  | resumeFinished _ _ ih => exact ih
  | segRet _ _ i1 i2 => exact Up.trans i1 i2
  | segGen _ _ i1 i2 => exact Up.trans i1 i2
  | segSuspOut _ _ ih => exact ih
  | segSuspGen _ _ _ _ i1 i2 => exact Up.trans i1 i2
theorem wakes_up {M : Model} {Γ : Ctx} {p : Pos} {g : Nat} {r : Resume} {s : Shared} {res : GenResult} {s' : Shared} (h : Wakes M Γ p g r s res s') : Up s s' := by
  unfold Wakes at h
  split at h
  · exact h.elim
  · split at h
    · obtain ⟨e, s₁, h1, _, _, rfl⟩ := h; have u := runs_up h1; exact ⟨u.1, u.2⟩
    · obtain ⟨_, rfl⟩ := h; exact Up.refl _
    · obtain ⟨_, rfl⟩ := h; exact Up.refl _
  · obtain ⟨e, s₁, h1, _, _, rfl⟩ := h; have u := runs_up h1; exact ⟨u.1, u.2⟩
  · obtain ⟨_, rfl⟩ := h; exact Up.refl _
  · obtain ⟨_, rfl⟩ := h; exact Up.refl _
theorem wp_up {α : Type} {M : Model} {Γ : Ctx} {t : Sem α} : ∀ {Q : α → Pos → Shared → Prop} {E : Value → Pos → Shared → Prop} {p : Pos} {s s₀ : Shared}, Up s₀ s →
    Sem.wp M Γ t (fun a p' s' => Up s₀ s' → Q a p' s') (fun e p' s' => Up s₀ s' → E e p' s') p s → Sem.wp M Γ t Q E p s := by
  induction t with
  | pure a => intro Q E p s s₀ u h; exact h u
  | raise e => intro Q E p s s₀ u h; exact h u
  | update a part f k ih =>
    intro Q E p s s₀ u h
    rw [Sem.wp_update] at h ⊢
    exact ⟨h.1, ih () (Up.trans u ⟨Nat.le_refl _, by show _ ≤ (s.heap.update a f).objs.size; rw [size_update]; exact Nat.le_refl _⟩) h.2⟩
  | alloc o k ih =>
    intro Q E p s s₀ u h
    rw [Sem.wp_alloc] at h ⊢
    exact ih _ (Up.trans u ⟨Nat.le_refl _, by show _ ≤ (s.heap.push o).objs.size; rw [size_push]; exact Nat.le_succ _⟩) h
  | fresh k ih =>
    intro Q E p s s₀ u h
    rw [Sem.wp_fresh] at h ⊢
    exact ih _ (Up.trans u ⟨Nat.le_succ _, Nat.le_refl _⟩) h
  | load a part k ih => intro Q E p s s₀ u h; rw [Sem.wp_load] at h ⊢; obtain ⟨o, h1, h2⟩ := h; exact ⟨o, h1, ih o u h2⟩
  | choose src n k ih => intro Q E p s s₀ u h; rw [Sem.wp_choose] at h ⊢; exact ⟨h.1, ih _ (Up.trans u (Up.refl _)) h.2⟩
  | genState g k ih => intro Q E p s s₀ u h; rw [Sem.wp_genState] at h ⊢; obtain ⟨o, h1, h2⟩ := h; exact ⟨o, h1, ih _ u h2⟩
  | call c hh g l k ih =>
    intro Q E p s s₀ u h
    rw [Sem.wp_call] at h ⊢
    obtain ⟨r, s', h1, h2⟩ := h
    exact ⟨r, s', h1, ih r (Up.trans u (runs_up h1)) h2⟩
  | resume g r l k ih =>
    intro Q E p s s₀ u h
    rw [Sem.wp_resume] at h ⊢
    obtain ⟨r, s', h1, h2⟩ := h
    exact ⟨r, s', h1, ih r (Up.trans u (wakes_up h1)) h2⟩
  | rule tag k ih => intro Q E p s s₀ u h; rw [Sem.wp_rule] at h ⊢; exact ih _ u h
  | «at» q k ih => intro Q E p s s₀ u h; rw [Sem.wp_at] at h ⊢; exact ih _ u h
  | loadIfAlive q k ih => intro Q E p s s₀ u h; rw [Sem.wp_loadIfAlive] at h ⊢; exact ih _ u h
  | point q k ih => intro Q E p s s₀ u h; rw [Sem.wp_point] at h ⊢; exact ih _ u h
  | ask k ih => intro Q E p s s₀ u h; rw [Sem.wp_ask] at h ⊢; exact ih _ u h
  | os q l k ih => intro Q E p s s₀ u h; rw [Sem.wp_os] at h ⊢; exact ih _ (Up.trans u (Up.refl _)) h
  | handled q k ih => intro Q E p s s₀ u h; rw [Sem.wp_handled] at h ⊢; exact ih _ u h
  | newGen q k ih => intro Q E p s s₀ u h; rw [Sem.wp_newGen] at h ⊢; exact ih _ (Up.trans u (Up.refl _)) h
  | stack k ih => intro Q E p s s₀ u h; rw [Sem.wp_stack] at h ⊢; exact ih _ u h
  | thread k ih => intro Q E p s s₀ u h; rw [Sem.wp_thread] at h ⊢; exact ih _ u h
  | unsupported => intro Q E p s s₀ u h; rw [Sem.wp_unsupported] at h; exact h.elim
  | finish => intro Q E p s s₀ u h; rw [Sem.wp_finish] at h; exact h.elim
  | register => intro Q E p s s₀ u h; rw [Sem.wp_register] at h; exact h.elim
  | yield => intro Q E p s s₀ u h; rw [Sem.wp_yield] at h; exact h.elim
  | fork => intro Q E p s s₀ u h; rw [Sem.wp_fork] at h; exact h.elim
  | await => intro Q E p s s₀ u h; rw [Sem.wp_await] at h; exact h.elim
theorem any_up {α : Type} {M : Model} {A : Around} {t : Sem α} {Q : α → Shared → Prop} {E : Value → Shared → Prop} {s : Shared}
    (h : wpAny M A t (fun a s' => Up s s' → Q a s') (fun e s' => Up s s' → E e s') s) : wpAny M A t Q E s :=
  fun Γ p hΓ => wp_up (Up.refl s) (h Γ p hΓ)
end Mine

namespace Mine
def Halt (P : Prop) : Prop := P
theorem Halt.go {P : Prop} (h : Halt P) : P := h
theorem genToks {α : Type} {M : Model} {A : Around} {t : Sem α} {Q : α → Shared → Prop} {E : Value → Shared → Prop} {hp : Heap} {g : Array GenState} {d : Drawn} {a b : Nat} {os : OsState}
    (h : ∀ k, 0 < k → wpAny M A t Q E ⟨hp, g, d, k, os⟩) (hpos : 0 < a + b) : wpAny M A t Q E ⟨hp, g, d, a + b, os⟩ := h _ hpos
end Mine

namespace Mine
theorem never {α : Type} {M : Model} {A : Around} {t : Sem α} {Q : α → Shared → Prop} {E : Value → Shared → Prop} {s : Shared} (h : wpAny M A t Q (fun _ _ => False) s) : wpAny M A t Q E s :=
  wpAny_mono h (fun _ _ x => x) fun _ _ x => x.elim
theorem fr_eq {h₀ h : Heap} {L : Addr} {m m' : PySem.Str → Option Value} (F : Fr h₀ L h m) (e : ∀ y, m y = m' y) : Fr h₀ L h m' := (funext e : m = m') ▸ F
theorem news_sub {h₀ h : Heap} {L : Addr} {n n' : List (Addr × Obj)} (N : News h₀ L h n) (e : ∀ p ∈ n', p ∈ n) : News h₀ L h n' := fun p hp => N p (e p hp)

def StepSt {σ : Type} (h₀ : Heap) (L : Addr) (fm : σ → PySem.Str → Option Value) (lg : σ → List (Addr × Obj)) (J : σ → Prop) (μ : σ → Nat) (x : σ) (s : Shared) (Q : Flow → Shared → Prop) (f : Flow) (s₃ : Shared) : Prop :=
  match f with
  | .next | .cont => ∃ y h' tk, s₃ = { s with heap := h', toks := tk } ∧ Fr h₀ L h' (fm y) ∧ News h₀ L h' (lg y) ∧ J y ∧ μ y < μ x
  | .brk => Q .next s₃
  | .ret v => Q (.ret v) s₃
theorem StepSt.next {σ : Type} {h₀ : Heap} {L : Addr} {fm : σ → PySem.Str → Option Value} {lg : σ → List (Addr × Obj)} {J : σ → Prop} {μ : σ → Nat} {x : σ} {s : Shared} {Q : Flow → Shared → Prop} (y : σ) {h' : Heap} {tk : Nat}
    (F : Fr h₀ L h' (fm y)) (N : News h₀ L h' (lg y)) (hJ : J y) (hm : μ y < μ x) : StepSt h₀ L fm lg J μ x s Q .next { s with heap := h', toks := tk } := ⟨y, h', tk, rfl, F, N, hJ, hm⟩

theorem While_st {σ : Type} {prog : Program} {w : World} {A : Around} {E : Value → Shared → Prop} {Q : Flow → Shared → Prop} {s : Shared} {env : Env} {h₀ : Heap} {L : Addr} {test : Expr} {body : List Stmt} {pos : Pos}
    (fm : σ → PySem.Str → Option Value) (lg : σ → List (Addr × Obj)) (J : σ → Prop) (μ : σ → Nat) (x₀ : σ)
    (hpos : 0 < s.toks) (F : Fr h₀ L s.heap (fm x₀)) (N : News h₀ L s.heap (lg x₀)) (hJ : J x₀)
    (turn : ∀ x h₁ tk₁, 0 < tk₁ → J x → Fr h₀ L h₁ (fm x) → News h₀ L h₁ (lg x) → s.heap.objs.size ≤ h₁.objs.size →
      wpAny (model prog w) A (isTrue test env (eval test env)) (fun b s₂ =>
        if b = true then wpAny (model prog w) A (execs body env) (StepSt h₀ L fm lg J μ x s Q) E s₂ else Q .next s₂) E { s with heap := h₁, toks := tk₁ })
    (hE : PassesOwn (model prog w) A env E := by passes_own) :
    wpAny (model prog w) A (exec (.While test body [] pos) env) Q E s := by
  refine wpAny_While (codeAny_whileLoop (fun n s' => ∃ x h₁ tk₁, s' = { s with heap := h₁, toks := tk₁ } ∧ 0 < tk₁ ∧ J x ∧ Fr h₀ L h₁ (fm x) ∧ News h₀ L h₁ (lg x) ∧ s.heap.objs.size ≤ h₁.objs.size ∧ μ x = n) ?_ (μ x₀) ⟨x₀, s.heap, s.toks, rfl, hpos, hJ, F, N, Nat.le_refl _, rfl⟩)
  rintro n s' ⟨x, h₁, tk₁, rfl, p₁, J₁, F₁, N₁, z₁, rfl⟩
  refine any_up (wpAny_mono (turn x h₁ tk₁ p₁ J₁ F₁ N₁ z₁) (fun b s₂ h₂ up => ?_) fun e s₂ h₂ up => hE e s₂ h₂)
  cases b with
  | false =>
    simp only [Bool.false_eq_true, if_false] at h₂ ⊢
    exact wpAny_execs_nil h₂
  | true =>
    simp only [if_true] at h₂ ⊢
    refine any_up (wpAny_mono h₂ (fun f s₃ h₃ up₃ => ?_) fun e s₂ h₂ up => hE e s₂ h₂)
    have up' := up.trans up₃
    have key : (∃ y h' tk, s₃ = { s with heap := h', toks := tk } ∧ Fr h₀ L h' (fm y) ∧ News h₀ L h' (lg y) ∧ J y ∧ μ y < μ x) →
        ∃ m, m < μ x ∧ ∃ x h₁ tk₁, s₃ = { s with heap := h₁, toks := tk₁ } ∧ 0 < tk₁ ∧ J x ∧ Fr h₀ L h₁ (fm x) ∧ News h₀ L h₁ (lg x) ∧ s.heap.objs.size ≤ h₁.objs.size ∧ μ x = m := by
      rintro ⟨y, h', tk, rfl, F₂, N₂, J₂, hm⟩
      have u1 : tk₁ ≤ tk := up'.1
      have u2 : h₁.objs.size ≤ h'.objs.size := up'.2
      exact ⟨μ y, hm, y, h', tk, rfl, by omega, J₂, F₂, N₂, by omega, rfl⟩
    cases f with
    | next => exact key h₃
    | cont => exact key h₃
    | brk => exact h₃
    | ret v => exact h₃
end Mine

namespace Mine
def ForSt {σ : Type} (h₀ : Heap) (L : Addr) (fm : σ → PySem.Str → Option Value) (lg : σ → List (Addr × Obj)) (own : List (Addr × Obj)) (J : σ → Prop) (s : Shared) (Q : Flow → Shared → Prop) (f : Flow) (s₃ : Shared) : Prop :=
  match f with
  | .next | .cont => ∃ y h' tk, s₃ = { s with heap := h', toks := tk } ∧ Fr h₀ L h' (fm y) ∧ News h₀ L h' (lg y ++ own) ∧ J y
  | .brk => Q .next s₃
  | .ret v => Q (.ret v) s₃
theorem ForSt.next {σ : Type} {h₀ : Heap} {L : Addr} {fm : σ → PySem.Str → Option Value} {lg : σ → List (Addr × Obj)} {own : List (Addr × Obj)} {J : σ → Prop} {s : Shared} {Q : Flow → Shared → Prop} (y : σ) {h' : Heap} {tk : Nat}
    (F : Fr h₀ L h' (fm y)) (N : News h₀ L h' (lg y ++ own)) (hJ : J y) : ForSt h₀ L fm lg own J s Q .next { s with heap := h', toks := tk } := ⟨y, h', tk, rfl, F, N, hJ⟩
abbrev forR (M : Model) (A : Around) (env : Env) (Q : Flow → Shared → Prop) (E : Value → Shared → Prop) : Result → Shared → Prop := fun r s' => match r with | .ok f => Q f s' | .error e => cameBackBy M A env E e s'

theorem forLoop_st {σ : Type} {prog : Program} {w : World} {A : Around} {E : Value → Shared → Prop} {Q : Flow → Shared → Prop} {s : Shared} {env : Env} {h₀ : Heap} {x : PySem.Str} {px : Pos} {body : List Stmt} {I : Addr} {fp wr : List Addr} {n : Nat} {P : Nat → Value → Prop} {St : Nat → Heap → Prop}
    (fm : σ → PySem.Str → Option Value) (lg : σ → List (Addr × Obj)) (J : Nat → σ → Prop) (x₀ : σ)
    (W : Walks prog w A I fp wr n P St) (hx : env.kindOf x = some .local) (hp : (env.scope.kind == .class || (env.scope.kind == .module && env.locals != env.globals)) = false)
    (hLf : env.locals ∉ fp) (hwr : ∀ b ∈ wr, h₀.get? b = none) (hoff : ∀ i y, J i y → ∀ p ∈ lg y, p.1 ∉ wr)
    (hst : St 0 s.heap) (hpos : 0 < s.toks) (F : Fr h₀ env.locals s.heap (fm x₀)) (N : News h₀ env.locals s.heap (lg x₀)) (h0 : J 0 x₀)
    (turn : ∀ i v y h tk own, 0 < tk → i < n → P i v → J i y → (∀ p ∈ own, p.1 ∈ fp) → Fr h₀ env.locals h (fun z => if z = x then some v else fm y z) → News h₀ env.locals h (lg y ++ own) → s.heap.objs.size ≤ h.objs.size →
      wpAny (model prog w) A (execs body env) (ForSt h₀ env.locals fm lg own (J (i + 1)) s Q) E { s with heap := h, toks := tk })
    (done : ∀ y h tk, 0 < tk → J n y → Fr h₀ env.locals h (fm y) → News h₀ env.locals h (lg y) → s.heap.objs.size ≤ h.objs.size → Q .next { s with heap := h, toks := tk })
    (hE : PassesOwn (model prog w) A env E := by passes_own) :
    codeAny (model prog w) A (.forLoop (.Name x px) (.ref I) body [] env) (forR (model prog w) A env Q E) s := by
  have hLw : env.locals ∉ wr := fun h => hLf (W.sub _ h)
  have old : ∀ b o, h₀.get? b = some o → b ∉ wr := fun b o e hb => by rw [hwr b hb] at e; cases e
  refine codeAny_forLoop
    (fun k s' => ∃ y h' tk i, s' = { s with heap := h', toks := tk } ∧ 0 < tk ∧ s.heap.objs.size ≤ h'.objs.size ∧ St i h' ∧ Fr h₀ env.locals h' (fm y) ∧ News h₀ env.locals h' (lg y) ∧ J i y ∧ i ≤ n ∧ k = n + 1 - i) ?_ (n + 1)
    ⟨x₀, s.heap, s.toks, 0, rfl, hpos, Nat.le_refl _, hst, F, N, h0, Nat.zero_le _, rfl⟩
  rintro k s' ⟨y, h', tk, i, rfl, ptk, sz, hst', F', N', hJ, hi, rfl⟩
  have next : ∀ h₁ : Heap, (∀ b o, b ∉ wr → h'.get? b = some o → h₁.get? b = some o) → Fr h₀ env.locals h₁ (fm y) ∧ News h₀ env.locals h₁ (lg y) := fun h₁ hk₁ =>
    ⟨⟨F'.ns.at' fun o e => hk₁ _ o hLw e, fun b o e => hk₁ b o (old b o e) (F'.keep b o e), F'.above⟩, fun p hp => ⟨hk₁ _ _ (hoff i y hJ p hp) (N' p hp).1, (N' p hp).2⟩⟩
  by_cases hlt : i < n
  · refine any_up (W.item i _ _ _ hlt hst' fun v h₁ tk₁ hP hst₁ hk₁ up => ?_)
    obtain ⟨F₁, N₁⟩ := next h₁ hk₁
    refine wpAny_assign_Name (any_up (wpAny_storeName_local hx F₁.ns (fun h₂ hn₂ hs₂ up₂ => ?_) hp))
    have F₂ := F₁.set hn₂ hs₂
    have u1 : tk ≤ tk₁ := up.1
    have u2 : h'.objs.size ≤ h₁.objs.size := up.2
    have u3 : h₁.objs.size ≤ h₂.objs.size := up₂.2
    have Nown : News h₀ env.locals h₂ (ownOf h₀ fp h₂) := news_ownOf hLf
    refine any_up (wpAny_mono (turn i v y h₂ (tk₁ + 1) (ownOf h₀ fp h₂) (by omega) hlt hP hJ ownOf_sub F₂ ((N₁.set hs₂).append Nown) (by omega)) (fun f s₃ h₃ up₃ => ?_) fun e s₂ h₂ _ => hE e s₂ h₂)
    have key : (∃ y h' tk, s₃ = { s with heap := h', toks := tk } ∧ Fr h₀ env.locals h' (fm y) ∧ News h₀ env.locals h' (lg y ++ ownOf h₀ fp h₂) ∧ J (i + 1) y) →
        ∃ m, m < n + 1 - i ∧ ∃ y h' tk i, s₃ = { s with heap := h', toks := tk } ∧ 0 < tk ∧ s.heap.objs.size ≤ h'.objs.size ∧ St i h' ∧ Fr h₀ env.locals h' (fm y) ∧ News h₀ env.locals h' (lg y) ∧ J i y ∧ i ≤ n ∧ m = n + 1 - i := by
      rintro ⟨y', h₃', tk₃, rfl, F₃, N₃, hJ₃⟩
      have v1 : tk₁ + 1 ≤ tk₃ := up₃.1
      have v2 : h₂.objs.size ≤ h₃'.objs.size := up₃.2
      refine ⟨n + 1 - (i + 1), by omega, y', h₃', tk₃, i + 1, rfl, by omega, by omega, ?_, F₃, fun p hp => N₃ p (List.mem_append_left _ hp), hJ₃, hlt, rfl⟩
      refine W.frame _ _ _ hst₁ fun b hb o e => ?_
      have e₂ : h₂.get? b = some o := (hs₂.2 b fun q => hLf (q ▸ hb)).trans e
      cases hn : h₀.get? b with
      | some o₀ =>
        have : o₀ = o := by have := F₂.keep b o₀ hn; rw [e₂] at this; exact (Option.some.inj this).symm
        exact this ▸ F₃.keep b o₀ hn
      | none => exact (N₃ _ (List.mem_append_right _ (mem_ownOf hb hn e₂))).1
    cases f with
    | next => exact key h₃
    | cont => exact key h₃
    | brk => exact h₃
    | ret v => exact h₃
  · have hin : i = n := by omega
    subst hin
    refine any_up (W.done _ _ _ hst' fun h₁ tk₁ hk₁ up => wpAny_execs_nil ?_)
    obtain ⟨F₁, N₁⟩ := next h₁ hk₁
    have u1 : tk ≤ tk₁ := up.1
    have u2 : h'.objs.size ≤ h₁.objs.size := up.2
    exact done y h₁ tk₁ (by omega) hJ F₁ N₁ (by omega)

section
variable {σ : Type} {prog : Program} {w : World} {A : Around} {E : Value → Shared → Prop} {Q : Flow → Shared → Prop} {s : Shared} {env : Env} {h₀ : Heap} {x : PySem.Str} {px : Pos} {body : List Stmt}

theorem iterList_st {l : Addr} {vs : List Value} (fm : σ → PySem.Str → Option Value) (lg : σ → List (Addr × Obj)) (J : Nat → σ → Prop) (x₀ : σ)
    (hl : s.heap.IsList l vs.toArray) (hh : A.handled = none) (hx : env.kindOf x = some .local) (hp : (env.scope.kind == .class || (env.scope.kind == .module && env.locals != env.globals)) = false)
    (hloc : l ≠ env.locals) (hpos : 0 < s.toks) (F : Fr h₀ env.locals s.heap (fm x₀)) (N : News h₀ env.locals s.heap (lg x₀)) (h0 : J 0 x₀)
    (hoff : ∀ i y, J i y → ∀ p ∈ lg y, p.1 ≠ s.heap.objs.size)
    (turn : ∀ i v y h tk own, 0 < tk → vs[i]? = some v → J i y → (∀ p ∈ own, p.1 = s.heap.objs.size ∨ p.1 = l) → Fr h₀ env.locals h (fun z => if z = x then some v else fm y z) → News h₀ env.locals h (lg y ++ own) → s.heap.objs.size < h.objs.size →
      wpAny (model prog w) A (execs body env) (ForSt h₀ env.locals fm lg own (J (i + 1)) s Q) E { s with heap := h, toks := tk })
    (done : ∀ y h tk, 0 < tk → J vs.length y → Fr h₀ env.locals h (fm y) → News h₀ env.locals h (lg y) → s.heap.objs.size < h.objs.size → Q .next { s with heap := h, toks := tk })
    (hE : PassesOwn (model prog w) A env E := by passes_own) :
    wpAny (model prog w) A (pyIter (.ref l)) (fun it s₂ => codeAny (model prog w) A (.forLoop (.Name x px) it body [] env) (forR (model prog w) A env Q E) s₂) E s := by
  obtain ⟨ol, hol, hlr⟩ := id hl
  have hlt : l < s.heap.objs.size := Heap.lt_size hol
  have hne : l ≠ s.heap.objs.size := Nat.ne_of_lt hlt
  refine wpAny_pyIter_list hl ?_
  have W := Walks.list (prog := prog) (w := w) hh s.heap.objs.size l hne vs.toArray
  rw [List.size_toArray] at W
  refine forLoop_st fm lg J x₀ W hx hp ?_ ?_ ?_ ⟨⟨_, Heap.get?_push_size _ rfl, rfl, rfl⟩, hl.at fun o e => Heap.get?_push_of_some _ e⟩ hpos (F.push _) (fun p hp => ⟨Heap.get?_push_of_some _ (N p hp).1, (N p hp).2⟩) h0 ?_ ?_ hE
  · intro hm
    rcases List.mem_cons.mp hm with e | hm
    · exact absurd F.ns.lt (e ▸ Nat.lt_irrefl _)
    · exact hloc (List.mem_singleton.mp hm).symm
  · intro b hb
    rw [List.mem_singleton.mp hb]
    exact next_is_new F
  · intro i y hJ p hp hI
    exact hoff i y hJ p hp (List.mem_singleton.mp hI)
  · intro i v y h tk own p1 hi hP hJ ho F₁ N₁ sz
    exact turn i v y h tk own p1 (by simpa using hP) hJ (fun p hp => by rcases List.mem_cons.mp (ho p hp) with e | e; exact .inl e; exact .inr (List.mem_singleton.mp e)) F₁ N₁ (by have : (s.heap.push _).objs.size ≤ h.objs.size := sz; rw [size_push] at this; omega)
  · intro y h tk p1 hJ F₁ N₁ sz
    exact done y h tk p1 hJ F₁ N₁ (by have : (s.heap.push _).objs.size ≤ h.objs.size := sz; rw [size_push] at this; omega)
end
end Mine

namespace Mine
section
variable {σ : Type} {prog : Program} {w : World} {A : Around} {E : Value → Shared → Prop} {Q : Flow → Shared → Prop} {s : Shared} {env : Env} {h₀ : Heap} {x : PySem.Str} {px : Pos} {body : List Stmt}
theorem iterKeys_st {d : Addr} {D : List (PyData × PyData)} (fm : σ → PySem.Str → Option Value) (lg : σ → List (Addr × Obj)) (J : Nat → σ → Prop) (x₀ : σ)
    (T : StrTab prog w s.heap d D) (hh : A.handled = none) (hx : env.kindOf x = some .local) (hp : (env.scope.kind == .class || (env.scope.kind == .module && env.locals != env.globals)) = false)
    (hloc : d ≠ env.locals) (hpos : 0 < s.toks) (F : Fr h₀ env.locals s.heap (fm x₀)) (N : News h₀ env.locals s.heap (lg x₀)) (h0 : J 0 x₀)
    (hoff : ∀ i y, J i y → ∀ p ∈ lg y, p.1 ≠ s.heap.objs.size)
    (turn : ∀ i k dv t y h tk own, 0 < tk → D[i]? = some (.str k, dv) → J i y → (∀ p ∈ own, p.1 = s.heap.objs.size ∨ p.1 = d) → Fr h₀ env.locals h (fun z => if z = x then some (.str k t) else fm y z) → News h₀ env.locals h (lg y ++ own) → s.heap.objs.size < h.objs.size →
      wpAny (model prog w) A (execs body env) (ForSt h₀ env.locals fm lg own (J (i + 1)) s Q) E { s with heap := h, toks := tk })
    (done : ∀ y h tk, 0 < tk → J D.length y → Fr h₀ env.locals h (fm y) → News h₀ env.locals h (lg y) → s.heap.objs.size < h.objs.size → Q .next { s with heap := h, toks := tk })
    (hE : PassesOwn (model prog w) A env E := by passes_own) :
    wpAny (model prog w) A (pyIter (.ref d)) (fun it s₂ => codeAny (model prog w) A (.forLoop (.Name x px) it body [] env) (forR (model prog w) A env Q E) s₂) E s := by
  obtain ⟨lo, kvs, hdo, hf⟩ := id T
  obtain ⟨ep, hat⟩ := hdo.dictAt
  have hne : d ≠ s.heap.objs.size := Nat.ne_of_lt hat.lt_size
  refine wpAny_pyIter_dict lo hat ?_
  have W := Walks.dictKeys (prog := prog) (w := w) (knd := PySem.strKind prog w) hh s.heap.objs.size d hne kvs ep
  have hlen : kvs.length = D.length := hf.length.symm
  rw [hlen] at W
  refine forLoop_st fm lg J x₀ W hx hp ?_ ?_ ?_ ⟨⟨_, Heap.get?_push_size _ rfl, rfl, by rw [hlen]; rfl⟩, hat.push _⟩ hpos (F.push _) (fun p hp => ⟨Heap.get?_push_of_some _ (N p hp).1, (N p hp).2⟩) h0 ?_ ?_ hE
  · intro hm
    rcases List.mem_cons.mp hm with e | hm
    · exact absurd F.ns.lt (e ▸ Nat.lt_irrefl _)
    · exact hloc (List.mem_singleton.mp hm).symm
  · intro b hb
    rw [List.mem_singleton.mp hb]
    exact next_is_new F
  · intro i y hJ p hp hI
    exact hoff i y hJ p hp (List.mem_singleton.mp hI)
  · rintro i v y h tk own p1 hi ⟨k, xv, hx', hkey⟩ hJ ho F₁ N₁ sz
    obtain ⟨dv, hD, _⟩ := hf.at hx'
    obtain ⟨t, rfl⟩ := Value.isStrOf_shape hkey
    exact turn i k dv t y h tk own p1 hD hJ (fun p hp => by rcases List.mem_cons.mp (ho p hp) with e | e; exact .inl e; exact .inr (List.mem_singleton.mp e)) F₁ N₁ (by have : (s.heap.push _).objs.size ≤ h.objs.size := sz; rw [size_push] at this; omega)
  · intro y h tk p1 hJ F₁ N₁ sz
    exact done y h tk p1 hJ F₁ N₁ (by have : (s.heap.push _).objs.size ≤ h.objs.size := sz; rw [size_push] at this; omega)
theorem iterRange_st {r : Addr} {n : Nat} {t₀ u₀ v₀ : Tok} (fm : σ → PySem.Str → Option Value) (lg : σ → List (Addr × Obj)) (J : Nat → σ → Prop) (x₀ : σ)
    (hr : IsRange s.heap r 0 n 1 t₀ u₀ v₀) (hsmall : Builtin.Range.small 0 n 1 = true) (hn : Builtin.Range.rangeSize 0 n 1 = (n : Int)) (hh : A.handled = none) (hx : env.kindOf x = some .local) (hp : (env.scope.kind == .class || (env.scope.kind == .module && env.locals != env.globals)) = false)
    (hpos : 0 < s.toks) (F : Fr h₀ env.locals s.heap (fm x₀)) (N : News h₀ env.locals s.heap (lg x₀)) (h0 : J 0 x₀)
    (hoff : ∀ i y, J i y → ∀ p ∈ lg y, p.1 ≠ s.heap.objs.size)
    (turn : ∀ (i : Nat) t y h tk own, 0 < tk → i < n → J i y → (∀ p ∈ own, p.1 = s.heap.objs.size) → Fr h₀ env.locals h (fun z => if z = x then some (.int i t) else fm y z) → News h₀ env.locals h (lg y ++ own) → s.heap.objs.size < h.objs.size →
      wpAny (model prog w) A (execs body env) (ForSt h₀ env.locals fm lg own (J (i + 1)) s Q) E { s with heap := h, toks := tk })
    (done : ∀ y h tk, 0 < tk → J n y → Fr h₀ env.locals h (fm y) → News h₀ env.locals h (lg y) → s.heap.objs.size < h.objs.size → Q .next { s with heap := h, toks := tk })
    (hE : PassesOwn (model prog w) A env E := by passes_own) :
    wpAny (model prog w) A (pyIter (.ref r)) (fun it s₂ => codeAny (model prog w) A (.forLoop (.Name x px) it body [] env) (forR (model prog w) A env Q E) s₂) E s := by
  refine wpAny_pyIter_range hr hsmall ?_
  have W := Walks.range (prog := prog) (w := w) hh s.heap.objs.size 0 1 n
  refine forLoop_st fm lg J x₀ W hx hp ?_ ?_ ?_ (by show IsRangeIter _ _ _ _ _; rw [hn]; simpa using Heap.get?_push_size _ rfl) hpos (F.push _) (fun p hp => ⟨Heap.get?_push_of_some _ (N p hp).1, (N p hp).2⟩) h0 ?_ ?_ hE
  · intro hm
    exact absurd F.ns.lt ((List.mem_singleton.mp hm) ▸ Nat.lt_irrefl _)
  · intro b hb
    rw [List.mem_singleton.mp hb]
    exact next_is_new F
  · intro i y hJ p hp hI
    exact hoff i y hJ p hp (List.mem_singleton.mp hI)
  · rintro i v y h tk own p1 hi ⟨t, rfl⟩ hJ ho F₁ N₁ sz
    have e : (0 : Int) + (i : Int) * 1 = (i : Int) := by omega
    rw [e] at F₁
    exact turn i t y h tk own p1 hi hJ (fun p hp => List.mem_singleton.mp (ho p hp)) F₁ N₁ (by have : (s.heap.push _).objs.size ≤ h.objs.size := sz; rw [size_push] at this; omega)
  · intro y h tk p1 hJ F₁ N₁ sz
    exact done y h tk p1 hJ F₁ N₁ (by have : (s.heap.push _).objs.size ≤ h.objs.size := sz; rw [size_push] at this; omega)
end
end Mine

namespace Mine
theorem forLoop_st2 {σ : Type} {prog : Program} {w : World} {A : Around} {E : Value → Shared → Prop} {Q : Flow → Shared → Prop} {s : Shared} {env : Env} {h₀ : Heap} {x : PySem.Str} {px : Pos} {body : List Stmt} {I : Addr} {fp wr : List Addr} {n : Nat} {P : Nat → Value → Prop} {St : Nat → Heap → Prop}
    (fm : σ → PySem.Str → Option Value) (lg : σ → List (Addr × Obj)) (J : Nat → σ → Prop) (x₀ : σ)
    (W : Walks prog w A I fp wr n P St) (hx : env.kindOf x = some .local) (hp : (env.scope.kind == .class || (env.scope.kind == .module && env.locals != env.globals)) = false)
    (hLf : env.locals ∉ fp) (hwr : ∀ b ∈ wr, h₀.get? b = none) (hoff : ∀ i y, J i y → ∀ p ∈ lg y, p.1 ∉ wr) (hIs : ∀ i h, St i h → ∃ o, h.get? I = some o) (hIf : I ∈ fp) (hIw : I ∈ wr)
    (hst : St 0 s.heap) (hpos : 0 < s.toks) (F : Fr h₀ env.locals s.heap (fm x₀)) (N : News h₀ env.locals s.heap (lg x₀)) (h0 : J 0 x₀)
    (turn : ∀ i v y h tk own, 0 < tk → i < n → P i v → J i y → (∀ p ∈ own, p.1 ∈ fp) → (∃ o, (I, o) ∈ own) → Fr h₀ env.locals h (fun z => if z = x then some v else fm y z) → News h₀ env.locals h (lg y ++ own) → s.heap.objs.size ≤ h.objs.size →
      wpAny (model prog w) A (execs body env) (ForSt h₀ env.locals fm lg own (J (i + 1)) s Q) E { s with heap := h, toks := tk })
    (done : ∀ y h tk, 0 < tk → J n y → Fr h₀ env.locals h (fm y) → News h₀ env.locals h (lg y) → s.heap.objs.size ≤ h.objs.size → Q .next { s with heap := h, toks := tk })
    (hE : PassesOwn (model prog w) A env E := by passes_own) :
    codeAny (model prog w) A (.forLoop (.Name x px) (.ref I) body [] env) (forR (model prog w) A env Q E) s := by
  have hLw : env.locals ∉ wr := fun h => hLf (W.sub _ h)
  have old : ∀ b o, h₀.get? b = some o → b ∉ wr := fun b o e hb => by rw [hwr b hb] at e; cases e
  refine codeAny_forLoop
    (fun k s' => ∃ y h' tk i, s' = { s with heap := h', toks := tk } ∧ 0 < tk ∧ s.heap.objs.size ≤ h'.objs.size ∧ St i h' ∧ Fr h₀ env.locals h' (fm y) ∧ News h₀ env.locals h' (lg y) ∧ J i y ∧ i ≤ n ∧ k = n + 1 - i) ?_ (n + 1)
    ⟨x₀, s.heap, s.toks, 0, rfl, hpos, Nat.le_refl _, hst, F, N, h0, Nat.zero_le _, rfl⟩
  rintro k s' ⟨y, h', tk, i, rfl, ptk, sz, hst', F', N', hJ, hi, rfl⟩
  have next : ∀ h₁ : Heap, (∀ b o, b ∉ wr → h'.get? b = some o → h₁.get? b = some o) → Fr h₀ env.locals h₁ (fm y) ∧ News h₀ env.locals h₁ (lg y) := fun h₁ hk₁ =>
    ⟨⟨F'.ns.at' fun o e => hk₁ _ o hLw e, fun b o e => hk₁ b o (old b o e) (F'.keep b o e), F'.above⟩, fun p hp => ⟨hk₁ _ _ (hoff i y hJ p hp) (N' p hp).1, (N' p hp).2⟩⟩
  by_cases hlt : i < n
  · refine any_up (W.item i _ _ _ hlt hst' fun v h₁ tk₁ hP hst₁ hk₁ up => ?_)
    obtain ⟨F₁, N₁⟩ := next h₁ hk₁
    refine wpAny_assign_Name (any_up (wpAny_storeName_local hx F₁.ns (fun h₂ hn₂ hs₂ up₂ => ?_) hp))
    have F₂ := F₁.set hn₂ hs₂
    have u1 : tk ≤ tk₁ := up.1
    have u2 : h'.objs.size ≤ h₁.objs.size := up.2
    have u3 : h₁.objs.size ≤ h₂.objs.size := up₂.2
    have hIo : ∃ o, (I, o) ∈ ownOf h₀ fp h₂ := by
      obtain ⟨o, eo⟩ := hIs _ _ hst₁
      exact ⟨o, mem_ownOf hIf (hwr I hIw) ((hs₂.2 I fun q => hLf (q ▸ hIf)).trans eo)⟩
    have Nown : News h₀ env.locals h₂ (ownOf h₀ fp h₂) := news_ownOf hLf
    refine any_up (wpAny_mono (turn i v y h₂ (tk₁ + 1) (ownOf h₀ fp h₂) (by omega) hlt hP hJ ownOf_sub hIo F₂ ((N₁.set hs₂).append Nown) (by omega)) (fun f s₃ h₃ up₃ => ?_) fun e s₂ h₂ _ => hE e s₂ h₂)
    have key : (∃ y h' tk, s₃ = { s with heap := h', toks := tk } ∧ Fr h₀ env.locals h' (fm y) ∧ News h₀ env.locals h' (lg y ++ ownOf h₀ fp h₂) ∧ J (i + 1) y) →
        ∃ m, m < n + 1 - i ∧ ∃ y h' tk i, s₃ = { s with heap := h', toks := tk } ∧ 0 < tk ∧ s.heap.objs.size ≤ h'.objs.size ∧ St i h' ∧ Fr h₀ env.locals h' (fm y) ∧ News h₀ env.locals h' (lg y) ∧ J i y ∧ i ≤ n ∧ m = n + 1 - i := by
      rintro ⟨y', h₃', tk₃, rfl, F₃, N₃, hJ₃⟩
      have v1 : tk₁ + 1 ≤ tk₃ := up₃.1
      have v2 : h₂.objs.size ≤ h₃'.objs.size := up₃.2
      refine ⟨n + 1 - (i + 1), by omega, y', h₃', tk₃, i + 1, rfl, by omega, by omega, ?_, F₃, fun p hp => N₃ p (List.mem_append_left _ hp), hJ₃, hlt, rfl⟩
      refine W.frame _ _ _ hst₁ fun b hb o e => ?_
      have e₂ : h₂.get? b = some o := (hs₂.2 b fun q => hLf (q ▸ hb)).trans e
      cases hn : h₀.get? b with
      | some o₀ =>
        have : o₀ = o := by have := F₂.keep b o₀ hn; rw [e₂] at this; exact (Option.some.inj this).symm
        exact this ▸ F₃.keep b o₀ hn
      | none => exact (N₃ _ (List.mem_append_right _ (mem_ownOf hb hn e₂))).1
    cases f with
    | next => exact key h₃
    | cont => exact key h₃
    | brk => exact h₃
    | ret v => exact h₃
  · have hin : i = n := by omega
    subst hin
    refine any_up (W.done _ _ _ hst' fun h₁ tk₁ hk₁ up => wpAny_execs_nil ?_)
    obtain ⟨F₁, N₁⟩ := next h₁ hk₁
    have u1 : tk ≤ tk₁ := up.1
    have u2 : h'.objs.size ≤ h₁.objs.size := up.2
    exact done y h₁ tk₁ (by omega) hJ F₁ N₁ (by omega)

section
variable {σ : Type} {prog : Program} {w : World} {A : Around} {E : Value → Shared → Prop} {Q : Flow → Shared → Prop} {s : Shared} {env : Env} {h₀ : Heap} {x : PySem.Str} {px : Pos} {body : List Stmt}

theorem iterList_st2 {l : Addr} {vs : List Value} (fm : σ → PySem.Str → Option Value) (lg : σ → List (Addr × Obj)) (J : Nat → σ → Prop) (x₀ : σ)
    (hl : s.heap.IsList l vs.toArray) (hh : A.handled = none) (hx : env.kindOf x = some .local) (hp : (env.scope.kind == .class || (env.scope.kind == .module && env.locals != env.globals)) = false)
    (hloc : l ≠ env.locals) (hpos : 0 < s.toks) (F : Fr h₀ env.locals s.heap (fm x₀)) (N : News h₀ env.locals s.heap (lg x₀)) (h0 : J 0 x₀)
    (hoff : ∀ i y, J i y → ∀ p ∈ lg y, p.1 ≠ s.heap.objs.size)
    (turn : ∀ i v y h tk own, 0 < tk → vs[i]? = some v → J i y → (∀ p ∈ own, p.1 = s.heap.objs.size ∨ p.1 = l) → (∃ o, (s.heap.objs.size, o) ∈ own) → Fr h₀ env.locals h (fun z => if z = x then some v else fm y z) → News h₀ env.locals h (lg y ++ own) → s.heap.objs.size < h.objs.size →
      wpAny (model prog w) A (execs body env) (ForSt h₀ env.locals fm lg own (J (i + 1)) s Q) E { s with heap := h, toks := tk })
    (done : ∀ y h tk, 0 < tk → J vs.length y → Fr h₀ env.locals h (fm y) → News h₀ env.locals h (lg y) → s.heap.objs.size < h.objs.size → Q .next { s with heap := h, toks := tk })
    (hE : PassesOwn (model prog w) A env E := by passes_own) :
    wpAny (model prog w) A (pyIter (.ref l)) (fun it s₂ => codeAny (model prog w) A (.forLoop (.Name x px) it body [] env) (forR (model prog w) A env Q E) s₂) E s := by
  obtain ⟨ol, hol, hlr⟩ := id hl
  have hlt : l < s.heap.objs.size := Heap.lt_size hol
  have hne : l ≠ s.heap.objs.size := Nat.ne_of_lt hlt
  refine wpAny_pyIter_list hl ?_
  have W := Walks.list (prog := prog) (w := w) hh s.heap.objs.size l hne vs.toArray
  rw [List.size_toArray] at W
  refine forLoop_st2 fm lg J x₀ W hx hp ?_ ?_ ?_ (fun i h hst => by obtain ⟨⟨o, ho, _⟩, _⟩ := hst; exact ⟨o, ho⟩) (.head _) (.head _) ⟨⟨_, Heap.get?_push_size _ rfl, rfl, rfl⟩, hl.at fun o e => Heap.get?_push_of_some _ e⟩ hpos (F.push _) (fun p hp => ⟨Heap.get?_push_of_some _ (N p hp).1, (N p hp).2⟩) h0 ?_ ?_ hE
  · intro hm
    rcases List.mem_cons.mp hm with e | hm
    · exact absurd F.ns.lt (e ▸ Nat.lt_irrefl _)
    · exact hloc (List.mem_singleton.mp hm).symm
  · intro b hb
    rw [List.mem_singleton.mp hb]
    exact next_is_new F
  · intro i y hJ p hp hI
    exact hoff i y hJ p hp (List.mem_singleton.mp hI)
  · intro i v y h tk own p1 hi hP hJ ho hIo F₁ N₁ sz
    exact turn i v y h tk own p1 (by simpa using hP) hJ (fun p hp => by rcases List.mem_cons.mp (ho p hp) with e | e; exact .inl e; exact .inr (List.mem_singleton.mp e)) hIo F₁ N₁ (by have : (s.heap.push _).objs.size ≤ h.objs.size := sz; rw [size_push] at this; omega)
  · intro y h tk p1 hJ F₁ N₁ sz
    exact done y h tk p1 hJ F₁ N₁ (by have : (s.heap.push _).objs.size ≤ h.objs.size := sz; rw [size_push] at this; omega)
end
end Mine

namespace Mine
open Builtin Builtin.ObjectAttr in
section
variable {prog : Program} {w : World} {A : Around} {E : Value → Shared → Prop} {s : Shared} {K : Frag} {x C L f : Addr} {h₀ : Heap} {m : PySem.Str → Option Value} {ox : Obj} {od : Option Obj} {es : List DictEntry} {n : Nat} {name : PySem.Str} {v : Value} {expr : Bool}
theorem getH_own {Q : Value → Shared → Prop} {attr : Option Value} (F : Fr h₀ L s.heap m) (X₀ : K.In h₀) (I : InstAt s.heap x ox C (some (dictOf es n))) (hga : findIn K (.ref C) "__getattribute__" = some (some (.builtin "object.__getattribute__"))) (hh : hasDictIn K C = true)
    (ha : findIn K (.ref C) name = some attr) (hn : noGet K attr = true) (hl : getL name es = some (some v)) (hv : handedIn v = true) (h : Q v { s with toks := s.toks + 1 }) :
    wpAny (model prog w) A (getAttr (.ref x) name expr) Q E s :=
  get_value (X₀.keeps F.keep) I hga (findObj_own hh ha hn hl) hv h
theorem methH {pl : Sem Bool} {Q : Value × List Value → Shared → Prop} {hook : Value} (F : Fr h₀ L s.heap m) (X₀ : K.In h₀) (I : InstAt s.heap x ox C od) (hga : findIn K (.ref C) "__getattribute__" = some (some (.builtin "object.__getattribute__")))
    (hk : findIn K (.ref C) "__getattr__" = some (some hook)) (h : wpAny (model prog w) A (getAttr (.ref x) name) (fun v => Q (v, [])) E s) : wpAny (model prog w) A (getMethod (.ref x) name pl) Q E s := by
  have X := X₀.keeps F.keep
  have hcan := PySem.F.canon_object_ga
  have u : wpAny (model prog w) A (do return (← getAttr (.ref x) name, ([] : List Value))) Q E s := wpAny_bind (wpAny_mono h (fun _ _ z => wpAny_pure z) fun _ _ z => z)
  unfold getMethod specialOf
  refine wpAny_bind (wpAny_bind (I.type.here ((looks_findIn X hga).here ?_)))
  dsimp only
  rw [hcan, if_neg (by decide)]
  refine wpAny_bind (wpAny_bind (I.type.here ((looks_findIn X hk).here ?_)))
  exact u
theorem findObj_miss {o : Obj} (hh : hasDictIn K C = true) (ha : findIn K (.ref C) name = some none) (hl : lookIn name o = some none) (hc : copiedNames.contains name = false) : findObj K C (some o) name = some .missing := by
  obtain ⟨cd, hc', hd⟩ := any_some hh
  unfold findObj
  rw [hc', Option.bind_some, ha, Option.bind_some]
  have ho : W.ownOf cd (some o) name = some none := by unfold W.ownOf; rw [if_pos hd]; exact hl
  have hm : ¬ name ∈ copiedNames := fun h => by rw [List.contains_iff_mem.mpr h] at hc; cases hc
  simp [ho, hm]
theorem getH_miss {Q : Value → Shared → Prop} (F : Fr h₀ L s.heap m) (X₀ : K.In h₀) (I : InstAt s.heap x ox C (some (dictOf es n))) (hga : findIn K (.ref C) "__getattribute__" = some (some (.builtin "object.__getattribute__"))) (hh : hasDictIn K C = true)
    (ha : findIn K (.ref C) name = some none) (hl : getL name es = some none) (hc : copiedNames.contains name = false) (hk : findIn K (.ref C) "__getattr__" = some (some (.ref f))) (ht : isFn K (.ref f) = true)
    (h : wpAny (model prog w) A.in1 (call (.ref f) [.ref x, .str name s.toks]) (fun v s' => handedIn v = true ∧ Q v s') (fun _ _ => False) { s with toks := s.toks + 1 }) :
    wpAny (model prog w) A (getAttr (.ref x) name expr) Q E s := by
  have X := X₀.keeps F.keep
  refine get_open X I hga ?_
  obtain ⟨hh', g, d, t, os⟩ := s
  have L0 := I.type (M := model prog w)
  have L1 := looks_find (M := model prog w) X I (findObj_miss hh ha hl hc)
  have L2 := looks_findIn (M := model prog w) X hk
  have L3 := bind_fn (M := model prog w) X (.ref x) (beq_iff_eq.mp ht)
  refine wpAny_bind (wpAny_pure (wpAny_bind (L0.at (wpAny_bind (L1.at (wpAny_bind (L2.at ?_)))))))
  show wpAny _ _ (byHook _ _ _) _ _ _
  unfold byHook
  refine wpAny_bind (L3.at (wpAny_bind ?_))
  refine wpAny_mono h (fun v s' z => ?_) fun _ _ z => z.elim
  refine wpAny_bind (wpAny_rule (wpAny_pure ?_))
  show wpAny _ _ (handedOut v) _ _ _
  rw [handedOut_of z.1]
  exact wpAny_pure z.2
end
end Mine

namespace Mine
def Callee (o : Obj) : Prop := o.data = .plain ∨ ∃ fd, o.data = .func fd
section
open PySem.Calls
variable {M : Model} {A : Around} {E : Value → Shared → Prop} {s : Shared} {env : Env} {pos : Pos} {y : Addr} {o : Obj} {first : List Value} {Q : Value → Shared → Prop}
theorem callWith_led0 {args : List (Bool × Sem Value)} (hplain : (args.any (·.1) || ([] : List (Option PySem.Str × Sem Value)).any (·.1.isNone)) = false) (ho : Callee o)
    (h : wpAny M A (evalArgs (.ref y) true args []) (fun a s₁ => s₁.heap.get? y = some o ∧ wpAny M A (call (.ref y) (first ++ a.pos) a.kw) Q E s₁) E s) : wpAny M A (callWith pos (.ref y) first args []) Q E s := by
  rcases ho with hd | ⟨fd, hd⟩
  · unfold callWith
    refine wpAny_bind (wpAny_holding (wpAny_mono h (fun a s₁ h₁ => wpAny_bind (wpAny_standAt ?_)) fun _ _ y => y))
    have L : Looks M s₁.heap (keeperOf (.ref y)) .caller := by
      refine (Looks.ld (part := none) h₁.1).andThen ?_
      simp only [hd]
      exact .now
    simp only [hplain]
    refine wpAny_bind (L.here ?_)
    have tail : ∀ {t : Sem Value}, wpAny M A t Q E s₁ → wpAny M A (t >>= fun r => holding [r] point >>= fun _ => pure r) Q E s₁ :=
      fun ht => wpAny_bind (wpAny_mono ht (fun r s₂ hr => wpAny_bind (wpAny_holding (wpAny_point (wpAny_pure hr)))) fun _ _ y => y)
    exact tail (wpAny_operateT h₁.2)
  · refine callWith_of (P := fun h => h.get? y = some o) hplain (fun h e => ⟨.frame, .inl rfl, ?_⟩) h
    refine (Looks.ld (part := none) e).andThen ?_
    simp only [hd]
    exact .now
theorem callWith_led {e : Expr} {rest : List Expr} (ho : Callee o) (h : wpAny M A (spliced (backTo pos (starEach (e :: rest) env))) (fun vs s₁ => s₁.heap.get? y = some o ∧ wpAny M A (call (.ref y) (first ++ vs)) Q E s₁) E s)
    (he : starEach (e :: rest) env = (false, eval e env) :: starEach rest env := by rfl) (hplain : (backTo pos (starEach rest env)).any (·.1) = false := by rfl) :
    wpAny M A (callWith pos (.ref y) first (backTo pos (starEach (e :: rest) env)) []) Q E s := by
  rw [he] at h ⊢
  exact callWith_led0 (by show ((false || (backTo pos (starEach rest env)).any (·.1)) || false) = false; rw [hplain]; rfl) ho (evalArgs_plain h)
end
end Mine

namespace Mine
open_top hd03 for PySem.Challenge.rw_dn0306_03
end Mine

namespace Mine
abbrev tupO (vs : List Value) : Obj := { cls := .type "tuple", data := .seq vs.toArray }
abbrev methD (P : Params) (v : Value) (nm : PySem.Str) (t1 t2 t3 : Tok) : Obj := dictOf [⟨PyData.keyHash P (PySem.Str.ofString "_Method__send"), .str (PySem.Str.ofString "_Method__send") t1, v⟩, ⟨PyData.keyHash P (PySem.Str.ofString "_Method__name"), .str (PySem.Str.ofString "_Method__name") t2, .str nm t3⟩] 2
abbrev multD (P : Params) (v : Value) (nm : PySem.Str) (t1 t2 t3 : Tok) : Obj := dictOf [⟨PyData.keyHash P (PySem.Str.ofString "_MultiCallMethod__call_list"), .str (PySem.Str.ofString "_MultiCallMethod__call_list") t1, v⟩, ⟨PyData.keyHash P (PySem.Str.ofString "_MultiCallMethod__name"), .str (PySem.Str.ofString "_MultiCallMethod__name") t2, .str nm t3⟩] 2
abbrev appN (nm : PySem.Str) : PySem.Str := PySem.Str.empty ++ nm ++ PySem.Str.ofString "." ++ PySem.Str.ofString "append"
def Calls (w : World) (dpn unn : Nat) (y : Addr) (vs : List Value) (news : List (Addr × Obj)) (Post : Value → List (Addr × Obj) → Prop) : Prop :=
  ∀ (mean : ExcName → Option Value) (mg mb : PySem.Str → Option Value) (dp un : Nat) (gd : Option (List Code)) (cn : PySem.Str) (nms : List (PySem.Str × NameKind)) (ig ic : Bool) (mo : List (PySem.Str × Const)) (a : Addr) (ccd : Value) (cl : List (PySem.Str × Addr)) (outer : List Env) (A₀ : Around) (base h₀ : Heap) (L : Addr) (m : PySem.Str → Option Value) (s : Shared) (Q E : Value → Shared → Prop),
    Below A₀ base outer h₀ → Fr h₀ L s.heap m → (hd03.heap_39 w.params).In h₀ → News h₀ L s.heap news → Top topProg (looseW hd03.view_39 [PySem.Str.ofString "_MultiCallMethod", PySem.Str.ofString "_Method"] ++ (recsOf hd03.view_39).map (fun x => x.name) ++ (litsOf hd03.view_39).map (fun x => x.1) ++ (clssOf hd03.view_39 (looseW hd03.view_39 [PySem.Str.ofString "_MultiCallMethod", PySem.Str.ofString "_Method"])).map (fun x => x.name)) mean mg mb h₀ → dp + dpn < recursionLimit → un + unn < cLine →
    (∀ r news' h' tk', Fr h₀ L h' m → News h₀ L h' news' → Post r news' → Q r { s with heap := h', toks := tk' }) →
    wpAny (model Challenge.rw_dn0306_03.prog w) (ktrTop dp un gd cn ⟨.function, nms, ig, ic, mo⟩ L a ccd cl outer) (call (.ref y) vs) Q E s
theorem short_shape {vs : List Value} (h : vs.length ≤ 2) : vs = [] ∨ (∃ a, vs = [a]) ∨ ∃ a b, vs = [a, b] := by
  rcases vs with _ | ⟨a, _ | ⟨b, _ | ⟨c, r⟩⟩⟩
  · exact .inl rfl
  · exact .inr (.inl ⟨a, rfl⟩)
  · exact .inr (.inr ⟨a, b, rfl⟩)
  · simp at h
local macro_rules | `(tactic| walk_at "mine") => `(tactic| repeat' (first | (k_unfold; (try dsimp only)) | walk1 | (dsimp only; walk1) | (leave1; try dsimp only) | fail "no step"))
local macro_rules | `(tactic| k_mem) => `(tactic| assumption)
local macro_rules | `(tactic| k_room) => `(tactic| ktr_room)
local macro_rules | `(tactic| walk_at "call ref") => `(tactic| ((fail_if_success (with_reducible show wpAny _ _ (call (Value.ref 35) _) _ _ _)); (fail_if_success (with_reducible show wpAny _ _ (call (Value.ref 70) _) _ _ _)); (fail_if_success (with_reducible show wpAny _ _ (call (Value.ref 45) _) _ _ _)); (fail_if_success (with_reducible show wpAny _ _ (call (Value.ref 80) _) _ _ _)); refine Halt.go ?_))
local macro_rules | `(tactic| walk_at "getMethod ref") => `(tactic| (k_here; k_dflt (refine' methH ?k1 ?k2 ?k3 ?k4 ?k5 ?_; (case k1 => k_asm); (case k2 => k_asm); (case k3 => k_inst); (case k4 => k_is); (case k5 => k_is); k_whole)))
local macro_rules | `(tactic| walk_at "getAttr ref") => `(tactic| (k_here; k_dflt (refine' getH_miss ?k1 ?k2 ?k3 ?k4 ?k5 ?k6 ?k7 ?k8 ?k9 ?k10 ?_; (case k1 => k_asm); (case k2 => k_asm); (case k3 => k_inst); (case k4 => k_is); (case k5 => k_is); (case k6 => k_is); (case k7 => k_get); (case k8 => decide); (case k9 => k_is); (case k10 => k_is); k_whole)))
local macro_rules | `(tactic| walk_at "getAttr ref") => `(tactic| (k_here; k_dflt (refine' getH_own ?k1 ?k2 ?k3 ?k4 ?k5 ?k6 ?k7 ?k8 ?k9 ?_; (case k1 => k_asm); (case k2 => k_asm); (case k3 => k_inst); (case k4 => k_is); (case k5 => k_is); (case k6 => k_is); (case k7 => k_is); (case k8 => k_get); (case k9 => k_handed); k_whole)))
local macro_rules | `(tactic| walk_at "callWith ref") => `(tactic| (k_here; k_dflt (refine' callWith_led ?k1 ?_; (case k1 => assumption); k_whole)))
local macro_rules | `(tactic| walk_at "And") => `(tactic| ((with_reducible show Heap.get? _ _ = some _ ∧ _); k_dflt (refine ⟨News.get (by k_asm) (by k_mem), ?_⟩); try dsimp only [List.nil_append, List.cons_append]))
local macro_rules | `(tactic| k_all) => `(tactic| assumption)
local macro_rules | `(tactic| walk_at "call builtin:list.append") => `(tactic| (k_dflt (refine' append_K ?k1 ?k2 ?k3 ?_ ?z; (case k1 => k_asm); (case k2 => k_asm); (case k3 => k_upd); (case z => (rw [sizeLine_eq]; omega)); k_whole); intro h' F' N'))
theorem calls_meth : ∀ (w : World) (dpn unn : Nat) (x d y : Addr) (oy : Obj) (nm : PySem.Str) (t1 t2 t3 : Tok) (vs : List Value) (news : List (Addr × Obj)) (Post : Value → List (Addr × Obj) → Prop),
    (x, instObj 80 d) ∈ news → (d, methD w.params (.ref y) nm t1 t2 t3) ∈ news → (y, oy) ∈ news → Callee oy → vs.length ≤ 2 →
    (∀ D, (∀ p ∈ news, p.1 < D) → Calls w dpn unn y [.str nm t3, .ref D] ((D, tupO vs) :: news) Post) → Calls w (dpn + 1) (unn + 10) x vs news Post := by
  unfold Calls
  k_fill
  intro w dpn unn x d y oy nm t1 t2 t3 vs news Post hx hdx hy hcy hvs next mean mg mb dp un gd cn nms ig ic mo a ccd cl outer A₀ base h₀ L m s Q E B F X N T hd hu hret
  refine never ?_
  refine wpAny_call ?_
  refine' kco_code ?k1 ?k2 ?k3 ?k4 ?k5 ?k6 ?_
  case k1 => k_in
  case k2 => k_inst
  case k3 => rfl
  case k4 => k_is
  case k5 => k_is
  case k6 => k_is
  (try dsimp only)
  refine' kp_rest (vs := vs) (g₁ := fun D => some [(PySem.Str.ofString "self", _), (PySem.Str.ofString "args", Value.ref D)]) ?k1 ?k2 ?k3 ?k4 ?k5 ?kA ?kF ?kK ?k6 ?k7 ?k8 ?kV ?kP ?kG ?kB ?_ ?c2 ?c3 ?c4 ?c5; (case kA => exact rfl); (case kF => exact rfl); (case kK => exact rfl); (case k1 => k_asm); (case k2 => k_asm); (case k3 => k_asm); (case k4 => k_asm); (case k5 => k_asm); (case k6 => k_is); (case k7 => k_is); (case k8 => k_room); (case kV => exact rfl); (case kP => (rename List.length _ ≤ 2 => hv9; rcases short_shape hv9 with rfl | ⟨_, rfl⟩ | ⟨_, _, rfl⟩ <;> exact rfl)); (case kG => exact fun _ => rfl); (case kB => exact fun _ => locs rfl); (case c5 => decide); (case c2 => exact rfl); (case c3 => exact rfl); (case c4 => exact rfl)
  intro D' g' L' h' l1 FG' F' N' B' X' T'; (try dsimp only); (try k_lift B'); (try k_fold)
  walk_at "mine"
  show wpAny _ _ _ _ _ _
  refine next D' l1 mean mg mb _ _ _ _ _ _ _ _ _ _ _ _ _ _ _ _ _ _ _ _ B' (by k_asm) X' (by k_asm) T' (by show dp + 1 + dpn < _; omega) (by show un + 3 + unn < _; omega) ?_
  intro r news' h9 tk9 F9 N9 P9
  walk_at "mine"
  exact hret _ _ _ _ (by k_asm) (by k_asm) P9
theorem calls_row : ∀ (w : World) (dpn unn : Nat) (x d row : Addr) (rows : Array Value) (e : Nat) (nm : PySem.Str) (t1 t2 t3 : Tok) (vs : List Value) (rest : List (Addr × Obj)) (Post : Value → List (Addr × Obj) → Prop),
    (x, instObj 45 d) ∈ rest → (d, multD w.params (.ref row) nm t1 t2 t3) ∈ rest → vs.length ≤ 2 → rows.size ≤ 1000 → (∀ p ∈ rest, p.1 ≠ row) →
    (∀ D T, (∀ p ∈ rest, p.1 < D) → D < T → Post .none ((row, W.listOf (rows.push (.ref T)) (e + 1)) :: (T, tupO [.str nm t3, .ref D]) :: (D, tupO vs) :: rest)) → Calls w (dpn + 1) (unn + 10) x vs ((row, W.listOf rows e) :: rest) Post := by
  unfold Calls
  k_fill
  intro w dpn unn x d row rows e nm t1 t2 t3 vs rest Post hx hdx hvs hrs hrow post mean mg mb dp un gd cn nms ig ic mo a ccd cl outer A₀ base h₀ L m s Q E B F X N T hd hu hret
  refine never ?_
  refine wpAny_call ?_
  refine' kco_code ?k1 ?k2 ?k3 ?k4 ?k5 ?k6 ?_
  case k1 => k_in
  case k2 => k_inst
  case k3 => rfl
  case k4 => k_is
  case k5 => k_is
  case k6 => k_is
  (try dsimp only)
  refine' kp_rest (vs := vs) (g₁ := fun D => some [(PySem.Str.ofString "self", _), (PySem.Str.ofString "args", Value.ref D)]) ?k1 ?k2 ?k3 ?k4 ?k5 ?kA ?kF ?kK ?k6 ?k7 ?k8 ?kV ?kP ?kG ?kB ?_ ?c2 ?c3 ?c4 ?c5; (case kA => exact rfl); (case kF => exact rfl); (case kK => exact rfl); (case k1 => k_asm); (case k2 => k_asm); (case k3 => k_asm); (case k4 => k_asm); (case k5 => k_asm); (case k6 => k_is); (case k7 => k_is); (case k8 => k_room); (case kV => exact rfl); (case kP => (rename List.length _ ≤ 2 => hv9; rcases short_shape hv9 with rfl | ⟨_, rfl⟩ | ⟨_, _, rfl⟩ <;> exact rfl)); (case kG => exact fun _ => rfl); (case kB => exact fun _ => locs rfl); (case c5 => decide); (case c2 => exact rfl); (case c3 => exact rfl); (case c4 => exact rfl)
  intro D' g' L' h' l1 FG' F' N' B' X' T'; (try dsimp only); (try k_lift B'); (try k_fold)
  have l2 := ltN (l1 _ (.head _))
  dsimp only at l2
  walk_at "mine"
  rename News h₀ L _ _ => kN
  rename D' < _ ∧ _ => l3
  exact hret _ _ _ _ (by k_asm) (news_sub kN fun p hp => by
    rcases List.mem_cons.mp hp with rfl | hp
    · exact .tail _ (.tail _ (.head _))
    rcases List.mem_cons.mp hp with rfl | hp
    · exact .head _
    rcases List.mem_cons.mp hp with rfl | hp
    · exact .tail _ (.head _)
    exact .tail _ (.tail _ (.tail _ hp))) (post D' _ (fun p hp => l1 p (.tail _ hp)) l3.1)
theorem calls_mult80 : ∀ (w : World) (dpn unn : Nat) (x d y dy : Addr) (v : Addr) (nm nm' : PySem.Str) (t1 t2 t3 t1' t2' t3' : Tok) (vs : List Value) (news : List (Addr × Obj)) (Post : Value → List (Addr × Obj) → Prop),
    (x, instObj 45 d) ∈ news → (d, multD w.params (.ref y) nm t1 t2 t3) ∈ news → (y, instObj 80 dy) ∈ news → (dy, methD w.params (.ref v) nm' t1' t2' t3') ∈ news → vs.length ≤ 2 → nm'.length ≤ 1000 →
    (∀ D z dz T u1 u2 u3, (∀ p ∈ news, p.1 < D) → D < dz → dz < z → z < T → Calls w dpn unn z [.ref T] ((T, tupO [.str nm t3, .ref D]) :: (z, instObj 80 dz) :: (dz, methD w.params (.ref v) (appN nm') u1 u2 u3) :: (D, tupO vs) :: news) (fun _ n => Post .none n)) → Calls w (dpn + 6) (unn + 40) x vs news Post := by
  unfold Calls
  k_fill
  intro w dpn unn x d y dy v nm nm' t1 t2 t3 t1' t2' t3' vs news Post hx hdx hy hdy hvs hnm next mean mg mb dp un gd cn nms ig ic mo a ccd cl outer A₀ base h₀ L m s Q E B F X N T hd hu hret
  refine never ?_
  refine wpAny_call ?_
  refine' kco_code ?k1 ?k2 ?k3 ?k4 ?k5 ?k6 ?_
  case k1 => k_in
  case k2 => k_inst
  case k3 => rfl
  case k4 => k_is
  case k5 => k_is
  case k6 => k_is
  (try dsimp only)
  refine' kp_rest (vs := vs) (g₁ := fun D => some [(PySem.Str.ofString "self", _), (PySem.Str.ofString "args", Value.ref D)]) ?k1 ?k2 ?k3 ?k4 ?k5 ?kA ?kF ?kK ?k6 ?k7 ?k8 ?kV ?kP ?kG ?kB ?_ ?c2 ?c3 ?c4 ?c5; (case kA => exact rfl); (case kF => exact rfl); (case kK => exact rfl); (case k1 => k_asm); (case k2 => k_asm); (case k3 => k_asm); (case k4 => k_asm); (case k5 => k_asm); (case k6 => k_is); (case k7 => k_is); (case k8 => k_room); (case kV => exact rfl); (case kP => (rename List.length _ ≤ 2 => hv9; rcases short_shape hv9 with rfl | ⟨_, rfl⟩ | ⟨_, _, rfl⟩ <;> exact rfl)); (case kG => exact fun _ => rfl); (case kB => exact fun _ => locs rfl); (case c5 => decide); (case c2 => exact rfl); (case c3 => exact rfl); (case c4 => exact rfl)
  intro D' g' L' h' l1 FG' F' N' B' X' T'; (try dsimp only); (try k_lift B'); (try k_fold)
  walk_at "mine"
  show wpAny _ _ _ _ _ _
  rename News g' L' _ _ => N8
  rename _ ∧ _ ∧ _ ∧ _ => l8
  rename D' < _ ∧ AllLt _ news => la
  rename (_ : Nat) < _ => lb
  refine next D' _ _ _ _ _ _ l1 la.1 lb l8.1 mean mg mb _ _ _ _ _ _ _ _ _ _ _ _ _ _ _ _ _ _ _ _ B' (by k_asm) X' N8 T' (by show dp + 1 + dpn < _; omega) (by show un + 3 + unn < _; omega) ?_
  intro r news' h9 tk9 F9 N9 P9
  walk_at "mine"
  exact hret _ _ _ _ (by k_asm) (by k_asm) P9
theorem calls_mult45 : ∀ (w : World) (dpn unn : Nat) (x d y dy : Addr) (v : Addr) (nm nm' : PySem.Str) (t1 t2 t3 t1' t2' t3' : Tok) (vs : List Value) (news : List (Addr × Obj)) (Post : Value → List (Addr × Obj) → Prop),
    (x, instObj 45 d) ∈ news → (d, multD w.params (.ref y) nm t1 t2 t3) ∈ news → (y, instObj 45 dy) ∈ news → (dy, multD w.params (.ref v) nm' t1' t2' t3') ∈ news → vs.length ≤ 2 → nm'.length ≤ 1000 →
    (∀ D z dz T u1 u2 u3, (∀ p ∈ news, p.1 < D) → D < dz → dz < z → z < T → Calls w dpn unn z [.ref T] ((T, tupO [.str nm t3, .ref D]) :: (z, instObj 45 dz) :: (dz, multD w.params (.ref v) (appN nm') u1 u2 u3) :: (D, tupO vs) :: news) (fun _ n => Post .none n)) → Calls w (dpn + 6) (unn + 40) x vs news Post := by
  unfold Calls
  k_fill
  intro w dpn unn x d y dy v nm nm' t1 t2 t3 t1' t2' t3' vs news Post hx hdx hy hdy hvs hnm next mean mg mb dp un gd cn nms ig ic mo a ccd cl outer A₀ base h₀ L m s Q E B F X N T hd hu hret
  refine never ?_
  refine wpAny_call ?_
  refine' kco_code ?k1 ?k2 ?k3 ?k4 ?k5 ?k6 ?_
  case k1 => k_in
  case k2 => k_inst
  case k3 => rfl
  case k4 => k_is
  case k5 => k_is
  case k6 => k_is
  (try dsimp only)
  refine' kp_rest (vs := vs) (g₁ := fun D => some [(PySem.Str.ofString "self", _), (PySem.Str.ofString "args", Value.ref D)]) ?k1 ?k2 ?k3 ?k4 ?k5 ?kA ?kF ?kK ?k6 ?k7 ?k8 ?kV ?kP ?kG ?kB ?_ ?c2 ?c3 ?c4 ?c5; (case kA => exact rfl); (case kF => exact rfl); (case kK => exact rfl); (case k1 => k_asm); (case k2 => k_asm); (case k3 => k_asm); (case k4 => k_asm); (case k5 => k_asm); (case k6 => k_is); (case k7 => k_is); (case k8 => k_room); (case kV => exact rfl); (case kP => (rename List.length _ ≤ 2 => hv9; rcases short_shape hv9 with rfl | ⟨_, rfl⟩ | ⟨_, _, rfl⟩ <;> exact rfl)); (case kG => exact fun _ => rfl); (case kB => exact fun _ => locs rfl); (case c5 => decide); (case c2 => exact rfl); (case c3 => exact rfl); (case c4 => exact rfl)
  intro D' g' L' h' l1 FG' F' N' B' X' T'; (try dsimp only); (try k_lift B'); (try k_fold)
  walk_at "mine"
  show wpAny _ _ _ _ _ _
  rename News g' L' _ _ => N8
  rename _ ∧ _ ∧ _ ∧ _ => l8
  rename D' < _ ∧ AllLt _ news => la
  rename (_ : Nat) < _ => lb
  refine next D' _ _ _ _ _ _ l1 la.1 lb l8.1 mean mg mb _ _ _ _ _ _ _ _ _ _ _ _ _ _ _ _ _ _ _ _ B' (by k_asm) X' N8 T' (by show dp + 1 + dpn < _; omega) (by show un + 3 + unn < _; omega) ?_
  intro r news' h9 tk9 F9 N9 P9
  walk_at "mine"
  exact hret _ _ _ _ (by k_asm) (by k_asm) P9
end Mine

namespace Mine
abbrev Chain3 := List (Bool × PySem.Str)
inductive ObjIn (P : Params) (row lam : Addr) (news : List (Addr × Obj)) : Addr → Chain3 → Prop where
  | row {x d : Addr} {nm : PySem.Str} {t1 t2 t3 : Tok} : (x, instObj 45 d) ∈ news → (d, multD P (.ref row) nm t1 t2 t3) ∈ news → ObjIn P row lam news x [(true, nm)]
  | lam {x d : Addr} {nm : PySem.Str} {t1 t2 t3 : Tok} : (x, instObj 80 d) ∈ news → (d, methD P (.ref lam) nm t1 t2 t3) ∈ news → ObjIn P row lam news x [(false, nm)]
  | mult {x d y : Addr} {nm : PySem.Str} {t1 t2 t3 : Tok} {c : Bool × PySem.Str} {r : Chain3} : (x, instObj 45 d) ∈ news → (d, multD P (.ref y) nm t1 t2 t3) ∈ news → ObjIn P row lam news y (c :: r) → ObjIn P row lam news x ((true, nm) :: c :: r)
  | meth {x d y : Addr} {nm : PySem.Str} {t1 t2 t3 : Tok} {c : Bool × PySem.Str} {r : Chain3} : (x, instObj 80 d) ∈ news → (d, methD P (.ref y) nm t1 t2 t3) ∈ news → ObjIn P row lam news y (c :: r) → ObjIn P row lam news x ((false, nm) :: c :: r)
inductive HeldArgs (news : List (Addr × Obj)) (vs0 : List Value) : List Value → Chain3 → Prop where
  | base : HeldArgs news vs0 vs0 []
  | meth {D : Addr} {vs : List Value} {H : Chain3} {nm : PySem.Str} {t : Tok} : (D, tupO vs) ∈ news → HeldArgs news vs0 vs H → HeldArgs news vs0 [.str nm t, .ref D] ((false, nm) :: H)
  | mult {D T : Addr} {vs : List Value} {H : Chain3} {nm : PySem.Str} {t : Tok} : (D, tupO vs) ∈ news → (T, tupO [.str nm t, .ref D]) ∈ news → HeldArgs news vs0 vs H → HeldArgs news vs0 [.ref T] ((true, nm) :: H)
theorem ObjIn.mono {P : Params} {row lam : Addr} {n n' : List (Addr × Obj)} {x : Addr} {c : Chain3} (h : ObjIn P row lam n x c) (s : ∀ p ∈ n, p ∈ n') : ObjIn P row lam n' x c := by
  induction h with
  | row a b => exact .row (s _ a) (s _ b)
  | lam a b => exact .lam (s _ a) (s _ b)
  | mult a b _ ih => exact .mult (s _ a) (s _ b) ih
  | meth a b _ ih => exact .meth (s _ a) (s _ b) ih
theorem HeldArgs.mono {n n' : List (Addr × Obj)} {vs0 vs : List Value} {H : Chain3} (h : HeldArgs n vs0 vs H) (s : ∀ p ∈ n, p ∈ n') : HeldArgs n' vs0 vs H := by
  induction h with
  | base => exact .base
  | meth a _ ih => exact .meth (s _ a) ih
  | mult a b _ ih => exact .mult (s _ a) (s _ b) ih
theorem HeldArgs.short {n : List (Addr × Obj)} {vs0 vs : List Value} {H : Chain3} (h : HeldArgs n vs0 vs H) (h0 : vs0.length ≤ 2) : vs.length ≤ 2 := by
  cases h with
  | base => exact h0
  | meth => exact Nat.le_refl _
  | mult => exact Nat.le_succ _
def deliver : Nat → Chain3 → Chain3 → Bool × PySem.Str × Chain3
  | 0, _, H => (false, PySem.Str.empty, H)
  | _ + 1, [], H => (false, PySem.Str.empty, H)
  | _ + 1, [(b, nm)], H => (b, nm, H)
  | n + 1, (true, nm) :: (b', nm') :: r, H => deliver n ((b', appN nm') :: r) ((true, nm) :: H)
  | n + 1, (false, nm) :: c :: r, H => deliver n (c :: r) ((false, nm) :: H)
def plainC (c : Chain3) : Bool := c.all fun x => !x.1
theorem Calls.sub {w : World} {dpn unn : Nat} {y : Addr} {vs : List Value} {n₁ n₂ : List (Addr × Obj)} {Post : Value → List (Addr × Obj) → Prop} (h : Calls w dpn unn y vs n₂ Post) (s : ∀ p ∈ n₂, p ∈ n₁) : Calls w dpn unn y vs n₁ Post := by
  unfold Calls at *
  intro mean mg mb dp un gd cn nms ig ic mo a ccd cl outer A₀ base h₀ L m st Q E B F X N T hd hu hret
  exact h mean mg mb dp un gd cn nms ig ic mo a ccd cl outer A₀ base h₀ L m st Q E B F X (news_sub N s) T hd hu hret
theorem Calls.mono {w : World} {dpn unn dpn' unn' : Nat} {y : Addr} {vs : List Value} {n : List (Addr × Obj)} {Post Post' : Value → List (Addr × Obj) → Prop} (h : Calls w dpn unn y vs n Post) (hp : ∀ r n', Post r n' → Post' r n') (h1 : dpn ≤ dpn') (h2 : unn ≤ unn') : Calls w dpn' unn' y vs n Post' := by
  unfold Calls at *
  intro mean mg mb dp un gd cn nms ig ic mo a ccd cl outer A₀ base h₀ L m st Q E B F X N T hd hu hret
  exact h mean mg mb dp un gd cn nms ig ic mo a ccd cl outer A₀ base h₀ L m st Q E B F X N T (by omega) (by omega) fun r n' h' tk' F' N' P => hret r n' h' tk' F' N' (hp _ _ P)
def LamOk (w : World) (log lam box : Addr) (lamL : List (Addr × Obj)) : Prop :=
  ∀ (rest : List (Addr × Obj)) (logs : Array Value) (el : Nat) (nm : PySem.Str) (t : Tok) (D : Addr), (∀ p ∈ lamL, p ∈ rest) → (∀ p ∈ rest, p.1 ≠ log) → logs.size ≤ 1000 →
    Calls w 6 60 lam [.str nm t, .ref D] ((log, W.listOf logs el) :: rest) (fun r n => r = .ref box ∧ ∃ T, ∀ p ∈ (log, W.listOf (logs.push (.ref T)) (el + 1)) :: (T, tupO [.str nm t, .ref D]) :: rest, p ∈ n)
def Final (box row log : Addr) (vs0 : List Value) (rest : List (Addr × Obj)) (rows logs : Array Value) (er el : Nat) (out : Bool × PySem.Str × Chain3) (pl : Bool) (r : Value) (n : List (Addr × Obj)) : Prop :=
  ∃ T D t vs', (T, tupO [.str out.2.1 t, .ref D]) ∈ n ∧ (D, tupO vs') ∈ n ∧ HeldArgs n vs0 vs' out.2.2 ∧ (∀ p ∈ rest, p ∈ n) ∧
    (if out.1 then (row, W.listOf (rows.push (.ref T)) (er + 1)) ∈ n ∧ (log, W.listOf logs el) ∈ n else (row, W.listOf rows er) ∈ n ∧ (log, W.listOf (logs.push (.ref T)) (el + 1)) ∈ n) ∧ r = if pl then .ref box else .none
theorem ofs_app (nm : PySem.Str) : (appN nm).length = nm.length + 7 := by
  unfold appN
  simp only [Str.length_append]
  rw [show (PySem.Str.ofString ".").length = 1 by decide, show (PySem.Str.ofString "append").length = 6 by decide, show (PySem.Str.empty).length = 0 by decide]
  omega
def Short (k : Nat) (c : Chain3) : Prop := ∀ x ∈ c, x.2.length ≤ k
theorem call_node {w : World} {row log lam box : Addr} {lamL : List (Addr × Obj)} {olam : Obj} {vs0 : List Value} (hlam : LamOk w log lam box lamL) (hol : (lam, olam) ∈ lamL) (hcl : Callee olam) (hrl : row ≠ log) (hv0 : vs0.length ≤ 2) :
    ∀ (n : Nat) (c : Chain3) (H : Chain3) (x : Addr) (vs : List Value) (rest : List (Addr × Obj)) (rows logs : Array Value) (er el : Nat), c.length = n + 1 → Short 1000 c.tail → ObjIn w.params row lam rest x c → HeldArgs rest vs0 vs H → (∀ p ∈ lamL, p ∈ rest) →
      (∀ p ∈ rest, p.1 ≠ row ∧ p.1 ≠ log) → rows.size ≤ 1000 → logs.size ≤ 1000 →
      Calls w (6 * n + 8) (40 * n + 80) x vs ((row, W.listOf rows er) :: (log, W.listOf logs el) :: rest) (Final box row log vs0 rest rows logs er el (deliver (n + 1) c H) (plainC c)) := by
  intro n
  induction n with
  | zero =>
    intro c H x vs rest rows logs er el hn hsh hx hh hl hne hrs hls
    cases hx with
    | row a b =>
      refine Calls.mono (calls_row w 7 70 _ _ _ _ er _ _ _ _ vs ((log, W.listOf logs el) :: rest) _ (.tail _ a) (.tail _ b) (hh.short hv0) hrs ?_ ?_) (fun _ _ p => p) (by omega) (by omega)
      · intro p hp
        rcases List.mem_cons.mp hp with rfl | hp
        · exact fun e => hrl e.symm
        · exact (hne p hp).1
      · intro D T hD hT
        refine ⟨T, D, _, vs, .tail _ (.head _), .tail _ (.tail _ (.head _)), hh.mono fun p hp => .tail _ (.tail _ (.tail _ (.tail _ hp))), fun p hp => .tail _ (.tail _ (.tail _ (.tail _ hp))), ?_, rfl⟩
        show (_ ∧ _)
        exact ⟨.head _, .tail _ (.tail _ (.tail _ (.head _)))⟩
    | lam a b =>
      refine Calls.mono (calls_meth w 6 60 _ _ _ olam _ _ _ _ vs ((row, W.listOf rows er) :: (log, W.listOf logs el) :: rest) _ (.tail _ (.tail _ a)) (.tail _ (.tail _ b)) (.tail _ (.tail _ (hl _ hol))) hcl (hh.short hv0) fun D hD => ?_) (fun _ _ p => p) (by omega) (by omega)
      have hlogD : log ≠ D := Nat.ne_of_lt (hD (log, W.listOf logs el) (.tail _ (.head _)))
      refine Calls.mono (Calls.sub (hlam ((D, tupO vs) :: (row, W.listOf rows er) :: rest) logs el _ _ D (fun p hp => .tail _ (.tail _ (hl p hp))) ?_ hls) ?_) ?_ (Nat.le_refl _) (Nat.le_refl _)
      · intro p hp
        rcases List.mem_cons.mp hp with rfl | hp
        · exact fun e => hlogD e.symm
        rcases List.mem_cons.mp hp with rfl | hp
        · exact hrl
        · exact (hne p hp).2
      · intro p hp
        rcases List.mem_cons.mp hp with rfl | hp
        · exact .tail _ (.tail _ (.head _))
        rcases List.mem_cons.mp hp with rfl | hp
        · exact .head _
        rcases List.mem_cons.mp hp with rfl | hp
        · exact .tail _ (.head _)
        · exact .tail _ (.tail _ (.tail _ hp))
      · rintro r n' ⟨rfl, T, hT⟩
        have hs : ∀ p ∈ rest, p ∈ n' := fun p hp => hT p (.tail _ (.tail _ (.tail _ (.tail _ hp))))
        exact ⟨T, D, _, vs, hT _ (.tail _ (.head _)), hT _ (.tail _ (.tail _ (.head _))), hh.mono hs, hs, ⟨hT _ (.tail _ (.tail _ (.tail _ (.head _)))), hT _ (.head _)⟩, rfl⟩
    | mult => simp at hn
    | meth => simp at hn
  | succ n ih =>
    intro c H x vs rest rows logs er el hn hsh hx hh hl hne hrs hls
    cases hx with
    | row => simp at hn
    | lam => simp at hn
    | @meth x d y nm t1 t2 t3 c r a b hy =>
      obtain ⟨oy, hoy, hcy⟩ : ∃ oy, (y, oy) ∈ rest ∧ Callee oy := by
        cases hy with
        | row p _ => exact ⟨_, p, .inl rfl⟩
        | lam p _ => exact ⟨_, p, .inl rfl⟩
        | mult p _ _ => exact ⟨_, p, .inl rfl⟩
        | meth p _ _ => exact ⟨_, p, .inl rfl⟩
      refine Calls.mono (calls_meth w (6 * n + 8) (40 * n + 80) _ _ _ oy _ _ _ _ vs ((row, W.listOf rows er) :: (log, W.listOf logs el) :: rest) _ (.tail _ (.tail _ a)) (.tail _ (.tail _ b)) (.tail _ (.tail _ hoy)) hcy (hh.short hv0) fun D hD => ?_) (fun _ _ p => p) (by omega) (by omega)
      have h1 : row ≠ D := Nat.ne_of_lt (hD (row, W.listOf rows er) (.head _))
      have h2 : log ≠ D := Nat.ne_of_lt (hD (log, W.listOf logs el) (.tail _ (.head _)))
      have sub : ∀ p ∈ rest, p ∈ (D, tupO vs) :: rest := fun p hp => .tail _ hp
      refine Calls.mono (Calls.sub (ih (c :: r) ((false, nm) :: H) y [.str nm t3, .ref D] ((D, tupO vs) :: rest) rows logs er el (by simpa using hn) (fun z hz => hsh z (List.mem_of_mem_tail hz)) (hy.mono sub) (.meth (.head _) (hh.mono sub)) (fun p hp => .tail _ (hl p hp)) ?_ hrs hls) ?_) ?_ (Nat.le_refl _) (Nat.le_refl _)
      · intro p hp
        rcases List.mem_cons.mp hp with rfl | hp
        · exact ⟨fun e => h1 e.symm, fun e => h2 e.symm⟩
        · exact hne p hp
      · intro p hp
        rcases List.mem_cons.mp hp with rfl | hp
        · exact .tail _ (.head _)
        rcases List.mem_cons.mp hp with rfl | hp
        · exact .tail _ (.tail _ (.head _))
        rcases List.mem_cons.mp hp with rfl | hp
        · exact .head _
        · exact .tail _ (.tail _ (.tail _ hp))
      · rintro r' n' ⟨T, D', t, vs', k1, k2, k3, k4, k5, k6⟩
        exact ⟨T, D', t, vs', k1, k2, k3, fun p hp => k4 p (.tail _ hp), k5, k6⟩
    | @mult x d y nm t1 t2 t3 c r a b hy =>
      obtain ⟨b', nm'⟩ := c
      have hlen : nm'.length ≤ 1000 := hsh (b', nm') (.head _)
      have key : ∀ (D z dz T : Addr) (o1 o2 : Obj) (t : Tok), (∀ p ∈ (row, W.listOf rows er) :: (log, W.listOf logs el) :: rest, p.1 < D) → D < dz → dz < z → z < T →
          ObjIn w.params row lam ((T, tupO [.str nm t, .ref D]) :: (z, o1) :: (dz, o2) :: (D, tupO vs) :: rest) z ((b', appN nm') :: r) →
          Calls w (6 * n + 8) (40 * n + 80) z [.ref T] ((T, tupO [.str nm t, .ref D]) :: (z, o1) :: (dz, o2) :: (D, tupO vs) :: (row, W.listOf rows er) :: (log, W.listOf logs el) :: rest) (fun _ n' => Final box row log vs0 rest rows logs er el (deliver (n + 1 + 1) ((true, nm) :: (b', nm') :: r) H) (plainC ((true, nm) :: (b', nm') :: r)) .none n') := by
        intro D z dz T o1 o2 t hD l1 l2 l3 hz
        have g1 : ∀ a : Addr, a < D → a ≠ D ∧ a ≠ dz ∧ a ≠ z ∧ a ≠ T := fun a h => ⟨Nat.ne_of_lt h, Nat.ne_of_lt (Nat.lt_trans h l1), Nat.ne_of_lt (Nat.lt_trans (Nat.lt_trans h l1) l2), Nat.ne_of_lt (Nat.lt_trans (Nat.lt_trans (Nat.lt_trans h l1) l2) l3)⟩
        have h1 := g1 row (hD (row, W.listOf rows er) (.head _))
        have h2 := g1 log (hD (log, W.listOf logs el) (.tail _ (.head _)))
        have sub : ∀ p ∈ rest, p ∈ (T, tupO [.str nm t, .ref D]) :: (z, o1) :: (dz, o2) :: (D, tupO vs) :: rest := fun p hp => .tail _ (.tail _ (.tail _ (.tail _ hp)))
        refine Calls.mono (Calls.sub (ih ((b', appN nm') :: r) ((true, nm) :: H) z [.ref T] _ rows logs er el (by simpa using hn) (fun q hq => hsh q (.tail _ hq)) hz (.mult (.tail _ (.tail _ (.tail _ (.head _)))) (.head _) (hh.mono sub)) (fun p hp => sub p (hl p hp)) ?_ hrs hls) ?_) ?_ (Nat.le_refl _) (Nat.le_refl _)
        · intro p hp
          rcases List.mem_cons.mp hp with rfl | hp
          · exact ⟨fun e => h1.2.2.2 e.symm, fun e => h2.2.2.2 e.symm⟩
          rcases List.mem_cons.mp hp with rfl | hp
          · exact ⟨fun e => h1.2.2.1 e.symm, fun e => h2.2.2.1 e.symm⟩
          rcases List.mem_cons.mp hp with rfl | hp
          · exact ⟨fun e => h1.2.1 e.symm, fun e => h2.2.1 e.symm⟩
          rcases List.mem_cons.mp hp with rfl | hp
          · exact ⟨fun e => h1.1 e.symm, fun e => h2.1 e.symm⟩
          · exact hne p hp
        · intro p hp
          rcases List.mem_cons.mp hp with rfl | hp
          · exact .tail _ (.tail _ (.tail _ (.tail _ (.head _))))
          rcases List.mem_cons.mp hp with rfl | hp
          · exact .tail _ (.tail _ (.tail _ (.tail _ (.tail _ (.head _)))))
          rcases List.mem_cons.mp hp with rfl | hp
          · exact .head _
          rcases List.mem_cons.mp hp with rfl | hp
          · exact .tail _ (.head _)
          rcases List.mem_cons.mp hp with rfl | hp
          · exact .tail _ (.tail _ (.head _))
          rcases List.mem_cons.mp hp with rfl | hp
          · exact .tail _ (.tail _ (.tail _ (.head _)))
          · exact .tail _ (.tail _ (.tail _ (.tail _ (.tail _ (.tail _ hp)))))
        · rintro r' n' ⟨T', D', t', vs', k1, k2, k3, k4, k5, _⟩
          exact ⟨T', D', t', vs', k1, k2, k3, fun p hp => k4 p (sub p hp), k5, rfl⟩
      have sub2 : ∀ p ∈ rest, p ∈ (row, W.listOf rows er) :: (log, W.listOf logs el) :: rest := fun p hp => .tail _ (.tail _ hp)
      have sub4 : ∀ (q1 q2 q3 q4 : Addr × Obj), ∀ p ∈ rest, p ∈ q1 :: q2 :: q3 :: q4 :: rest := fun _ _ _ _ p hp => .tail _ (.tail _ (.tail _ (.tail _ hp)))
      cases hy with
      | row a' b' =>
        refine Calls.mono (calls_mult45 w (6 * n + 8) (40 * n + 80) _ _ _ _ _ _ nm' _ _ _ _ _ _ vs _ _ (sub2 _ a) (sub2 _ b) (sub2 _ a') (sub2 _ b') (hh.short hv0) hlen fun D z dz T u1 u2 u3 hD l1 l2 l3 => key D z dz T _ _ _ hD l1 l2 l3 ?_) (fun _ _ p => p) (by omega) (by omega)
        exact .row (.tail _ (.head _)) (.tail _ (.tail _ (.head _)))
      | lam a' b' =>
        refine Calls.mono (calls_mult80 w (6 * n + 8) (40 * n + 80) _ _ _ _ _ _ nm' _ _ _ _ _ _ vs _ _ (sub2 _ a) (sub2 _ b) (sub2 _ a') (sub2 _ b') (hh.short hv0) hlen fun D z dz T u1 u2 u3 hD l1 l2 l3 => key D z dz T _ _ _ hD l1 l2 l3 ?_) (fun _ _ p => p) (by omega) (by omega)
        exact .lam (.tail _ (.head _)) (.tail _ (.tail _ (.head _)))
      | mult a' b' h' =>
        refine Calls.mono (calls_mult45 w (6 * n + 8) (40 * n + 80) _ _ _ _ _ _ nm' _ _ _ _ _ _ vs _ _ (sub2 _ a) (sub2 _ b) (sub2 _ a') (sub2 _ b') (hh.short hv0) hlen fun D z dz T u1 u2 u3 hD l1 l2 l3 => key D z dz T _ _ _ hD l1 l2 l3 ?_) (fun _ _ p => p) (by omega) (by omega)
        exact .mult (.tail _ (.head _)) (.tail _ (.tail _ (.head _))) (h'.mono (sub4 _ _ _ _))
      | meth a' b' h' =>
        refine Calls.mono (calls_mult80 w (6 * n + 8) (40 * n + 80) _ _ _ _ _ _ nm' _ _ _ _ _ _ vs _ _ (sub2 _ a) (sub2 _ b) (sub2 _ a') (sub2 _ b') (hh.short hv0) hlen fun D z dz T u1 u2 u3 hD l1 l2 l3 => key D z dz T _ _ _ hD l1 l2 l3 ?_) (fun _ _ p => p) (by omega) (by omega)
        exact .meth (.tail _ (.head _)) (.tail _ (.tail _ (.head _))) (h'.mono (sub4 _ _ _ _))
end Mine

namespace Mine
def fnBody : Stmt → List Stmt
  | .FunctionDef _ _ b _ _ _ _ _ _ _ => b
  | _ => []
def fnScope : Stmt → Scope
  | .FunctionDef _ _ _ _ _ _ s _ _ _ => s
  | _ => { kind := .function, names := [], isGenerator := false, isCoroutine := false }
def lawDef3 : Stmt := (PySem.Challenge.pw_dn0306_03.main.body)[7]!
def law3 : List Stmt := fnBody lawDef3
def lamOf : Stmt → Arguments × Expr × Scope
  | .Assign _ (.List [_, .Call _ [.Lambda p b sc _, _] _ _] _) _ => (p, b, sc)
  | _ => ({ posonlyargs := [], args := [], vararg := none, kwonlyargs := [], kw_defaults := [], kwarg := none, defaults := [] }, .Constant .none 0 ⟨0, 0, 0, 0⟩, { kind := .function, names := [], isGenerator := false, isCoroutine := false })
def lam3 : Arguments × Expr × Scope := lamOf law3[3]!
local macro_rules | `(tactic| walk_at "mine") => `(tactic| repeat' (first | (k_unfold; (try dsimp only)) | walk1 | (dsimp only; walk1) | (leave1; try dsimp only) | fail "no step"))
local macro_rules | `(tactic| k_mem) => `(tactic| assumption)
local macro_rules | `(tactic| k_room) => `(tactic| ktr_room)
local macro_rules | `(tactic| k_all) => `(tactic| assumption)
local macro_rules | `(tactic| walk_at "call builtin:list.append") => `(tactic| (k_dflt (refine' append_K ?k1 ?k2 ?k3 ?_ ?z; (case k1 => k_asm); (case k2 => k_asm); (case k3 => k_upd); (case z => (rw [sizeLine_eq]; omega)); k_whole); intro h' F' N'))
theorem swap2 {α : Type} {a b : α} {r : List α} : ∀ p ∈ b :: a :: r, p ∈ a :: b :: r := by
  intro p hp
  rcases List.mem_cons.mp hp with rfl | hp
  · exact .tail _ (.head _)
  rcases List.mem_cons.mp hp with rfl | hp
  · exact .head _
  exact .tail _ (.tail _ hp)
theorem lit3 {α β γ : Type} {x : α × β × γ} {P : α → β → γ → Prop} (a : α) (b : β) (c : γ) (e : x = (a, b, c)) (h : P a b c) : P x.1 x.2.1 x.2.2 := by subst e; exact h
local macro_rules | `(tactic| walk_at "eval Name") => `(tactic| ((first | (with_reducible show wpAny _ _ (eval (Expr.Name (Str.ofString "log") _) (envX _ _ _ _ _ _)) _ _ _) | (with_reducible show wpAny _ _ (eval (Expr.Name (Str.ofString "box") _) (envX _ _ _ _ _ _)) _ _ _)); k_dflt (refine' nameX_F ?N ?c ?m ?d ?_ ?a ?b; (case a => rfl); (case b => rfl); (case N => k_asm); (case c => rfl); (case m => assumption); (case d => assumption))))
theorem lam_ok (w : World) (log box f c clog cbox : Addr) (oc olog obox : Obj) (q : PySem.Str) (pm ct : Value) (vs : Array Value) (tq : Tok) (hc : oc.data = .fields vs) (hc2 : vs[1]? = some (.str q tq)) (h1 : olog.data = .cell (some (.ref log))) (h2 : obox.data = .cell (some (.ref box))) :
    LamOk w log f box [(f, kla_obj (PySem.Str.ofString "<lambda>") q lam3.1 lam3.2.1 lam3.2.2 [(PySem.Str.ofString "log", clog), (PySem.Str.ofString "box", cbox)] pm c ct), (c, oc), (clog, olog), (cbox, obox)] := by
  refine lit3 (x := lam3) (P := fun p b sc => LamOk w log f box [(f, kla_obj (PySem.Str.ofString "<lambda>") q p b sc [(PySem.Str.ofString "log", clog), (PySem.Str.ofString "box", cbox)] pm c ct), (c, oc), (clog, olog), (cbox, obox)]) _ _ _ rfl ?_
  unfold LamOk Calls
  k_fill
  intro rest logs el nm t D hrest hlog hsz mean mg mb dp un gd cn nms ig ic mo a ccd cl outer A₀ base h₀ L m s Q E B F X N T hd hu hret
  have m1 := List.mem_cons_of_mem (log, W.listOf logs el) (hrest _ (.head _))
  have m2 := List.mem_cons_of_mem (log, W.listOf logs el) (hrest _ (.tail _ (.head _)))
  have m3 := List.mem_cons_of_mem (log, W.listOf logs el) (hrest _ (.tail _ (.tail _ (.head _))))
  have m4 := List.mem_cons_of_mem (log, W.listOf logs el) (hrest _ (.tail _ (.tail _ (.tail _ (.head _)))))
  refine never ?_
  refine wpAny_call ?_
  kla_enter
  walk_at "mine"
  rename News h₀ L _ _ => kN9
  exact hret _ _ _ _ (by k_asm) kN9 ⟨rfl, _, swap2⟩
end Mine

namespace Mine
abbrev inF (x : Addr × Chain3) : PySem.Str → Option Value := fun y => if y = PySem.Str.ofString "args" then some (.ref x.1) else none
theorem one_lookup (v : Value) (n y : PySem.Str) : List.lookup y [(n, v)] = if y = n then some v else none := by
  by_cases h1 : y = n
  · subst h1; simp [List.lookup]
  · rw [if_neg h1]; simp only [List.lookup]; rw [show (y == n) = false from beq_eq_false_iff_ne.mpr h1]
theorem in_fr {g h : Heap} {L : Addr} {x y : Addr × Chain3} {v : Addr} (F : Fr g L h (fun z => if z = PySem.Str.ofString "args" then some (.ref y.1) else if z = PySem.Str.ofString "args" then some (.ref v) else inF x z)) : Fr g L h (inF y) :=
  fr_eq F fun z => by by_cases h1 : z = PySem.Str.ofString "args" <;> simp [inF, h1]
theorem in_fr1 {g h : Heap} {L : Addr} {x y : Addr × Chain3} (F : Fr g L h (fun z => if z = PySem.Str.ofString "args" then some (.ref y.1) else inF x z)) : Fr g L h (inF y) :=
  fr_eq F fun z => by by_cases h1 : z = PySem.Str.ofString "args" <;> simp [inF, h1]
local macro_rules | `(tactic| walk_at "mine") => `(tactic| repeat' (first | (k_unfold; (try dsimp only)) | walk1 | (dsimp only; walk1) | (leave1; try dsimp only) | fail "no step"))
local macro_rules | `(tactic| k_mem) => `(tactic| assumption)
local macro_rules | `(tactic| k_room) => `(tactic| ktr_room)
local macro_rules | `(tactic| k_all) => `(tactic| assumption)
local macro_rules | `(tactic| walk_at "execs cons") => `(tactic| (refine genToks ?_ (by omega); intro k9 p9))
local macro_rules | `(tactic| walk_at "execs nil") => `(tactic| (refine genToks ?_ (by omega); intro k9 p9))
local macro_rules | `(tactic| walk_at "execs cons") => `(tactic| ((with_reducible show wpAny _ _ _ _ _ (Shared.mk _ _ _ (Shared.toks _) _)); dsimp only))
local macro_rules | `(tactic| walk_at "execs nil") => `(tactic| ((with_reducible show wpAny _ _ _ _ _ (Shared.mk _ _ _ (Shared.toks _) _)); dsimp only))
local macro_rules | `(tactic| walk_at "exec While") => `(tactic| refine Halt.go ?_)
theorem innermost : ∀ (w : World) (mean : ExcName → Option Value) (mg mb : PySem.Str → Option Value) (dp un : Nat) (gd : Option (List Code)) (cn : PySem.Str) (nms : List (PySem.Str × NameKind)) (ig ic : Bool) (mo : List (PySem.Str × Const)) (a : Addr) (ccd : Value) (cl : List (PySem.Str × Addr)) (outer : List Env) (A₀ : Around) (base h₀ : Heap) (L : Addr) (m : PySem.Str → Option Value) (s : Shared) (Q E : Value → Shared → Prop)
    (news : List (Addr × Obj)) (k : Int) (tk : Tok) (th : Addr) (vs : List Value) (H : Chain3) (z : Addr),
    Below A₀ base outer h₀ → Fr h₀ L s.heap m → (hd03.heap_39 w.params).In h₀ → News h₀ L s.heap news → Top topProg (looseW hd03.view_39 [PySem.Str.ofString "_MultiCallMethod", PySem.Str.ofString "_Method"] ++ (recsOf hd03.view_39).map (fun x => x.name) ++ (litsOf hd03.view_39).map (fun x => x.1) ++ (clssOf hd03.view_39 (looseW hd03.view_39 [PySem.Str.ofString "_MultiCallMethod", PySem.Str.ofString "_Method"])).map (fun x => x.name)) mean mg mb h₀ → 0 < s.toks → dp + 1 < recursionLimit → un + 8 < cLine →
    (z, tupO vs) ∈ news → HeldArgs news [.int k tk, .ref th] vs H →
    (∀ D h' tk', Fr h₀ L h' m → News h₀ L h' news → (D, tupO [.int k tk, .ref th]) ∈ news → Q (.ref D) { s with heap := h', toks := tk' }) →
    wpAny (model Challenge.rw_dn0306_03.prog w) (ktrTop dp un gd cn ⟨.function, nms, ig, ic, mo⟩ L a ccd cl outer) (call (.ref 105) [.ref z]) Q E s := by
  k_fill
  intro w mean mg mb dp un gd cn nms ig ic mo a ccd cl outer A₀ base h₀ L m s Q E news k tk th vs H z B F X N T hpos hd hu hz hh hret
  have hk9 : (envX cn ⟨.function, nms, ig, ic, mo⟩ L a ccd cl).scope.kind = .function := rfl
  refine wpAny_call ?_
  k_dflt ktr_enter
  refine never ?_
  rename_i g' L' h' FG' F' N' B' X' T'
  walk_at "mine"
  show wpAny _ _ _ _ _ _
  rename Fr g' L' _ _ => F9
  rename News g' L' _ _ => N9
  have F9' : Fr g' L' h' (inF (z, H)) := fr_eq F9 fun y => one_lookup _ _ y
  refine While_st (σ := Addr × Chain3) inF (fun _ => news) (fun x => ∃ vs, (x.1, tupO vs) ∈ news ∧ HeldArgs news [.int k tk, .ref th] vs x.2) (fun x => x.2.length) (z, H) (by assumption) F9' N9 ⟨vs, hz, hh⟩ ?turn ?hE
  case hE => passes_own
  clear F9 F9' N9
  rintro ⟨z1, H1⟩ h₁ tk₁ pos₁ ⟨vs1, hz1, hh1⟩ F₁ N₁ sz₁
  dsimp only at hz1 hh1 F₁ N₁
  cases hh1 with
  | base =>
    walk_at "mine"
    exact hret _ _ _ (by k_asm) (by k_asm) hz1
  | @meth D vs H nm t hD hr =>
    walk_at "mine"
    exact StepSt.next (D, H) (in_fr1 (by k_asm)) (by k_asm) ⟨_, hD, hr⟩ (Nat.lt_succ_self _)
  | @mult D T2 vs H nm t hD hT hr =>
    walk_at "mine"
    exact StepSt.next (D, H) (in_fr (by k_asm)) (by k_asm) ⟨_, hD, hr⟩ (Nat.lt_succ_self _)
end Mine

namespace Mine
local macro_rules | `(tactic| walk_at "mine") => `(tactic| repeat' (first | (k_unfold; (try dsimp only)) | walk1 | (dsimp only; walk1) | (leave1; try dsimp only) | fail "no step"))
local macro_rules | `(tactic| k_mem) => `(tactic| assumption)
local macro_rules | `(tactic| k_room) => `(tactic| ktr_room)
local macro_rules | `(tactic| k_all) => `(tactic| assumption)
local macro_rules | `(tactic| walk_at "call ref") => `(tactic| refine Halt.go ?_)
section
variable {M : Model} {A : Around} {E : Value → Shared → Prop} {s : Shared} {env : Env} {pos p : Pos} {y : Addr} {o : Obj} {first : List Value} {Q : Value → Shared → Prop}
theorem callWith_ledS {e : Expr} (ho : Callee o) (h : wpAny M A (eval e env) (fun v s₁ => StarOf M A E v (fun vs s₂ => s₂.heap.get? y = some o ∧ wpAny M A (call (.ref y) (first ++ vs)) Q E s₂) s₁) E s)
    (he : starEach [.Starred e p] env = [(true, eval e env)] := by rfl) :
    wpAny M A (callWith pos (.ref y) first (backTo pos (starEach [.Starred e p] env)) []) Q E s := by
  rw [he]
  rcases ho with hd | ⟨fd, hd⟩
  · have h' := ks_lone (f := .ref y) (pos := pos) (Q := fun a s₁ => s₁.heap.get? y = some o ∧ wpAny M A (call (.ref y) (first ++ a.pos) a.kw) Q E s₁) h
    unfold callWith
    refine wpAny_bind (wpAny_holding (wpAny_mono h' (fun a s₁ h₁ => wpAny_bind (wpAny_standAt ?_)) fun _ _ y => y))
    have L : Looks M s₁.heap (keeperOf (.ref y)) .caller := by
      refine (Looks.ld (part := none) h₁.1).andThen ?_
      simp only [hd]
      exact .now
    refine wpAny_bind (L.here ?_)
    have tail : ∀ {t : Sem Value}, wpAny M A t Q E s₁ → wpAny M A (t >>= fun r => holding [r] point >>= fun _ => pure r) Q E s₁ :=
      fun ht => wpAny_bind (wpAny_mono ht (fun r s₂ hr => wpAny_bind (wpAny_holding (wpAny_point (wpAny_pure hr)))) fun _ _ y => y)
    exact tail (wpAny_operating h₁.2)
  · refine ks_call (P := fun h => h.get? y = some o) rfl (fun h e => ⟨.frame, .inl rfl, ?_⟩) (ks_lone h)
    refine (Looks.ld (part := none) e).andThen ?_
    simp only [hd]
    exact .now
end
local macro_rules | `(tactic| walk_at "callWith ref") => `(tactic| (k_here; k_dflt (refine' callWith_ledS ?k1 ?_; (case k1 => assumption); k_whole)))
local macro_rules | `(tactic| walk_at "And") => `(tactic| ((with_reducible show Heap.get? _ _ = some _ ∧ _); k_dflt (refine ⟨News.get (by k_asm) (by k_mem), ?_⟩); try dsimp only [List.nil_append, List.cons_append]))
local macro_rules | `(tactic| walk_at "StarOf ref") => `(tactic| (k_here; k_dflt (refine' star_seq ?k1 ?k2 ?m ?c ?d ?T ?e ?z ?_; (case k1 => k_asm); (case k2 => k_asm); (case m => k_mem); (case c => exact rfl); (case d => exact rfl); (case T => first | exact .inl rfl | exact .inr rfl); (case e => exact rfl); (case z => (rw [sizeLine_eq]; simp only [List.size_toArray]; omega)); k_whole); intro h' F' N'; try dsimp only [List.nil_append, List.cons_append]))
theorem called : ∀ (w : World) (dpn unn : Nat) (y : Addr) (oy : Obj) (A : Addr) (vs : List Value) (news : List (Addr × Obj)) (Post : Value → List (Addr × Obj) → Prop),
    (y, oy) ∈ news → Callee oy → (A, tupO vs) ∈ news → vs.length ≤ 2 → Calls w dpn unn y vs news Post →
    ∀ (mean : ExcName → Option Value) (mg mb : PySem.Str → Option Value) (dp un : Nat) (gd : Option (List Code)) (cn : PySem.Str) (nms : List (PySem.Str × NameKind)) (ig ic : Bool) (mo : List (PySem.Str × Const)) (a : Addr) (ccd : Value) (cl : List (PySem.Str × Addr)) (outer : List Env) (A₀ : Around) (base h₀ : Heap) (L : Addr) (m : PySem.Str → Option Value) (s : Shared) (Q E : Value → Shared → Prop),
    Below A₀ base outer h₀ → Fr h₀ L s.heap m → (hd03.heap_39 w.params).In h₀ → News h₀ L s.heap news → Top topProg (looseW hd03.view_39 [PySem.Str.ofString "_MultiCallMethod", PySem.Str.ofString "_Method"] ++ (recsOf hd03.view_39).map (fun x => x.name) ++ (litsOf hd03.view_39).map (fun x => x.1) ++ (clssOf hd03.view_39 (looseW hd03.view_39 [PySem.Str.ofString "_MultiCallMethod", PySem.Str.ofString "_Method"])).map (fun x => x.name)) mean mg mb h₀ → dp + dpn + 2 < recursionLimit → un + unn + 20 < cLine →
    (∀ r news' h' tk', Fr h₀ L h' m → News h₀ L h' news' → Post r news' → Q r { s with heap := h', toks := tk' }) →
    wpAny (model Challenge.rw_dn0306_03.prog w) (ktrTop dp un gd cn ⟨.function, nms, ig, ic, mo⟩ L a ccd cl outer) (call (.ref 98) [.ref y, .ref A]) Q E s := by
  k_fill
  intro w dpn unn y oy A vs news Post hy hcy hA hvs hcalls mean mg mb dp un gd cn nms ig ic mo a ccd cl outer A₀ base h₀ L m s Q E B F X N T hd hu hret
  have hk9 : (envX cn ⟨.function, nms, ig, ic, mo⟩ L a ccd cl).scope.kind = .function := rfl
  refine never ?_
  refine wpAny_call ?_
  k_dflt ktr_enter
  rename_i g' L' h' FG' F' N' B' X' T'
  walk_at "mine"
  show wpAny _ _ _ _ _ _
  refine hcalls mean mg mb _ _ _ _ _ _ _ _ _ _ _ _ _ _ _ _ _ _ _ _ B' (by k_asm) X' (by k_asm) T' (by show dp + 1 + dpn < _; omega) (by show un + 3 + unn < _; omega) ?_
  intro r news' h9 tk9 F9 N9 P9
  walk_at "mine"
  exact hret _ _ _ _ (by k_asm) (by k_asm) P9
end Mine

namespace Mine
structure Nd where
  nm : PySem.Str
  p : Nat
  kp : Bool
  ch : Chain3
  x : Addr
  tt : Addr
abbrev poolO (nds : List Nd) (e : Nat) : Obj := W.listOf (nds.map fun n => Value.ref n.x).toArray e
abbrev toldO (nds : List Nd) (e : Nat) : Obj := W.listOf (nds.map fun n => Value.ref n.tt).toArray e
structure NdOk (P : Params) (row lam : Addr) (rest : List (Addr × Obj)) (nds : List Nd) (i : Nat) (nd : Nd) : Prop where
  obj : ObjIn P row lam rest nd.x nd.ch
  told : ∃ t t', (nd.tt, W.listOf #[.str nd.nm t, .int nd.p t', .bool nd.kp] 0) ∈ rest
  len : nd.nm.length ≤ 10
  ok : PyData.strOk nd.nm = true
  low : i < 2 → nd.ch = [(nd.kp, nd.nm)] ∧ nd.kp = decide (i = 0)
  high : 2 ≤ i → nd.p < i ∧ ∃ nd', nds[nd.p]? = some nd' ∧ nd.ch = (nd.kp, nd.nm) :: nd'.ch
structure PoolOk (P : Params) (row lam : Addr) (rest : List (Addr × Obj)) (nds : List Nd) : Prop where
  two : 2 ≤ nds.length
  each : ∀ i nd, nds[i]? = some nd → NdOk P row lam rest nds i nd
def forBody : Stmt → List Stmt
  | .For _ _ b _ _ => b
  | _ => []
theorem ObjIn.cons {P : Params} {row lam : Addr} {n : List (Addr × Obj)} {x : Addr} {c : Chain3} (h : ObjIn P row lam n x c) : ∃ a r, c = a :: r := by
  cases h <;> exact ⟨_, _, rfl⟩
theorem ObjIn.mk45 {P : Params} {row lam : Addr} {n : List (Addr × Obj)} {x d y : Addr} {c : Chain3} {nm : PySem.Str} {t1 t2 t3 : Tok} (a : (x, instObj 45 d) ∈ n) (b : (d, multD P (.ref y) nm t1 t2 t3) ∈ n) (h : ObjIn P row lam n y c) : ObjIn P row lam n x ((true, nm) :: c) := by
  obtain ⟨e, r, rfl⟩ := h.cons
  exact .mult a b h
theorem ObjIn.mk80 {P : Params} {row lam : Addr} {n : List (Addr × Obj)} {x d y : Addr} {c : Chain3} {nm : PySem.Str} {t1 t2 t3 : Tok} (a : (x, instObj 80 d) ∈ n) (b : (d, methD P (.ref y) nm t1 t2 t3) ∈ n) (h : ObjIn P row lam n y c) : ObjIn P row lam n x ((false, nm) :: c) := by
  obtain ⟨e, r, rfl⟩ := h.cons
  exact .meth a b h
theorem PoolOk.snoc {P : Params} {row lam : Addr} {rest ext : List (Addr × Obj)} {nds : List Nd} {nd nd' : Nd} (hP : PoolOk P row lam rest nds) (hobj : ObjIn P row lam (ext ++ rest) nd.x nd.ch) (htold : ∃ t t', (nd.tt, W.listOf #[.str nd.nm t, .int nd.p t', .bool nd.kp] 0) ∈ ext ++ rest) (hlen : nd.nm.length ≤ 10) (hok : PyData.strOk nd.nm = true)
    (hp : nds[nd.p]? = some nd') (hch : nd.ch = (nd.kp, nd.nm) :: nd'.ch) : PoolOk P row lam (ext ++ rest) (nds ++ [nd]) := by
  have sub : ∀ p ∈ rest, p ∈ ext ++ rest := fun p hp => List.mem_append_right _ hp
  have lt_of : ∀ {i : Nat} {x : Nd}, nds[i]? = some x → i < nds.length := fun {i x} h => by
    rcases Nat.lt_or_ge i nds.length with h1 | h1
    · exact h1
    · rw [List.getElem?_eq_none h1] at h; cases h
  refine ⟨by rw [List.length_append]; have := hP.two; omega, fun i x hx => ?_⟩
  rcases Nat.lt_or_ge i nds.length with h1 | h1
  · rw [List.getElem?_append_left h1] at hx
    obtain ⟨o1, ⟨t, t', o2⟩, o3, o4, o5, o6⟩ := hP.each i x hx
    refine ⟨o1.mono sub, ⟨t, t', sub _ o2⟩, o3, o4, o5, fun h => ?_⟩
    obtain ⟨q1, y, q2, q3⟩ := o6 h
    exact ⟨q1, y, by rw [List.getElem?_append_left (lt_of q2)]; exact q2, q3⟩
  · have hi : i = nds.length := by
      have := List.getElem?_eq_some_iff.mp hx
      obtain ⟨hl, _⟩ := this
      rw [List.length_append, List.length_singleton] at hl
      omega
    subst hi
    rw [List.getElem?_append_right (Nat.le_refl _), Nat.sub_self] at hx
    cases hx
    have := hP.two
    exact ⟨hobj, htold, hlen, hok, fun h => absurd h (by omega), fun _ => ⟨lt_of hp, nd', by rw [List.getElem?_append_left (lt_of hp)]; exact hp, hch⟩⟩
theorem allLt_mem {d : Nat} : ∀ {l : List (Addr × Obj)}, AllLt d l → ∀ q ∈ l, q.1 < d
  | [], _, _, h => nomatch h
  | _ :: _, h, q, hq => by
    rcases List.mem_cons.mp hq with rfl | hq
    · exact h.1
    · exact allLt_mem h.2 q hq
theorem push_map {α : Type} (f : α → Value) (l : List α) (a : α) : (l.map f).toArray.push (f a) = ((l ++ [a]).map f).toArray := by simp
theorem lit2 {α β : Type} {x : α} {y : β} {P : α → β → Prop} (a : α) (b : β) (e : x = a) (e' : y = b) (h : P a b) : P x y := by subst e e'; exact h
abbrev env3 (sc : Scope) (L fa : Addr) : Env := envOfC (PySem.Str.ofString "law") sc L fa (.ref 111)
abbrev f1 (M : PySem.Str → Option Value) (x p kp nm : Option Value) : PySem.Str → Option Value := fun y =>
  if y = PySem.Str.ofString "x" then x else if y = PySem.Str.ofString "p" then p else if y = PySem.Str.ofString "keeps" then kp else if y = PySem.Str.ofString "name" then nm else M y
abbrev mLaw (row lp lt sc : Addr) : PySem.Str → Option Value := fun y =>
  if y = PySem.Str.ofString "told" then some (.ref lt) else if y = PySem.Str.ofString "pool" then some (.ref lp) else if y = PySem.Str.ofString "row" then some (.ref row) else if y = PySem.Str.ofString "script" then some (.ref sc) else none
local macro_rules | `(tactic| walk_at "mine") => `(tactic| repeat' (first | (k_unfold; (try dsimp only)) | walk1 | (dsimp only; walk1) | (leave1; try dsimp only) | fail "no step"))
local macro_rules | `(tactic| k_mem) => `(tactic| (repeat (first | exact List.Mem.head _ | assumption | refine List.Mem.tail _ ?_)))
local macro_rules | `(tactic| k_all) => `(tactic| assumption)
local macro_rules | `(tactic| walk_at "execs cons") => `(tactic| (refine genToks ?_ (by omega); intro k9 p9))
local macro_rules | `(tactic| walk_at "execs nil") => `(tactic| (refine genToks ?_ (by omega); intro k9 p9))
local macro_rules | `(tactic| walk_at "execs cons") => `(tactic| ((with_reducible show wpAny _ _ _ _ _ (Shared.mk _ _ _ (Shared.toks _) _)); dsimp only))
local macro_rules | `(tactic| walk_at "execs nil") => `(tactic| ((with_reducible show wpAny _ _ _ _ _ (Shared.mk _ _ _ (Shared.toks _) _)); dsimp only))
theorem lenMap {prog : Program} {w : World} {A : Around} {E : Value → Shared → Prop} {s : Shared} {l : Addr} {α : Type} {f : α → Value} {vs : List α} {Q : Value → Shared → Prop} (hl : s.heap.IsList l (vs.map f).toArray) (hb : vs.length ≤ 1000)
    (h : ∀ t k, s.toks ≤ k → Q (.int (vs.length : Int) t) { s with toks := k }) : wpAny (model prog w) A (call (.builtin "len") [.ref l]) Q E s := by
  refine Calls.call_len_list hl (by simp only [List.size_toArray, List.length_map]; omega) ?_
  have e : (vs.map f).toArray.size = vs.length := by simp
  rw [e]
  exact h _ _ (by omega)
theorem itemMap {prog : Program} {w : World} {A : Around} {E : Value → Shared → Prop} {s : Shared} {value slice : Expr} {l : Addr} {α : Type} {f : α → Value} {vs : List α} {k : Int} {u : Tok} {Q : Value → Shared → Prop}
    (hl : s.heap.IsList l (vs.map f).toArray) (h0 : 0 ≤ k) (hk : k < (vs.length : Int)) (hb : vs.length ≤ 1000)
    (h : ∀ x, vs[k.toNat]? = some x → Q (f x) s)
    (hs : subscripted slice false (.ref l) (.int k u) = operate [.ref l, .int k u] (getItem (.ref l) (.int k u)) := by with_unfolding_all rfl) :
    wpAny (model prog w) A (subscriptTail value slice (.ref l) (.int k u)) Q E s := by
  have hlt : k.toNat < vs.length := by omega
  have hx : vs[k.toNat]? = some vs[k.toNat] := by simp [hlt]
  refine tail_any hl.typeIs slot_list_getitem.lookup (wpAny_getItem_list hl h0 (by simp; omega) (x := f vs[k.toNat]) (by simp [hx]) (h _ hx)) hs
local macro_rules | `(tactic| walk_at "call builtin:len") => `(tactic| (k_dflt (refine lenMap (News.isList (by k_asm) (by k_mem)) (by omega) ?_); intro t9 k9 u9; (try dsimp only at u9)))
theorem fm_lo {n m : Int} (h : 0 < m) : 0 ≤ n.fmod m := by rw [Int.fmod_eq_emod_of_nonneg _ (by omega)]; exact Int.emod_nonneg _ (by omega)
theorem fm_hi {n m : Int} (h : 0 < m) : n.fmod m < m := by rw [Int.fmod_eq_emod_of_nonneg _ (by omega)]; exact Int.emod_lt_of_pos _ h
local macro_rules | `(tactic| walk_at "subscriptTail Name Name ref int") => `(tactic| (k_dflt (refine itemMap (News.isList (by k_asm) (by k_mem)) (by assumption) (by assumption) (by omega) ?_); intro nd9 hnd9))
local macro_rules | `(tactic| walk_at "exec If") => `(tactic| refine Halt.go ?_)
local macro_rules | `(tactic| walk_at "call builtin:list.append") => `(tactic| (k_dflt (refine' append_K ?k1 ?k2 ?k3 ?_ ?z; (case k1 => k_asm); (case k2 => k_asm); (case k3 => k_upd); (case z => (rw [sizeLine_eq]; (try simp only [List.size_toArray, List.length_map]); omega)); k_whole); intro h' F' N'))
theorem nm_facts (x : Int) : (PySem.Str.ofString "n" ++ PySem.Str.ofString (toString (x.fmod 100))).length ≤ 10 ∧ PyData.strOk (PySem.Str.ofString "n" ++ PySem.Str.ofString (toString (x.fmod 100))) = true := by
  have h1 : 0 ≤ x.fmod 100 := fm_lo (by omega)
  have h2 : x.fmod 100 < 100 := fm_hi (by omega)
  generalize x.fmod 100 = y at *
  obtain ⟨n, rfl⟩ := Int.eq_ofNat_of_zero_le h1
  have h3 : n < 100 := by omega
  have key : ∀ n : Fin 100, (PySem.Str.ofString "n" ++ PySem.Str.ofString (toString ((n.1 : Nat) : Int))).length ≤ 10 ∧ PyData.strOk (PySem.Str.ofString "n" ++ PySem.Str.ofString (toString ((n.1 : Nat) : Int))) = true := by decide +kernel
  exact key ⟨n, h3⟩
theorem f1_end {g h : Heap} {L : Addr} {M : PySem.Str → Option Value} {x p kp nm u1 u2 u3 : Option Value}
    (F : Fr g L h (fun y => if y = PySem.Str.ofString "name" then nm else if y = PySem.Str.ofString "keeps" then kp else if y = PySem.Str.ofString "p" then p else f1 M x u1 u2 u3 y)) : Fr g L h (f1 M x p kp nm) := by
  refine fr_eq F fun y => ?_
  by_cases h1 : y = PySem.Str.ofString "name"
  · subst h1; rfl
  by_cases h2 : y = PySem.Str.ofString "keeps"
  · subst h2; rfl
  by_cases h3 : y = PySem.Str.ofString "p"
  · subst h3; rfl
  by_cases h4 : y = PySem.Str.ofString "x"
  · subst h4; rfl
  simp only [f1, if_neg h1, if_neg h2, if_neg h3, if_neg h4]
theorem turn1_end {P : Params} {h₀ h' : Heap} {L lp lt row lam sc l x' d : Addr} {nds : List Nd} {e1 e2 : Nat} {rest own rr : List (Addr × Obj)} {x : Int} {tx t t2 : Tok} {u1 u2 u3 : Option Value} {s : Shared} {Q : Flow → Shared → Prop} {nm : PySem.Str} {kp : Bool} {pn : Nat} {nd : Nd} {o1 o2 : Obj} {tk : Nat}
    (hret : ∀ nd ext h' tk' v1 v2 v3, Fr h₀ L h' (f1 (mLaw row lp lt sc) (some (.int x tx)) v1 v2 v3) → News h₀ L h' ((lp, poolO (nds ++ [nd]) (e1 + 1)) :: (lt, toldO (nds ++ [nd]) (e2 + 1)) :: (ext ++ (rest ++ own))) → PoolOk P row lam (ext ++ rest) (nds ++ [nd]) → (∀ p ∈ ext, lt < p.1 ∧ ∀ q ∈ own, q.1 < p.1) → Q .next { s with heap := h', toks := tk' }) (hrr : rest ++ own = rr)
    (kF : Fr h₀ L h' (fun y => if y = PySem.Str.ofString "name" then some (.str nm t) else if y = PySem.Str.ofString "keeps" then some (.bool kp) else if y = PySem.Str.ofString "p" then some (.int pn t2) else f1 (mLaw row lp lt sc) (some (.int x tx)) u1 u2 u3 y))
    (kN : News h₀ L h' ((l, W.listOf #[.str nm t, .int pn t2, .bool kp] 0) :: (x', o1) :: (d, o2) :: (lp, W.listOf ((nds.map fun n => Value.ref n.x).toArray.push (.ref x')) (e1 + 1)) :: (lt, W.listOf ((nds.map fun n => Value.ref n.tt).toArray.push (.ref l)) (e2 + 1)) :: rr))
    (hP : PoolOk P row lam rest nds) (hnd : nds[pn]? = some nd) (hlen : nm.length ≤ 10) (hok : PyData.strOk nm = true) (hobj : ObjIn P row lam ((l, W.listOf #[.str nm t, .int pn t2, .bool kp] 0) :: (x', o1) :: (d, o2) :: rest) x' ((kp, nm) :: nd.ch))
    (h1 : lt < d ∧ ∀ q ∈ rr, q.1 < d) (h2 : d < x') (h3 : x' < l) : Q .next { s with heap := h', toks := tk } := by
  subst hrr
  have g1 : ∀ q ∈ own, q.1 < d := fun q hq => h1.2 q (List.mem_append_right _ hq)
  replace h1 := h1.1
  refine hret ⟨nm, pn, kp, (kp, nm) :: nd.ch, x', l⟩ [(l, W.listOf #[.str nm t, .int pn t2, .bool kp] 0), (x', o1), (d, o2)] h' tk _ _ _ (f1_end kF) (news_sub kN fun p hp => ?_) (hP.snoc hobj ⟨t, t2, .head _⟩ hlen hok hnd rfl) ?_
  · rcases List.mem_cons.mp hp with rfl | hp
    · rw [poolO, ← push_map]; exact .tail _ (.tail _ (.tail _ (.head _)))
    rcases List.mem_cons.mp hp with rfl | hp
    · rw [toldO, ← push_map]; exact .tail _ (.tail _ (.tail _ (.tail _ (.head _))))
    rcases List.mem_cons.mp hp with rfl | hp
    · exact .head _
    rcases List.mem_cons.mp hp with rfl | hp
    · exact .tail _ (.head _)
    rcases List.mem_cons.mp hp with rfl | hp
    · exact .tail _ (.tail _ (.head _))
    exact .tail _ (.tail _ (.tail _ (.tail _ (.tail _ hp))))
  · intro p hp
    rcases List.mem_cons.mp hp with rfl | hp
    · exact ⟨Nat.lt_trans h1 (Nat.lt_trans h2 h3), fun q hq => Nat.lt_trans (g1 q hq) (Nat.lt_trans h2 h3)⟩
    rcases List.mem_cons.mp hp with rfl | hp
    · exact ⟨Nat.lt_trans h1 h2, fun q hq => Nat.lt_trans (g1 q hq) h2⟩
    rcases List.mem_cons.mp hp with rfl | hp
    · exact ⟨h1, g1⟩
    cases hp
theorem turn1 : ∀ (w : World) (mean : ExcName → Option Value) (mg mb : PySem.Str → Option Value) (base h₀ : Heap) (L fa lp lt row lam sc : Addr) (nds : List Nd) (e1 e2 : Nat) (rest own : List (Addr × Obj)) (x : Int) (tx : Tok) (u1 u2 u3 : Option Value) (s : Shared) (Q : Flow → Shared → Prop),
    Below callerA base [] h₀ → (hd03.heap_39 w.params).In h₀ → Top topProg (looseW hd03.view_39 [PySem.Str.ofString "_MultiCallMethod", PySem.Str.ofString "_Method"] ++ (recsOf hd03.view_39).map (fun x => x.name) ++ (litsOf hd03.view_39).map (fun x => x.1) ++ (clssOf hd03.view_39 (looseW hd03.view_39 [PySem.Str.ofString "_MultiCallMethod", PySem.Str.ofString "_Method"])).map (fun x => x.name)) mean mg mb h₀ →
    Fr h₀ L s.heap (f1 (mLaw row lp lt sc) (some (.int x tx)) u1 u2 u3) → News h₀ L s.heap ((lp, poolO nds e1) :: (lt, toldO nds e2) :: (rest ++ own)) → 0 < s.toks → PoolOk w.params row lam rest nds → nds.length ≤ 500 → lp < lt → (∀ p ∈ rest ++ own, p.1 ≠ lp ∧ p.1 ≠ lt) →
    (∀ nd ext h' tk' v1 v2 v3, Fr h₀ L h' (f1 (mLaw row lp lt sc) (some (.int x tx)) v1 v2 v3) → News h₀ L h' ((lp, poolO (nds ++ [nd]) (e1 + 1)) :: (lt, toldO (nds ++ [nd]) (e2 + 1)) :: (ext ++ (rest ++ own))) → PoolOk w.params row lam (ext ++ rest) (nds ++ [nd]) → (∀ p ∈ ext, lt < p.1 ∧ ∀ q ∈ own, q.1 < p.1) → Q .next { s with heap := h', toks := tk' }) →
    wpAny (model Challenge.rw_dn0306_03.prog w) (callerA.deeper (env3 (fnScope lawDef3) L fa)) (execs (forBody law3[5]!) (env3 (fnScope lawDef3) L fa)) Q (fun _ _ => False) s := by
  k_fill
  intro w mean mg mb base h₀ L fa lp lt row lam sc nds e1 e2 rest own x tx u1 u2 u3 s Q B X T F N hpos hP hlen hlp hne hret
  generalize hrr : rest ++ own = rr at N hne
  have hne1 : ∀ p ∈ rr, p.1 ≠ lp := fun p hp => (hne p hp).1
  have hne2 : ∀ p ∈ rr, p.1 ≠ lt := fun p hp => (hne p hp).2
  replace hlp := ltN hlp
  refine lit2 (x := fnScope lawDef3) (y := forBody law3[5]!) (P := fun scp bd => wpAny (model Challenge.rw_dn0306_03.prog w) (callerA.deeper (env3 scp L fa)) (execs bd (env3 scp L fa)) Q (fun _ _ => False) s) ⟨_, _, _, _, _⟩ (_ :: _) rfl rfl ?_
  have h2 := hP.two
  walk_at "mine"
  show wpAny _ _ _ _ _ _
  have hp1 : 0 ≤ ((nds.length : Int) - 1 - x.fdiv 4).fmod nds.length := fm_lo (by omega)
  have hp2 : ((nds.length : Int) - 1 - x.fdiv 4).fmod nds.length < nds.length := fm_hi (by omega)
  obtain ⟨hn1, hn2⟩ := nm_facts x
  generalize ((nds.length : Int) - 1 - x.fdiv 4).fmod nds.length = pp at *
  obtain ⟨pn, rfl⟩ := Int.eq_ofNat_of_zero_le hp1
  generalize PySem.Str.ofString "n" ++ PySem.Str.ofString (toString (x.fmod 100)) = nm at *
  generalize (x.fmod 2 == 1) = kp at *
  refine wpAny_If ?_
  walk_at "mine"
  · rename News h₀ L _ _ => kN
    rename Fr h₀ L _ _ => kF
    rename nds[_]? = some _ => hnd
    rename Bool => kp
    rename kp = true => hkp
    subst hkp
    rename lp < _ ∧ lt < _ ∧ AllLt _ rr => l1
    rename _ ∧ _ ∧ _ ∧ _ ∧ _ => l3
    exact turn1_end hret hrr kF kN hP hnd hn1 hn2 (.mk45 (.tail _ (.head _)) (.tail _ (.tail _ (.head _))) ((hP.each _ _ hnd).obj.mono fun p hp => .tail _ (.tail _ (.tail _ hp)))) ⟨l1.2.1, allLt_mem l1.2.2⟩ (by assumption) l3.1
  · rename News h₀ L _ _ => kN
    rename Fr h₀ L _ _ => kF
    rename nds[_]? = some _ => hnd
    rename Bool => kp
    rename kp = false => hkp
    subst hkp
    rename lp < _ ∧ lt < _ ∧ AllLt _ rr => l1
    rename _ ∧ _ ∧ _ ∧ _ ∧ _ => l3
    exact turn1_end hret hrr kF kN hP hnd hn1 hn2 (.mk80 (.tail _ (.head _)) (.tail _ (.tail _ (.head _))) ((hP.each _ _ hnd).obj.mono fun p hp => .tail _ (.tail _ (.tail _ hp)))) ⟨l1.2.1, allLt_mem l1.2.2⟩ (by assumption) l3.1
end Mine

namespace Mine
def nth (l : List Stmt) (i : Nat) : Stmt := l[i]!
def inner3 : List Stmt := forBody (nth (forBody law3[6]!) 1)
structure V8 where
  name : Option Value
  p : Option Value
  keeps : Option Value
  held : Option Value
  plain : Option Value
  j : Option Value
  got : Option Value
  due : Option Value
abbrev f2 (M : PySem.Str → Option Value) (k things args : Option Value) (v : V8) : PySem.Str → Option Value := fun y =>
  if y = PySem.Str.ofString "k" then k else if y = PySem.Str.ofString "things" then things else if y = PySem.Str.ofString "args" then args else if y = PySem.Str.ofString "name" then v.name
  else if y = PySem.Str.ofString "p" then v.p else if y = PySem.Str.ofString "keeps" then v.keeps else if y = PySem.Str.ofString "held" then v.held else if y = PySem.Str.ofString "plain" then v.plain
  else if y = PySem.Str.ofString "j" then v.j else if y = PySem.Str.ofString "got" then v.got else if y = PySem.Str.ofString "due" then v.due else M y
abbrev mLaw2 (xv : Option Value) (row lp lt sc : Addr) : PySem.Str → Option Value := fun y => if y = PySem.Str.ofString "x" then xv else mLaw row lp lt sc y
local macro_rules | `(tactic| walk_at "mine") => `(tactic| repeat' (first | (k_unfold; (try dsimp only)) | walk1 | (dsimp only; walk1) | (leave1; try dsimp only) | fail "no step"))
local macro_rules | `(tactic| k_mem) => `(tactic| (repeat (first | exact List.Mem.head _ | assumption | refine List.Mem.tail _ ?_)))
local macro_rules | `(tactic| k_all) => `(tactic| assumption)
local macro_rules | `(tactic| walk_at "execs cons") => `(tactic| (refine genToks ?_ (by omega); intro k9 p9))
local macro_rules | `(tactic| walk_at "execs nil") => `(tactic| (refine genToks ?_ (by omega); intro k9 p9))
local macro_rules | `(tactic| walk_at "execs cons") => `(tactic| ((with_reducible show wpAny _ _ _ _ _ (Shared.mk _ _ _ (Shared.toks _) _)); dsimp only))
local macro_rules | `(tactic| walk_at "execs nil") => `(tactic| ((with_reducible show wpAny _ _ _ _ _ (Shared.mk _ _ _ (Shared.toks _) _)); dsimp only))

theorem itemLit {prog : Program} {w : World} {A : Around} {E : Value → Shared → Prop} {s : Shared} {value slice : Expr} {l : Addr} {its : Array Value} {k : Int} {u : Tok} {x : Value} {Q : Value → Shared → Prop}
    (hl : s.heap.IsList l its) (hb : its.size ≤ 1000) (h0 : 0 ≤ k) (hx : its[k.toNat]? = some x) (h : Q x s)
    (hs : subscripted slice false (.ref l) (.int k u) = operate [.ref l, .int k u] (getItem (.ref l) (.int k u)) := by with_unfolding_all rfl) :
    wpAny (model prog w) A (subscriptTail value slice (.ref l) (.int k u)) Q E s := by
  have hlt : k.toNat < its.size := by
    rcases Nat.lt_or_ge k.toNat its.size with h1 | h1
    · exact h1
    · rw [Array.getElem?_eq_none h1] at hx; cases hx
  exact tail_any hl.typeIs slot_list_getitem.lookup (wpAny_getItem_list hl h0 (by omega) hx h) hs
section
variable {prog : Program} {w : World} {A : Around} {E : Value → Shared → Prop} {s : Shared} {value : Expr} {l : Addr} {a b c : Value} {u : Tok} {Q : Value → Shared → Prop} {po : Pos} {kk : Nat}
theorem told0 (hl : s.heap.IsList l #[a, b, c]) (h : Q a s) : wpAny (model prog w) A (subscriptTail value (.Constant (.int 0) kk po) (.ref l) (.int 0 u)) Q E s := itemLit hl (by decide : 3 ≤ 1000) (by decide) rfl h
theorem told1 (hl : s.heap.IsList l #[a, b, c]) (h : Q b s) : wpAny (model prog w) A (subscriptTail value (.Constant (.int 1) kk po) (.ref l) (.int 1 u)) Q E s := itemLit hl (by decide : 3 ≤ 1000) (by decide) rfl h
theorem told2 (hl : s.heap.IsList l #[a, b, c]) (h : Q c s) : wpAny (model prog w) A (subscriptTail value (.Constant (.int 2) kk po) (.ref l) (.int 2 u)) Q E s := itemLit hl (by decide : 3 ≤ 1000) (by decide) rfl h
end
theorem itemAt {prog : Program} {w : World} {A : Around} {E : Value → Shared → Prop} {s : Shared} {value slice : Expr} {l : Addr} {α : Type} {f : α → Value} {vs : List α} {k : Nat} {u : Tok} {x : α} {Q : Value → Shared → Prop}
    (hl : s.heap.IsList l (vs.map f).toArray) (hb : vs.length ≤ 1000) (hx : vs[k]? = some x) (h : Q (f x) s)
    (hs : subscripted slice false (.ref l) (.int k u) = operate [.ref l, .int k u] (getItem (.ref l) (.int k u)) := by with_unfolding_all rfl) :
    wpAny (model prog w) A (subscriptTail value slice (.ref l) (.int k u)) Q E s :=
  itemLit hl (by simpa using hb) (by omega) (by simp [hx]) h hs
local macro_rules | `(tactic| walk_at "subscriptTail Name Name ref int") => `(tactic| (k_dflt (refine itemAt (News.isList (by k_asm) (by k_mem)) (by omega) (by assumption) ?_)))
local macro_rules | `(tactic| walk_at "subscriptTail Name Constant ref int") => `(tactic| (k_dflt (first | refine told0 (News.isList (by k_asm) (by k_mem)) ?_ | refine told1 (News.isList (by k_asm) (by k_mem)) ?_ | refine told2 (News.isList (by k_asm) (by k_mem)) ?_)))
theorem str_ext {x y : PySem.Str} (h : x.cps.toList = y.cps.toList) : x = y := by
  cases x; cases y
  congr 1
  exact Array.toList_inj.mp h
theorem app_eq (nm : PySem.Str) : nm ++ PySem.Str.ofString ".append" = appN nm := by
  unfold appN
  refine str_ext ?_
  simp only [Str.cps_append, Array.toList_append]
  rw [show (PySem.Str.empty).cps.toList = [] from rfl, show (PySem.Str.ofString ".append").cps.toList = (PySem.Str.ofString ".").cps.toList ++ (PySem.Str.ofString "append").cps.toList by decide]
  simp
def dl (c H : Chain3) : Bool × PySem.Str × Chain3 := deliver c.length c H
structure WSt where
  nd : Nd
  j : Nat
  nm : PySem.Str
  tn : Tok
  held : Addr
  H : Chain3
  plain : Bool
  tj : Tok
  tp : Tok
  ext : List (Addr × Obj)
structure WJ (nds : List Nd) (rest : List (Addr × Obj)) (row log : Addr) (vs0 : List Value) (c0 : Chain3) (x : WSt) : Prop where
  nd : nds[x.j]? = some x.nd
  run : ∃ tl, x.nd.ch = (x.nd.kp, x.nd.nm) :: tl ∧ dl ((x.nd.kp, x.nm) :: tl) x.H = dl c0 [] ∧ (x.plain && plainC tl) = plainC c0
  len : x.nm.length ≤ 100
  ok : PyData.strOk x.nm = true
  held : ∃ vs, (x.held, tupO vs) ∈ x.ext ++ rest ∧ HeldArgs (x.ext ++ rest) vs0 vs x.H
  short : x.H.length + x.nd.ch.length ≤ c0.length
  oks : ∀ y ∈ x.H, PyData.strOk y.2 = true
  off : ∀ p ∈ x.ext, p.1 ≠ row ∧ p.1 ≠ log
abbrev wF (M : PySem.Str → Option Value) (k things args got due : Option Value) (x : WSt) : PySem.Str → Option Value := f2 M k things args ⟨some (.str x.nm x.tn), some (.int x.nd.p x.tp), some (.bool x.nd.kp), some (.ref x.held), some (.bool x.plain), some (.int x.j x.tj), got, due⟩
abbrev wG (row log lp lt : Addr) (rows logs : Array Value) (er el e1 e2 : Nat) (nds : List Nd) (rest : List (Addr × Obj)) (x : WSt) : List (Addr × Obj) := (row, W.listOf rows er) :: (log, W.listOf logs el) :: (lp, poolO nds e1) :: (lt, toldO nds e2) :: (x.ext ++ rest)
theorem NdOk.head {P : Params} {row lam : Addr} {rest : List (Addr × Obj)} {nds : List Nd} {i : Nat} {nd : Nd} (h : NdOk P row lam rest nds i nd) : ∃ tl, nd.ch = (nd.kp, nd.nm) :: tl := by
  rcases Nat.lt_or_ge i 2 with h1 | h1
  · exact ⟨_, (h.low h1).1⟩
  · obtain ⟨_, nd', _, e⟩ := h.high h1; exact ⟨_, e⟩
theorem strOk_app {x y : PySem.Str} (h1 : PyData.strOk x = true) (h2 : PyData.strOk y = true) : PyData.strOk (x ++ y) = true := by
  unfold PyData.strOk at *
  rw [Str.cps_append, Array.all_append, h1, h2]; rfl
theorem strOk_appN {x : PySem.Str} (h1 : PyData.strOk x = true) : PyData.strOk (appN x) = true := by
  rw [← app_eq]; exact strOk_app h1 (by decide +kernel)
section
variable {P : Params} {nds : List Nd} {rest : List (Addr × Obj)} {row log lam : Addr} {vs0 : List Value} {c0 : Chain3} {nd nd' : Nd} {j : Nat} {nm : PySem.Str} {tn t : Tok} {held D1 D2 D3 : Addr} {H : Chain3} {plain : Bool} {tj tp tj' tp' : Tok} {ext : List (Addr × Obj)} {o3 : Obj}
theorem WJ.stepT (J : WJ nds rest row log vs0 c0 ⟨nd, j, nm, tn, held, H, plain, tj, tp, ext⟩) (hkp : nd.kp = true) (hnd' : nds[nd.p]? = some nd') (hch' : nd.ch = (nd.kp, nd.nm) :: nd'.ch) (no : NdOk P row lam (ext ++ rest) nds nd.p nd')
    (h1 : D1 ≠ row ∧ D1 ≠ log) (h2 : D2 ≠ row ∧ D2 ≠ log) (h3 : D3 ≠ row ∧ D3 ≠ log) :
    WJ nds rest row log vs0 c0 ⟨nd', nd.p, appN nd'.nm, t, D2, (true, nm) :: H, plain && !nd'.kp, tj', tp', (D3, o3) :: (D2, tupO [.ref D1]) :: (D1, tupO [.str nm tn, .ref held]) :: ext⟩ := by
  obtain ⟨_, ⟨tl, hch, hdl, hpl⟩, hnl, hok, ⟨vs, hhd, hha⟩, hsh, hoks, hoff⟩ := J
  obtain ⟨tl', e'⟩ := no.head
  dsimp only at *
  rw [hch'] at hch
  obtain rfl : nd'.ch = tl := (List.cons.inj hch).2
  have sub : ∀ p ∈ ext ++ rest, p ∈ ((D3, o3) :: (D2, tupO [.ref D1]) :: (D1, tupO [.str nm tn, .ref held]) :: ext) ++ rest := fun p hp => .tail _ (.tail _ (.tail _ hp))
  refine ⟨hnd', ⟨tl', e', ?_, ?_⟩, ?_, strOk_appN no.ok, ⟨[.ref D1], .tail _ (.head _), .mult (sub _ hhd) (.tail _ (.tail _ (.head _))) (hha.mono sub)⟩, ?_, ?_, ?_⟩
  · rw [← hdl, e', hkp]; rfl
  · rw [← hpl, e']; simp [plainC, Bool.and_assoc]
  · show (appN nd'.nm).length ≤ 100; rw [ofs_app]; have := no.len; omega
  · show (H.length + 1) + nd'.ch.length ≤ _; rw [hch'] at hsh; simp only [List.length_cons] at hsh; omega
  · intro y hy
    rcases List.mem_cons.mp hy with rfl | hy
    · exact hok
    · exact hoks y hy
  · intro p hp
    rcases List.mem_cons.mp hp with rfl | hp
    · exact h3
    rcases List.mem_cons.mp hp with rfl | hp
    · exact h2
    rcases List.mem_cons.mp hp with rfl | hp
    · exact h1
    · exact hoff p hp
theorem WJ.stepF (J : WJ nds rest row log vs0 c0 ⟨nd, j, nm, tn, held, H, plain, tj, tp, ext⟩) (hkp : nd.kp = false) (hnd' : nds[nd.p]? = some nd') (hch' : nd.ch = (nd.kp, nd.nm) :: nd'.ch) (no : NdOk P row lam (ext ++ rest) nds nd.p nd')
    (h1 : D1 ≠ row ∧ D1 ≠ log) (h3 : D3 ≠ row ∧ D3 ≠ log) :
    WJ nds rest row log vs0 c0 ⟨nd', nd.p, nd'.nm, t, D1, (false, nm) :: H, plain && !nd'.kp, tj', tp', (D3, o3) :: (D1, tupO [.str nm tn, .ref held]) :: ext⟩ := by
  obtain ⟨_, ⟨tl, hch, hdl, hpl⟩, hnl, hok, ⟨vs, hhd, hha⟩, hsh, hoks, hoff⟩ := J
  obtain ⟨tl', e'⟩ := no.head
  dsimp only at *
  rw [hch'] at hch
  obtain rfl : nd'.ch = tl := (List.cons.inj hch).2
  have sub : ∀ p ∈ ext ++ rest, p ∈ ((D3, o3) :: (D1, tupO [.str nm tn, .ref held]) :: ext) ++ rest := fun p hp => .tail _ (.tail _ hp)
  refine ⟨hnd', ⟨tl', e', ?_, ?_⟩, ?_, no.ok, ⟨[.str nm tn, .ref held], .tail _ (.head _), .meth (sub _ hhd) (hha.mono sub)⟩, ?_, ?_, ?_⟩
  · rw [← hdl, e', hkp]; rfl
  · rw [← hpl, e']; simp [plainC, Bool.and_assoc]
  · have := no.len; show nd'.nm.length ≤ 100; omega
  · show (H.length + 1) + nd'.ch.length ≤ _; rw [hch'] at hsh; simp only [List.length_cons] at hsh; omega
  · intro y hy
    rcases List.mem_cons.mp hy with rfl | hy
    · exact hok
    · exact hoks y hy
  · intro p hp
    rcases List.mem_cons.mp hp with rfl | hp
    · exact h3
    rcases List.mem_cons.mp hp with rfl | hp
    · exact h1
    · exact hoff p hp
end
section
variable {g h : Heap} {L : Addr} {M : PySem.Str → Option Value} {k t a pl p kp j nm hd : Option Value} {v : V8}
theorem w_end1 (F : Fr g L h (fun y => if y = PySem.Str.ofString "plain" then pl else if y = PySem.Str.ofString "p" then p else if y = PySem.Str.ofString "keeps" then kp else if y = PySem.Str.ofString "j" then j else if y = PySem.Str.ofString "name" then nm else if y = PySem.Str.ofString "held" then hd else f2 M k t a v y)) :
    Fr g L h (f2 M k t a ⟨nm, p, kp, hd, pl, j, v.got, v.due⟩) := by
  refine fr_eq F fun y => ?_
  by_cases h1 : y = PySem.Str.ofString "plain"
  · subst h1; rfl
  by_cases h2 : y = PySem.Str.ofString "p"
  · subst h2; rfl
  by_cases h3 : y = PySem.Str.ofString "keeps"
  · subst h3; rfl
  by_cases h4 : y = PySem.Str.ofString "j"
  · subst h4; rfl
  by_cases h5 : y = PySem.Str.ofString "name"
  · subst h5; rfl
  by_cases h6 : y = PySem.Str.ofString "held"
  · subst h6; rfl
  simp only [f2, if_neg h1, if_neg h2, if_neg h3, if_neg h4, if_neg h5, if_neg h6]
theorem w_end2 (F : Fr g L h (fun y => if y = PySem.Str.ofString "p" then p else if y = PySem.Str.ofString "keeps" then kp else if y = PySem.Str.ofString "j" then j else if y = PySem.Str.ofString "name" then nm else if y = PySem.Str.ofString "held" then hd else f2 M k t a v y)) :
    Fr g L h (f2 M k t a ⟨nm, p, kp, hd, v.plain, j, v.got, v.due⟩) := by
  refine fr_eq F fun y => ?_
  by_cases h1 : y = PySem.Str.ofString "plain"
  · subst h1; rfl
  by_cases h2 : y = PySem.Str.ofString "p"
  · subst h2; rfl
  by_cases h3 : y = PySem.Str.ofString "keeps"
  · subst h3; rfl
  by_cases h4 : y = PySem.Str.ofString "j"
  · subst h4; rfl
  by_cases h5 : y = PySem.Str.ofString "name"
  · subst h5; rfl
  by_cases h6 : y = PySem.Str.ofString "held"
  · subst h6; rfl
  simp only [f2, if_neg h1, if_neg h2, if_neg h3, if_neg h4, if_neg h5, if_neg h6]
end
section
variable {P : Params} {nds : List Nd} {rest rr : List (Addr × Obj)} {row log lam lp lt L : Addr} {vs0 : List Value} {c0 : Chain3} {nd nd' : Nd} {j : Nat} {nm : PySem.Str} {tn t t2 : Tok} {held D1 D2 D3 : Addr} {H : Chain3} {plain : Bool} {tj tp : Tok} {ext : List (Addr × Obj)} {o3 : Obj} {h₀ h' : Heap} {M : PySem.Str → Option Value} {kv things args got due : Option Value} {rows logs : Array Value} {er el e1 e2 tk : Nat} {s : Shared} {Q : Flow → Shared → Prop}
theorem endT1 (hJ : WJ nds rest row log vs0 c0 ⟨nd, j, nm, tn, held, H, plain, tj, tp, ext⟩) (hkp : nd.kp = true) (hkp' : nd'.kp = true) (hnd' : nds[nd.p]? = some nd') (hch' : nd.ch = (nd.kp, nd.nm) :: nd'.ch) (no : NdOk P row lam rr nds nd.p nd') (hpj : nd.p < j) (hrr : ext ++ rest = rr)
    (kF : Fr h₀ L h' (fun y => if y = PySem.Str.ofString "plain" then some (.bool false) else if y = PySem.Str.ofString "p" then some (.int nd'.p t2) else if y = PySem.Str.ofString "keeps" then some (.bool nd'.kp) else if y = PySem.Str.ofString "j" then some (.int nd.p tp) else if y = PySem.Str.ofString "name" then some (.str (nd'.nm ++ PySem.Str.ofString ".append") t) else if y = PySem.Str.ofString "held" then some (.ref D2) else f2 M kv things args ⟨some (.str nm tn), some (.int nd.p tp), some (.bool nd.kp), some (.ref held), some (.bool plain), some (.int j tj), got, due⟩ y))
    (kN : News h₀ L h' ((D3, o3) :: (D2, tupO [.ref D1]) :: (D1, tupO [.str nm tn, .ref held]) :: (row, W.listOf rows er) :: (log, W.listOf logs el) :: (lp, poolO nds e1) :: (lt, toldO nds e2) :: rr))
    (h1 : D1 ≠ row ∧ D1 ≠ log) (h2 : D2 ≠ row ∧ D2 ≠ log) (h3 : D3 ≠ row ∧ D3 ≠ log) :
    StepSt h₀ L (wF M kv things args got due) (wG row log lp lt rows logs er el e1 e2 nds rest) (WJ nds rest row log vs0 c0) (fun x => x.j) ⟨nd, j, nm, tn, held, H, plain, tj, tp, ext⟩ s Q .next { s with heap := h', toks := tk } := by
  subst hrr
  have e : (plain && !nd'.kp) = false := by simp [hkp']
  refine StepSt.next ⟨nd', nd.p, appN nd'.nm, t, D2, (true, nm) :: H, plain && !nd'.kp, tp, t2, (D3, o3) :: (D2, tupO [.ref D1]) :: (D1, tupO [.str nm tn, .ref held]) :: ext⟩ ?_ (news_sub kN fun p hp => ?_) (hJ.stepT hkp hnd' hch' no h1 h2 h3) hpj
  · rw [app_eq] at kF; rw [e]; exact w_end1 kF
  · rcases List.mem_cons.mp hp with rfl | hp
    · exact .tail _ (.tail _ (.tail _ (.head _)))
    rcases List.mem_cons.mp hp with rfl | hp
    · exact .tail _ (.tail _ (.tail _ (.tail _ (.head _))))
    rcases List.mem_cons.mp hp with rfl | hp
    · exact .tail _ (.tail _ (.tail _ (.tail _ (.tail _ (.head _)))))
    rcases List.mem_cons.mp hp with rfl | hp
    · exact .tail _ (.tail _ (.tail _ (.tail _ (.tail _ (.tail _ (.head _))))))
    rcases List.mem_cons.mp hp with rfl | hp
    · exact .head _
    rcases List.mem_cons.mp hp with rfl | hp
    · exact .tail _ (.head _)
    rcases List.mem_cons.mp hp with rfl | hp
    · exact .tail _ (.tail _ (.head _))
    exact .tail _ (.tail _ (.tail _ (.tail _ (.tail _ (.tail _ (.tail _ (hp)))))))
theorem endT2 (hJ : WJ nds rest row log vs0 c0 ⟨nd, j, nm, tn, held, H, plain, tj, tp, ext⟩) (hkp : nd.kp = true) (hkp' : nd'.kp = false) (hnd' : nds[nd.p]? = some nd') (hch' : nd.ch = (nd.kp, nd.nm) :: nd'.ch) (no : NdOk P row lam rr nds nd.p nd') (hpj : nd.p < j) (hrr : ext ++ rest = rr)
    (kF : Fr h₀ L h' (fun y => if y = PySem.Str.ofString "p" then some (.int nd'.p t2) else if y = PySem.Str.ofString "keeps" then some (.bool nd'.kp) else if y = PySem.Str.ofString "j" then some (.int nd.p tp) else if y = PySem.Str.ofString "name" then some (.str (nd'.nm ++ PySem.Str.ofString ".append") t) else if y = PySem.Str.ofString "held" then some (.ref D2) else f2 M kv things args ⟨some (.str nm tn), some (.int nd.p tp), some (.bool nd.kp), some (.ref held), some (.bool plain), some (.int j tj), got, due⟩ y))
    (kN : News h₀ L h' ((D3, o3) :: (D2, tupO [.ref D1]) :: (D1, tupO [.str nm tn, .ref held]) :: (row, W.listOf rows er) :: (log, W.listOf logs el) :: (lp, poolO nds e1) :: (lt, toldO nds e2) :: rr))
    (h1 : D1 ≠ row ∧ D1 ≠ log) (h2 : D2 ≠ row ∧ D2 ≠ log) (h3 : D3 ≠ row ∧ D3 ≠ log) :
    StepSt h₀ L (wF M kv things args got due) (wG row log lp lt rows logs er el e1 e2 nds rest) (WJ nds rest row log vs0 c0) (fun x => x.j) ⟨nd, j, nm, tn, held, H, plain, tj, tp, ext⟩ s Q .next { s with heap := h', toks := tk } := by
  subst hrr
  have e : (plain && !nd'.kp) = plain := by simp [hkp']
  refine StepSt.next ⟨nd', nd.p, appN nd'.nm, t, D2, (true, nm) :: H, plain && !nd'.kp, tp, t2, (D3, o3) :: (D2, tupO [.ref D1]) :: (D1, tupO [.str nm tn, .ref held]) :: ext⟩ ?_ (news_sub kN fun p hp => ?_) (hJ.stepT hkp hnd' hch' no h1 h2 h3) hpj
  · rw [app_eq] at kF; rw [e]; exact w_end2 kF
  · rcases List.mem_cons.mp hp with rfl | hp
    · exact .tail _ (.tail _ (.tail _ (.head _)))
    rcases List.mem_cons.mp hp with rfl | hp
    · exact .tail _ (.tail _ (.tail _ (.tail _ (.head _))))
    rcases List.mem_cons.mp hp with rfl | hp
    · exact .tail _ (.tail _ (.tail _ (.tail _ (.tail _ (.head _)))))
    rcases List.mem_cons.mp hp with rfl | hp
    · exact .tail _ (.tail _ (.tail _ (.tail _ (.tail _ (.tail _ (.head _))))))
    rcases List.mem_cons.mp hp with rfl | hp
    · exact .head _
    rcases List.mem_cons.mp hp with rfl | hp
    · exact .tail _ (.head _)
    rcases List.mem_cons.mp hp with rfl | hp
    · exact .tail _ (.tail _ (.head _))
    exact .tail _ (.tail _ (.tail _ (.tail _ (.tail _ (.tail _ (.tail _ (hp)))))))
theorem endF1 (hJ : WJ nds rest row log vs0 c0 ⟨nd, j, nm, tn, held, H, plain, tj, tp, ext⟩) (hkp : nd.kp = false) (hkp' : nd'.kp = true) (hnd' : nds[nd.p]? = some nd') (hch' : nd.ch = (nd.kp, nd.nm) :: nd'.ch) (no : NdOk P row lam rr nds nd.p nd') (hpj : nd.p < j) (hrr : ext ++ rest = rr)
    (kF : Fr h₀ L h' (fun y => if y = PySem.Str.ofString "plain" then some (.bool false) else if y = PySem.Str.ofString "p" then some (.int nd'.p t2) else if y = PySem.Str.ofString "keeps" then some (.bool nd'.kp) else if y = PySem.Str.ofString "j" then some (.int nd.p tp) else if y = PySem.Str.ofString "name" then some (.str (nd'.nm) t) else if y = PySem.Str.ofString "held" then some (.ref D1) else f2 M kv things args ⟨some (.str nm tn), some (.int nd.p tp), some (.bool nd.kp), some (.ref held), some (.bool plain), some (.int j tj), got, due⟩ y))
    (kN : News h₀ L h' ((D3, o3) :: (D1, tupO [.str nm tn, .ref held]) :: (row, W.listOf rows er) :: (log, W.listOf logs el) :: (lp, poolO nds e1) :: (lt, toldO nds e2) :: rr))
    (h1 : D1 ≠ row ∧ D1 ≠ log) (h3 : D3 ≠ row ∧ D3 ≠ log) :
    StepSt h₀ L (wF M kv things args got due) (wG row log lp lt rows logs er el e1 e2 nds rest) (WJ nds rest row log vs0 c0) (fun x => x.j) ⟨nd, j, nm, tn, held, H, plain, tj, tp, ext⟩ s Q .next { s with heap := h', toks := tk } := by
  subst hrr
  have e : (plain && !nd'.kp) = false := by simp [hkp']
  refine StepSt.next ⟨nd', nd.p, nd'.nm, t, D1, (false, nm) :: H, plain && !nd'.kp, tp, t2, (D3, o3) :: (D1, tupO [.str nm tn, .ref held]) :: ext⟩ ?_ (news_sub kN fun p hp => ?_) (hJ.stepF hkp hnd' hch' no h1 h3) hpj
  · rw [e]; exact w_end1 kF
  · rcases List.mem_cons.mp hp with rfl | hp
    · exact .tail _ (.tail _ (.head _))
    rcases List.mem_cons.mp hp with rfl | hp
    · exact .tail _ (.tail _ (.tail _ (.head _)))
    rcases List.mem_cons.mp hp with rfl | hp
    · exact .tail _ (.tail _ (.tail _ (.tail _ (.head _))))
    rcases List.mem_cons.mp hp with rfl | hp
    · exact .tail _ (.tail _ (.tail _ (.tail _ (.tail _ (.head _)))))
    rcases List.mem_cons.mp hp with rfl | hp
    · exact .head _
    rcases List.mem_cons.mp hp with rfl | hp
    · exact .tail _ (.head _)
    exact .tail _ (.tail _ (.tail _ (.tail _ (.tail _ (.tail _ (hp))))))
theorem endF2 (hJ : WJ nds rest row log vs0 c0 ⟨nd, j, nm, tn, held, H, plain, tj, tp, ext⟩) (hkp : nd.kp = false) (hkp' : nd'.kp = false) (hnd' : nds[nd.p]? = some nd') (hch' : nd.ch = (nd.kp, nd.nm) :: nd'.ch) (no : NdOk P row lam rr nds nd.p nd') (hpj : nd.p < j) (hrr : ext ++ rest = rr)
    (kF : Fr h₀ L h' (fun y => if y = PySem.Str.ofString "p" then some (.int nd'.p t2) else if y = PySem.Str.ofString "keeps" then some (.bool nd'.kp) else if y = PySem.Str.ofString "j" then some (.int nd.p tp) else if y = PySem.Str.ofString "name" then some (.str (nd'.nm) t) else if y = PySem.Str.ofString "held" then some (.ref D1) else f2 M kv things args ⟨some (.str nm tn), some (.int nd.p tp), some (.bool nd.kp), some (.ref held), some (.bool plain), some (.int j tj), got, due⟩ y))
    (kN : News h₀ L h' ((D3, o3) :: (D1, tupO [.str nm tn, .ref held]) :: (row, W.listOf rows er) :: (log, W.listOf logs el) :: (lp, poolO nds e1) :: (lt, toldO nds e2) :: rr))
    (h1 : D1 ≠ row ∧ D1 ≠ log) (h3 : D3 ≠ row ∧ D3 ≠ log) :
    StepSt h₀ L (wF M kv things args got due) (wG row log lp lt rows logs er el e1 e2 nds rest) (WJ nds rest row log vs0 c0) (fun x => x.j) ⟨nd, j, nm, tn, held, H, plain, tj, tp, ext⟩ s Q .next { s with heap := h', toks := tk } := by
  subst hrr
  have e : (plain && !nd'.kp) = plain := by simp [hkp']
  refine StepSt.next ⟨nd', nd.p, nd'.nm, t, D1, (false, nm) :: H, plain && !nd'.kp, tp, t2, (D3, o3) :: (D1, tupO [.str nm tn, .ref held]) :: ext⟩ ?_ (news_sub kN fun p hp => ?_) (hJ.stepF hkp hnd' hch' no h1 h3) hpj
  · rw [e]; exact w_end2 kF
  · rcases List.mem_cons.mp hp with rfl | hp
    · exact .tail _ (.tail _ (.head _))
    rcases List.mem_cons.mp hp with rfl | hp
    · exact .tail _ (.tail _ (.tail _ (.head _)))
    rcases List.mem_cons.mp hp with rfl | hp
    · exact .tail _ (.tail _ (.tail _ (.tail _ (.head _))))
    rcases List.mem_cons.mp hp with rfl | hp
    · exact .tail _ (.tail _ (.tail _ (.tail _ (.tail _ (.head _)))))
    rcases List.mem_cons.mp hp with rfl | hp
    · exact .head _
    rcases List.mem_cons.mp hp with rfl | hp
    · exact .tail _ (.head _)
    exact .tail _ (.tail _ (.tail _ (.tail _ (.tail _ (.tail _ (hp))))))
end
theorem while3 : ∀ (w : World) (mean : ExcName → Option Value) (mg mb : PySem.Str → Option Value) (base h₀ : Heap) (L fa lp lt row log lam sc : Addr) (nds : List Nd) (e1 e2 er el : Nat) (rows logs : Array Value) (rest : List (Addr × Obj)) (kv things args got due : Option Value) (vs0 : List Value) (c0 : Chain3) (xv : Option Value) (x₀ : WSt) (s : Shared) (Q : Flow → Shared → Prop),
    Below callerA base [] h₀ → (hd03.heap_39 w.params).In h₀ → Top topProg (looseW hd03.view_39 [PySem.Str.ofString "_MultiCallMethod", PySem.Str.ofString "_Method"] ++ (recsOf hd03.view_39).map (fun x => x.name) ++ (litsOf hd03.view_39).map (fun x => x.1) ++ (clssOf hd03.view_39 (looseW hd03.view_39 [PySem.Str.ofString "_MultiCallMethod", PySem.Str.ofString "_Method"])).map (fun x => x.name)) mean mg mb h₀ →
    Fr h₀ L s.heap (wF (mLaw2 xv row lp lt sc) kv things args got due x₀) → News h₀ L s.heap (wG row log lp lt rows logs er el e1 e2 nds rest x₀) → 0 < s.toks → PoolOk w.params row lam rest nds → nds.length ≤ 20 → WJ nds rest row log vs0 c0 x₀ →
    (∀ x h' tk', x.j < 2 → WJ nds rest row log vs0 c0 x → 0 < tk' → Fr h₀ L h' (wF (mLaw2 xv row lp lt sc) kv things args got due x) → News h₀ L h' (wG row log lp lt rows logs er el e1 e2 nds rest x) → Q .next { s with heap := h', toks := tk' }) →
    wpAny (model Challenge.rw_dn0306_03.prog w) (callerA.deeper (env3 (fnScope lawDef3) L fa)) (exec (nth inner3 4) (env3 (fnScope lawDef3) L fa)) Q (fun _ _ => False) s := by
  k_fill
  intro w mean mg mb base h₀ L fa lp lt row log lam sc nds e1 e2 er el rows logs rest kv things args got due vs0 c0 xv x₀ s Q B X T F N hpos hP hlen hJ hret
  refine lit2 (x := fnScope lawDef3) (y := nth inner3 4) (P := fun scp bd => wpAny (model Challenge.rw_dn0306_03.prog w) (callerA.deeper (env3 scp L fa)) (exec bd (env3 scp L fa)) Q (fun _ _ => False) s) ⟨_, _, _, _, _⟩ (.While _ _ [] _) rfl rfl ?_
  refine While_st (σ := WSt) (wF (mLaw2 xv row lp lt sc) kv things args got due) (wG row log lp lt rows logs er el e1 e2 nds rest) (WJ nds rest row log vs0 c0) (fun x => x.j) x₀ hpos F N hJ ?turn ?hE
  case hE => passes_own
  clear F N hJ x₀
  rintro ⟨nd, j, nm, tn, held, H, plain, tj, tp, ext⟩ h₁ tk₁ pos₁ hJ F₁ N₁ sz₁
  have h2 := hP.two
  have hP' : PoolOk w.params row lam (ext ++ rest) nds := ⟨h2, fun i y hy => by
    obtain ⟨o1, ⟨t, t', o2⟩, o3, o4, o5, o6⟩ := hP.each i y hy
    exact ⟨o1.mono fun p hp => List.mem_append_right _ hp, ⟨t, t', List.mem_append_right _ o2⟩, o3, o4, o5, o6⟩⟩
  obtain ⟨hnd, ⟨tl, hch, hdl, hpl⟩, hnl, hok, ⟨vs, hhd, hha⟩, hsh, hoks, hoff⟩ := id hJ
  dsimp only [wF, wG] at F₁ N₁ hnd hch hdl hpl hnl hok hhd hha hsh hoks hoff
  have hno := hP'.each _ _ hnd
  clear hP
  generalize hrr : ext ++ rest = rr at *
  by_cases hj : 2 ≤ j
  · obtain ⟨hpj, nd', hnd', hch'⟩ := hno.high hj
    obtain ⟨t1', t2', m'⟩ := (hP'.each _ _ hnd').told
    have hl' := (hP'.each _ _ hnd').len
    clear hnd
    have no' := hP'.each _ _ hnd'
    walk_at "mine"
    · rename News h₀ L _ _ => kN
      rename Fr h₀ L _ _ => kF
      exact endT1 hJ (by assumption) (by assumption) hnd' hch' no' hpj hrr kF kN ⟨by k_ne, by k_ne⟩ ⟨by k_ne, by k_ne⟩ ⟨by k_ne, by k_ne⟩
    · rename News h₀ L _ _ => kN
      rename Fr h₀ L _ _ => kF
      exact endT2 hJ (by assumption) (by assumption) hnd' hch' no' hpj hrr kF kN ⟨by k_ne, by k_ne⟩ ⟨by k_ne, by k_ne⟩ ⟨by k_ne, by k_ne⟩
    · rename News h₀ L _ _ => kN
      rename Fr h₀ L _ _ => kF
      exact endF1 hJ (by assumption) (by assumption) hnd' hch' no' hpj hrr kF kN ⟨by k_ne, by k_ne⟩ ⟨by k_ne, by k_ne⟩
    · rename News h₀ L _ _ => kN
      rename Fr h₀ L _ _ => kF
      exact endF2 hJ (by assumption) (by assumption) hnd' hch' no' hpj hrr kF kN ⟨by k_ne, by k_ne⟩ ⟨by k_ne, by k_ne⟩
  · walk_at "mine"
    subst hrr
    exact hret _ _ _ (by dsimp only; omega) hJ (Nat.succ_pos _) F₁ N₁
end Mine

namespace Mine
theorem clearAny {prog : Program} {w : World} {A : Around} {E : Value → Shared → Prop} {s : Shared} {h₀ : Heap} {L D : Addr} {m : PySem.Str → Option Value} {news : List (Addr × Obj)} {g : Obj → List (Addr × Obj)} {its : Array Value} {n : Nat} {Q : Value → Shared → Prop}
    (F : Fr h₀ L s.heap m) (N : News h₀ L s.heap news) (U : UpdF D (W.listOf its n) news g) (hz : its.size ≤ 1000)
    (h : ∀ h' n', Fr h₀ L h' m → News h₀ L h' (g (W.listOf #[] n')) → Q .none { s with heap := h' }) : wpAny (model prog w) A (call (.builtin "list.clear") [.ref D]) Q E s := by
  obtain ⟨pre, post, rfl, hg, a, c⟩ := U.split
  have z := N (D, W.listOf its n) (List.mem_append.mpr (.inr (.head _)))
  refine call_meets PySem.F.slot_list_clear ⟨_, z.1, rfl⟩ PySem.F.entry_list_clear (PySem.F.args_list_clear_1 _) (PySem.AutoSeq1.list_clear_list_0 D its n (by rw [sizeLine_eq]; omega)) ⟨z.1, ?_⟩
  by_cases he : its.size = 0
  · refine h _ n (F.change (Heap.SameBut.update ..) z.2.1 z.2.2) ?_
    rw [hg]
    exact kl_turn0 (fun _ => #[]) N a c rfl he.symm
  · refine h _ (n + 1) (F.change (Heap.SameBut.update ..) z.2.1 z.2.2) ?_
    rw [hg]
    exact kl_turn (fun _ => #[]) N a c rfl (fun q => he q.symm)
def dOf (b : PyData) : Chain3 → PyData
  | [] => b
  | (false, nm) :: H => .tuple [.str nm, dOf b H]
  | (true, nm) :: H => .tuple [.tuple [.str nm, dOf b H]]
theorem dOf_ok {b : PyData} (hb : b.canLay0 = true) : ∀ {H : Chain3}, (∀ y ∈ H, PyData.strOk y.2 = true) → (dOf b H).canLay0 = true
  | [], _ => hb
  | (false, nm) :: H, h => by
    have h1 := h _ (.head _)
    have h2 := dOf_ok hb (H := H) fun y hy => h y (.tail _ hy)
    simp only [dOf, PyData.canLay0, PyData.canLayAll0, h2, Bool.and_true]; exact h1
  | (true, nm) :: H, h => by
    have h1 := h _ (.head _)
    have h2 := dOf_ok hb (H := H) fun y hy => h y (.tail _ hy)
    simp only [dOf, PyData.canLay0, PyData.canLayAll0, h2, Bool.and_true]; exact h1
theorem dOf_depth (b : PyData) : ∀ (H : Chain3), (dOf b H).depth ≤ b.depth + 2 * H.length
  | [] => by simp [dOf]
  | (false, nm) :: H => by
    have := dOf_depth b H
    simp only [dOf, PyData.depth, PyData.depthAll, List.length_cons]; omega
  | (true, nm) :: H => by
    have := dOf_depth b H
    simp only [dOf, PyData.depth, PyData.depthAll, List.length_cons]; omega
theorem HeldArgs.reads {h : Heap} {news : List (Addr × Obj)} {vs0 vs : List Value} {H : Chain3} {b : PyData} (N : ∀ p ∈ news, h.get? p.1 = some p.2) (hb : ∀ D, (D, tupO vs0) ∈ news → ∃ as, Reads h (.ref D) b as)
    (hh : HeldArgs news vs0 vs H) : ∀ D, (D, tupO vs) ∈ news → ∃ as, Reads h (.ref D) (dOf b H) as := by
  induction hh with
  | base => exact hb
  | @meth D vs H nm t hD _ ih =>
    intro D' hD'
    obtain ⟨as, r⟩ := ih D hD
    exact ⟨_, reads_tuple_at (N _ hD') rfl rfl (.cons (.str nm t) (.cons r .nil))⟩
  | @mult D T vs H nm t hD hT _ ih =>
    intro D' hD'
    obtain ⟨as, r⟩ := ih D hD
    exact ⟨_, reads_tuple_at (N _ hD') rfl rfl (.cons (reads_tuple_at (N _ hT) rfl rfl (.cons (.str nm t) (.cons r .nil))) .nil)⟩
theorem ne_same {prog : Program} {w : World} {A : Around} {E : Value → Shared → Prop} {s : Shared} {a b : Value} {d : PyData} {as bs : List Addr} {Q : Value → Shared → Prop} (ra : Reads s.heap a d as) (rb : Reads s.heap b d bs) (h1 : d.canLay0 = true) (h2 : d.depth ≤ 64) (hu : A.units + 64 < cLine)
    (h : Q (.bool false) s) : wpAny (model prog w) A (compareOp .NotEq a b) Q E s := by
  have sh : SeqAt.shaped d = true := by unfold SeqAt.shaped; simp [h1, h2]
  refine ne_dataH ra rb sh sh hu ?_
  rw [SeqAt.eqv_refl d h1]
  exact h
end Mine

namespace Mine
local macro_rules | `(tactic| walk_at "mine") => `(tactic| repeat' (first | (k_unfold; (try dsimp only)) | walk1 | (dsimp only; walk1) | (leave1; try dsimp only) | fail "no step"))
local macro_rules | `(tactic| k_mem) => `(tactic| (repeat (first | exact List.Mem.head _ | assumption | refine List.Mem.tail _ ?_)))
local macro_rules | `(tactic| k_all) => `(tactic| assumption)
local macro_rules | `(tactic| walk_at "execs cons") => `(tactic| (refine genToks ?_ (by omega); intro k9 p9))
local macro_rules | `(tactic| walk_at "execs nil") => `(tactic| (refine genToks ?_ (by omega); intro k9 p9))
local macro_rules | `(tactic| walk_at "execs cons") => `(tactic| ((with_reducible show wpAny _ _ _ _ _ (Shared.mk _ _ _ (Shared.toks _) _)); dsimp only))
local macro_rules | `(tactic| walk_at "execs nil") => `(tactic| ((with_reducible show wpAny _ _ _ _ _ (Shared.mk _ _ _ (Shared.toks _) _)); dsimp only))
local macro_rules | `(tactic| walk_at "subscriptTail Name Name ref int") => `(tactic| (k_dflt (refine itemAt (News.isList (by k_asm) (by k_mem)) (by omega) (by assumption) ?_)))
local macro_rules | `(tactic| walk_at "eval Name") => `(tactic| ((first | (with_reducible show wpAny _ _ (eval (Expr.Name (Str.ofString "log") _) _) _ _ _) | (with_reducible show wpAny _ _ (eval (Expr.Name (Str.ofString "box") _) _) _ _ _)); k_dflt (refine' nameX_C ?N ?c ?m ?d ?_ ?a ?b; (case a => rfl); (case b => rfl); (case N => k_asm); (case c => rfl); (case m => k_mem); (case d => assumption))))
local macro_rules | `(tactic| walk_at "call ref") => `(tactic| refine Halt.go ?_)
local macro_rules | `(tactic| walk_at "call builtin:list.clear") => `(tactic| (k_dflt (refine' clearAny ?F ?N ?U ?z ?_; (case F => k_asm); (case N => k_asm); (case U => k_updF); (case z => omega)); intro h' n' F' N'; (try dsimp only at N')))
section
variable {prog : Program} {w : World} {A : Around} {E : Value → Shared → Prop} {s : Shared} {value slice : Expr} {l : Addr} {a b : Value} {u : Tok} {j : Nat} {Q : Value → Shared → Prop}
theorem pairAt0 (hj : j = 0) (hl : s.heap.IsList l #[a, b]) (h : Q a s) (hs : subscripted slice false (.ref l) (.int j u) = operate [.ref l, .int j u] (getItem (.ref l) (.int j u)) := by with_unfolding_all rfl) : wpAny (model prog w) A (subscriptTail value slice (.ref l) (.int j u)) Q E s := by
  subst hj; exact itemLit hl (by decide : 2 ≤ 1000) (by decide) rfl h hs
theorem pairAt1 (hj : j = 1) (hl : s.heap.IsList l #[a, b]) (h : Q b s) (hs : subscripted slice false (.ref l) (.int j u) = operate [.ref l, .int j u] (getItem (.ref l) (.int j u)) := by with_unfolding_all rfl) : wpAny (model prog w) A (subscriptTail value slice (.ref l) (.int j u)) Q E s := by
  subst hj; exact itemLit hl (by decide : 2 ≤ 1000) (by decide) rfl h hs
end
local macro_rules | `(tactic| walk_at "subscriptTail Name Name ref int") => `(tactic| (k_dflt (first | refine pairAt0 (by assumption) (News.isList (by k_asm) (by k_mem)) ?_ | refine pairAt1 (by assumption) (News.isList (by k_asm) (by k_mem)) ?_)))
local macro_rules | `(tactic| walk_at "compareOp NotEq ref ref") => `(tactic| refine Halt.go ?_)
local macro_rules | `(tactic| walk_at "call builtin:list.append") => `(tactic| (k_dflt (refine' append_K ?k1 ?k2 ?k3 ?_ ?z; (case k1 => k_asm); (case k2 => k_asm); (case k3 => k_upd); (case z => (rw [sizeLine_eq]; (try simp only [List.size_toArray, List.length_map]); first | omega | decide)); k_whole); intro h' F' N'))
theorem due_ne {prog : Program} {w : World} {A : Around} {E : Value → Shared → Prop} {s : Shared} {h₀ : Heap} {L l1 l2 row log d0 d1 : Addr} {news : List (Addr × Obj)} {rows logs ds0 ds1 : Array Value} {f1 f2 f3 f4 f5 f6 : Nat} {X Y : List PyData} {a1 a2 a3 a4 : List Addr} {Q : Value → Shared → Prop}
    (N : News h₀ L s.heap news) (h1 : (l1, W.listOf #[.ref row, .ref log] f1) ∈ news) (h2 : (l2, W.listOf #[.ref d0, .ref d1] f2) ∈ news) (h3 : (row, W.listOf rows f3) ∈ news) (h4 : (log, W.listOf logs f4) ∈ news) (h5 : (d0, W.listOf ds0 f5) ∈ news) (h6 : (d1, W.listOf ds1 f6) ∈ news)
    (r1 : ReadsAll s.heap rows.toList X a1) (r2 : ReadsAll s.heap logs.toList Y a2) (r3 : ReadsAll s.heap ds0.toList X a3) (r4 : ReadsAll s.heap ds1.toList Y a4)
    (c1 : PyData.canLayAll0 X = true) (c2 : PyData.canLayAll0 Y = true) (e1 : PyData.depthAll X ≤ 62) (e2 : PyData.depthAll Y ≤ 62) (hu : A.units + 64 < cLine) (h : Q (.bool false) s) : wpAny (model prog w) A (compareOp .NotEq (.ref l1) (.ref l2)) Q E s := by
  refine ne_same (d := .list [.list X, .list Y]) (reads_list_at (N _ h1).1 rfl rfl (.cons (reads_list_at (N _ h3).1 rfl rfl r1) (.cons (reads_list_at (N _ h4).1 rfl rfl r2) .nil))) (reads_list_at (N _ h2).1 rfl rfl (.cons (reads_list_at (N _ h5).1 rfl rfl r3) (.cons (reads_list_at (N _ h6).1 rfl rfl r4) .nil))) ?_ ?_ hu h
  · simp [PyData.canLay0, PyData.canLayAll0, c1, c2]
  · simp only [PyData.depth, PyData.depthAll]; omega
theorem back {α : Type} (n : List α) (a b c d : α) {r : List α} (h1 : a ∈ n) (h2 : b ∈ n) (h3 : c ∈ n) (h4 : d ∈ n) (h5 : ∀ p ∈ r, p ∈ n) {q1 q2 q3 q4 q5 : α} : ∀ p ∈ a :: b :: c :: d :: r, p ∈ q1 :: q2 :: q3 :: q4 :: q5 :: n := by
  intro p hp
  refine .tail _ (.tail _ (.tail _ (.tail _ (.tail _ ?_))))
  rcases List.mem_cons.mp hp with rfl | hp
  · exact h1
  rcases List.mem_cons.mp hp with rfl | hp
  · exact h2
  rcases List.mem_cons.mp hp with rfl | hp
  · exact h3
  rcases List.mem_cons.mp hp with rfl | hp
  · exact h4
  exact h5 p hp
theorem g_end {g h : Heap} {L : Addr} {M : PySem.Str → Option Value} {k t a dv gv : Option Value} {v : V8}
    (F : Fr g L h (fun y => if y = PySem.Str.ofString "due" then dv else if y = PySem.Str.ofString "got" then gv else f2 M k t a v y)) : Fr g L h (f2 M k t a ⟨v.name, v.p, v.keeps, v.held, v.plain, v.j, gv, dv⟩) := by
  refine fr_eq F fun y => ?_
  by_cases h1 : y = PySem.Str.ofString "due"
  · subst h1; rfl
  by_cases h2 : y = PySem.Str.ofString "got"
  · subst h2; rfl
  simp only [f2, if_neg h1, if_neg h2]
theorem PoolOk.chain {P : Params} {row lam : Addr} {rest : List (Addr × Obj)} {nds : List Nd} (hP : PoolOk P row lam rest nds) : ∀ i nd, nds[i]? = some nd → nd.ch.length ≤ i + 1 ∧ ∀ y ∈ nd.ch, y.2.length ≤ 10 ∧ PyData.strOk y.2 = true := by
  intro i
  induction i using Nat.strongRecOn with
  | ind i ih =>
    intro nd h
    have no := hP.each i nd h
    rcases Nat.lt_or_ge i 2 with h1 | h1
    · rw [(no.low h1).1]
      refine ⟨by simp, fun y hy => ?_⟩
      rw [List.mem_singleton.mp hy]
      exact ⟨no.len, no.ok⟩
    · obtain ⟨hp, nd', hn', e⟩ := no.high h1
      obtain ⟨q1, q2⟩ := ih _ hp nd' hn'
      rw [e]
      refine ⟨by simp only [List.length_cons]; omega, fun y hy => ?_⟩
      rcases List.mem_cons.mp hy with rfl | hy
      · exact ⟨no.len, no.ok⟩
      · exact q2 y hy
theorem ObjIn.callee {P : Params} {row lam : Addr} {n : List (Addr × Obj)} {x : Addr} {c : Chain3} (h : ObjIn P row lam n x c) : ∃ o, (x, o) ∈ n ∧ Callee o := by
  cases h with
  | row p _ => exact ⟨_, p, .inl rfl⟩
  | lam p _ => exact ⟨_, p, .inl rfl⟩
  | mult p _ _ => exact ⟨_, p, .inl rfl⟩
  | meth p _ _ => exact ⟨_, p, .inl rfl⟩
theorem tail3 : ∀ (w : World) (mean : ExcName → Option Value) (mg mb : PySem.Str → Option Value) (base h₀ : Heap) (L fa lp lt row log box lam sc ag th : Addr) (olog obox olam : Obj) (lamL : List (Addr × Obj)) (nds : List Nd) (e1 e2 er el : Nat) (rows logs : Array Value) (rest : List (Addr × Obj)) (k : Nat) (tk tk2 : Tok) (vs0 : List Value) (xv : Option Value) (nd0 : Nd) (got due : Option Value) (x : WSt) (s : Shared) (Q : Flow → Shared → Prop),
    Below callerA base [] h₀ → (hd03.heap_39 w.params).In h₀ → Top topProg (looseW hd03.view_39 [PySem.Str.ofString "_MultiCallMethod", PySem.Str.ofString "_Method"] ++ (recsOf hd03.view_39).map (fun x => x.name) ++ (litsOf hd03.view_39).map (fun x => x.1) ++ (clssOf hd03.view_39 (looseW hd03.view_39 [PySem.Str.ofString "_MultiCallMethod", PySem.Str.ofString "_Method"])).map (fun x => x.name)) mean mg mb h₀ →
    Fr h₀ L s.heap (wF (mLaw2 xv row lp lt sc) (some (.int k tk)) (some (.ref th)) (some (.ref ag)) got due x) → News h₀ L s.heap (wG row log lp lt rows logs er el e1 e2 nds rest x) → 0 < s.toks → PoolOk w.params row lam rest nds → nds.length ≤ 20 → nds[k]? = some nd0 → x.j < 2 → WJ nds rest row log vs0 nd0.ch x →
    (ag, tupO vs0) ∈ rest → (th, W.listOf #[.int k tk2] 0) ∈ rest → (box, W.listOf #[] 0) ∈ rest → (L + 1 + 1, olog) ∈ rest → (L + 1, obox) ∈ rest → olog.data = .cell (some (.ref log)) → obox.data = .cell (some (.ref box)) → (∀ p ∈ lamL, p ∈ rest) → LamOk w log lam box lamL → (lam, olam) ∈ lamL → Callee olam →
    row < log → log < lp → lp < lt → (∀ p ∈ rest, p.1 ≠ row) → (∀ p ∈ rest, p.1 ≠ log) → (vs0 = [] ∨ vs0 = [.int k tk, .ref th]) → rows.size ≤ 1000 → logs.size ≤ 1000 →
    (∀ rows' logs' er' el' h' tk' v, Fr h₀ L h' (f2 (mLaw2 xv row lp lt sc) (some (.int k tk)) (some (.ref th)) (some (.ref ag)) v) → News h₀ L h' ((row, W.listOf rows' er') :: (log, W.listOf logs' el') :: (lp, poolO nds e1) :: (lt, toldO nds e2) :: rest) → rows'.size ≤ 1 → logs'.size ≤ 1 → Q .next { s with heap := h', toks := tk' }) →
    wpAny (model Challenge.rw_dn0306_03.prog w) (callerA.deeper (env3 (fnScope lawDef3) L fa)) (execs (inner3.drop 5) (env3 (fnScope lawDef3) L fa)) Q (fun _ _ => False) s := by
  k_fill
  intro w mean mg mb base h₀ L fa lp lt row log box lam sc ag th olog obox olam lamL nds e1 e2 er el rows logs rest k tk tk2 vs0 xv nd0 got due x s Q B X T F N hpos hP hlen hnd0 hj hJ hag hth hbox hcl hcb hdl hdb hlamL hlam hol hcal n1 n2 n3 hr1 hr2 hvs hrs hls hret
  refine lit2 (x := fnScope lawDef3) (y := inner3.drop 5) (P := fun scp bd => wpAny (model Challenge.rw_dn0306_03.prog w) (callerA.deeper (env3 scp L fa)) (execs bd (env3 scp L fa)) Q (fun _ _ => False) s) ⟨_, _, _, _, _⟩ (_ :: _) rfl rfl ?_
  have h2 := hP.two
  replace n1 := ltN n1
  replace n2 := ltN n2
  replace n3 := ltN n3
  obtain ⟨nd, j, nm, tn, held, H, plain, tj, tp, ext⟩ := x
  dsimp only [wF, wG] at F N hj
  have hrr1 : ∀ p ∈ ext ++ rest, p.1 ≠ row := fun p hp => (List.mem_append.mp hp).elim (fun h => (hJ.off p h).1) (hr1 p)
  have hrr2 : ∀ p ∈ ext ++ rest, p.1 ≠ log := fun p hp => (List.mem_append.mp hp).elim (fun h => (hJ.off p h).2) (hr2 p)
  have sub : ∀ p ∈ rest, p ∈ ext ++ rest := fun p hp => List.mem_append_right _ hp
  have mcl := sub _ hcl
  have mcb := sub _ hcb
  have mag := sub _ hag
  have mth := sub _ hth
  have mbox := sub _ hbox
  generalize hrr : ext ++ rest = rr at *
  have hP' : PoolOk w.params row lam rr nds := ⟨h2, fun i y hy => by
    obtain ⟨o1, ⟨t, t', o2⟩, o3, o4, o5, o6⟩ := hP.each i y hy
    exact ⟨o1.mono sub, ⟨t, t', sub _ o2⟩, o3, o4, o5, o6⟩⟩
  obtain ⟨hc1, hc2⟩ := hP'.chain _ _ hnd0
  have hk20 : k < 20 := by
    have := (List.getElem?_eq_some_iff.mp hnd0).1
    omega
  have no := hP'.each _ _ hJ.nd
  obtain ⟨hchj, hkpj⟩ := no.low hj
  dsimp only at hchj hkpj
  obtain ⟨tl, hrun1, hrun2, hrun3⟩ := hJ.run
  dsimp only at hrun1 hrun2 hrun3
  obtain rfl : tl = [] := by rw [hchj] at hrun1; exact (List.cons.inj hrun1).2.symm
  obtain ⟨ox, hox, hcx⟩ := (hP'.each _ _ hnd0).obj.callee
  obtain ⟨n, hn⟩ : ∃ n, nd0.ch.length = n + 1 := by
    obtain ⟨tl, e⟩ := (hP'.each _ _ hnd0).head
    exact ⟨tl.length, by rw [e]; rfl⟩
  have hdel : deliver (n + 1) nd0.ch [] = (nd.kp, nm, H) := by rw [← hn]; exact hrun2.symm
  have hpl : plainC nd0.ch = plain := by rw [← hrun3]; simp [plainC]
  have hv2 : vs0.length ≤ 2 := by
    rcases hvs with rfl | rfl
    · exact Nat.zero_le _
    · exact Nat.le_refl _
  walk_at "mine"
  show wpAny _ _ _ _ _ _
  refine any_up ?_
  refine called w (6 * 20 + 8) (40 * 20 + 80) nd0.x ox ag vs0 _ _ (.tail _ (.tail _ (.tail _ (.tail _ hox)))) hcx (.tail _ (.tail _ (.tail _ (.tail _ mag)))) hv2 (Calls.mono (call_node (row := row) hlam hol hcal (Nat.ne_of_lt n1) hv2 n nd0.ch [] nd0.x vs0 ((lp, poolO nds e1) :: (lt, toldO nds e2) :: rr) _ _ _ _ hn ?short ?obj .base ?lamL ?off ?z1 ?z2) (fun _ _ p => p) (by omega) (by omega)) mean mg mb _ _ _ _ _ _ _ _ _ _ _ _ _ _ _ _ _ _ _ _ B (by k_asm) X (by k_asm) T ?hd ?hu ?_
  case hd => decide
  case hu => decide
  case short => exact fun y hy => Nat.le_trans (hc2 y (List.mem_of_mem_tail hy)).1 (by decide)
  case obj => exact (hP'.each _ _ hnd0).obj.mono fun p hp => .tail _ (.tail _ hp)
  case lamL => exact fun p hp => .tail _ (.tail _ (sub _ (hlamL p hp)))
  case off =>
    intro p hp
    rcases List.mem_cons.mp hp with rfl | hp
    · exact ⟨by k_ne, by k_ne⟩
    rcases List.mem_cons.mp hp with rfl | hp
    · exact ⟨by k_ne, by k_ne⟩
    exact ⟨hrr1 p hp, hrr2 p hp⟩
  case z1 => decide
  case z2 => decide
  rintro r news' h9 tk9 F9 N9 ⟨T9, D9, t9, vs9, k1, k2, k3, k4, k5, k6⟩ up
  rw [hdel] at k1 k3 k5
  rw [hpl] at k6
  dsimp only at k1 k2 k3 k5 k6
  replace up : s.toks ≤ tk9 := up.1
  have mrow : ∃ rows' er', (row, W.listOf rows' er') ∈ news' ∧ rows'.size ≤ 1 ∧ (rows' = if nd.kp then #[.ref T9] else #[]) := by
    split at k5
    · rename_i hk; rw [hk]; exact ⟨_, _, k5.1, (by first | exact Nat.le_refl 1 | exact Nat.zero_le 1), rfl⟩
    · rename_i hk; rw [Bool.eq_false_iff.mpr hk]; exact ⟨_, _, k5.1, (by first | exact Nat.le_refl 1 | exact Nat.zero_le 1), rfl⟩
  have mlog : ∃ logs' el', (log, W.listOf logs' el') ∈ news' ∧ logs'.size ≤ 1 ∧ (logs' = if nd.kp then #[] else #[.ref T9]) := by
    split at k5
    · rename_i hk; rw [hk]; exact ⟨_, _, k5.2, (by first | exact Nat.le_refl 1 | exact Nat.zero_le 1), rfl⟩
    · rename_i hk; rw [Bool.eq_false_iff.mpr hk]; exact ⟨_, _, k5.2, (by first | exact Nat.le_refl 1 | exact Nat.zero_le 1), rfl⟩
  obtain ⟨rows', er', mr1, mr2, mr3⟩ := mrow
  obtain ⟨logs', el', ml1, ml2, ml3⟩ := mlog
  have mcl' := k4 _ (.tail _ (.tail _ mcl))
  have mcb' := k4 _ (.tail _ (.tail _ mcb))
  have mag' := k4 _ (.tail _ (.tail _ mag))
  have mth' := k4 _ (.tail _ (.tail _ mth))
  have mlp' := k4 _ (.head _)
  have mlt' := k4 _ (.tail _ (.head _))
  have mrest : ∀ p ∈ rest, p ∈ news' := fun p hp => k4 p (.tail _ (.tail _ (sub p hp)))
  have mbox' := k4 _ (.tail _ (.tail _ mbox))
  have hj01 : j = 0 ∨ j = 1 := by omega
  obtain ⟨vsH, hheld1, hheld2⟩ := hJ.held
  dsimp only at hheld1 hheld2
  rw [hrr] at hheld1 hheld2
  replace hheld1 := k4 _ (.tail _ (.tail _ hheld1))
  replace hheld2 := hheld2.mono fun p hp => k4 p (.tail _ (.tail _ hp))
  obtain ⟨b, hb1, hb2, hb3⟩ : ∃ b : PyData, b.canLay0 = true ∧ b.depth ≤ 2 ∧ ∀ (h : Heap) (ls : List (Addr × Obj)), (∀ p ∈ ls, h.get? p.1 = some p.2) → (th, W.listOf #[.int k tk2] 0) ∈ ls → ∀ D, (D, tupO vs0) ∈ ls → ∃ as, Reads h (.ref D) b as := by
    rcases hvs with rfl | rfl
    · exact ⟨.tuple [], rfl, by decide, fun h ls hl _ D hD => ⟨_, reads_tuple_at (hl _ hD) rfl rfl .nil⟩⟩
    · exact ⟨.tuple [.int k, .list [.int k]], rfl, (by simp [PyData.depth, PyData.depthAll]), fun h ls hl ht D hD => ⟨_, reads_tuple_at (hl _ hD) rfl rfl (.cons (.int _ _) (.cons (reads_list_at (hl _ ht) rfl rfl (.cons (.int _ _) .nil)) .nil))⟩⟩
  have hok := hJ.ok
  have hoks := hJ.oks
  have hsh := hJ.short
  dsimp only at hok hoks hsh
  have dep := dOf_depth b H
  have lay := dOf_ok hb1 hoks
  have dlay : PyData.canLayAll0 [.tuple [.str nm, dOf b H]] = true := by simp only [PyData.canLayAll0, PyData.canLay0, lay, Bool.and_true]; exact hok
  have ddep : PyData.depthAll [.tuple [.str nm, dOf b H]] ≤ 62 := by simp only [PyData.depth, PyData.depthAll]; omega
  have key : ∀ (h : Heap) (ls : List (Addr × Obj)), (∀ p ∈ ls, h.get? p.1 = some p.2) → (∀ p ∈ news', p ∈ ls) → ∀ D', (D', tupO [.str nm tn, .ref held]) ∈ ls → (∃ as, ReadsAll h [.ref T9] [.tuple [.str nm, dOf b H]] as) ∧ ∃ as, ReadsAll h [.ref D'] [.tuple [.str nm, dOf b H]] as := by
    intro h ls hl hs D' hD'
    have hb3' := hb3 h ls hl (hs _ mth')
    obtain ⟨a1, r1⟩ := (k3.mono hs).reads hl hb3' D9 (hs _ k2)
    obtain ⟨a2, r2⟩ := (hheld2.mono hs).reads hl hb3' held (hs _ hheld1)
    exact ⟨⟨_, .cons (reads_tuple_at (hl _ (hs _ k1)) rfl rfl (.cons (.str nm t9) (.cons r1 .nil))) .nil⟩, ⟨_, .cons (reads_tuple_at (hl _ hD') rfl rfl (.cons (.str nm tn) (.cons r2 .nil))) .nil⟩⟩
  rcases hj01 with hj0 | hj0
  · have hkp : nd.kp = true := by rw [hkpj, hj0]; rfl
    rw [hkp] at mr3 ml3
    subst mr3 ml3
    simp only [if_true] at mr1 ml1
    walk_at "mine"
    show wpAny _ _ _ _ _ _
    rename News h₀ L _ _ => kN
    obtain ⟨⟨a1, r1⟩, a2, r2⟩ := key _ _ (fun p hp => (kN p hp).1) (fun p hp => .tail _ (.tail _ (.tail _ (.tail _ (.tail _ hp))))) _ (.tail _ (.head _))
    refine due_ne kN (.head _) (.tail _ (.tail _ (.head _))) (.tail _ (.tail _ (.tail _ (.tail _ (.tail _ mr1))))) (.tail _ (.tail _ (.tail _ (.tail _ (.tail _ ml1))))) (.tail _ (.tail _ (.tail _ (.tail _ (.head _))))) (.tail _ (.tail _ (.tail _ (.head _)))) r1 .nil r2 .nil dlay rfl ddep (Nat.zero_le _) (by ke_room) ?_
    rcases hvs with rfl | rfl
    · cases plain
      · obtain rfl : r = .none := k6
        walk_at "mine"
        rename News h₀ L _ _ => kN
        refine hret _ _ _ _ _ _ _ (g_end (by k_asm)) (news_sub kN (back news' _ _ _ _ mr1 ml1 mlp' mlt' mrest)) mr2 ml2
      · obtain rfl : r = .ref box := k6
        walk_at "mine"
        rename News h₀ L _ _ => kN
        refine hret _ _ _ _ _ _ _ (g_end (by k_asm)) (news_sub kN (back news' _ _ _ _ mr1 ml1 mlp' mlt' mrest)) mr2 ml2
    · walk_at "mine"
      show wpAny _ _ _ _ _ _
      rename News h₀ L _ _ => kN2
      refine any_up ?_
      refine innermost w mean mg mb _ _ _ _ _ _ _ _ _ _ _ _ _ _ _ _ _ _ _ _ _ k tk th [.str nm t9, .ref D9] ((false, nm) :: H) T9 B (by k_asm) X kN2 T ?hp0 ?hd ?hu (.tail _ (.tail _ (.tail _ (.tail _ (.tail _ (.tail _ k1)))))) (HeldArgs.mono (.meth k2 k3) fun p hp => .tail _ (.tail _ (.tail _ (.tail _ (.tail _ (.tail _ hp)))))) ?_
      case hp0 => (dsimp only; omega)
      case hd => decide
      case hu => decide
      intro D5 h5 tk5 F5 N5 m5 up5
      replace up5 := up5.1
      dsimp only at up5
      cases plain
      · obtain rfl : r = .none := k6
        walk_at "mine"
        exact hret _ _ _ _ _ _ _ (g_end F5) (news_sub N5 fun p hp => .tail _ (back news' _ _ _ _ mr1 ml1 mlp' mlt' mrest p hp)) mr2 ml2
      · obtain rfl : r = .ref box := k6
        walk_at "mine"
        exact hret _ _ _ _ _ _ _ (g_end F5) (news_sub N5 fun p hp => .tail _ (back news' _ _ _ _ mr1 ml1 mlp' mlt' mrest p hp)) mr2 ml2
  · have hkp : nd.kp = false := by rw [hkpj, hj0]; rfl
    rw [hkp] at mr3 ml3
    subst mr3 ml3
    simp only [Bool.false_eq_true, if_false] at mr1 ml1
    walk_at "mine"
    show wpAny _ _ _ _ _ _
    rename News h₀ L _ _ => kN
    obtain ⟨⟨a1, r1⟩, a2, r2⟩ := key _ _ (fun p hp => (kN p hp).1) (fun p hp => .tail _ (.tail _ (.tail _ (.tail _ (.tail _ hp))))) _ (.tail _ (.head _))
    refine due_ne kN (.head _) (.tail _ (.tail _ (.head _))) (.tail _ (.tail _ (.tail _ (.tail _ (.tail _ mr1))))) (.tail _ (.tail _ (.tail _ (.tail _ (.tail _ ml1))))) (.tail _ (.tail _ (.tail _ (.tail _ (.head _))))) (.tail _ (.tail _ (.tail _ (.head _)))) .nil r1 .nil r2 rfl dlay (Nat.zero_le _) ddep (by ke_room) ?_
    rcases hvs with rfl | rfl
    · cases plain
      · obtain rfl : r = .none := k6
        walk_at "mine"
        rename News h₀ L _ _ => kN
        refine hret _ _ _ _ _ _ _ (g_end (by k_asm)) (news_sub kN (back news' _ _ _ _ mr1 ml1 mlp' mlt' mrest)) mr2 ml2
      · obtain rfl : r = .ref box := k6
        walk_at "mine"
        rename News h₀ L _ _ => kN
        refine hret _ _ _ _ _ _ _ (g_end (by k_asm)) (news_sub kN (back news' _ _ _ _ mr1 ml1 mlp' mlt' mrest)) mr2 ml2
    · walk_at "mine"
      show wpAny _ _ _ _ _ _
      rename News h₀ L _ _ => kN2
      refine any_up ?_
      refine innermost w mean mg mb _ _ _ _ _ _ _ _ _ _ _ _ _ _ _ _ _ _ _ _ _ k tk th [.str nm t9, .ref D9] ((false, nm) :: H) T9 B (by k_asm) X kN2 T ?hp0 ?hd ?hu (.tail _ (.tail _ (.tail _ (.tail _ (.tail _ (.tail _ k1)))))) (HeldArgs.mono (.meth k2 k3) fun p hp => .tail _ (.tail _ (.tail _ (.tail _ (.tail _ (.tail _ hp)))))) ?_
      case hp0 => (dsimp only; omega)
      case hd => decide
      case hu => decide
      intro D5 h5 tk5 F5 N5 m5 up5
      replace up5 := up5.1
      dsimp only at up5
      cases plain
      · obtain rfl : r = .none := k6
        walk_at "mine"
        exact hret _ _ _ _ _ _ _ (g_end F5) (news_sub N5 fun p hp => .tail _ (back news' _ _ _ _ mr1 ml1 mlp' mlt' mrest p hp)) mr2 ml2
      · obtain rfl : r = .ref box := k6
        walk_at "mine"
        exact hret _ _ _ _ _ _ _ (g_end F5) (news_sub N5 fun p hp => .tail _ (back news' _ _ _ _ mr1 ml1 mlp' mlt' mrest p hp)) mr2 ml2
end Mine

namespace Mine
theorem n_end {g h : Heap} {L : Addr} {M : PySem.Str → Option Value} {k t a nm p kp hd pl j : Option Value} {v : V8}
    (F : Fr g L h (fun y => if y = PySem.Str.ofString "j" then j else if y = PySem.Str.ofString "plain" then pl else if y = PySem.Str.ofString "held" then hd else if y = PySem.Str.ofString "keeps" then kp else if y = PySem.Str.ofString "p" then p else if y = PySem.Str.ofString "name" then nm else f2 M k t a v y)) :
    Fr g L h (f2 M k t a ⟨nm, p, kp, hd, pl, j, v.got, v.due⟩) := by
  refine fr_eq F fun y => ?_
  by_cases h1 : y = PySem.Str.ofString "plain"
  · subst h1; rfl
  by_cases h2 : y = PySem.Str.ofString "p"
  · subst h2; rfl
  by_cases h3 : y = PySem.Str.ofString "keeps"
  · subst h3; rfl
  by_cases h4 : y = PySem.Str.ofString "j"
  · subst h4; rfl
  by_cases h5 : y = PySem.Str.ofString "name"
  · subst h5; rfl
  by_cases h6 : y = PySem.Str.ofString "held"
  · subst h6; rfl
  simp only [f2, if_neg h1, if_neg h2, if_neg h3, if_neg h4, if_neg h5, if_neg h6]
local macro_rules | `(tactic| walk_at "mine") => `(tactic| repeat' (first | (k_unfold; (try dsimp only)) | walk1 | (dsimp only; walk1) | (leave1; try dsimp only) | fail "no step"))
local macro_rules | `(tactic| k_mem) => `(tactic| (repeat (first | exact List.Mem.head _ | assumption | refine List.Mem.tail _ ?_)))
local macro_rules | `(tactic| k_all) => `(tactic| assumption)
local macro_rules | `(tactic| walk_at "execs cons") => `(tactic| (refine genToks ?_ (by omega); intro k9 p9))
local macro_rules | `(tactic| walk_at "execs nil") => `(tactic| (refine genToks ?_ (by omega); intro k9 p9))
local macro_rules | `(tactic| walk_at "execs cons") => `(tactic| ((with_reducible show wpAny _ _ _ _ _ (Shared.mk _ _ _ (Shared.toks _) _)); dsimp only))
local macro_rules | `(tactic| walk_at "execs nil") => `(tactic| ((with_reducible show wpAny _ _ _ _ _ (Shared.mk _ _ _ (Shared.toks _) _)); dsimp only))
local macro_rules | `(tactic| walk_at "subscriptTail Name Name ref int") => `(tactic| (k_dflt (refine itemAt (News.isList (by k_asm) (by k_mem)) (by omega) (by assumption) ?_)))
local macro_rules | `(tactic| walk_at "exec While") => `(tactic| refine Halt.go ?_)
theorem turn2 : ∀ (w : World) (mean : ExcName → Option Value) (mg mb : PySem.Str → Option Value) (base h₀ : Heap) (L fa lp lt row log box lam sc ag th : Addr) (olog obox olam : Obj) (lamL : List (Addr × Obj)) (nds : List Nd) (e1 e2 er el : Nat) (rows logs : Array Value) (rest : List (Addr × Obj)) (k : Nat) (tk tk2 : Tok) (vs0 : List Value) (xv : Option Value) (nd0 : Nd) (u : V8) (s : Shared) (Q : Flow → Shared → Prop),
    Below callerA base [] h₀ → (hd03.heap_39 w.params).In h₀ → Top topProg (looseW hd03.view_39 [PySem.Str.ofString "_MultiCallMethod", PySem.Str.ofString "_Method"] ++ (recsOf hd03.view_39).map (fun x => x.name) ++ (litsOf hd03.view_39).map (fun x => x.1) ++ (clssOf hd03.view_39 (looseW hd03.view_39 [PySem.Str.ofString "_MultiCallMethod", PySem.Str.ofString "_Method"])).map (fun x => x.name)) mean mg mb h₀ →
    Fr h₀ L s.heap (f2 (mLaw2 xv row lp lt sc) (some (.int k tk)) (some (.ref th)) (some (.ref ag)) u) → News h₀ L s.heap ((row, W.listOf rows er) :: (log, W.listOf logs el) :: (lp, poolO nds e1) :: (lt, toldO nds e2) :: rest) → 0 < s.toks → PoolOk w.params row lam rest nds → nds.length ≤ 20 → nds[k]? = some nd0 →
    (ag, tupO vs0) ∈ rest → (th, W.listOf #[.int k tk2] 0) ∈ rest → (box, W.listOf #[] 0) ∈ rest → (L + 1 + 1, olog) ∈ rest → (L + 1, obox) ∈ rest → olog.data = .cell (some (.ref log)) → obox.data = .cell (some (.ref box)) → (∀ p ∈ lamL, p ∈ rest) → LamOk w log lam box lamL → (lam, olam) ∈ lamL → Callee olam →
    row < log → log < lp → lp < lt → (∀ p ∈ rest, p.1 ≠ row) → (∀ p ∈ rest, p.1 ≠ log) → (vs0 = [] ∨ vs0 = [.int k tk, .ref th]) → rows.size ≤ 1000 → logs.size ≤ 1000 →
    (∀ rows' logs' er' el' h' tk' v, Fr h₀ L h' (f2 (mLaw2 xv row lp lt sc) (some (.int k tk)) (some (.ref th)) (some (.ref ag)) v) → News h₀ L h' ((row, W.listOf rows' er') :: (log, W.listOf logs' el') :: (lp, poolO nds e1) :: (lt, toldO nds e2) :: rest) → rows'.size ≤ 1 → logs'.size ≤ 1 → Q .next { s with heap := h', toks := tk' }) →
    wpAny (model Challenge.rw_dn0306_03.prog w) (callerA.deeper (env3 (fnScope lawDef3) L fa)) (execs inner3 (env3 (fnScope lawDef3) L fa)) Q (fun _ _ => False) s := by
  k_fill
  intro w mean mg mb base h₀ L fa lp lt row log box lam sc ag th olog obox olam lamL nds e1 e2 er el rows logs rest k tk tk2 vs0 xv nd0 u s Q B X T F N hpos hP hlen hnd0 hag hth hbox hcl hcb hdl hdb hlamL hlam hol hcal n1 n2 n3 hr1 hr2 hvs hrs hls hret
  refine lit2 (x := fnScope lawDef3) (y := inner3) (P := fun scp bd => wpAny (model Challenge.rw_dn0306_03.prog w) (callerA.deeper (env3 scp L fa)) (execs bd (env3 scp L fa)) Q (fun _ _ => False) s) ⟨_, _, _, _, _⟩ (_ :: _) rfl rfl ?_
  have h2 := hP.two
  have no := hP.each _ _ hnd0
  obtain ⟨t91, t92, m9⟩ := no.told
  obtain ⟨tl, htl⟩ := no.head
  walk_at "mine"
  show wpAny _ _ _ _ _ _
  rename Fr h₀ L _ _ => kF
  rename News h₀ L _ _ => kN
  refine while3 w mean mg mb base h₀ L fa lp lt row log lam sc nds e1 e2 er el rows logs rest (some (.int k tk)) (some (.ref th)) (some (.ref ag)) u.got u.due vs0 nd0.ch xv ⟨nd0, k, nd0.nm, t91, ag, [], !nd0.kp, tk, t92, []⟩ _ _ B X T (n_end kF) kN (by assumption) hP hlen ?J ?_
  case J => exact ⟨hnd0, ⟨tl, htl, by rw [← htl], by rw [htl]; rfl⟩, Nat.le_trans no.len (by decide), no.ok, ⟨vs0, hag, .base⟩, (by simp), (fun _ h => (nomatch h)), (fun _ h => (nomatch h))⟩
  intro x h' tk' hj hJ hp F9 N9
  exact tail3 w mean mg mb base h₀ L fa lp lt row log box lam sc ag th olog obox olam lamL nds e1 e2 er el rows logs rest k tk tk2 vs0 xv nd0 u.got u.due x _ _ B X T F9 N9 hp hP hlen hnd0 hj hJ hag hth hbox hcl hcb hdl hdb hlamL hlam hol hcal n1 n2 n3 hr1 hr2 hvs hrs hls hret
end Mine

namespace Mine
local macro_rules | `(tactic| walk_at "mine") => `(tactic| repeat' (first | (k_unfold; (try dsimp only)) | walk1 | (dsimp only; walk1) | (leave1; try dsimp only) | fail "no step"))
local macro_rules | `(tactic| k_mem) => `(tactic| (repeat (first | exact List.Mem.head _ | assumption | refine List.Mem.tail _ ?_)))
local macro_rules | `(tactic| k_all) => `(tactic| assumption)
local macro_rules | `(tactic| walk_at "execs cons") => `(tactic| (refine genToks ?_ (by omega); intro k9 p9))
local macro_rules | `(tactic| walk_at "execs nil") => `(tactic| (refine genToks ?_ (by omega); intro k9 p9))
local macro_rules | `(tactic| walk_at "execs cons") => `(tactic| ((with_reducible show wpAny _ _ _ _ _ (Shared.mk _ _ _ (Shared.toks _) _)); dsimp only))
local macro_rules | `(tactic| walk_at "execs nil") => `(tactic| ((with_reducible show wpAny _ _ _ _ _ (Shared.mk _ _ _ (Shared.toks _) _)); dsimp only))
local macro_rules | `(tactic| walk_at "exec For Name List cons nil") => `(tactic| refine Halt.go ?_)
local macro_rules | `(tactic| walk_at "pyIter ref") => `(tactic| refine Halt.go ?_)
structure IS3 where
  a : Option Value
  u : V8
  rows : Array Value
  logs : Array Value
  er : Nat
  el : Nat
theorem a_in {g h : Heap} {L : Addr} {M : PySem.Str → Option Value} {k t a b : Option Value} {v : V8} (F : Fr g L h (fun y => if y = PySem.Str.ofString "args" then b else f2 M k t a v y)) : Fr g L h (f2 M k t b v) := by
  refine fr_eq F fun y => ?_
  by_cases h1 : y = PySem.Str.ofString "args"
  · subst h1; rfl
  simp only [f2, if_neg h1]
theorem t_in {g h : Heap} {L : Addr} {M : PySem.Str → Option Value} {k t a b : Option Value} {v : V8} (F : Fr g L h (fun y => if y = PySem.Str.ofString "things" then b else f2 M k t a v y)) : Fr g L h (f2 M k b a v) := by
  refine fr_eq F fun y => ?_
  by_cases h1 : y = PySem.Str.ofString "things"
  · subst h1; rfl
  simp only [f2, if_neg h1]
theorem PoolOk.mono {P : Params} {row lam : Addr} {rest rr : List (Addr × Obj)} {nds : List Nd} (hP : PoolOk P row lam rest nds) (sub : ∀ p ∈ rest, p ∈ rr) : PoolOk P row lam rr nds := ⟨hP.two, fun i y hy => by
    obtain ⟨o1, ⟨t, t', o2⟩, o3, o4, o5, o6⟩ := hP.each i y hy
    exact ⟨o1.mono sub, ⟨t, t', sub _ o2⟩, o3, o4, o5, o6⟩⟩
theorem turn3 : ∀ (w : World) (mean : ExcName → Option Value) (mg mb : PySem.Str → Option Value) (base h₀ : Heap) (L fa lp lt row log box lam sc : Addr) (olog obox olam : Obj) (lamL : List (Addr × Obj)) (nds : List Nd) (e1 e2 er el : Nat) (rows logs : Array Value) (rest : List (Addr × Obj)) (k : Nat) (tk : Tok) (xv : Option Value) (nd0 : Nd) (t a : Option Value) (u : V8) (s : Shared) (Q : Flow → Shared → Prop),
    Below callerA base [] h₀ → (hd03.heap_39 w.params).In h₀ → Top topProg (looseW hd03.view_39 [PySem.Str.ofString "_MultiCallMethod", PySem.Str.ofString "_Method"] ++ (recsOf hd03.view_39).map (fun x => x.name) ++ (litsOf hd03.view_39).map (fun x => x.1) ++ (clssOf hd03.view_39 (looseW hd03.view_39 [PySem.Str.ofString "_MultiCallMethod", PySem.Str.ofString "_Method"])).map (fun x => x.name)) mean mg mb h₀ →
    Fr h₀ L s.heap (f2 (mLaw2 xv row lp lt sc) (some (.int k tk)) t a u) → News h₀ L s.heap ((row, W.listOf rows er) :: (log, W.listOf logs el) :: (lp, poolO nds e1) :: (lt, toldO nds e2) :: rest) → 0 < s.toks → PoolOk w.params row lam rest nds → nds.length ≤ 20 → nds[k]? = some nd0 →
    (box, W.listOf #[] 0) ∈ rest → (L + 1 + 1, olog) ∈ rest → (L + 1, obox) ∈ rest → olog.data = .cell (some (.ref log)) → obox.data = .cell (some (.ref box)) → (∀ p ∈ lamL, p ∈ rest) → LamOk w log lam box lamL → (lam, olam) ∈ lamL → Callee olam →
    row < log → log < lp → lp < lt → (∀ p ∈ rest, p.1 ≠ row) → (∀ p ∈ rest, p.1 ≠ log) → rows.size ≤ 1000 → logs.size ≤ 1000 →
    (∀ rows' logs' er' el' h' tk' t' a' v, Fr h₀ L h' (f2 (mLaw2 xv row lp lt sc) (some (.int k tk)) t' a' v) → News h₀ L h' ((row, W.listOf rows' er') :: (log, W.listOf logs' el') :: (lp, poolO nds e1) :: (lt, toldO nds e2) :: rest) → rows'.size ≤ 1000 → logs'.size ≤ 1000 → Q .next { s with heap := h', toks := tk' }) →
    wpAny (model Challenge.rw_dn0306_03.prog w) (callerA.deeper (env3 (fnScope lawDef3) L fa)) (execs (forBody law3[6]!) (env3 (fnScope lawDef3) L fa)) Q (fun _ _ => False) s := by
  k_fill
  intro w mean mg mb base h₀ L fa lp lt row log box lam sc olog obox olam lamL nds e1 e2 er el rows logs rest k tk xv nd0 t a u s Q B X T F N hpos hP hlen hnd0 hbox hcl hcb hdl hdb hlamL hlam hol hcal n1 n2 n3 hr1 hr2 hrs hls hret
  refine lit2 (x := fnScope lawDef3) (y := forBody law3[6]!) (P := fun scp bd => wpAny (model Challenge.rw_dn0306_03.prog w) (callerA.deeper (env3 scp L fa)) (execs bd (env3 scp L fa)) Q (fun _ _ => False) s) ⟨_, _, _, _, _⟩ (_ :: _) rfl rfl ?_
  have h2 := hP.two
  walk_at "mine"
  refine wpAny_For ?_ (by intro _; rfl)
  walk_at "mine"
  show wpAny _ _ _ _ _ _
  rename Fr h₀ L _ _ => kF
  rename News h₀ L _ _ => kN
  rename_i th _ lth _ _ _ D1 _ l6 D2 _ l7 la _ _
  rename _ ∧ _ ∧ _ ∧ _ ∧ _ ∧ _ ∧ _ ∧ _ => l8
  refine iterList_st (σ := IS3) (fun y => f2 (mLaw2 xv row lp lt sc) (some (.int k tk)) (some (.ref th)) y.a y.u) (fun y => (row, W.listOf y.rows y.er) :: (log, W.listOf y.logs y.el) :: (lp, poolO nds e1) :: (lt, toldO nds e2) :: (D2, tupO []) :: (D1, tupO [.int k tk, .ref th]) :: (th, W.listOf #[.int k tk] 0) :: rest)
    (fun _ y => y.rows.size ≤ 1000 ∧ y.logs.size ≤ 1000) ⟨a, u, rows, logs, er, el⟩ (News.isList kN (by k_mem)) rfl rfl rfl (kN (la, _) (by k_mem)).2.1 (by assumption) (t_in kF) (news_sub kN ?sub) ⟨hrs, hls⟩ ?off ?turn ?done ?hE
  case hE => passes_own
  case sub =>
    intro p hp
    rcases List.mem_cons.mp hp with rfl | hp
    · exact .tail _ (.tail _ (.tail _ (.tail _ (.head _))))
    rcases List.mem_cons.mp hp with rfl | hp
    · exact .tail _ (.tail _ (.tail _ (.tail _ (.tail _ (.head _)))))
    rcases List.mem_cons.mp hp with rfl | hp
    · exact .tail _ (.tail _ (.tail _ (.tail _ (.tail _ (.tail _ (.head _))))))
    rcases List.mem_cons.mp hp with rfl | hp
    · exact .tail _ (.tail _ (.tail _ (.tail _ (.tail _ (.tail _ (.tail _ (.head _)))))))
    rcases List.mem_cons.mp hp with rfl | hp
    · exact .tail _ (.head _)
    rcases List.mem_cons.mp hp with rfl | hp
    · exact .tail _ (.tail _ (.head _))
    rcases List.mem_cons.mp hp with rfl | hp
    · exact .tail _ (.tail _ (.tail _ (.head _)))
    exact .tail _ (.tail _ (.tail _ (.tail _ (.tail _ (.tail _ (.tail _ (.tail _ hp)))))))
  case off =>
    rintro i y - p hp
    have key : ∀ q o, (q, o) ∈ (la, W.listOf #[.ref D1, .ref D2] 0) :: (D2, tupO []) :: (D1, tupO [.int k tk, .ref th]) :: (th, W.listOf #[.int k tk] 0) :: (row, W.listOf rows er) :: (log, W.listOf logs el) :: (lp, poolO nds e1) :: (lt, toldO nds e2) :: rest → q ≠ _ := fun q o hq => Nat.ne_of_lt (Heap.lt_size (kN (q, o) hq).1)
    rcases List.mem_cons.mp hp with rfl | hp
    · exact key _ _ (.tail _ (.tail _ (.tail _ (.tail _ (.head _)))))
    rcases List.mem_cons.mp hp with rfl | hp
    · exact key _ _ (.tail _ (.tail _ (.tail _ (.tail _ (.tail _ (.head _))))))
    rcases List.mem_cons.mp hp with rfl | hp
    · exact key _ _ (.tail _ (.tail _ (.tail _ (.tail _ (.tail _ (.tail _ (.head _)))))))
    rcases List.mem_cons.mp hp with rfl | hp
    · exact key _ _ (.tail _ (.tail _ (.tail _ (.tail _ (.tail _ (.tail _ (.tail _ (.head _))))))))
    rcases List.mem_cons.mp hp with rfl | hp
    · exact key _ _ (.tail _ (.head _))
    rcases List.mem_cons.mp hp with rfl | hp
    · exact key _ _ (.tail _ (.tail _ (.head _)))
    rcases List.mem_cons.mp hp with rfl | hp
    · exact key _ _ (.tail _ (.tail _ (.tail _ (.head _))))
    exact key p.1 p.2 (.tail _ (.tail _ (.tail _ (.tail _ (.tail _ (.tail _ (.tail _ (.tail _ hp))))))))
  case done =>
    rintro ⟨a', u', rows', logs', er', el'⟩ h' tk' pos' ⟨z1, z2⟩ F' N' sz'
    dsimp only at F' N' z1 z2 ⊢
    walk_at "mine"
    refine hret rows' logs' er' el' _ _ _ _ _ F' (news_sub N' ?_) z1 z2
    intro p hp
    rcases List.mem_cons.mp hp with rfl | hp
    · exact .head _
    rcases List.mem_cons.mp hp with rfl | hp
    · exact .tail _ (.head _)
    rcases List.mem_cons.mp hp with rfl | hp
    · exact .tail _ (.tail _ (.head _))
    rcases List.mem_cons.mp hp with rfl | hp
    · exact .tail _ (.tail _ (.tail _ (.head _)))
    exact .tail _ (.tail _ (.tail _ (.tail _ (.tail _ (.tail _ (.tail _ hp))))))
  rintro i v ⟨a', u', rows', logs', er', el'⟩ h' tk' own pos' hv ⟨z1, z2⟩ ho F' N' sz'
  dsimp only [List.cons_append] at F' N' z1 z2 ⊢
  have srow := Heap.lt_size (kN (row, _) (.tail _ (.tail _ (.tail _ (.tail _ (.head _)))))).1
  have slog := Heap.lt_size (kN (log, _) (.tail _ (.tail _ (.tail _ (.tail _ (.tail _ (.head _))))))).1
  have own1 : ∀ p ∈ own, p.1 ≠ row ∧ p.1 ≠ log := by
    intro p hp
    rcases ho p hp with e | e
    · rw [e]; exact ⟨Nat.ne_of_gt srow, Nat.ne_of_gt slog⟩
    · rw [e]; exact ⟨Nat.ne_of_gt l8.2.2.2.1, Nat.ne_of_gt l8.2.2.2.2.1⟩
  have off1 : ∀ p ∈ (D2, tupO []) :: (D1, tupO [.int k tk, .ref th]) :: (th, W.listOf #[.int k tk] 0) :: (rest ++ own), p.1 ≠ row ∧ p.1 ≠ log := by
    intro p hp
    rcases List.mem_cons.mp hp with rfl | hp
    · exact ⟨Nat.ne_of_gt l7.2.2.1, Nat.ne_of_gt l7.2.2.2.1⟩
    rcases List.mem_cons.mp hp with rfl | hp
    · exact ⟨Nat.ne_of_gt l6.2.1, Nat.ne_of_gt l6.2.2.1⟩
    rcases List.mem_cons.mp hp with rfl | hp
    · exact ⟨Nat.ne_of_gt lth.1, Nat.ne_of_gt lth.2.1⟩
    rcases List.mem_append.mp hp with hp | hp
    · exact ⟨hr1 p hp, hr2 p hp⟩
    · exact own1 p hp
  have sub : ∀ p ∈ rest, p ∈ (D2, tupO []) :: (D1, tupO [.int k tk, .ref th]) :: (th, W.listOf #[.int k tk] 0) :: (rest ++ own) := fun p hp => .tail _ (.tail _ (.tail _ (List.mem_append_left _ hp)))
  obtain ⟨ag, vs0, rfl, hag, hvs⟩ : ∃ ag vs0, v = .ref ag ∧ (ag, tupO vs0) ∈ (D2, tupO []) :: (D1, tupO [.int k tk, .ref th]) :: (th, W.listOf #[.int k tk] 0) :: (rest ++ own) ∧ (vs0 = [] ∨ vs0 = [.int k tk, .ref th]) := by
    rcases i with _ | _ | i
    · exact ⟨D1, _, (Option.some.inj hv).symm, .tail _ (.head _), .inr rfl⟩
    · exact ⟨D2, _, (Option.some.inj hv).symm, .head _, .inl rfl⟩
    · exact absurd hv (by simp)
  refine turn2 w mean mg mb base h₀ L fa lp lt row log box lam sc ag th olog obox olam lamL nds e1 e2 er' el' rows' logs' _ k tk tk vs0 xv nd0 u' _ _ B X T (a_in F') N' pos' (hP.mono sub) hlen hnd0 hag (.tail _ (.tail _ (.head _))) (sub _ hbox) (sub _ hcl) (sub _ hcb) hdl hdb (fun p hp => sub _ (hlamL p hp)) hlam hol hcal n1 n2 n3 (fun p hp => (off1 p hp).1) (fun p hp => (off1 p hp).2) hvs z1 z2 ?_
  intro rows2 logs2 er2 el2 h2 tk2 v2 F2 N2 z3 z4
  exact ForSt.next (σ := IS3) (IS3.mk (some (.ref ag)) v2 rows2 logs2 er2 el2) F2 N2 ⟨Nat.le_trans z3 (by decide), Nat.le_trans z4 (by decide)⟩
end Mine

namespace Mine
local macro_rules | `(tactic| walk_at "mine") => `(tactic| repeat' (first | (k_unfold; (try dsimp only)) | walk1 | (dsimp only; walk1) | (leave1; try dsimp only) | fail "no step"))
local macro_rules | `(tactic| k_mem) => `(tactic| (repeat (first | exact List.Mem.head _ | assumption | refine List.Mem.tail _ ?_)))
local macro_rules | `(tactic| k_all) => `(tactic| assumption)
local macro_rules | `(tactic| walk_at "execs cons") => `(tactic| (refine genToks ?_ (by omega); intro k9 p9))
local macro_rules | `(tactic| walk_at "execs nil") => `(tactic| (refine genToks ?_ (by omega); intro k9 p9))
local macro_rules | `(tactic| walk_at "execs cons") => `(tactic| ((with_reducible show wpAny _ _ _ _ _ (Shared.mk _ _ _ (Shared.toks _) _)); dsimp only))
local macro_rules | `(tactic| walk_at "execs nil") => `(tactic| ((with_reducible show wpAny _ _ _ _ _ (Shared.mk _ _ _ (Shared.toks _) _)); dsimp only))
local macro_rules | `(tactic| walk_at "call builtin:len") => `(tactic| (k_dflt (refine lenMap (News.isList (by k_asm) (by k_mem)) (by omega) ?_); intro t9 k9 u9; (try dsimp only at u9)))
local macro_rules | `(tactic| walk_at "pyIter ref") => `(tactic| refine Halt.go ?_)
theorem k_in {g h : Heap} {L : Addr} {M : PySem.Str → Option Value} {k t a b : Option Value} {v : V8} (F : Fr g L h (fun y => if y = PySem.Str.ofString "k" then b else f2 M k t a v y)) : Fr g L h (f2 M b t a v) := by
  refine fr_eq F fun y => ?_
  by_cases h1 : y = PySem.Str.ofString "k"
  · subst h1; rfl
  simp only [f2, if_neg h1]
theorem loop2 : ∀ (w : World) (mean : ExcName → Option Value) (mg mb : PySem.Str → Option Value) (base h₀ : Heap) (L fa lp lt row log box lam sc : Addr) (olog obox olam : Obj) (lamL : List (Addr × Obj)) (nds : List Nd) (e1 e2 er el : Nat) (rows logs : Array Value) (rest : List (Addr × Obj)) (xv : Option Value) (k t a : Option Value) (u : V8) (s : Shared) (Q : Flow → Shared → Prop),
    Below callerA base [] h₀ → (hd03.heap_39 w.params).In h₀ → Top topProg (looseW hd03.view_39 [PySem.Str.ofString "_MultiCallMethod", PySem.Str.ofString "_Method"] ++ (recsOf hd03.view_39).map (fun x => x.name) ++ (litsOf hd03.view_39).map (fun x => x.1) ++ (clssOf hd03.view_39 (looseW hd03.view_39 [PySem.Str.ofString "_MultiCallMethod", PySem.Str.ofString "_Method"])).map (fun x => x.name)) mean mg mb h₀ →
    Fr h₀ L s.heap (f2 (mLaw2 xv row lp lt sc) k t a u) → News h₀ L s.heap ((row, W.listOf rows er) :: (log, W.listOf logs el) :: (lp, poolO nds e1) :: (lt, toldO nds e2) :: rest) → 0 < s.toks → PoolOk w.params row lam rest nds → nds.length ≤ 20 →
    (box, W.listOf #[] 0) ∈ rest → (L + 1 + 1, olog) ∈ rest → (L + 1, obox) ∈ rest → olog.data = .cell (some (.ref log)) → obox.data = .cell (some (.ref box)) → (∀ p ∈ lamL, p ∈ rest) → LamOk w log lam box lamL → (lam, olam) ∈ lamL → Callee olam →
    row < log → log < lp → lp < lt → (∀ p ∈ rest, p.1 ≠ row) → (∀ p ∈ rest, p.1 ≠ log) → rows.size ≤ 1000 → logs.size ≤ 1000 →
    (∀ rows' logs' er' el' h' tk' k' t' a' v, Fr h₀ L h' (f2 (mLaw2 xv row lp lt sc) k' t' a' v) → News h₀ L h' ((row, W.listOf rows' er') :: (log, W.listOf logs' el') :: (lp, poolO nds e1) :: (lt, toldO nds e2) :: rest) → 0 < tk' → Q .next { s with heap := h', toks := tk' }) →
    wpAny (model Challenge.rw_dn0306_03.prog w) (callerA.deeper (env3 (fnScope lawDef3) L fa)) (exec law3[6]! (env3 (fnScope lawDef3) L fa)) Q (fun _ _ => False) s := by
  k_fill
  intro w mean mg mb base h₀ L fa lp lt row log box lam sc olog obox olam lamL nds e1 e2 er el rows logs rest xv k t a u s Q B X T F N hpos hP hlen hbox hcl hcb hdl hdb hlamL hlam hol hcal n1 n2 n3 hr1 hr2 hrs hls hret
  refine lit2 (x := fnScope lawDef3) (y := law3[6]!) (P := fun scp bd => wpAny (model Challenge.rw_dn0306_03.prog w) (callerA.deeper (env3 scp L fa)) (exec bd (env3 scp L fa)) Q (fun _ _ => False) s) ⟨_, _, _, _, _⟩ (.For _ _ _ _ _) rfl rfl ?_
  have h2 := hP.two
  refine wpAny_For ?_ (by intro _; rfl)
  refine any_up ?_
  walk_at "mine"
  show wpAny _ _ _ _ _ _
  rename Up _ _ => up
  replace up := up.1
  rename IsRange _ _ _ _ _ _ _ _ => hR
  rename Fr h₀ L _ _ => kF
  rename News h₀ L _ _ => kN
  refine iterRange_st (σ := Option Value × Option Value × IS3) (fun y => f2 (mLaw2 xv row lp lt sc) y.1 y.2.1 y.2.2.a y.2.2.u) (fun y => (row, W.listOf y.2.2.rows y.2.2.er) :: (log, W.listOf y.2.2.logs y.2.2.el) :: (lp, poolO nds e1) :: (lt, toldO nds e2) :: rest)
    (fun _ y => y.2.2.rows.size ≤ 1000 ∧ y.2.2.logs.size ≤ 1000) ⟨k, t, ⟨a, u, rows, logs, er, el⟩⟩ hR ?small ?sz rfl rfl rfl (Nat.lt_of_lt_of_le hpos up) kF kN ⟨hrs, hls⟩ ?off ?turn ?done ?hE
  case hE => passes_own
  case small => exact small_one (by omega) (by omega) (by omega) (by omega)
  case sz => rw [rangeSize_nat]; omega
  case off =>
    rintro i y - p hp
    have key : ∀ q o, (q, o) ∈ (row, W.listOf rows er) :: (log, W.listOf logs el) :: (lp, poolO nds e1) :: (lt, toldO nds e2) :: rest → q ≠ _ := fun q o hq => Nat.ne_of_lt (Heap.lt_size (kN (q, o) hq).1)
    rcases List.mem_cons.mp hp with rfl | hp
    · exact key _ _ (.head _)
    rcases List.mem_cons.mp hp with rfl | hp
    · exact key _ _ (.tail _ (.head _))
    exact key p.1 p.2 (.tail _ (.tail _ hp))
  case done =>
    rintro ⟨k', t', a', u', rows', logs', er', el'⟩ h' tk' pos' ⟨z1, z2⟩ F' N' sz'
    exact hret rows' logs' er' el' _ _ _ _ _ _ F' N' pos'
  rintro i tk9 ⟨k', t', a', u', rows', logs', er', el'⟩ h' tk' own pos' hi ⟨z1, z2⟩ ho F' N' sz'
  dsimp only [List.cons_append] at F' N' z1 z2 ⊢
  have srow := Heap.lt_size (kN (row, _) (.head _)).1
  have slog := Heap.lt_size (kN (log, _) (.tail _ (.head _))).1
  have own1 : ∀ p ∈ own, p.1 ≠ row ∧ p.1 ≠ log := by
    intro p hp
    rw [ho p hp]; exact ⟨Nat.ne_of_gt srow, Nat.ne_of_gt slog⟩
  have sub : ∀ p ∈ rest, p ∈ rest ++ own := fun p hp => List.mem_append_left _ hp
  obtain ⟨nd0, hnd0⟩ : ∃ nd0, nds[i]? = some nd0 := ⟨nds[i], List.getElem?_eq_getElem hi⟩
  refine turn3 w mean mg mb base h₀ L fa lp lt row log box lam sc olog obox olam lamL nds e1 e2 er' el' rows' logs' (rest ++ own) i tk9 xv nd0 t' a' u' _ _ B X T (k_in F') N' pos' (hP.mono sub) hlen hnd0 (sub _ hbox) (sub _ hcl) (sub _ hcb) hdl hdb (fun p hp => sub _ (hlamL p hp)) hlam hol hcal n1 n2 n3 (fun p hp => (List.mem_append.mp hp).elim (hr1 p) fun h => (own1 p h).1) (fun p hp => (List.mem_append.mp hp).elim (hr2 p) fun h => (own1 p h).2) z1 z2 ?_
  intro rows2 logs2 er2 el2 h2 tk2 t2 a2 v2 F2 N2 z3 z4
  exact ForSt.next (σ := Option Value × Option Value × IS3) (some (.int i tk9), t2, IS3.mk a2 v2 rows2 logs2 er2 el2) F2 N2 ⟨z3, z4⟩
end Mine

namespace Mine
structure L1S where
  x : Option Value
  p : Option Value
  kp : Option Value
  nm : Option Value
  nds : List Nd
  ext : List (Addr × Obj)
  e1 : Nat
  e2 : Nat
structure L1J (P : Params) (row lam lt : Addr) (rest : List (Addr × Obj)) (I i : Nat) (y : L1S) : Prop where
  pool : PoolOk P row lam (y.ext ++ rest) y.nds
  len : y.nds.length = 2 + i
  off : ∀ p ∈ y.ext, lt < p.1 ∧ p.1 ≠ I
theorem x_in {g h : Heap} {L : Addr} {M : PySem.Str → Option Value} {x p kp nm b : Option Value} (F : Fr g L h (fun y => if y = PySem.Str.ofString "x" then b else f1 M x p kp nm y)) : Fr g L h (f1 M b p kp nm) := by
  refine fr_eq F fun y => ?_
  by_cases h1 : y = PySem.Str.ofString "x"
  · subst h1; rfl
  simp only [f1, if_neg h1]
theorem f1_start {g h : Heap} {L row lp lt sc : Addr} {R : PySem.Str → Option Value} (F : Fr g L h (fun y => if y = PySem.Str.ofString "told" then some (.ref lt) else if y = PySem.Str.ofString "pool" then some (.ref lp) else if y = PySem.Str.ofString "row" then some (.ref row) else R y)) (hR : ∀ y, R y = if y = PySem.Str.ofString "script" then some (.ref sc) else none) : Fr g L h (f1 (mLaw row lp lt sc) none none none none) := by
  refine fr_eq F fun y => ?_
  by_cases h1 : y = PySem.Str.ofString "x"
  · subst h1; exact hR _
  by_cases h2 : y = PySem.Str.ofString "p"
  · subst h2; exact hR _
  by_cases h3 : y = PySem.Str.ofString "keeps"
  · subst h3; exact hR _
  by_cases h4 : y = PySem.Str.ofString "name"
  · subst h4; exact hR _
  simp only [f1, mLaw, if_neg h1, if_neg h2, if_neg h3, if_neg h4, hR]
theorem f2_start {g h : Heap} {L row lp lt sc : Addr} {x p kp nm : Option Value} (F : Fr g L h (f1 (mLaw row lp lt sc) x p kp nm)) : Fr g L h (f2 (mLaw2 x row lp lt sc) none none none ⟨nm, p, kp, none, none, none, none, none⟩) := by
  refine fr_eq F fun y => ?_
  by_cases h1 : y = PySem.Str.ofString "x"
  · subst h1; rfl
  by_cases h2 : y = PySem.Str.ofString "p"
  · subst h2; rfl
  by_cases h3 : y = PySem.Str.ofString "keeps"
  · subst h3; rfl
  by_cases h4 : y = PySem.Str.ofString "name"
  · subst h4; rfl
  by_cases h5 : y = PySem.Str.ofString "k"
  · subst h5; rfl
  by_cases h6 : y = PySem.Str.ofString "things"
  · subst h6; rfl
  by_cases h7 : y = PySem.Str.ofString "args"
  · subst h7; rfl
  by_cases h8 : y = PySem.Str.ofString "held"
  · subst h8; rfl
  by_cases h9 : y = PySem.Str.ofString "plain"
  · subst h9; rfl
  by_cases h10 : y = PySem.Str.ofString "j"
  · subst h10; rfl
  by_cases h11 : y = PySem.Str.ofString "got"
  · subst h11; rfl
  by_cases h12 : y = PySem.Str.ofString "due"
  · subst h12; rfl
  simp only [f1, f2, mLaw2, if_neg h1, if_neg h2, if_neg h3, if_neg h4, if_neg h5, if_neg h6, if_neg h7, if_neg h8, if_neg h9, if_neg h10, if_neg h11, if_neg h12]
theorem loop1 : ∀ (w : World) (mean : ExcName → Option Value) (mg mb : PySem.Str → Option Value) (base h₀ : Heap) (L fa lp lt row lam sc l : Addr) (nds : List Nd) (e1 e2 : Nat) (rest more : List (Addr × Obj)) (vs : List Value) (ns : List Int) (px : Pos) (s : Shared) (Q : Flow → Shared → Prop),
    Below callerA base [] h₀ → (hd03.heap_39 w.params).In h₀ → Top topProg (looseW hd03.view_39 [PySem.Str.ofString "_MultiCallMethod", PySem.Str.ofString "_Method"] ++ (recsOf hd03.view_39).map (fun x => x.name) ++ (litsOf hd03.view_39).map (fun x => x.1) ++ (clssOf hd03.view_39 (looseW hd03.view_39 [PySem.Str.ofString "_MultiCallMethod", PySem.Str.ofString "_Method"])).map (fun x => x.name)) mean mg mb h₀ →
    Fr h₀ L s.heap (f1 (mLaw row lp lt sc) none none none none) → News h₀ L s.heap ((lp, poolO nds e1) :: (lt, toldO nds e2) :: (rest ++ more)) → 0 < s.toks → PoolOk w.params row lam rest nds → nds.length = 2 → lp < lt → (∀ p ∈ rest ++ more, p.1 ≠ lp ∧ p.1 ≠ lt) →
    s.heap.IsList l vs.toArray → l ≠ L → lt < l → IntsAre vs ns → ns.length ≤ 18 →
    (∀ (y : L1S) h' tk', Fr h₀ L h' (f1 (mLaw row lp lt sc) y.x y.p y.kp y.nm) → News h₀ L h' ((lp, poolO y.nds y.e1) :: (lt, toldO y.nds y.e2) :: ((y.ext ++ rest) ++ more)) → PoolOk w.params row lam (y.ext ++ rest) y.nds → y.nds.length ≤ 20 → (∀ p ∈ y.ext, lt < p.1) → 0 < tk' → Q .next { s with heap := h', toks := tk' }) →
    wpAny (model Challenge.rw_dn0306_03.prog w) (callerA.deeper (env3 (fnScope lawDef3) L fa)) (pyIter (.ref l)) (fun it s₂ => codeAny (model Challenge.rw_dn0306_03.prog w) (callerA.deeper (env3 (fnScope lawDef3) L fa)) (.forLoop (.Name (PySem.Str.ofString "x") px) it (forBody law3[5]!) [] (env3 (fnScope lawDef3) L fa)) (forR (model Challenge.rw_dn0306_03.prog w) (callerA.deeper (env3 (fnScope lawDef3) L fa)) (env3 (fnScope lawDef3) L fa) Q (fun _ _ => False)) s₂) (fun _ _ => False) s := by
  intro w mean mg mb base h₀ L fa lp lt row lam sc l nds e1 e2 rest more vs ns px s Q B X T F N hpos hP hlen hlp hne hl hlL hll hI hns hret
  have slp := Heap.lt_size (N (lp, _) (.head _)).1
  have slt := Heap.lt_size (N (lt, _) (.tail _ (.head _))).1
  refine iterList_st2 (σ := L1S) (fun y => f1 (mLaw row lp lt sc) y.x y.p y.kp y.nm) (fun y => (lp, poolO y.nds y.e1) :: (lt, toldO y.nds y.e2) :: ((y.ext ++ rest) ++ more)) (L1J w.params row lam lt rest s.heap.objs.size) ⟨none, none, none, none, nds, [], e1, e2⟩ hl rfl rfl rfl hlL hpos F N ⟨hP, by rw [hlen], fun _ h => (nomatch h)⟩ ?off ?turn ?done ?hE
  case hE => passes_own
  case off =>
    intro i y hJ p hp
    rcases List.mem_cons.mp hp with rfl | hp
    · exact Nat.ne_of_lt slp
    rcases List.mem_cons.mp hp with rfl | hp
    · exact Nat.ne_of_lt slt
    rcases List.mem_append.mp hp with hp | hp
    · rcases List.mem_append.mp hp with hp | hp
      · exact (hJ.off p hp).2
      · exact Nat.ne_of_lt (Heap.lt_size (N p (.tail _ (.tail _ (List.mem_append_left _ hp)))).1)
    · exact Nat.ne_of_lt (Heap.lt_size (N p (.tail _ (.tail _ (List.mem_append_right _ hp)))).1)
  case done =>
    intro y h' tk' pos' hJ F' N' sz'
    exact hret y h' tk' F' N' hJ.pool (by rw [hJ.len, hI.length]; omega) (fun p hp => (hJ.off p hp).1) pos'
  rintro i v ⟨x, p, kp, nm, nds', ext, f1', f2'⟩ h' tk' own pos' hv hJ ho hIo F' N' sz'
  obtain ⟨n, tn, rfl, hin⟩ := hI.at i v hv
  have hi18 : i < 18 := by
    have := (List.getElem?_eq_some_iff.mp hin).1
    omega
  dsimp only [List.cons_append] at F' N' ⊢
  rw [List.append_assoc] at N'
  have hlen' := hJ.len
  dsimp only at hlen'
  obtain ⟨oI, hoI⟩ := hIo
  refine turn1 w mean mg mb base h₀ L fa lp lt row lam sc nds' f1' f2' (ext ++ rest) (more ++ own) n tn _ _ _ _ _ B X T (x_in F') N' pos' hJ.pool (by omega) hlp ?ne ?_
  case ne =>
    intro q hq
    rcases List.mem_append.mp hq with hq | hq
    · rcases List.mem_append.mp hq with hq | hq
      · have := (hJ.off q hq).1
        exact ⟨Nat.ne_of_gt (Nat.lt_trans hlp this), Nat.ne_of_gt this⟩
      · exact hne q (List.mem_append_left _ hq)
    rcases List.mem_append.mp hq with hq | hq
    · exact hne q (List.mem_append_right _ hq)
    rcases ho q hq with e | e
    · rw [e]; exact ⟨Nat.ne_of_gt slp, Nat.ne_of_gt slt⟩
    · rw [e]; exact ⟨Nat.ne_of_gt (Nat.lt_trans hlp hll), Nat.ne_of_gt hll⟩
  intro nd ext2 h2 tk2 v1 v2 v3 F2 N2 P2 hlt2
  refine ForSt.next (σ := L1S) (L1S.mk _ v1 v2 v3 (nds' ++ [nd]) (ext2 ++ ext) (f1' + 1) (f2' + 1)) F2 ?_ ⟨?_, ?_, ?_⟩
  · rw [List.cons_append, List.cons_append, List.append_assoc ext2, List.append_assoc (ext2 ++ (ext ++ rest)), List.append_assoc ext2]; exact N2
  · dsimp only; rw [List.append_assoc]; exact P2
  · dsimp only; rw [List.length_append, List.length_singleton, hlen']; omega
  · intro q hq
    rcases List.mem_append.mp hq with hq | hq
    · exact ⟨(hlt2 q hq).1, Nat.ne_of_gt ((hlt2 q hq).2 _ (List.mem_append_right _ hoI))⟩
    · exact hJ.off q hq
end Mine

namespace Mine
theorem lam_ok2 {w : World} {log box f c clog cbox : Addr} {oc olog obox : Obj} {q : PySem.Str} {pm ct : Value} {vs : Array Value} {tq : Tok} {p : Arguments} {b : Expr} {sc : Scope} (e : lam3 = (p, b, sc)) (hc : oc.data = .fields vs) (hc2 : vs[1]? = some (.str q tq)) (h1 : olog.data = .cell (some (.ref log))) (h2 : obox.data = .cell (some (.ref box))) :
    LamOk w log f box [(f, kla_obj (PySem.Str.ofString "<lambda>") q p b sc [(PySem.Str.ofString "log", clog), (PySem.Str.ofString "box", cbox)] pm c ct), (c, oc), (clog, olog), (cbox, obox)] := by
  have := lam_ok w log box f c clog cbox oc olog obox q pm ct vs tq hc hc2 h1 h2
  rw [e] at this
  exact this
abbrev rest3 (P : Params) (D D1 l lt0 lt1 x0 x1 d0 d1 f c q L row box : Addr) (oD oD1 ol of oc olog obox oq : Obj) (a1 a2 a3 b1 b2 b3 t1 t2 u1 u2 : Tok) : List (Addr × Obj) :=
  [(D, oD), (D1, oD1), (l, ol), (lt1, W.listOf #[.str (PySem.Str.ofString "call") t1, .int 1 t2, .bool false] 0), (lt0, W.listOf #[.str (PySem.Str.ofString "list") u1, .int 0 u2, .bool true] 0),
    (x1, instObj 80 d1), (d1, methD P (.ref f) (PySem.Str.ofString "call") a1 a2 a3), (f, of), (c, oc), (x0, instObj 45 d0), (d0, multD P (.ref row) (PySem.Str.ofString "list") b1 b2 b3), (box, W.listOf #[] 0), (L + 1 + 1, olog), (L + 1, obox), (q, oq)]
theorem start3 {w : World} {mean : ExcName → Option Value} {mg mb : PySem.Str → Option Value} {base h₀ : Heap} {L fa lp lt row log box sc D D1 l lt0 lt1 x0 x1 d0 d1 f c q : Addr} {oD1 ol of oc olog obox oq : Obj} {vs : List Value} {ns : List Int} {a1 a2 a3 b1 b2 b3 t1 t2 u1 u2 : Tok} {px : Pos} {s : Shared} {Q : Flow → Shared → Prop} {R : PySem.Str → Option Value}
    (B : Below callerA base [] h₀) (X : (hd03.heap_39 w.params).In h₀) (T : Top topProg (looseW hd03.view_39 [PySem.Str.ofString "_MultiCallMethod", PySem.Str.ofString "_Method"] ++ (recsOf hd03.view_39).map (fun x => x.name) ++ (litsOf hd03.view_39).map (fun x => x.1) ++ (clssOf hd03.view_39 (looseW hd03.view_39 [PySem.Str.ofString "_MultiCallMethod", PySem.Str.ofString "_Method"])).map (fun x => x.name)) mean mg mb h₀)
    (F : Fr h₀ L s.heap (fun y => if y = PySem.Str.ofString "told" then some (.ref lt) else if y = PySem.Str.ofString "pool" then some (.ref lp) else if y = PySem.Str.ofString "row" then some (.ref row) else R y)) (hR : ∀ y, R y = if y = PySem.Str.ofString "script" then some (.ref sc) else none)
    (N : News h₀ L s.heap [(D, W.listOf vs.toArray 0), (D1, oD1), (l, ol), (lt, W.listOf #[.ref lt0, .ref lt1] 0), (lt1, W.listOf #[.str (PySem.Str.ofString "call") t1, .int 1 t2, .bool false] 0), (lt0, W.listOf #[.str (PySem.Str.ofString "list") u1, .int 0 u2, .bool true] 0), (lp, W.listOf #[.ref x0, .ref x1] 0),
      (x1, instObj 80 d1), (d1, methD w.params (.ref f) (PySem.Str.ofString "call") a1 a2 a3), (f, of), (c, oc), (x0, instObj 45 d0), (d0, multD w.params (.ref row) (PySem.Str.ofString "list") b1 b2 b3), (box, W.listOf #[] 0), (log, W.listOf #[] 0), (row, W.listOf #[] 0), (L + 1 + 1, olog), (L + 1, obox), (q, oq)])
    (hpos : 0 < s.toks) (hI : IntsAre vs ns) (hns : ns.length ≤ 18)
    (o1 : q < L) (o2 : L + 1 + 1 < row) (o3 : row < log) (o4 : log < box) (o5 : box < d0) (o6 : d0 < x0) (o7 : x0 < c) (o8 : c < f) (o9 : f < d1) (o10 : d1 < x1) (o11 : x1 < lp) (o12 : lp < lt0) (o13 : lt0 < lt1) (o14 : lt1 < lt) (o15 : lt < l) (o16 : l < D1) (o17 : D1 < D)
    (hret : ∀ (y : L1S) rest h' tk', Fr h₀ L h' (f2 (mLaw2 y.x row lp lt sc) none none none ⟨y.nm, y.p, y.kp, none, none, none, none, none⟩) → News h₀ L h' ((row, W.listOf #[] 0) :: (log, W.listOf #[] 0) :: (lp, poolO y.nds y.e1) :: (lt, toldO y.nds y.e2) :: rest) →
      PoolOk w.params row f rest y.nds → y.nds.length ≤ 20 → (box, W.listOf #[] 0) ∈ rest → (L + 1 + 1, olog) ∈ rest → (L + 1, obox) ∈ rest → (∀ p ∈ [(f, of), (c, oc), (L + 1 + 1, olog), (L + 1, obox)], p ∈ rest) → (q, oq) ∈ rest → row < log → log < lp → lp < lt → (∀ p ∈ rest, p.1 ≠ row) → (∀ p ∈ rest, p.1 ≠ log) → 0 < tk' → Q .next { s with heap := h', toks := tk' }) :
    wpAny (model Challenge.rw_dn0306_03.prog w) (callerA.deeper (env3 (fnScope lawDef3) L fa)) (pyIter (.ref D)) (fun it s₂ => codeAny (model Challenge.rw_dn0306_03.prog w) (callerA.deeper (env3 (fnScope lawDef3) L fa)) (.forLoop (.Name (PySem.Str.ofString "x") px) it (forBody law3[5]!) [] (env3 (fnScope lawDef3) L fa)) (forR (model Challenge.rw_dn0306_03.prog w) (callerA.deeper (env3 (fnScope lawDef3) L fa)) (env3 (fnScope lawDef3) L fa) Q (fun _ _ => False)) s₂) (fun _ _ => False) s := by
  have N' : News h₀ L s.heap ((lp, poolO [⟨PySem.Str.ofString "list", 0, true, [(true, PySem.Str.ofString "list")], x0, lt0⟩, ⟨PySem.Str.ofString "call", 1, false, [(false, PySem.Str.ofString "call")], x1, lt1⟩] 0) :: (lt, toldO [⟨PySem.Str.ofString "list", 0, true, [(true, PySem.Str.ofString "list")], x0, lt0⟩, ⟨PySem.Str.ofString "call", 1, false, [(false, PySem.Str.ofString "call")], x1, lt1⟩] 0) ::
      (rest3 w.params D D1 l lt0 lt1 x0 x1 d0 d1 f c q L row box (W.listOf vs.toArray 0) oD1 ol of oc olog obox oq a1 a2 a3 b1 b2 b3 t1 t2 u1 u2 ++ [(row, W.listOf #[] 0), (log, W.listOf #[] 0)])) := by
    refine news_sub N ?_
    intro p hp
    simp only [rest3, List.cons_append, List.nil_append, List.mem_cons, List.not_mem_nil, or_false] at hp ⊢
    rcases hp with h | h | h | h | h | h | h | h | h | h | h | h | h | h | h | h | h | h | h <;> simp [h, poolO, toldO]
  have e2 := ltN o2
  replace o1 := ltN o1; replace o3 := ltN o3; replace o4 := ltN o4; replace o5 := ltN o5; replace o6 := ltN o6; replace o7 := ltN o7; replace o8 := ltN o8; replace o9 := ltN o9; replace o10 := ltN o10
  replace o11 := ltN o11; replace o12 := ltN o12; replace o13 := ltN o13; replace o14 := ltN o14; replace o15 := ltN o15; replace o16 := ltN o16; replace o17 := ltN o17
  have ne : ∀ p ∈ rest3 w.params D D1 l lt0 lt1 x0 x1 d0 d1 f c q L row box (W.listOf vs.toArray 0) oD1 ol of oc olog obox oq a1 a2 a3 b1 b2 b3 t1 t2 u1 u2 ++ [(row, W.listOf #[] 0), (log, W.listOf #[] 0)], p.1 ≠ lp ∧ p.1 ≠ lt := by
    intro p hp
    simp only [rest3, List.cons_append, List.nil_append, List.mem_cons, List.not_mem_nil, or_false] at hp
    rcases hp with h | h | h | h | h | h | h | h | h | h | h | h | h | h | h | h | h <;> subst h <;> dsimp only <;> constructor <;> (intro e; subst e; omega)
  have ne2 : ∀ p ∈ rest3 w.params D D1 l lt0 lt1 x0 x1 d0 d1 f c q L row box (W.listOf vs.toArray 0) oD1 ol of oc olog obox oq a1 a2 a3 b1 b2 b3 t1 t2 u1 u2, p.1 ≠ row ∧ p.1 ≠ log := by
    intro p hp
    simp only [rest3, List.cons_append, List.nil_append, List.mem_cons, List.not_mem_nil, or_false] at hp
    rcases hp with h | h | h | h | h | h | h | h | h | h | h | h | h | h | h <;> subst h <;> dsimp only <;> constructor <;> (intro e; subst e; omega)
  have hlL : D ≠ L := (N (D, _) (.head _)).2.1
  refine loop1 w mean mg mb base h₀ L fa lp lt row f sc D _ 0 0 _ _ vs ns px s Q B X T (f1_start F hR) N' hpos ?pool rfl (Nat.lt_trans o12 (Nat.lt_trans o13 o14)) ne (News.isList N (.head _)) hlL (Nat.lt_trans o15 (Nat.lt_trans o16 o17)) hI hns ?_
  case pool =>
    refine ⟨Nat.le_refl _, fun i nd h => ?_⟩
    rcases i with _ | _ | i
    · cases h
      exact ⟨.row (.tail _ (.tail _ (.tail _ (.tail _ (.tail _ (.tail _ (.tail _ (.tail _ (.tail _ (.head _)))))))))) (.tail _ (.tail _ (.tail _ (.tail _ (.tail _ (.tail _ (.tail _ (.tail _ (.tail _ (.tail _ (.head _))))))))))), ⟨u1, u2, .tail _ (.tail _ (.tail _ (.tail _ (.head _))))⟩, (by decide : (PySem.Str.ofString "list").length ≤ 10), (by decide +kernel : PyData.strOk (PySem.Str.ofString "list") = true), fun _ => ⟨rfl, rfl⟩, fun h => absurd h (by decide)⟩
    · cases h
      exact ⟨.lam (.tail _ (.tail _ (.tail _ (.tail _ (.tail _ (.head _)))))) (.tail _ (.tail _ (.tail _ (.tail _ (.tail _ (.tail _ (.head _))))))), ⟨t1, t2, .tail _ (.tail _ (.tail _ (.head _)))⟩, (by decide : (PySem.Str.ofString "call").length ≤ 10), (by decide +kernel : PyData.strOk (PySem.Str.ofString "call") = true), fun _ => ⟨rfl, rfl⟩, fun h => absurd h (by decide)⟩
    · exact absurd h (by simp)
  intro y h' tk' F2 N2 P2 l2 off2 pos2
  have k1 : row < lt := by show @LT.lt Nat _ row lt; omega
  have k2 : log < lt := by show @LT.lt Nat _ log lt; omega
  have k3 : log < lp := by show @LT.lt Nat _ log lp; omega
  have k4 : lp < lt := by show @LT.lt Nat _ lp lt; omega
  refine hret y _ h' tk' (f2_start F2) (news_sub N2 ?_) P2 l2 (List.mem_append_right _ (.tail _ (.tail _ (.tail _ (.tail _ (.tail _ (.tail _ (.tail _ (.tail _ (.tail _ (.tail _ (.tail _ (.head _))))))))))))) (List.mem_append_right _ (.tail _ (.tail _ (.tail _ (.tail _ (.tail _ (.tail _ (.tail _ (.tail _ (.tail _ (.tail _ (.tail _ (.tail _ (.head _)))))))))))))) (List.mem_append_right _ (.tail _ (.tail _ (.tail _ (.tail _ (.tail _ (.tail _ (.tail _ (.tail _ (.tail _ (.tail _ (.tail _ (.tail _ (.tail _ (.head _))))))))))))))) ?lamL (List.mem_append_right _ (.tail _ (.tail _ (.tail _ (.tail _ (.tail _ (.tail _ (.tail _ (.tail _ (.tail _ (.tail _ (.tail _ (.tail _ (.tail _ (.tail _ (.head _)))))))))))))))) o3 k3 k4 ?_ ?_ pos2
  case lamL =>
    intro p hp
    refine List.mem_append_right _ ?_
    simp only [List.mem_cons, List.not_mem_nil, or_false] at hp
    rcases hp with rfl | rfl | rfl | rfl
    · exact .tail _ (.tail _ (.tail _ (.tail _ (.tail _ (.tail _ (.tail _ (.head _)))))))
    · exact .tail _ (.tail _ (.tail _ (.tail _ (.tail _ (.tail _ (.tail _ (.tail _ (.head _))))))))
    · exact .tail _ (.tail _ (.tail _ (.tail _ (.tail _ (.tail _ (.tail _ (.tail _ (.tail _ (.tail _ (.tail _ (.tail _ (.head _))))))))))))
    · exact .tail _ (.tail _ (.tail _ (.tail _ (.tail _ (.tail _ (.tail _ (.tail _ (.tail _ (.tail _ (.tail _ (.tail _ (.tail _ (.head _)))))))))))))
  · intro p hp
    rcases List.mem_cons.mp hp with rfl | hp
    · exact .tail _ (.tail _ (List.mem_append_right _ (.head _)))
    rcases List.mem_cons.mp hp with rfl | hp
    · exact .tail _ (.tail _ (List.mem_append_right _ (.tail _ (.head _))))
    rcases List.mem_cons.mp hp with rfl | hp
    · exact .head _
    rcases List.mem_cons.mp hp with rfl | hp
    · exact .tail _ (.head _)
    exact .tail _ (.tail _ (List.mem_append_left _ hp))
  · intro p hp
    rcases List.mem_append.mp hp with hp | hp
    · exact Nat.ne_of_gt (Nat.lt_trans k1 (off2 p hp))
    · exact (ne2 p hp).1
  · intro p hp
    rcases List.mem_append.mp hp with hp | hp
    · exact Nat.ne_of_gt (Nat.lt_trans k2 (off2 p hp))
    · exact (ne2 p hp).2
end Mine

namespace Mine
local macro_rules | `(tactic| walk_at "execs cons") => `(tactic| (refine genToks ?_ (by omega); intro k9 p9))
local macro_rules | `(tactic| walk_at "execs nil") => `(tactic| (refine genToks ?_ (by omega); intro k9 p9))
local macro_rules | `(tactic| walk_at "execs cons") => `(tactic| ((with_reducible show wpAny _ _ _ _ _ (Shared.mk _ _ _ (Shared.toks _) _)); dsimp only))
local macro_rules | `(tactic| walk_at "execs nil") => `(tactic| ((with_reducible show wpAny _ _ _ _ _ (Shared.mk _ _ _ (Shared.toks _) _)); dsimp only))
local macro_rules | `(tactic| walk_at "exec For Name BinOp cons nil") => `(tactic| refine Halt.go ?_)
local macro_rules | `(tactic| walk_at "exec For Name Call cons nil") => `(tactic| refine Halt.go ?_)
local macro_rules | `(tactic| walk_at "pyIter ref") => `(tactic| refine Halt.go ?_)
local macro_rules | `(tactic| walk_at "mine") => `(tactic| repeat' (first | (k_unfold; (try dsimp only)) | walk1 | (dsimp only; walk1) | (leave1; try dsimp only) | fail "no step"))
theorem law_holds : PySem.Challenge.rw_dn0306_03.Holds := hd03 (by
  k_go0
  refine never ?_
  (all_goals try k_fold)
  walk_at "mine"
  refine wpAny_For ?_ (by intro _; rfl)
  walk_at "mine"
  show wpAny _ _ _ _ _ _
  rename Fr _ _ _ _ => kF
  rename News _ _ _ _ => kN
  refine start3 (sc := ?sc) (by k_asm) (by k_asm) (by k_asm) kF ?hR kN ?hp (by assumption) ?hns ?o1 ?o2 ?o3 ?o4 ?o5 ?o6 ?o7 ?o8 ?o9 ?o10 ?o11 ?o12 ?o13 ?o14 ?o15 ?o16 ?o17 ?_
  case hp => first | exact Nat.succ_pos _ | (dsimp only; omega)
  case o1 => assumption
  case o2 => exact And.left (by assumption)
  case o3 => exact And.left (by assumption)
  case o4 => exact And.left (by assumption)
  case o5 => exact And.left (by assumption)
  case o6 => assumption
  case o7 => exact And.left (by assumption)
  case o8 => assumption
  case o9 => exact And.left (by assumption)
  case o10 => assumption
  case o11 => exact And.left (by assumption)
  case o12 => exact And.left (by assumption)
  case o13 => exact And.left (by assumption)
  case o14 => exact And.left (by assumption)
  case o15 => exact And.left (by assumption)
  case o16 => exact And.left (by assumption)
  case o17 => exact And.left (by assumption)
  case hR => exact fun y => (by with_unfolding_all rfl)
  case hns => rw [List.length_append, List.length_take]; simp only [List.length_cons, List.length_nil]; omega
  intro y rest h' tk' F2 N2 P2 len2 mbox mlog mbox2 mlam mq k3 k4 k5 off1 off2 pos2
  walk_at "mine"
  show wpAny _ _ _ _ _ _
  refine loop2 _ _ _ _ _ _ _ _ _ _ _ _ _ _ _ _ _ _ _ _ _ _ _ _ _ _ _ _ _ _ _ _ _ _ (by k_asm) (by k_asm) (by k_asm) F2 N2 pos2 P2 len2 mbox mlog mbox2 ?c1 ?c2 mlam ?lam (.head _) (.inr ⟨_, rfl⟩) k3 k4 k5 off1 off2 (Nat.zero_le _) (Nat.zero_le _) ?_
  case c1 => assumption
  case c2 => assumption
  case lam => refine' lam_ok2 ?lamE ?lamC ?lamD ?lamF ?lamG; (case lamE => exact rfl); (case lamC => assumption); (case lamD => assumption); (case lamF => assumption); (case lamG => assumption)
  intro rows' logs' er' el' h3 tk3 k' t' a' v F3 N3 pos3
  clear N2 F2 kN
  dsimp only
  walk1
  walk1
  walk1
  walk1
  · k_steps
  · exact ⟨GrownAt.of N3 (.tail _ (.tail _ (.tail _ (.tail _ mq)))), trivial⟩)
end Mine

theorem PySem.Challenge.cw_dn0306_03_holds : PySem.Challenge.rw_dn0306_03.Holds := by
  exact Mine.law_holds
