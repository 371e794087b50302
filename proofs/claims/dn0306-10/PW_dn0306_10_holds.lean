import PyProof.Rows.All
import Wide.All
import OpenK.AllK
import Wide.FinOn
import PySem.Challenge.RW_dn0306_10
open PySem PySem.W PyProof.Rows
set_option Elab.async false
set_option maxRecDepth 100000
set_option maxHeartbeats 8000000
namespace Mine
def Up (s s' : Shared) : Prop := s.toks ≤ s'.toks ∧ s.heap.objs.size ≤ s'.heap.objs.size
theorem Up.refl (s : Shared) : Up s s := ⟨Nat.le_refl _, Nat.le_refl _⟩
theorem Up.trans {a b c : Shared} (h : Up a b) (k : Up b c) : Up a c := ⟨Nat.le_trans h.1 k.1, Nat.le_trans h.2 k.2⟩
theorem size_update (h : Heap) (a : Addr) (f : Obj → Obj) : (h.update a f).objs.size = h.objs.size := by
  cases h; simp [Heap.update]
theorem size_push (h : Heap) (o : Obj) : (h.push o).objs.size = h.objs.size + 1 := by
  cases h; simp [Heap.push]
theorem runs_up {M : Model} {Γ : Ctx} {p : Pos} {t : Sem Fin} {fs : List Frame} {s : Shared} {e : End} {s' : Shared} (r : Runs M Γ p t fs s e s') : Up s s' := by
  induction r with
  | done => exact Up.refl _
  | raise => exact Up.refl _
  | yield => exact Up.refl _
  | again _ _ ih => exact ih
  | rule _ ih => exact ih
  | «at» _ ih => exact ih
  | load _ _ ih => exact ih
  | update _ _ ih => exact ⟨ih.1, by have := ih.2; rw [size_update] at this; exact this⟩
  | loadIfAlive _ ih => exact ih
  | point _ ih => exact ih
  | alloc _ ih => exact ⟨ih.1, by have := ih.2; rw [size_push] at this; omega⟩
  | fresh _ ih => exact ⟨Nat.le_trans (Nat.le_succ _) ih.1, ih.2⟩
  | ask _ ih => exact ih
  | choose _ _ ih => exact ih
  | os _ ih => exact ih
  | handled _ ih => exact ih
  | genState _ _ ih => exact ih
  | stack _ ih => exact ih
  | thread _ ih => exact ih
  | newGen _ ih => exact ih
  | call _ _ i1 i2 => exact Up.trans i1 i2
  | callSusp _ ih => exact ih
  | resumeFresh _ _ _ _ i1 i2 => exact Up.trans i1 i2
  | resumeSuspended _ _ _ _ i1 i2 => exact Up.trans i1 i2
  | resumeJustStarted _ _ _ ih => exact ih
  | resumeThrowFresh _ _ ih => exact ih
  | resumeRunning _ _ ih => exact ih
  | resumeFinished _ _ ih => exact ih
  | segRet _ _ i1 i2 => exact Up.trans i1 i2
  | segGen _ _ i1 i2 => exact Up.trans i1 i2
  | segSuspOut _ _ ih => exact ih
  | segSuspGen _ _ _ _ i1 i2 => exact Up.trans i1 i2
theorem wakes_up {M : Model} {Γ : Ctx} {p : Pos} {g : Nat} {r : Resume} {s : Shared} {res : GenResult} {s' : Shared} (h : Wakes M Γ p g r s res s') : Up s s' := by
  unfold Wakes at h
  split at h
  · exact h.elim
  · split at h
    · obtain ⟨e, s₁, h1, _, _, rfl⟩ := h; have u := runs_up h1; exact ⟨u.1, u.2⟩
    · obtain ⟨_, rfl⟩ := h; exact Up.refl _
    · obtain ⟨_, rfl⟩ := h; exact Up.refl _
  · obtain ⟨e, s₁, h1, _, _, rfl⟩ := h; have u := runs_up h1; exact ⟨u.1, u.2⟩
  · obtain ⟨_, rfl⟩ := h; exact Up.refl _
  · obtain ⟨_, rfl⟩ := h; exact Up.refl _
theorem wp_up {α : Type} {M : Model} {Γ : Ctx} {t : Sem α} : ∀ {Q : α → Pos → Shared → Prop} {E : Value → Pos → Shared → Prop} {p : Pos} {s s₀ : Shared}, Up s₀ s →
    Sem.wp M Γ t (fun a p' s' => Up s₀ s' → Q a p' s') (fun e p' s' => Up s₀ s' → E e p' s') p s → Sem.wp M Γ t Q E p s := by
  induction t with
  | pure a => intro Q E p s s₀ u h; exact h u
  | raise e => intro Q E p s s₀ u h; exact h u
  | update a part f k ih =>
    intro Q E p s s₀ u h
    rw [Sem.wp_update] at h ⊢
    exact ⟨h.1, ih () (Up.trans u ⟨Nat.le_refl _, by show _ ≤ (s.heap.update a f).objs.size; rw [size_update]; exact Nat.le_refl _⟩) h.2⟩
  | alloc o k ih =>
    intro Q E p s s₀ u h
    rw [Sem.wp_alloc] at h ⊢
    exact ih _ (Up.trans u ⟨Nat.le_refl _, by show _ ≤ (s.heap.push o).objs.size; rw [size_push]; exact Nat.le_succ _⟩) h
  | fresh k ih =>
    intro Q E p s s₀ u h
    rw [Sem.wp_fresh] at h ⊢
    exact ih _ (Up.trans u ⟨Nat.le_succ _, Nat.le_refl _⟩) h
  | load a part k ih => intro Q E p s s₀ u h; rw [Sem.wp_load] at h ⊢; obtain ⟨o, h1, h2⟩ := h; exact ⟨o, h1, ih o u h2⟩
  | choose src n k ih => intro Q E p s s₀ u h; rw [Sem.wp_choose] at h ⊢; exact ⟨h.1, ih _ (Up.trans u (Up.refl _)) h.2⟩
  | genState g k ih => intro Q E p s s₀ u h; rw [Sem.wp_genState] at h ⊢; obtain ⟨o, h1, h2⟩ := h; exact ⟨o, h1, ih _ u h2⟩
  | call c hh g l k ih =>
    intro Q E p s s₀ u h
    rw [Sem.wp_call] at h ⊢
    obtain ⟨r, s', h1, h2⟩ := h
    exact ⟨r, s', h1, ih r (Up.trans u (runs_up h1)) h2⟩
  | resume g r l k ih =>
    intro Q E p s s₀ u h
    rw [Sem.wp_resume] at h ⊢
    obtain ⟨r, s', h1, h2⟩ := h
    exact ⟨r, s', h1, ih r (Up.trans u (wakes_up h1)) h2⟩
  | rule tag k ih => intro Q E p s s₀ u h; rw [Sem.wp_rule] at h ⊢; exact ih _ u h
  | «at» q k ih => intro Q E p s s₀ u h; rw [Sem.wp_at] at h ⊢; exact ih _ u h
  | loadIfAlive q k ih => intro Q E p s s₀ u h; rw [Sem.wp_loadIfAlive] at h ⊢; exact ih _ u h
  | point q k ih => intro Q E p s s₀ u h; rw [Sem.wp_point] at h ⊢; exact ih _ u h
  | ask k ih => intro Q E p s s₀ u h; rw [Sem.wp_ask] at h ⊢; exact ih _ u h
  | os q l k ih => intro Q E p s s₀ u h; rw [Sem.wp_os] at h ⊢; exact ih _ (Up.trans u (Up.refl _)) h
  | handled q k ih => intro Q E p s s₀ u h; rw [Sem.wp_handled] at h ⊢; exact ih _ u h
  | newGen q k ih => intro Q E p s s₀ u h; rw [Sem.wp_newGen] at h ⊢; exact ih _ (Up.trans u (Up.refl _)) h
  | stack k ih => intro Q E p s s₀ u h; rw [Sem.wp_stack] at h ⊢; exact ih _ u h
  | thread k ih => intro Q E p s s₀ u h; rw [Sem.wp_thread] at h ⊢; exact ih _ u h
  | unsupported => intro Q E p s s₀ u h; rw [Sem.wp_unsupported] at h; exact h.elim
  | finish => intro Q E p s s₀ u h; rw [Sem.wp_finish] at h; exact h.elim
  | register => intro Q E p s s₀ u h; rw [Sem.wp_register] at h; exact h.elim
  | yield => intro Q E p s s₀ u h; rw [Sem.wp_yield] at h; exact h.elim
  | fork => intro Q E p s s₀ u h; rw [Sem.wp_fork] at h; exact h.elim
  | await => intro Q E p s s₀ u h; rw [Sem.wp_await] at h; exact h.elim
theorem any_up {α : Type} {M : Model} {A : Around} {t : Sem α} {Q : α → Shared → Prop} {E : Value → Shared → Prop} {s : Shared}
    (h : wpAny M A t (fun a s' => Up s s' → Q a s') (fun e s' => Up s s' → E e s') s) : wpAny M A t Q E s :=
  fun Γ p hΓ => wp_up (Up.refl s) (h Γ p hΓ)
end Mine

namespace Mine
def Halt (P : Prop) : Prop := P
theorem Halt.go {P : Prop} (h : Halt P) : P := h
theorem genToks {α : Type} {M : Model} {A : Around} {t : Sem α} {Q : α → Shared → Prop} {E : Value → Shared → Prop} {hp : Heap} {g : Array GenState} {d : Drawn} {a b : Nat} {os : OsState}
    (h : ∀ k, 0 < k → wpAny M A t Q E ⟨hp, g, d, k, os⟩) (hpos : 0 < a + b) : wpAny M A t Q E ⟨hp, g, d, a + b, os⟩ := h _ hpos
end Mine

namespace Mine
theorem never {α : Type} {M : Model} {A : Around} {t : Sem α} {Q : α → Shared → Prop} {E : Value → Shared → Prop} {s : Shared} (h : wpAny M A t Q (fun _ _ => False) s) : wpAny M A t Q E s :=
  wpAny_mono h (fun _ _ x => x) fun _ _ x => x.elim
theorem fr_eq {h₀ h : Heap} {L : Addr} {m m' : PySem.Str → Option Value} (F : Fr h₀ L h m) (e : ∀ y, m y = m' y) : Fr h₀ L h m' := (funext e : m = m') ▸ F
theorem news_sub {h₀ h : Heap} {L : Addr} {n n' : List (Addr × Obj)} (N : News h₀ L h n) (e : ∀ p ∈ n', p ∈ n) : News h₀ L h n' := fun p hp => N p (e p hp)

def StepSt {σ : Type} (h₀ : Heap) (L : Addr) (fm : σ → PySem.Str → Option Value) (lg : σ → List (Addr × Obj)) (J : σ → Prop) (μ : σ → Nat) (x : σ) (s : Shared) (Q : Flow → Shared → Prop) (f : Flow) (s₃ : Shared) : Prop :=
  match f with
  | .next | .cont => ∃ y h' tk, s₃ = { s with heap := h', toks := tk } ∧ Fr h₀ L h' (fm y) ∧ News h₀ L h' (lg y) ∧ J y ∧ μ y < μ x
  | .brk => Q .next s₃
  | .ret v => Q (.ret v) s₃
theorem StepSt.next {σ : Type} {h₀ : Heap} {L : Addr} {fm : σ → PySem.Str → Option Value} {lg : σ → List (Addr × Obj)} {J : σ → Prop} {μ : σ → Nat} {x : σ} {s : Shared} {Q : Flow → Shared → Prop} (y : σ) {h' : Heap} {tk : Nat}
    (F : Fr h₀ L h' (fm y)) (N : News h₀ L h' (lg y)) (hJ : J y) (hm : μ y < μ x) : StepSt h₀ L fm lg J μ x s Q .next { s with heap := h', toks := tk } := ⟨y, h', tk, rfl, F, N, hJ, hm⟩

theorem While_st {σ : Type} {prog : Program} {w : World} {A : Around} {E : Value → Shared → Prop} {Q : Flow → Shared → Prop} {s : Shared} {env : Env} {h₀ : Heap} {L : Addr} {test : Expr} {body : List Stmt} {pos : Pos}
    (fm : σ → PySem.Str → Option Value) (lg : σ → List (Addr × Obj)) (J : σ → Prop) (μ : σ → Nat) (x₀ : σ)
    (hpos : 0 < s.toks) (F : Fr h₀ L s.heap (fm x₀)) (N : News h₀ L s.heap (lg x₀)) (hJ : J x₀)
    (turn : ∀ x h₁ tk₁, 0 < tk₁ → J x → Fr h₀ L h₁ (fm x) → News h₀ L h₁ (lg x) → s.heap.objs.size ≤ h₁.objs.size →
      wpAny (model prog w) A (isTrue test env (eval test env)) (fun b s₂ =>
        if b = true then wpAny (model prog w) A (execs body env) (StepSt h₀ L fm lg J μ x s Q) E s₂ else Q .next s₂) E { s with heap := h₁, toks := tk₁ })
    (hE : PassesOwn (model prog w) A env E := by passes_own) :
    wpAny (model prog w) A (exec (.While test body [] pos) env) Q E s := by
  refine wpAny_While (codeAny_whileLoop (fun n s' => ∃ x h₁ tk₁, s' = { s with heap := h₁, toks := tk₁ } ∧ 0 < tk₁ ∧ J x ∧ Fr h₀ L h₁ (fm x) ∧ News h₀ L h₁ (lg x) ∧ s.heap.objs.size ≤ h₁.objs.size ∧ μ x = n) ?_ (μ x₀) ⟨x₀, s.heap, s.toks, rfl, hpos, hJ, F, N, Nat.le_refl _, rfl⟩)
  rintro n s' ⟨x, h₁, tk₁, rfl, p₁, J₁, F₁, N₁, z₁, rfl⟩
  refine any_up (wpAny_mono (turn x h₁ tk₁ p₁ J₁ F₁ N₁ z₁) (fun b s₂ h₂ up => ?_) fun e s₂ h₂ up => hE e s₂ h₂)
  cases b with
  | false =>
    simp only [Bool.false_eq_true, if_false] at h₂ ⊢
    exact wpAny_execs_nil h₂
  | true =>
    simp only [if_true] at h₂ ⊢
    refine any_up (wpAny_mono h₂ (fun f s₃ h₃ up₃ => ?_) fun e s₂ h₂ up => hE e s₂ h₂)
    have up' := up.trans up₃
    have key : (∃ y h' tk, s₃ = { s with heap := h', toks := tk } ∧ Fr h₀ L h' (fm y) ∧ News h₀ L h' (lg y) ∧ J y ∧ μ y < μ x) →
        ∃ m, m < μ x ∧ ∃ x h₁ tk₁, s₃ = { s with heap := h₁, toks := tk₁ } ∧ 0 < tk₁ ∧ J x ∧ Fr h₀ L h₁ (fm x) ∧ News h₀ L h₁ (lg x) ∧ s.heap.objs.size ≤ h₁.objs.size ∧ μ x = m := by
      rintro ⟨y, h', tk, rfl, F₂, N₂, J₂, hm⟩
      have u1 : tk₁ ≤ tk := up'.1
      have u2 : h₁.objs.size ≤ h'.objs.size := up'.2
      exact ⟨μ y, hm, y, h', tk, rfl, by omega, J₂, F₂, N₂, by omega, rfl⟩
    cases f with
    | next => exact key h₃
    | cont => exact key h₃
    | brk => exact h₃
    | ret v => exact h₃
end Mine

namespace Mine
def ForSt {σ : Type} (h₀ : Heap) (L : Addr) (fm : σ → PySem.Str → Option Value) (lg : σ → List (Addr × Obj)) (own : List (Addr × Obj)) (J : σ → Prop) (s : Shared) (Q : Flow → Shared → Prop) (f : Flow) (s₃ : Shared) : Prop :=
  match f with
  | .next | .cont => ∃ y h' tk, s₃ = { s with heap := h', toks := tk } ∧ Fr h₀ L h' (fm y) ∧ News h₀ L h' (lg y ++ own) ∧ J y
  | .brk => Q .next s₃
  | .ret v => Q (.ret v) s₃
theorem ForSt.next {σ : Type} {h₀ : Heap} {L : Addr} {fm : σ → PySem.Str → Option Value} {lg : σ → List (Addr × Obj)} {own : List (Addr × Obj)} {J : σ → Prop} {s : Shared} {Q : Flow → Shared → Prop} (y : σ) {h' : Heap} {tk : Nat}
    (F : Fr h₀ L h' (fm y)) (N : News h₀ L h' (lg y ++ own)) (hJ : J y) : ForSt h₀ L fm lg own J s Q .next { s with heap := h', toks := tk } := ⟨y, h', tk, rfl, F, N, hJ⟩
abbrev forR (M : Model) (A : Around) (env : Env) (Q : Flow → Shared → Prop) (E : Value → Shared → Prop) : Result → Shared → Prop := fun r s' => match r with | .ok f => Q f s' | .error e => cameBackBy M A env E e s'

theorem forLoop_st {σ : Type} {prog : Program} {w : World} {A : Around} {E : Value → Shared → Prop} {Q : Flow → Shared → Prop} {s : Shared} {env : Env} {h₀ : Heap} {x : PySem.Str} {px : Pos} {body : List Stmt} {I : Addr} {fp wr : List Addr} {n : Nat} {P : Nat → Value → Prop} {St : Nat → Heap → Prop}
    (fm : σ → PySem.Str → Option Value) (lg : σ → List (Addr × Obj)) (J : Nat → σ → Prop) (x₀ : σ)
    (W : Walks prog w A I fp wr n P St) (hx : env.kindOf x = some .local) (hp : (env.scope.kind == .class || (env.scope.kind == .module && env.locals != env.globals)) = false)
    (hLf : env.locals ∉ fp) (hwr : ∀ b ∈ wr, h₀.get? b = none) (hoff : ∀ i y, J i y → ∀ p ∈ lg y, p.1 ∉ wr)
    (hst : St 0 s.heap) (hpos : 0 < s.toks) (F : Fr h₀ env.locals s.heap (fm x₀)) (N : News h₀ env.locals s.heap (lg x₀)) (h0 : J 0 x₀)
    (turn : ∀ i v y h tk own, 0 < tk → i < n → P i v → J i y → (∀ p ∈ own, p.1 ∈ fp) → Fr h₀ env.locals h (fun z => if z = x then some v else fm y z) → News h₀ env.locals h (lg y ++ own) → s.heap.objs.size ≤ h.objs.size →
      wpAny (model prog w) A (execs body env) (ForSt h₀ env.locals fm lg own (J (i + 1)) s Q) E { s with heap := h, toks := tk })
    (done : ∀ y h tk, 0 < tk → J n y → Fr h₀ env.locals h (fm y) → News h₀ env.locals h (lg y) → s.heap.objs.size ≤ h.objs.size → Q .next { s with heap := h, toks := tk })
    (hE : PassesOwn (model prog w) A env E := by passes_own) :
    codeAny (model prog w) A (.forLoop (.Name x px) (.ref I) body [] env) (forR (model prog w) A env Q E) s := by
  have hLw : env.locals ∉ wr := fun h => hLf (W.sub _ h)
  have old : ∀ b o, h₀.get? b = some o → b ∉ wr := fun b o e hb => by rw [hwr b hb] at e; cases e
  refine codeAny_forLoop
    (fun k s' => ∃ y h' tk i, s' = { s with heap := h', toks := tk } ∧ 0 < tk ∧ s.heap.objs.size ≤ h'.objs.size ∧ St i h' ∧ Fr h₀ env.locals h' (fm y) ∧ News h₀ env.locals h' (lg y) ∧ J i y ∧ i ≤ n ∧ k = n + 1 - i) ?_ (n + 1)
    ⟨x₀, s.heap, s.toks, 0, rfl, hpos, Nat.le_refl _, hst, F, N, h0, Nat.zero_le _, rfl⟩
  rintro k s' ⟨y, h', tk, i, rfl, ptk, sz, hst', F', N', hJ, hi, rfl⟩
  have next : ∀ h₁ : Heap, (∀ b o, b ∉ wr → h'.get? b = some o → h₁.get? b = some o) → Fr h₀ env.locals h₁ (fm y) ∧ News h₀ env.locals h₁ (lg y) := fun h₁ hk₁ =>
    ⟨⟨F'.ns.at' fun o e => hk₁ _ o hLw e, fun b o e => hk₁ b o (old b o e) (F'.keep b o e), F'.above⟩, fun p hp => ⟨hk₁ _ _ (hoff i y hJ p hp) (N' p hp).1, (N' p hp).2⟩⟩
  by_cases hlt : i < n
  · refine any_up (W.item i _ _ _ hlt hst' fun v h₁ tk₁ hP hst₁ hk₁ up => ?_)
    obtain ⟨F₁, N₁⟩ := next h₁ hk₁
    refine wpAny_assign_Name (any_up (wpAny_storeName_local hx F₁.ns (fun h₂ hn₂ hs₂ up₂ => ?_) hp))
    have F₂ := F₁.set hn₂ hs₂
    have u1 : tk ≤ tk₁ := up.1
    have u2 : h'.objs.size ≤ h₁.objs.size := up.2
    have u3 : h₁.objs.size ≤ h₂.objs.size := up₂.2
    have Nown : News h₀ env.locals h₂ (ownOf h₀ fp h₂) := news_ownOf hLf
    refine any_up (wpAny_mono (turn i v y h₂ (tk₁ + 1) (ownOf h₀ fp h₂) (by omega) hlt hP hJ ownOf_sub F₂ ((N₁.set hs₂).append Nown) (by omega)) (fun f s₃ h₃ up₃ => ?_) fun e s₂ h₂ _ => hE e s₂ h₂)
    have key : (∃ y h' tk, s₃ = { s with heap := h', toks := tk } ∧ Fr h₀ env.locals h' (fm y) ∧ News h₀ env.locals h' (lg y ++ ownOf h₀ fp h₂) ∧ J (i + 1) y) →
        ∃ m, m < n + 1 - i ∧ ∃ y h' tk i, s₃ = { s with heap := h', toks := tk } ∧ 0 < tk ∧ s.heap.objs.size ≤ h'.objs.size ∧ St i h' ∧ Fr h₀ env.locals h' (fm y) ∧ News h₀ env.locals h' (lg y) ∧ J i y ∧ i ≤ n ∧ m = n + 1 - i := by
      rintro ⟨y', h₃', tk₃, rfl, F₃, N₃, hJ₃⟩
      have v1 : tk₁ + 1 ≤ tk₃ := up₃.1
      have v2 : h₂.objs.size ≤ h₃'.objs.size := up₃.2
      refine ⟨n + 1 - (i + 1), by omega, y', h₃', tk₃, i + 1, rfl, by omega, by omega, ?_, F₃, fun p hp => N₃ p (List.mem_append_left _ hp), hJ₃, hlt, rfl⟩
      refine W.frame _ _ _ hst₁ fun b hb o e => ?_
      have e₂ : h₂.get? b = some o := (hs₂.2 b fun q => hLf (q ▸ hb)).trans e
      cases hn : h₀.get? b with
      | some o₀ =>
        have : o₀ = o := by have := F₂.keep b o₀ hn; rw [e₂] at this; exact (Option.some.inj this).symm
        exact this ▸ F₃.keep b o₀ hn
      | none => exact (N₃ _ (List.mem_append_right _ (mem_ownOf hb hn e₂))).1
    cases f with
    | next => exact key h₃
    | cont => exact key h₃
    | brk => exact h₃
    | ret v => exact h₃
  · have hin : i = n := by omega
    subst hin
    refine any_up (W.done _ _ _ hst' fun h₁ tk₁ hk₁ up => wpAny_execs_nil ?_)
    obtain ⟨F₁, N₁⟩ := next h₁ hk₁
    have u1 : tk ≤ tk₁ := up.1
    have u2 : h'.objs.size ≤ h₁.objs.size := up.2
    exact done y h₁ tk₁ (by omega) hJ F₁ N₁ (by omega)

section
variable {σ : Type} {prog : Program} {w : World} {A : Around} {E : Value → Shared → Prop} {Q : Flow → Shared → Prop} {s : Shared} {env : Env} {h₀ : Heap} {x : PySem.Str} {px : Pos} {body : List Stmt}

theorem iterList_st {l : Addr} {vs : List Value} (fm : σ → PySem.Str → Option Value) (lg : σ → List (Addr × Obj)) (J : Nat → σ → Prop) (x₀ : σ)
    (hl : s.heap.IsList l vs.toArray) (hh : A.handled = none) (hx : env.kindOf x = some .local) (hp : (env.scope.kind == .class || (env.scope.kind == .module && env.locals != env.globals)) = false)
    (hloc : l ≠ env.locals) (hpos : 0 < s.toks) (F : Fr h₀ env.locals s.heap (fm x₀)) (N : News h₀ env.locals s.heap (lg x₀)) (h0 : J 0 x₀)
    (hoff : ∀ i y, J i y → ∀ p ∈ lg y, p.1 ≠ s.heap.objs.size)
    (turn : ∀ i v y h tk own, 0 < tk → vs[i]? = some v → J i y → (∀ p ∈ own, p.1 = s.heap.objs.size ∨ p.1 = l) → Fr h₀ env.locals h (fun z => if z = x then some v else fm y z) → News h₀ env.locals h (lg y ++ own) → s.heap.objs.size < h.objs.size →
      wpAny (model prog w) A (execs body env) (ForSt h₀ env.locals fm lg own (J (i + 1)) s Q) E { s with heap := h, toks := tk })
    (done : ∀ y h tk, 0 < tk → J vs.length y → Fr h₀ env.locals h (fm y) → News h₀ env.locals h (lg y) → s.heap.objs.size < h.objs.size → Q .next { s with heap := h, toks := tk })
    (hE : PassesOwn (model prog w) A env E := by passes_own) :
    wpAny (model prog w) A (pyIter (.ref l)) (fun it s₂ => codeAny (model prog w) A (.forLoop (.Name x px) it body [] env) (forR (model prog w) A env Q E) s₂) E s := by
  obtain ⟨ol, hol, hlr⟩ := id hl
  have hlt : l < s.heap.objs.size := Heap.lt_size hol
  have hne : l ≠ s.heap.objs.size := Nat.ne_of_lt hlt
  refine wpAny_pyIter_list hl ?_
  have W := Walks.list (prog := prog) (w := w) hh s.heap.objs.size l hne vs.toArray
  rw [List.size_toArray] at W
  refine forLoop_st fm lg J x₀ W hx hp ?_ ?_ ?_ ⟨⟨_, Heap.get?_push_size _ rfl, rfl, rfl⟩, hl.at fun o e => Heap.get?_push_of_some _ e⟩ hpos (F.push _) (fun p hp => ⟨Heap.get?_push_of_some _ (N p hp).1, (N p hp).2⟩) h0 ?_ ?_ hE
  · intro hm
    rcases List.mem_cons.mp hm with e | hm
    · exact absurd F.ns.lt (e ▸ Nat.lt_irrefl _)
    · exact hloc (List.mem_singleton.mp hm).symm
  · intro b hb
    rw [List.mem_singleton.mp hb]
    exact next_is_new F
  · intro i y hJ p hp hI
    exact hoff i y hJ p hp (List.mem_singleton.mp hI)
  · intro i v y h tk own p1 hi hP hJ ho F₁ N₁ sz
    exact turn i v y h tk own p1 (by simpa using hP) hJ (fun p hp => by rcases List.mem_cons.mp (ho p hp) with e | e; exact .inl e; exact .inr (List.mem_singleton.mp e)) F₁ N₁ (by have : (s.heap.push _).objs.size ≤ h.objs.size := sz; rw [size_push] at this; omega)
  · intro y h tk p1 hJ F₁ N₁ sz
    exact done y h tk p1 hJ F₁ N₁ (by have : (s.heap.push _).objs.size ≤ h.objs.size := sz; rw [size_push] at this; omega)
end
end Mine

namespace Mine
section
variable {σ : Type} {prog : Program} {w : World} {A : Around} {E : Value → Shared → Prop} {Q : Flow → Shared → Prop} {s : Shared} {env : Env} {h₀ : Heap} {x : PySem.Str} {px : Pos} {body : List Stmt}
theorem iterKeys_st {d : Addr} {D : List (PyData × PyData)} (fm : σ → PySem.Str → Option Value) (lg : σ → List (Addr × Obj)) (J : Nat → σ → Prop) (x₀ : σ)
    (T : StrTab prog w s.heap d D) (hh : A.handled = none) (hx : env.kindOf x = some .local) (hp : (env.scope.kind == .class || (env.scope.kind == .module && env.locals != env.globals)) = false)
    (hloc : d ≠ env.locals) (hpos : 0 < s.toks) (F : Fr h₀ env.locals s.heap (fm x₀)) (N : News h₀ env.locals s.heap (lg x₀)) (h0 : J 0 x₀)
    (hoff : ∀ i y, J i y → ∀ p ∈ lg y, p.1 ≠ s.heap.objs.size)
    (turn : ∀ i k dv t y h tk own, 0 < tk → D[i]? = some (.str k, dv) → J i y → (∀ p ∈ own, p.1 = s.heap.objs.size ∨ p.1 = d) → Fr h₀ env.locals h (fun z => if z = x then some (.str k t) else fm y z) → News h₀ env.locals h (lg y ++ own) → s.heap.objs.size < h.objs.size →
      wpAny (model prog w) A (execs body env) (ForSt h₀ env.locals fm lg own (J (i + 1)) s Q) E { s with heap := h, toks := tk })
    (done : ∀ y h tk, 0 < tk → J D.length y → Fr h₀ env.locals h (fm y) → News h₀ env.locals h (lg y) → s.heap.objs.size < h.objs.size → Q .next { s with heap := h, toks := tk })
    (hE : PassesOwn (model prog w) A env E := by passes_own) :
    wpAny (model prog w) A (pyIter (.ref d)) (fun it s₂ => codeAny (model prog w) A (.forLoop (.Name x px) it body [] env) (forR (model prog w) A env Q E) s₂) E s := by
  obtain ⟨lo, kvs, hdo, hf⟩ := id T
  obtain ⟨ep, hat⟩ := hdo.dictAt
  have hne : d ≠ s.heap.objs.size := Nat.ne_of_lt hat.lt_size
  refine wpAny_pyIter_dict lo hat ?_
  have W := Walks.dictKeys (prog := prog) (w := w) (knd := PySem.strKind prog w) hh s.heap.objs.size d hne kvs ep
  have hlen : kvs.length = D.length := hf.length.symm
  rw [hlen] at W
  refine forLoop_st fm lg J x₀ W hx hp ?_ ?_ ?_ ⟨⟨_, Heap.get?_push_size _ rfl, rfl, by rw [hlen]; rfl⟩, hat.push _⟩ hpos (F.push _) (fun p hp => ⟨Heap.get?_push_of_some _ (N p hp).1, (N p hp).2⟩) h0 ?_ ?_ hE
  · intro hm
    rcases List.mem_cons.mp hm with e | hm
    · exact absurd F.ns.lt (e ▸ Nat.lt_irrefl _)
    · exact hloc (List.mem_singleton.mp hm).symm
  · intro b hb
    rw [List.mem_singleton.mp hb]
    exact next_is_new F
  · intro i y hJ p hp hI
    exact hoff i y hJ p hp (List.mem_singleton.mp hI)
  · rintro i v y h tk own p1 hi ⟨k, xv, hx', hkey⟩ hJ ho F₁ N₁ sz
    obtain ⟨dv, hD, _⟩ := hf.at hx'
    obtain ⟨t, rfl⟩ := Value.isStrOf_shape hkey
    exact turn i k dv t y h tk own p1 hD hJ (fun p hp => by rcases List.mem_cons.mp (ho p hp) with e | e; exact .inl e; exact .inr (List.mem_singleton.mp e)) F₁ N₁ (by have : (s.heap.push _).objs.size ≤ h.objs.size := sz; rw [size_push] at this; omega)
  · intro y h tk p1 hJ F₁ N₁ sz
    exact done y h tk p1 hJ F₁ N₁ (by have : (s.heap.push _).objs.size ≤ h.objs.size := sz; rw [size_push] at this; omega)
theorem iterRange_st {r : Addr} {n : Nat} {t₀ u₀ v₀ : Tok} (fm : σ → PySem.Str → Option Value) (lg : σ → List (Addr × Obj)) (J : Nat → σ → Prop) (x₀ : σ)
    (hr : IsRange s.heap r 0 n 1 t₀ u₀ v₀) (hsmall : Builtin.Range.small 0 n 1 = true) (hn : Builtin.Range.rangeSize 0 n 1 = (n : Int)) (hh : A.handled = none) (hx : env.kindOf x = some .local) (hp : (env.scope.kind == .class || (env.scope.kind == .module && env.locals != env.globals)) = false)
    (hpos : 0 < s.toks) (F : Fr h₀ env.locals s.heap (fm x₀)) (N : News h₀ env.locals s.heap (lg x₀)) (h0 : J 0 x₀)
    (hoff : ∀ i y, J i y → ∀ p ∈ lg y, p.1 ≠ s.heap.objs.size)
    (turn : ∀ (i : Nat) t y h tk own, 0 < tk → i < n → J i y → (∀ p ∈ own, p.1 = s.heap.objs.size) → Fr h₀ env.locals h (fun z => if z = x then some (.int i t) else fm y z) → News h₀ env.locals h (lg y ++ own) → s.heap.objs.size < h.objs.size →
      wpAny (model prog w) A (execs body env) (ForSt h₀ env.locals fm lg own (J (i + 1)) s Q) E { s with heap := h, toks := tk })
    (done : ∀ y h tk, 0 < tk → J n y → Fr h₀ env.locals h (fm y) → News h₀ env.locals h (lg y) → s.heap.objs.size < h.objs.size → Q .next { s with heap := h, toks := tk })
    (hE : PassesOwn (model prog w) A env E := by passes_own) :
    wpAny (model prog w) A (pyIter (.ref r)) (fun it s₂ => codeAny (model prog w) A (.forLoop (.Name x px) it body [] env) (forR (model prog w) A env Q E) s₂) E s := by
  refine wpAny_pyIter_range hr hsmall ?_
  have W := Walks.range (prog := prog) (w := w) hh s.heap.objs.size 0 1 n
  refine forLoop_st fm lg J x₀ W hx hp ?_ ?_ ?_ (by show IsRangeIter _ _ _ _ _; rw [hn]; simpa using Heap.get?_push_size _ rfl) hpos (F.push _) (fun p hp => ⟨Heap.get?_push_of_some _ (N p hp).1, (N p hp).2⟩) h0 ?_ ?_ hE
  · intro hm
    exact absurd F.ns.lt ((List.mem_singleton.mp hm) ▸ Nat.lt_irrefl _)
  · intro b hb
    rw [List.mem_singleton.mp hb]
    exact next_is_new F
  · intro i y hJ p hp hI
    exact hoff i y hJ p hp (List.mem_singleton.mp hI)
  · rintro i v y h tk own p1 hi ⟨t, rfl⟩ hJ ho F₁ N₁ sz
    have e : (0 : Int) + (i : Int) * 1 = (i : Int) := by omega
    rw [e] at F₁
    exact turn i t y h tk own p1 hi hJ (fun p hp => List.mem_singleton.mp (ho p hp)) F₁ N₁ (by have : (s.heap.push _).objs.size ≤ h.objs.size := sz; rw [size_push] at this; omega)
  · intro y h tk p1 hJ F₁ N₁ sz
    exact done y h tk p1 hJ F₁ N₁ (by have : (s.heap.push _).objs.size ≤ h.objs.size := sz; rw [size_push] at this; omega)
end
end Mine

namespace Mine
theorem forLoop_st2 {σ : Type} {prog : Program} {w : World} {A : Around} {E : Value → Shared → Prop} {Q : Flow → Shared → Prop} {s : Shared} {env : Env} {h₀ : Heap} {x : PySem.Str} {px : Pos} {body : List Stmt} {I : Addr} {fp wr : List Addr} {n : Nat} {P : Nat → Value → Prop} {St : Nat → Heap → Prop}
    (fm : σ → PySem.Str → Option Value) (lg : σ → List (Addr × Obj)) (J : Nat → σ → Prop) (x₀ : σ)
    (W : Walks prog w A I fp wr n P St) (hx : env.kindOf x = some .local) (hp : (env.scope.kind == .class || (env.scope.kind == .module && env.locals != env.globals)) = false)
    (hLf : env.locals ∉ fp) (hwr : ∀ b ∈ wr, h₀.get? b = none) (hoff : ∀ i y, J i y → ∀ p ∈ lg y, p.1 ∉ wr) (hIs : ∀ i h, St i h → ∃ o, h.get? I = some o) (hIf : I ∈ fp) (hIw : I ∈ wr)
    (hst : St 0 s.heap) (hpos : 0 < s.toks) (F : Fr h₀ env.locals s.heap (fm x₀)) (N : News h₀ env.locals s.heap (lg x₀)) (h0 : J 0 x₀)
    (turn : ∀ i v y h tk own, 0 < tk → i < n → P i v → J i y → (∀ p ∈ own, p.1 ∈ fp) → (∃ o, (I, o) ∈ own) → Fr h₀ env.locals h (fun z => if z = x then some v else fm y z) → News h₀ env.locals h (lg y ++ own) → s.heap.objs.size ≤ h.objs.size →
      wpAny (model prog w) A (execs body env) (ForSt h₀ env.locals fm lg own (J (i + 1)) s Q) E { s with heap := h, toks := tk })
    (done : ∀ y h tk, 0 < tk → J n y → Fr h₀ env.locals h (fm y) → News h₀ env.locals h (lg y) → s.heap.objs.size ≤ h.objs.size → Q .next { s with heap := h, toks := tk })
    (hE : PassesOwn (model prog w) A env E := by passes_own) :
    codeAny (model prog w) A (.forLoop (.Name x px) (.ref I) body [] env) (forR (model prog w) A env Q E) s := by
  have hLw : env.locals ∉ wr := fun h => hLf (W.sub _ h)
  have old : ∀ b o, h₀.get? b = some o → b ∉ wr := fun b o e hb => by rw [hwr b hb] at e; cases e
  refine codeAny_forLoop
    (fun k s' => ∃ y h' tk i, s' = { s with heap := h', toks := tk } ∧ 0 < tk ∧ s.heap.objs.size ≤ h'.objs.size ∧ St i h' ∧ Fr h₀ env.locals h' (fm y) ∧ News h₀ env.locals h' (lg y) ∧ J i y ∧ i ≤ n ∧ k = n + 1 - i) ?_ (n + 1)
    ⟨x₀, s.heap, s.toks, 0, rfl, hpos, Nat.le_refl _, hst, F, N, h0, Nat.zero_le _, rfl⟩
  rintro k s' ⟨y, h', tk, i, rfl, ptk, sz, hst', F', N', hJ, hi, rfl⟩
  have next : ∀ h₁ : Heap, (∀ b o, b ∉ wr → h'.get? b = some o → h₁.get? b = some o) → Fr h₀ env.locals h₁ (fm y) ∧ News h₀ env.locals h₁ (lg y) := fun h₁ hk₁ =>
    ⟨⟨F'.ns.at' fun o e => hk₁ _ o hLw e, fun b o e => hk₁ b o (old b o e) (F'.keep b o e), F'.above⟩, fun p hp => ⟨hk₁ _ _ (hoff i y hJ p hp) (N' p hp).1, (N' p hp).2⟩⟩
  by_cases hlt : i < n
  · refine any_up (W.item i _ _ _ hlt hst' fun v h₁ tk₁ hP hst₁ hk₁ up => ?_)
    obtain ⟨F₁, N₁⟩ := next h₁ hk₁
    refine wpAny_assign_Name (any_up (wpAny_storeName_local hx F₁.ns (fun h₂ hn₂ hs₂ up₂ => ?_) hp))
    have F₂ := F₁.set hn₂ hs₂
    have u1 : tk ≤ tk₁ := up.1
    have u2 : h'.objs.size ≤ h₁.objs.size := up.2
    have u3 : h₁.objs.size ≤ h₂.objs.size := up₂.2
    have hIo : ∃ o, (I, o) ∈ ownOf h₀ fp h₂ := by
      obtain ⟨o, eo⟩ := hIs _ _ hst₁
      exact ⟨o, mem_ownOf hIf (hwr I hIw) ((hs₂.2 I fun q => hLf (q ▸ hIf)).trans eo)⟩
    have Nown : News h₀ env.locals h₂ (ownOf h₀ fp h₂) := news_ownOf hLf
    refine any_up (wpAny_mono (turn i v y h₂ (tk₁ + 1) (ownOf h₀ fp h₂) (by omega) hlt hP hJ ownOf_sub hIo F₂ ((N₁.set hs₂).append Nown) (by omega)) (fun f s₃ h₃ up₃ => ?_) fun e s₂ h₂ _ => hE e s₂ h₂)
    have key : (∃ y h' tk, s₃ = { s with heap := h', toks := tk } ∧ Fr h₀ env.locals h' (fm y) ∧ News h₀ env.locals h' (lg y ++ ownOf h₀ fp h₂) ∧ J (i + 1) y) →
        ∃ m, m < n + 1 - i ∧ ∃ y h' tk i, s₃ = { s with heap := h', toks := tk } ∧ 0 < tk ∧ s.heap.objs.size ≤ h'.objs.size ∧ St i h' ∧ Fr h₀ env.locals h' (fm y) ∧ News h₀ env.locals h' (lg y) ∧ J i y ∧ i ≤ n ∧ m = n + 1 - i := by
      rintro ⟨y', h₃', tk₃, rfl, F₃, N₃, hJ₃⟩
      have v1 : tk₁ + 1 ≤ tk₃ := up₃.1
      have v2 : h₂.objs.size ≤ h₃'.objs.size := up₃.2
      refine ⟨n + 1 - (i + 1), by omega, y', h₃', tk₃, i + 1, rfl, by omega, by omega, ?_, F₃, fun p hp => N₃ p (List.mem_append_left _ hp), hJ₃, hlt, rfl⟩
      refine W.frame _ _ _ hst₁ fun b hb o e => ?_
      have e₂ : h₂.get? b = some o := (hs₂.2 b fun q => hLf (q ▸ hb)).trans e
      cases hn : h₀.get? b with
      | some o₀ =>
        have : o₀ = o := by have := F₂.keep b o₀ hn; rw [e₂] at this; exact (Option.some.inj this).symm
        exact this ▸ F₃.keep b o₀ hn
      | none => exact (N₃ _ (List.mem_append_right _ (mem_ownOf hb hn e₂))).1
    cases f with
    | next => exact key h₃
    | cont => exact key h₃
    | brk => exact h₃
    | ret v => exact h₃
  · have hin : i = n := by omega
    subst hin
    refine any_up (W.done _ _ _ hst' fun h₁ tk₁ hk₁ up => wpAny_execs_nil ?_)
    obtain ⟨F₁, N₁⟩ := next h₁ hk₁
    have u1 : tk ≤ tk₁ := up.1
    have u2 : h'.objs.size ≤ h₁.objs.size := up.2
    exact done y h₁ tk₁ (by omega) hJ F₁ N₁ (by omega)

section
variable {σ : Type} {prog : Program} {w : World} {A : Around} {E : Value → Shared → Prop} {Q : Flow → Shared → Prop} {s : Shared} {env : Env} {h₀ : Heap} {x : PySem.Str} {px : Pos} {body : List Stmt}

theorem iterList_st2 {l : Addr} {vs : List Value} (fm : σ → PySem.Str → Option Value) (lg : σ → List (Addr × Obj)) (J : Nat → σ → Prop) (x₀ : σ)
    (hl : s.heap.IsList l vs.toArray) (hh : A.handled = none) (hx : env.kindOf x = some .local) (hp : (env.scope.kind == .class || (env.scope.kind == .module && env.locals != env.globals)) = false)
    (hloc : l ≠ env.locals) (hpos : 0 < s.toks) (F : Fr h₀ env.locals s.heap (fm x₀)) (N : News h₀ env.locals s.heap (lg x₀)) (h0 : J 0 x₀)
    (hoff : ∀ i y, J i y → ∀ p ∈ lg y, p.1 ≠ s.heap.objs.size)
    (turn : ∀ i v y h tk own, 0 < tk → vs[i]? = some v → J i y → (∀ p ∈ own, p.1 = s.heap.objs.size ∨ p.1 = l) → (∃ o, (s.heap.objs.size, o) ∈ own) → Fr h₀ env.locals h (fun z => if z = x then some v else fm y z) → News h₀ env.locals h (lg y ++ own) → s.heap.objs.size < h.objs.size →
      wpAny (model prog w) A (execs body env) (ForSt h₀ env.locals fm lg own (J (i + 1)) s Q) E { s with heap := h, toks := tk })
    (done : ∀ y h tk, 0 < tk → J vs.length y → Fr h₀ env.locals h (fm y) → News h₀ env.locals h (lg y) → s.heap.objs.size < h.objs.size → Q .next { s with heap := h, toks := tk })
    (hE : PassesOwn (model prog w) A env E := by passes_own) :
    wpAny (model prog w) A (pyIter (.ref l)) (fun it s₂ => codeAny (model prog w) A (.forLoop (.Name x px) it body [] env) (forR (model prog w) A env Q E) s₂) E s := by
  obtain ⟨ol, hol, hlr⟩ := id hl
  have hlt : l < s.heap.objs.size := Heap.lt_size hol
  have hne : l ≠ s.heap.objs.size := Nat.ne_of_lt hlt
  refine wpAny_pyIter_list hl ?_
  have W := Walks.list (prog := prog) (w := w) hh s.heap.objs.size l hne vs.toArray
  rw [List.size_toArray] at W
  refine forLoop_st2 fm lg J x₀ W hx hp ?_ ?_ ?_ (fun i h hst => by obtain ⟨⟨o, ho, _⟩, _⟩ := hst; exact ⟨o, ho⟩) (.head _) (.head _) ⟨⟨_, Heap.get?_push_size _ rfl, rfl, rfl⟩, hl.at fun o e => Heap.get?_push_of_some _ e⟩ hpos (F.push _) (fun p hp => ⟨Heap.get?_push_of_some _ (N p hp).1, (N p hp).2⟩) h0 ?_ ?_ hE
  · intro hm
    rcases List.mem_cons.mp hm with e | hm
    · exact absurd F.ns.lt (e ▸ Nat.lt_irrefl _)
    · exact hloc (List.mem_singleton.mp hm).symm
  · intro b hb
    rw [List.mem_singleton.mp hb]
    exact next_is_new F
  · intro i y hJ p hp hI
    exact hoff i y hJ p hp (List.mem_singleton.mp hI)
  · intro i v y h tk own p1 hi hP hJ ho hIo F₁ N₁ sz
    exact turn i v y h tk own p1 (by simpa using hP) hJ (fun p hp => by rcases List.mem_cons.mp (ho p hp) with e | e; exact .inl e; exact .inr (List.mem_singleton.mp e)) hIo F₁ N₁ (by have : (s.heap.push _).objs.size ≤ h.objs.size := sz; rw [size_push] at this; omega)
  · intro y h tk p1 hJ F₁ N₁ sz
    exact done y h tk p1 hJ F₁ N₁ (by have : (s.heap.push _).objs.size ≤ h.objs.size := sz; rw [size_push] at this; omega)
end
end Mine

namespace Mine
section
variable {σ : Type} {prog : Program} {w : World} {A : Around} {E : Value → Shared → Prop} {Q : Flow → Shared → Prop} {s : Shared} {env : Env} {h₀ : Heap} {x : PySem.Str} {px : Pos} {body : List Stmt}
theorem iterRange_st2 {r : Addr} {n : Nat} {t₀ u₀ v₀ : Tok} (fm : σ → PySem.Str → Option Value) (lg : σ → List (Addr × Obj)) (J : Nat → σ → Prop) (x₀ : σ)
    (hr : IsRange s.heap r 0 n 1 t₀ u₀ v₀) (hsmall : Builtin.Range.small 0 n 1 = true) (hn : Builtin.Range.rangeSize 0 n 1 = (n : Int)) (hh : A.handled = none) (hx : env.kindOf x = some .local) (hp : (env.scope.kind == .class || (env.scope.kind == .module && env.locals != env.globals)) = false)
    (hpos : 0 < s.toks) (F : Fr h₀ env.locals s.heap (fm x₀)) (N : News h₀ env.locals s.heap (lg x₀)) (h0 : J 0 x₀)
    (hoff : ∀ i y, J i y → ∀ p ∈ lg y, p.1 ≠ s.heap.objs.size)
    (turn : ∀ (i : Nat) t y h tk own, 0 < tk → i < n → J i y → (∀ p ∈ own, p.1 = s.heap.objs.size) → (∃ o, (s.heap.objs.size, o) ∈ own) → Fr h₀ env.locals h (fun z => if z = x then some (.int i t) else fm y z) → News h₀ env.locals h (lg y ++ own) → s.heap.objs.size < h.objs.size →
      wpAny (model prog w) A (execs body env) (ForSt h₀ env.locals fm lg own (J (i + 1)) s Q) E { s with heap := h, toks := tk })
    (done : ∀ y h tk, 0 < tk → J n y → Fr h₀ env.locals h (fm y) → News h₀ env.locals h (lg y) → s.heap.objs.size < h.objs.size → Q .next { s with heap := h, toks := tk })
    (hE : PassesOwn (model prog w) A env E := by passes_own) :
    wpAny (model prog w) A (pyIter (.ref r)) (fun it s₂ => codeAny (model prog w) A (.forLoop (.Name x px) it body [] env) (forR (model prog w) A env Q E) s₂) E s := by
  refine wpAny_pyIter_range hr hsmall ?_
  have W := Walks.range (prog := prog) (w := w) hh s.heap.objs.size 0 1 n
  refine forLoop_st2 fm lg J x₀ W hx hp ?_ ?_ ?_ (fun i h hst => ⟨_, hst⟩) (.head _) (.head _) (by show IsRangeIter _ _ _ _ _; rw [hn]; simpa using Heap.get?_push_size _ rfl) hpos (F.push _) (fun p hp => ⟨Heap.get?_push_of_some _ (N p hp).1, (N p hp).2⟩) h0 ?_ ?_ hE
  · intro hm
    exact absurd F.ns.lt ((List.mem_singleton.mp hm) ▸ Nat.lt_irrefl _)
  · intro b hb
    rw [List.mem_singleton.mp hb]
    exact next_is_new F
  · intro i y hJ p hp hI
    exact hoff i y hJ p hp (List.mem_singleton.mp hI)
  · rintro i v y h tk own p1 hi ⟨t, rfl⟩ hJ ho hIo F₁ N₁ sz
    have e : (0 : Int) + (i : Int) * 1 = (i : Int) := by omega
    rw [e] at F₁
    exact turn i t y h tk own p1 hi hJ (fun p hp => List.mem_singleton.mp (ho p hp)) hIo F₁ N₁ (by have : (s.heap.push _).objs.size ≤ h.objs.size := sz; rw [size_push] at this; omega)
  · intro y h tk p1 hJ F₁ N₁ sz
    exact done y h tk p1 hJ F₁ N₁ (by have : (s.heap.push _).objs.size ≤ h.objs.size := sz; rw [size_push] at this; omega)
end
end Mine

namespace Mine
open Builtin Builtin.ObjectAttr in
section
variable {prog : Program} {w : World} {A : Around} {E : Value → Shared → Prop} {s : Shared} {K : Frag} {x C L f : Addr} {h₀ : Heap} {m : PySem.Str → Option Value} {ox : Obj} {od : Option Obj} {es : List DictEntry} {n : Nat} {name : PySem.Str} {v : Value} {expr : Bool}
theorem getH_own {Q : Value → Shared → Prop} {attr : Option Value} (F : Fr h₀ L s.heap m) (X₀ : K.In h₀) (I : InstAt s.heap x ox C (some (dictOf es n))) (hga : findIn K (.ref C) "__getattribute__" = some (some (.builtin "object.__getattribute__"))) (hh : hasDictIn K C = true)
    (ha : findIn K (.ref C) name = some attr) (hn : noGet K attr = true) (hl : getL name es = some (some v)) (hv : handedIn v = true) (h : Q v { s with toks := s.toks + 1 }) :
    wpAny (model prog w) A (getAttr (.ref x) name expr) Q E s :=
  get_value (X₀.keeps F.keep) I hga (findObj_own hh ha hn hl) hv h
theorem methH {pl : Sem Bool} {Q : Value × List Value → Shared → Prop} {hook : Value} (F : Fr h₀ L s.heap m) (X₀ : K.In h₀) (I : InstAt s.heap x ox C od) (hga : findIn K (.ref C) "__getattribute__" = some (some (.builtin "object.__getattribute__")))
    (hk : findIn K (.ref C) "__getattr__" = some (some hook)) (h : wpAny (model prog w) A (getAttr (.ref x) name) (fun v => Q (v, [])) E s) : wpAny (model prog w) A (getMethod (.ref x) name pl) Q E s := by
  have X := X₀.keeps F.keep
  have hcan := PySem.F.canon_object_ga
  have u : wpAny (model prog w) A (do return (← getAttr (.ref x) name, ([] : List Value))) Q E s := wpAny_bind (wpAny_mono h (fun _ _ z => wpAny_pure z) fun _ _ z => z)
  unfold getMethod specialOf
  refine wpAny_bind (wpAny_bind (I.type.here ((looks_findIn X hga).here ?_)))
  dsimp only
  rw [hcan, if_neg (by decide)]
  refine wpAny_bind (wpAny_bind (I.type.here ((looks_findIn X hk).here ?_)))
  exact u
theorem findObj_miss {o : Obj} (hh : hasDictIn K C = true) (ha : findIn K (.ref C) name = some none) (hl : lookIn name o = some none) (hc : copiedNames.contains name = false) : findObj K C (some o) name = some .missing := by
  obtain ⟨cd, hc', hd⟩ := any_some hh
  unfold findObj
  rw [hc', Option.bind_some, ha, Option.bind_some]
  have ho : W.ownOf cd (some o) name = some none := by unfold W.ownOf; rw [if_pos hd]; exact hl
  have hm : ¬ name ∈ copiedNames := fun h => by rw [List.contains_iff_mem.mpr h] at hc; cases hc
  simp [ho, hm]
theorem getH_miss {Q : Value → Shared → Prop} (F : Fr h₀ L s.heap m) (X₀ : K.In h₀) (I : InstAt s.heap x ox C (some (dictOf es n))) (hga : findIn K (.ref C) "__getattribute__" = some (some (.builtin "object.__getattribute__"))) (hh : hasDictIn K C = true)
    (ha : findIn K (.ref C) name = some none) (hl : getL name es = some none) (hc : copiedNames.contains name = false) (hk : findIn K (.ref C) "__getattr__" = some (some (.ref f))) (ht : isFn K (.ref f) = true)
    (h : wpAny (model prog w) A.in1 (call (.ref f) [.ref x, .str name s.toks]) (fun v s' => handedIn v = true ∧ Q v s') (fun _ _ => False) { s with toks := s.toks + 1 }) :
    wpAny (model prog w) A (getAttr (.ref x) name expr) Q E s := by
  have X := X₀.keeps F.keep
  refine get_open X I hga ?_
  obtain ⟨hh', g, d, t, os⟩ := s
  have L0 := I.type (M := model prog w)
  have L1 := looks_find (M := model prog w) X I (findObj_miss hh ha hl hc)
  have L2 := looks_findIn (M := model prog w) X hk
  have L3 := bind_fn (M := model prog w) X (.ref x) (beq_iff_eq.mp ht)
  refine wpAny_bind (wpAny_pure (wpAny_bind (L0.at (wpAny_bind (L1.at (wpAny_bind (L2.at ?_)))))))
  show wpAny _ _ (byHook _ _ _) _ _ _
  unfold byHook
  refine wpAny_bind (L3.at (wpAny_bind ?_))
  refine wpAny_mono h (fun v s' z => ?_) fun _ _ z => z.elim
  refine wpAny_bind (wpAny_rule (wpAny_pure ?_))
  show wpAny _ _ (handedOut v) _ _ _
  rw [handedOut_of z.1]
  exact wpAny_pure z.2
end
end Mine

namespace Mine
def Callee (o : Obj) : Prop := o.data = .plain ∨ ∃ fd, o.data = .func fd
section
open PySem.Calls
variable {M : Model} {A : Around} {E : Value → Shared → Prop} {s : Shared} {env : Env} {pos : Pos} {y : Addr} {o : Obj} {first : List Value} {Q : Value → Shared → Prop}
theorem callWith_led0 {args : List (Bool × Sem Value)} (hplain : (args.any (·.1) || ([] : List (Option PySem.Str × Sem Value)).any (·.1.isNone)) = false) (ho : Callee o)
    (h : wpAny M A (evalArgs (.ref y) true args []) (fun a s₁ => s₁.heap.get? y = some o ∧ wpAny M A (call (.ref y) (first ++ a.pos) a.kw) Q E s₁) E s) : wpAny M A (callWith pos (.ref y) first args []) Q E s := by
  rcases ho with hd | ⟨fd, hd⟩
  · unfold callWith
    refine wpAny_bind (wpAny_holding (wpAny_mono h (fun a s₁ h₁ => wpAny_bind (wpAny_standAt ?_)) fun _ _ y => y))
    have L : Looks M s₁.heap (keeperOf (.ref y)) .caller := by
      refine (Looks.ld (part := none) h₁.1).andThen ?_
      simp only [hd]
      exact .now
    simp only [hplain]
    refine wpAny_bind (L.here ?_)
    have tail : ∀ {t : Sem Value}, wpAny M A t Q E s₁ → wpAny M A (t >>= fun r => holding [r] point >>= fun _ => pure r) Q E s₁ :=
      fun ht => wpAny_bind (wpAny_mono ht (fun r s₂ hr => wpAny_bind (wpAny_holding (wpAny_point (wpAny_pure hr)))) fun _ _ y => y)
    exact tail (wpAny_operateT h₁.2)
  · refine callWith_of (P := fun h => h.get? y = some o) hplain (fun h e => ⟨.frame, .inl rfl, ?_⟩) h
    refine (Looks.ld (part := none) e).andThen ?_
    simp only [hd]
    exact .now
theorem callWith_led {e : Expr} {rest : List Expr} (ho : Callee o) (h : wpAny M A (spliced (backTo pos (starEach (e :: rest) env))) (fun vs s₁ => s₁.heap.get? y = some o ∧ wpAny M A (call (.ref y) (first ++ vs)) Q E s₁) E s)
    (he : starEach (e :: rest) env = (false, eval e env) :: starEach rest env := by rfl) (hplain : (backTo pos (starEach rest env)).any (·.1) = false := by rfl) :
    wpAny M A (callWith pos (.ref y) first (backTo pos (starEach (e :: rest) env)) []) Q E s := by
  rw [he] at h ⊢
  exact callWith_led0 (by show ((false || (backTo pos (starEach rest env)).any (·.1)) || false) = false; rw [hplain]; rfl) ho (evalArgs_plain h)
end
end Mine

namespace Mine
open_top hd10 for PySem.Challenge.rw_dn0306_10
end Mine

namespace Mine
section
variable {prog : Program} {w : World} {A : Around} {E : Value → Shared → Prop} {h : Heap} {g : Array GenState} {d : Drawn} {t : Nat} {os : OsState}
variable {nm q : PySem.Str} {C N : Addr} {bs bm bmB : List Value} {hdct : Bool} {sn : List PySem.Str} {sub : List Value} {ab : Bool} {col : Option Bool} {dd : Option Addr} {k0 k1 k2 k3 k5 : Option Value} {B newId initId : String}
theorem type_call_init (F : ExcBaseFacts B newId initId bmB) (T : OwnTail h bmB bm) {mN : PySem.Str → Option Value} {rest : List Value} {fI : Addr} {oI : Obj} {Q : Fin → Shared → Prop}
    (hC : h.get? C = some (excClassObj nm q C N bs bm hdct sn sub ab col dd k0 k1 k2 k3 k5 newId)) (hn : h.Ns N mN) (hi : mN "__init__" = some (.ref fI))
    (hfI : h.get? fI = some oI) (hfc : oI.cls = .type "function") (hrest : rest.length ≤ sizeLine)
    (hq : wpAny (model prog w) A (call (.ref fI) (.ref (h.objs.size + 1) :: rest)) (fun r s' => r = .none ∧ Q (.done (.ret (.ref (h.objs.size + 1)))) s') E
      ⟨(h.push { cls := .type "tuple", data := .seq rest.toArray }).push { cls := .ref C, data := .fields #[.ref h.objs.size, .none, .none, .none, .bool false, .none] }, g, d, t, os⟩) :
    wpAny (model prog w) A (Builtin.«type.__call__» ⟨.ref C :: rest, []⟩) Q E ⟨h, g, d, t, os⟩ := by
  repeat (first | with_reducible refine wpAny_loadPart_at hC ?_ | with_reducible refine wpAny_madeBy_exc hC ?_ | wp_step)
  refine codeAny_call_builtin_code (Code.quiet_builtin _ F.quiet) (wpAny_check_new_subU F F.hasB T hC ?_)
  refine codeAny_exc_new_subU F F.hasB F T hC ?_ hrest
  show wpAny _ _ _ _ _ _
  have up : ∀ b o, h.get? b = some o → ((h.push { cls := .type "tuple", data := .seq rest.toArray }).push { cls := .ref C, data := .fields #[.ref h.objs.size, .none, .none, .none, .bool false, .none] }).get? b = some o := fun b o e => Heap.get?_push_of_some _ (Heap.get?_push_of_some _ e)
  have hget : ((h.push { cls := .type "tuple", data := .seq rest.toArray }).push
      { cls := .ref C, data := .fields #[.ref h.objs.size, .none, .none, .none, .bool false, .none] }).get? (h.objs.size + 1) = some
      { cls := .ref C, data := .fields #[.ref h.objs.size, .none, .none, .none, .bool false, .none] } := by heap_get
  have hcC : (Value.ref C :: bm).contains (.ref C) = true := by simp
  unfold isInstance
  repeat (first | with_reducible refine wpAny_loadPart_at hget ?_ | (with_reducible refine wpAny_isSubtype_exc (up _ _ hC) ?_; rw [hcC]) | wp_step)
  show wpAny _ _ (typeLookup (.ref C) _) _ _ _
  refine wpAny_typeLookup_tail (up _ _ hC) (hn.keeps up) (T.keeps up) F.mroIs F.init.lookup ?_
  rw [hi]
  refine wpAny_holding (wpAny_bind ?_)
  unfold bindSpecial
  refine wpAny_bind (wpAny_typeOf (T := "function") ⟨_, up _ _ hfI, hfc⟩ ?_)
  rw [if_pos (by decide)]
  refine wpAny_pure (wpAny_bind (wpAny_mono hq (fun r s' hr => ?_) fun _ _ x => x))
  obtain ⟨rfl, hQ⟩ := hr
  wp_walk
  exact hQ
theorem call_own (F : ExcBaseFacts B newId initId bmB) (T : OwnTail h bmB bm) {mN : PySem.Str → Option Value} {rest : List Value} {fI : Addr} {oI : Obj} {Q : Value → Shared → Prop}
    (hC : h.get? C = some (excClassObj nm q C N bs bm hdct sn sub ab col dd k0 k1 k2 k3 k5 newId)) (hn : h.Ns N mN) (hi : mN "__init__" = some (.ref fI))
    (hfI : h.get? fI = some oI) (hfc : oI.cls = .type "function") (hrest : rest.length ≤ sizeLine)
    (hq : wpAny (model prog w) (A.under (.builtin "type.__call__" ⟨.ref C :: rest, []⟩)) (call (.ref fI) (.ref (h.objs.size + 1) :: rest)) (fun r s' => r = .none ∧ Q (.ref (h.objs.size + 1)) s') E
      ⟨(h.push { cls := .type "tuple", data := .seq rest.toArray }).push { cls := .ref C, data := .fields #[.ref h.objs.size, .none, .none, .none, .bool false, .none] }, g, d, t, os⟩) :
    wpAny (model prog w) A (call (.ref C) rest) Q E ⟨h, g, d, t, os⟩ := by
  have f1 := tc_lookup
  have f2 := tc_bind (.ref C)
  have hT : (⟨h, g, d, t, os⟩ : Shared).TypeIs (.ref C) "type" := ⟨_, hC, rfl⟩
  refine wpAny_call (codeAny_of_tree ?_)
  show wpAny _ _ (callAny (.ref C) _) _ _ _
  repeat (any_goals (first | assumption | with_reducible refine wpAny_loadPart_at hC ?_ | wp_step))
  refine ⟨rfl, ?_⟩
  exact codeAny_call_builtin_at (Code.quiet_builtin _ (by decide +kernel)) entry_typeCall (wpAny_check_type_call_sub hC (type_call_init F T hC hn hi hfI hfc hrest hq))
end
end Mine

namespace Mine
def initIn (K : Frag) (C : Addr) (bmB : List Value) (newId : String) (fI : Addr) : Bool := match K.lookup C with
  | some ⟨.type "type", _, .cls cd, sl⟩ => (match cd.mro, sl.toList with
    | .ref C' :: bm, [_, _, _, _, some (.builtin n), _] => C' == C && n == newId && !cd.hasDel && tailIn K bmB bm && nsOkIn K cd.ns && nsIn K cd.ns "__init__" == some (some (.ref fI))
    | _, _ => false)
  | _ => false
theorem ns_some {K : Frag} {h : Heap} {N : Addr} {mg : PySem.Str → Option Value} {n : PySem.Str} {v : Value} (X : K.In h) (G : h.Ns N mg) (e : nsIn K N n = some (some v)) : mg n = some v := by
  obtain ⟨o, es, ep, ho, hd, _, hf⟩ := G
  unfold nsIn at e
  split at e
  · rename_i c d es' n' sl q
    have := X _ _ q
    rw [ho] at this
    cases this
    cases hd
    split at e
    · rename_i en he
      cases e
      rw [← hf]
      unfold nsFind findBy
      rw [← Array.find?_toList, he]
      rfl
    · split at e <;> cases e
  · cases e
theorem init_of_in {K : Frag} {h : Heap} {C fI : Addr} {bmB : List Value} {newId : String} (X : K.In h) (q : initIn K C bmB newId fI = true) : ∃ nm qn N bs bm hdct sn sub ab col dd k0 k1 k2 k3 k5 mN,
    h.get? C = some (excClassObj nm qn C N bs bm hdct sn sub ab col dd k0 k1 k2 k3 k5 newId) ∧ h.Ns N mN ∧ mN "__init__" = some (.ref fI) ∧ OwnTail h bmB bm := by
  unfold initIn at q
  split at q
  · rename_i dd cd sl ho
    split at q
    · rename_i C' bm k0 k1 k2 k3 n k5 hm hs
      simp only [Bool.and_eq_true, beq_iff_eq, Bool.not_eq_true'] at q
      obtain ⟨⟨⟨⟨⟨rfl, rfl⟩, hdel⟩, ht⟩, hok⟩, hni⟩ := q
      obtain ⟨nm, bs, mro, ns, qn, hd, sn, sub, ab, col, del⟩ := cd
      dsimp only at hm hdel hok hni
      subst hm hdel
      have hsl : sl = #[k0, k1, k2, k3, some (.builtin n), k5] := by
        obtain ⟨l⟩ := sl
        simp only at hs
        rw [hs]
      subst hsl
      exact ⟨nm, qn, ns, bs, bm, hd, sn, sub, ab, col, dd, k0, k1, k2, k3, k5, _, X _ _ ho, .of_isNs (isNs_of_in X hok), ns_some X (.of_isNs (isNs_of_in X hok)) hni, tail_of_in X ht⟩
    · cases q
  · cases q
abbrev excO (C t : Addr) : Obj := { cls := .ref C, data := .fields #[.ref t, .none, .none, .none, .bool false, .none] }
theorem make_exc {prog : Program} {w : World} {A : Around} {E : Value → Shared → Prop} {s : Shared} {K : Frag} {h₀ : Heap} {L C fI : Addr} {m : PySem.Str → Option Value} {news : List (Addr × Obj)} {rest bmB : List Value} {B newId initId : String} {oI : Obj} {Q : Value → Shared → Prop}
    (F : Fr h₀ L s.heap m) (X₀ : K.In h₀) (N : News h₀ L s.heap news) (FB : ExcBaseFacts B newId initId bmB) (q : initIn K C bmB newId fI = true) (hf : K.lookup fI = some oI) (hfc : oI.cls = .type "function") (hrest : rest.length ≤ sizeLine)
    (h : ∀ e t h', Fr h₀ L h' m → News h₀ L h' ((e, excO C t) :: (t, { cls := .type "tuple", data := .seq rest.toArray }) :: news) → (∀ p ∈ news, p.1 < t) → t < e →
      wpAny (model prog w) (A.under (.builtin "type.__call__" ⟨.ref C :: rest, []⟩)) (call (.ref fI) (.ref e :: rest)) (fun r s' => r = .none ∧ Q (.ref e) s') E { s with heap := h' }) :
    wpAny (model prog w) A (call (.ref C) rest) Q E s := by
  have X := X₀.keeps F.keep
  obtain ⟨nm, qn, N', bs, bm, hdct, sn, sub, ab, col, dd, k0, k1, k2, k3, k5, mN, hC, hn, hi, T⟩ := init_of_in X q
  obtain ⟨hp, g, d, tk, os⟩ := s
  dsimp only at F N X hC hn T
  have F₁ := F.push { cls := .type "tuple", data := .seq rest.toArray }
  have F₂ := F₁.push (excO C hp.objs.size)
  have e1 : (hp.push { cls := .type "tuple", data := .seq rest.toArray }).objs.size = hp.objs.size + 1 := size_push _ _
  refine call_own FB T hC hn hi (X _ _ hf) hfc hrest ?_
  refine h (hp.objs.size + 1) hp.objs.size _ F₂ ?_ (fun p hp' => Heap.lt_size (N p hp').1) (Nat.lt_succ_self _)
  intro p hp'
  rcases List.mem_cons.mp hp' with rfl | hp'
  · refine ⟨?_, ?_, ?_⟩
    · have := Heap.get?_push_size (o := excO C hp.objs.size) (hp.push { cls := .type "tuple", data := .seq rest.toArray }) rfl
      rw [e1] at this
      exact this
    · exact fun e => absurd F₁.ns.lt (by rw [← e, e1]; exact Nat.lt_irrefl _)
    · have := next_is_new F₁
      rw [e1] at this
      exact this
  rcases List.mem_cons.mp hp' with rfl | hp'
  · exact ⟨Heap.get?_push_of_some _ (Heap.get?_push_size _ rfl), fun e => absurd F.ns.lt (by rw [← e]; exact Nat.lt_irrefl _), next_is_new F⟩
  · exact ⟨Heap.get?_push_of_some _ (Heap.get?_push_of_some _ (N p hp').1), (N p hp').2⟩
end Mine

namespace Mine
open Builtin Builtin.ObjectAttr
theorem refuse_exc (self : Value) : refuseLoop self "__setattr__" [.type "Exception", .type "BaseException", .type "object"] = pure () := by kernel_rfl
def excOver : List Value → Bool
  | [.type a, .type b, .type c] => a == "Exception" && b == "BaseException" && c == "object"
  | .ref _ :: r => excOver r
  | _ => false
theorem refuse_over (self : Value) : ∀ {l : List Value}, excOver l = true → refuseLoop self "__setattr__" l = pure ()
  | [], e => by cases e
  | [.type _], e => by cases e
  | [.type _, .ref _], e => by cases e
  | .ref c :: r, e => by rw [refuseLoop_ref]; exact refuse_over self (by cases r <;> first | exact e | cases e)
  | [.type a, .type b, .type c], e => by
    simp only [excOver, Bool.and_eq_true, beq_iff_eq] at e
    obtain ⟨⟨rfl, rfl⟩, rfl⟩ := e
    exact refuse_exc self
theorem over_has : ∀ {l : List Value}, excOver l = true → l.contains (.type "object") = true
  | [], e => by cases e
  | .ref c :: r, e => by rw [List.contains_cons, over_has (l := r) (by cases r <;> first | exact e | cases e), Bool.or_true]
  | [.type a, .type b, .type c], e => by
    simp only [excOver, Bool.and_eq_true, beq_iff_eq] at e
    obtain ⟨⟨rfl, rfl⟩, rfl⟩ := e
    simp
section
variable {prog : Program} {w : World} {A : Around} {s : Shared} {K : Frag} {x C : Addr} {R : Result → Shared → Prop}
theorem osaE_open {ox : Obj} {od : Option Obj} {name : PySem.Str} {tk : Tok} {v : Value} {r : Option Value} (X : K.In s.heap) (I : InstAt s.heap x ox C od) (hp : ((clsIn K C).any fun cd => excOver cd.mro) = true) (ht : takerIn K C name = some r)
    (h : ∀ b, wpAny (model prog w) A.in1 (match r with | some a => setByDescriptor a (.ref x) v | none => storeInOwnDict (.ref x) (.ref C) (.str name tk) name v b)
      (fun fin s' => match fin with | .done f => R (.ok f) s' | .again c' => c'.quiet = true ∧ codeAny (model prog w) A c' R s') (fun e s' => R (.error e) s') s) :
    codeAny (model prog w) A (.call (.builtin "object.__setattr__") ⟨[.ref x, .str name tk, v], []⟩) R s := by
  have SF := PySem.F.store_object
  obtain ⟨cd, hc, ho⟩ := any_some hp
  have ne : cd.mro.isEmpty = false := by cases q : cd.mro with | nil => rw [q] at ho; cases ho | cons _ _ => rfl
  have sub : Looks (model prog w) s.heap (isInstance (.ref x) (.type "object")) true := I.type.andThen (looks_mroIn X (by unfold mroIn; rw [hc, Option.bind_some, if_neg (by rw [ne]; decide), over_has ho]))
  refine codeAny_call_builtin SF.slot.plain SF.entry (@check_slot (model prog w) _ _ s "object.__setattr__" "object" "__setattr__" (.ref x) [.str name tk, v] [] _ SF.kind SF.split sub (SF.args (.ref x) (.str name tk) v) ?_)
  obtain ⟨attr, ha, hr⟩ := Option.bind_eq_some_iff.mp ht
  have hm : Looks (model prog w) s.heap (mroOf (.ref C)) cd.mro := (looks_clsIn X hc).andThen .now
  have L3 : Looks (model prog w) s.heap (storeTaker? attr) r := by
    cases attr with
    | none => cases hr; exact .now
    | some a =>
      obtain ⟨b, hb, rfl⟩ := Option.map_eq_some_iff.mp hr
      refine (looks_takesIn X hb).andThen ?_
      cases b <;> exact .now
  rw [osa_eq, refuse_eq]
  refine wpAny_bind (wpAny_bind (I.type.here (wpAny_bind (hm.here ?_))))
  rw [refuse_over _ ho]
  refine wpAny_pure (wpAny_bind (I.type.here (wpAny_bind ((looks_findIn X ha).here (wpAny_bind (L3.here ?_))))))
  exact h _
theorem osaE_first {h₀ : Heap} {L : Addr} {m : PySem.Str → Option Value} {pre post : List (Addr × Obj)} {sl : Array (Option Value)} {vs : Array Value} {name : PySem.Str} {tk : Tok} {v : Value} (F : Fr h₀ L s.heap m) (N : News h₀ L s.heap (pre ++ (x, { cls := .ref C, data := .fields vs, slots := sl }) :: post)) (X : K.In s.heap)
    (hp : ((clsIn K C).any fun cd => excOver cd.mro) = true) (ht : takerIn K C name = some none) (hh : (clsIn K C).any (·.hasDict) = true) (h1 : ∀ p ∈ pre, p.1 ≠ x) (h2 : ∀ p ∈ post, p.1 ≠ x)
    (h : ∀ d h', Fr h₀ L h' m → News h₀ L h' ((d, dictOf [⟨PyData.keyHash w.params name, .str name s.toks, v⟩] 1) :: (pre ++ (x, { cls := .ref C, dict := some d, data := .fields vs, slots := sl }) :: post)) → (∀ p ∈ pre ++ (x, ({ cls := .ref C, data := .fields vs, slots := sl } : Obj)) :: post, p.1 < d) → R (.ok (.ret .none)) { s with heap := h', toks := s.toks + 1 }) :
    codeAny (model prog w) A (.call (.builtin "object.__setattr__") ⟨[.ref x, .str name tk, v], []⟩) R s := by
  have hx := (N (x, _) (List.mem_append_right _ (.head _))).1
  have I : InstAt s.heap x { cls := .ref C, data := .fields vs, slots := sl } C none := ⟨hx, rfl, rfl, trivial⟩
  refine osaE_open X I hp ht fun b => ?_
  obtain ⟨cd, hc, hd'⟩ := any_some hh
  refine wpAny_bind (wpAny_pure (wpAny_bind (wpAny_bind (wpAny_loadPart hx (wpAny_bind ((looks_clsIn X hc).here ?_))))))
  rw [hd']
  dsimp only
  rw [if_neg (by decide), if_neg (show ¬ ((!true || !typeHasDict (Value.ref C)) = true) from by simp [typeHasDict])]
  have N1 := N.push F (dictOf [] 0)
  have F1 := F.push (dictOf [] 0)
  have lt : ∀ p ∈ pre ++ (x, ({ cls := .ref C, data := .fields vs, slots := sl } : Obj)) :: post, p.1 < s.heap.objs.size := fun p hp => Heap.lt_size (N p hp).1
  obtain ⟨F2, N2⟩ := news_upd (pre := (s.heap.objs.size, dictOf [] 0) :: pre) (f := fun o => { cls := o.cls, dict := some s.heap.objs.size, data := o.data, slots := o.slots }) F1 N1 (fun p hp => by
    rcases List.mem_cons.mp hp with rfl | hp
    · exact Nat.ne_of_gt (lt (x, _) (List.mem_append_right _ (.head _)))
    · exact h1 p hp) h2 rfl rfl
  have hx1 := (N1 (x, _) (.tail _ (List.mem_append_right _ (.head _)))).1
  refine wpAny_bind (wpAny_alloc (wpAny_bind (wpAny_update hx1 (wpAny_pure ?_))))
  have D := (N2 (s.heap.objs.size, dictOf [] 0) (.head _)).1
  obtain ⟨U1, U2⟩ := news_upd (pre := []) (f := Obj.putName name (PyData.keyHash w.params name) (.str name s.toks) v) (o' := dictOf [⟨PyData.keyHash w.params name, .str name s.toks, v⟩] 1) F2 N2 (fun p hp => nomatch hp) (fun p hp => by
    have hp' : p ∈ pre ++ (x, ({ cls := .ref C, dict := some s.heap.objs.size, data := .fields vs, slots := sl } : Obj)) :: post := hp
    rcases List.mem_append.mp hp' with q | q
    · exact Nat.ne_of_lt (lt p (List.mem_append_left _ q))
    rcases List.mem_cons.mp q with rfl | q
    · exact Nat.ne_of_lt (lt (x, { cls := .ref C, data := .fields vs, slots := sl }) (List.mem_append_right _ (.head _)))
    · exact Nat.ne_of_lt (lt p (List.mem_append_right _ (.tail _ q)))) (by rw [putName_dict]; rfl) rfl
  have D' := (U2 (s.heap.objs.size, _) (.head _)).1
  show wpAny _ _ (storeInDict _ _ _ _) _ _ _
  refine wpAny_bind (wpAny_pure (wpAny_bind ?_))
  unfold nsSet
  refine wpAny_bind (wpAny_bind (wpAny_askSetting (wpAny_pure (wpAny_bind (wpAny_mkText (wpAny_bind (wpAny_loadPart D ?_)))))))
  dsimp only [dictOf]
  rw [aRefKeyMayBeTheName_at, show ((!(#[] : Array DictEntry).any (·.key.isStr name)) && (#[] : Array DictEntry).any (·.refKey)) = false from by simp]
  refine wpAny_updatePart D ?_
  refine wpAny_bind (wpAny_lookBehind D' (pastItsLine_dict (by rw [List.size_toArray, sizeLine_eq]; simp only [List.length_cons, List.length_nil]; omega)) ?_)
  exact wpAny_pure (h _ _ U1 U2 lt)
theorem osaE_next {h₀ : Heap} {L dx : Addr} {m : PySem.Str → Option Value} {pre post : List (Addr × Obj)} {ox : Obj} {name : PySem.Str} {tk : Tok} {v : Value} {es es' : List DictEntry} {n n' : Nat} (F : Fr h₀ L s.heap m) (N : News h₀ L s.heap (pre ++ (dx, dictOf es n) :: post)) (X : K.In s.heap)
    (I : InstAt s.heap x ox C (some (dictOf es n))) (hd : ox.dict = some dx)
    (hp : ((clsIn K C).any fun cd => excOver cd.mro) = true) (ht : takerIn K C name = some none) (hh : (clsIn K C).any (·.hasDict) = true) (h1 : ∀ p ∈ pre, p.1 ≠ dx) (h2 : ∀ p ∈ post, p.1 ≠ dx) (hk : es.any (·.refKey) = false)
    (e : (putL name (PyData.keyHash w.params name) (.str name s.toks) v es, putN name es n) = (es', n')) (hz : es'.length ≤ 1000)
    (h : ∀ h', Fr h₀ L h' m → News h₀ L h' (pre ++ (dx, dictOf es' n') :: post) → R (.ok (.ret .none)) { s with heap := h', toks := s.toks + 1 }) :
    codeAny (model prog w) A (.call (.builtin "object.__setattr__") ⟨[.ref x, .str name tk, v], []⟩) R s := by
  refine osaE_open X I hp ht fun b => ?_
  obtain ⟨cd, hc, hd'⟩ := any_some hh
  obtain ⟨e1, e2⟩ := Prod.mk.inj e
  obtain ⟨U1, U2⟩ := news_upd (f := Obj.putName name (PyData.keyHash w.params name) (.str name s.toks) v) (o' := dictOf es' n') F N h1 h2 (by rw [putName_dict, e1, e2]) rfl
  have D := (N (dx, dictOf es n) (by simp)).1
  have D' := (U2 (dx, dictOf es' n') (by simp)).1
  obtain ⟨hx, hcl, hn, -⟩ := I
  obtain ⟨oc, odi, oda, osl⟩ := ox
  dsimp only at hcl hd
  subst hcl hd
  refine wpAny_bind (wpAny_pure (wpAny_bind (wpAny_bind (wpAny_loadPart hx (wpAny_bind ((looks_clsIn X hc).here ?_))))))
  rw [hd']
  refine wpAny_pure (a := some dx) (wpAny_bind (wpAny_pure (wpAny_bind ?_)))
  unfold nsSet
  refine wpAny_bind (wpAny_bind (wpAny_askSetting (wpAny_pure (wpAny_bind (wpAny_mkText (wpAny_bind (wpAny_loadPart D ?_)))))))
  dsimp only [dictOf]
  rw [aRefKeyMayBeTheName_at, show es.toArray.any (·.refKey) = false from by rw [List.any_toArray]; exact hk, Bool.and_false]
  refine wpAny_updatePart D ?_
  refine wpAny_bind (wpAny_lookBehind D' (pastItsLine_dict (by rw [List.size_toArray, sizeLine_eq]; omega)) ?_)
  exact wpAny_pure (h _ U1 U2)
end
section
variable {prog : Program} {w : World} {A : Around} {E : Value → Shared → Prop} {s : Shared} {K : Frag} {x C : Addr} {h₀ : Heap} {L dx : Addr} {m : PySem.Str → Option Value} {news news' : List (Addr × Obj)} {g : Obj → List (Addr × Obj)} {sl : Array (Option Value)} {vs : Array Value} {name : PySem.Str} {v : Value} {es es' : List DictEntry} {n n' : Nat} {ox : Obj} {Q : Unit → Shared → Prop}
theorem setE_first (F : Fr h₀ L s.heap m) (X₀ : K.In h₀) (N : News h₀ L s.heap news) (U : UpdF x ({ cls := .ref C, data := .fields vs, slots := sl } : Obj) news g) (hs : findIn K (.ref C) "__setattr__" = some (some (.builtin "object.__setattr__")))
    (hp : ((clsIn K C).any fun cd => excOver cd.mro) = true) (ht : takerIn K C name = some none) (hh : hasDictIn K C = true)
    (h : ∀ d h' t, Fr h₀ L h' m → News h₀ L h' ((d, dictOf [⟨PyData.keyHash w.params name, .str name t, v⟩] 1) :: g { cls := .ref C, dict := some d, data := .fields vs, slots := sl }) → (∀ p ∈ news, p.1 < d) → Q () { s with heap := h', toks := s.toks + 2 }) :
    wpAny (model prog w) A (setAttr (.ref x) name v) Q E s := by
  obtain ⟨pre, post, rfl, hg, a, c⟩ := U.split
  have hx := (N (x, _) (List.mem_append_right _ (.head _))).1
  have I : InstAt s.heap x { cls := .ref C, data := .fields vs, slots := sl } C none := ⟨hx, rfl, rfl, trivial⟩
  refine set_plain (X₀.keeps F.keep) I hs (osaE_first (s := { s with toks := s.toks + 1 }) F N (X₀.keeps F.keep) hp ht hh a c fun d h' F' N' l => ?_)
  exact h d h' _ F' (by rw [hg]; exact N') l
theorem setE_next (F : Fr h₀ L s.heap m) (X₀ : K.In h₀) (N : News h₀ L s.heap news) (I : InstAt s.heap x ox C (some (dictOf es n))) (hd : ox.dict = some dx) (hs : findIn K (.ref C) "__setattr__" = some (some (.builtin "object.__setattr__")))
    (hp : ((clsIn K C).any fun cd => excOver cd.mro) = true) (ht : takerIn K C name = some none) (hh : hasDictIn K C = true) (hk : es.any (·.refKey) = false)
    (e : (putL name (PyData.keyHash w.params name) (.str name (s.toks + 1)) v es, putN name es n) = (es', n')) (U : Upd dx (dictOf es n) (dictOf es' n') news news') (hz : es'.length ≤ 1000)
    (h : ∀ h', Fr h₀ L h' m → News h₀ L h' news' → Q () { s with heap := h', toks := s.toks + 2 }) :
    wpAny (model prog w) A (setAttr (.ref x) name v) Q E s := by
  obtain ⟨pre, post, rfl, rfl, a, b⟩ := U.split
  exact set_plain (X₀.keeps F.keep) I hs (osaE_next (s := { s with toks := s.toks + 1 }) F N (X₀.keeps F.keep) I hd hp ht hh a b hk e hz fun h' F' N' => h h' F' N')
end
end Mine

namespace Mine
theorem initE {prog : Program} {w : World} {A : Around} {E : Value → Shared → Prop} {s : Shared} {K : Frag} {h₀ : Heap} {L C fI e t : Addr} {m : PySem.Str → Option Value} {news : List (Addr × Obj)} {g : Obj → List (Addr × Obj)} {bmB : List Value} {B newId initId : String} {Q : Value → Shared → Prop}
    (F : Fr h₀ L s.heap m) (X₀ : K.In h₀) (N : News h₀ L s.heap news) (FB : ExcBaseFacts B newId initId bmB) (q : initIn K C bmB newId fI = true) (U : UpdF e (excO C t) news g)
    (h : ∀ t' h', Fr h₀ L h' m → News h₀ L h' ((t', { cls := .type "tuple", data := .seq #[] }) :: g (excO C t')) → (∀ p ∈ news, p.1 < t') → Q .none { s with heap := h' }) :
    wpAny (model prog w) A (call (.builtin initId) [.ref e]) Q E s := by
  have X := X₀.keeps F.keep
  obtain ⟨nm, qn, N', bs, bm, hdct, sn, sub, ab, col, dd, k0, k1, k2, k3, k5, mN, hC, hn, hi, T⟩ := init_of_in X q
  obtain ⟨pre, post, rfl, hg, a, c⟩ := U.split
  obtain ⟨hp, gs, d, tk, os⟩ := s
  dsimp only at F N X hC hn T
  have he := (N (e, excO C t) (List.mem_append_right _ (.head _))).1
  have lt : ∀ p ∈ pre ++ (e, excO C t) :: post, p.1 < hp.objs.size := fun p hp' => Heap.lt_size (N p hp').1
  have N1 := N.push F { cls := .type "tuple", data := .seq #[] }
  have F1 := F.push { cls := .type "tuple", data := .seq #[] }
  obtain ⟨F2, N2⟩ := news_upd (pre := (hp.objs.size, { cls := .type "tuple", data := .seq #[] }) :: pre) (o' := excO C hp.objs.size) (f := Obj.mapFields (·.setIfInBounds 0 (.ref hp.objs.size))) F1 N1 (fun p hp' => by
    rcases List.mem_cons.mp hp' with rfl | hp'
    · exact Nat.ne_of_gt (lt (e, excO C t) (List.mem_append_right _ (.head _)))
    · exact a p hp') c rfl rfl
  refine wpAny_call (codeAny_call_builtin FB.init.plain FB.initEntry (wpAny_check_init_subU FB T hC he rfl ?_))
  wp_walk
  exact h _ _ F2 (by rw [hg]; exact N2) lt
theorem instE {h₀ h : Heap} {L x d C : Addr} {news : List (Addr × Obj)} {vs : Array Value} {sl : Array (Option Value)} {es : List DictEntry} {n : Nat} (N : News h₀ L h news) (m1 : (x, ({ cls := .ref C, dict := some d, data := .fields vs, slots := sl } : Obj)) ∈ news) (m2 : (d, dictOf es n) ∈ news) : InstAt h x { cls := .ref C, dict := some d, data := .fields vs, slots := sl } C (some (dictOf es n)) := ⟨(N _ m1).1, rfl, rfl, (N _ m2).1⟩
theorem keepE {h₀ h : Heap} {L : Addr} {a b c x y : Addr × Obj} {news : List (Addr × Obj)} (N : News h₀ L h (a :: b :: c :: x :: y :: news)) : News h₀ L h (x :: news) := news_sub N fun p hp => by
  rcases List.mem_cons.mp hp with rfl | hp
  · exact .tail _ (.tail _ (.tail _ (.head _)))
  · exact .tail _ (.tail _ (.tail _ (.tail _ (.tail _ hp))))
theorem init51 (w : World) : initIn (hd10.heap_39 w.params) 51 [.type "Exception", .type "BaseException", .type "object"] "Exception.__new__" 41 = true := by kernel_rfl
theorem over51 (w : World) : ((clsIn (hd10.heap_39 w.params) 51).any fun cd => excOver cd.mro) = true := by kernel_rfl
local macro_rules | `(tactic| walk_at "mine") => `(tactic| repeat' (first | (k_unfold; (try dsimp only)) | walk1 | (dsimp only; walk1) | (leave1; try dsimp only) | fail "no step"))
local macro_rules | `(tactic| k_mem) => `(tactic| (repeat (first | exact List.Mem.head _ | assumption | refine List.Mem.tail _ ?_)))
local macro_rules | `(tactic| k_room) => `(tactic| ktr_room)
local macro_rules | `(tactic| k_all) => `(tactic| assumption)
local macro_rules | `(tactic| walk_at "call builtin:Exception.__init__") => `(tactic| (k_dflt (refine' initE (fI := 41) ?F ?X ?N PySem.F.excBase_Exception ?q ?U ?_; (case F => k_asm); (case X => k_asm); (case N => k_asm); (case q => exact init51 _); (case U => k_updF)); intro t9 h' F' N' l1; (try dsimp only at N'); (try k_lt l1)))
local macro_rules | `(tactic| walk_at "setAttr ref") => `(tactic| (k_dflt (first
  | (refine' setE_first ?F ?X ?N ?U ?hs ?hp ?ht ?hh ?_; (case F => k_asm); (case X => k_asm); (case N => k_asm); (case U => k_updF); (case hs => k_is); (case hp => exact over51 _); (case ht => k_is); (case hh => k_is); intro d9 h' t9 F' N' l1; (try dsimp only at N'); (try k_lt l1))
  | (refine' setE_next ?F ?X ?N ?I ?hd ?hs ?hp ?ht ?hh ?hk ?e ?U ?hz ?_; (case F => k_asm); (case X => k_asm); (case N => k_asm); (case I => exact instE (by k_asm) (by k_mem) (by k_mem)); (case hd => exact rfl); (case hs => k_is); (case hp => exact over51 _); (case ht => k_is); (case hh => k_is); (case hk => exact rfl); (case e => k_put); (case U => k_upd); (case hz => exact Nat.le_of_ble_eq_true rfl); intro h' F' N'))))
theorem fault_init : ∀ (w : World) (mean : ExcName → Option Value) (mg mb : PySem.Str → Option Value) (dp un : Nat) (gd : Option (List Code)) (cn : PySem.Str) (nms : List (PySem.Str × NameKind)) (ig ic : Bool) (mo : List (PySem.Str × Const)) (a : Addr) (ccd : Value) (cl : List (PySem.Str × Addr)) (outer : List Env) (A₀ : Around) (base h₀ : Heap) (L : Addr) (m : PySem.Str → Option Value) (s : Shared) (Q E : Value → Shared → Prop)
    (news : List (Addr × Obj)) (e t : Addr) (t1 t2 : Tok) (o : Obj),
    Below A₀ base outer h₀ → Fr h₀ L s.heap m → (hd10.heap_39 w.params).In h₀ → News h₀ L s.heap ((e, excO 51 t) :: (t, o) :: news) → Top topProg (looseW hd10.view_39 [PySem.Str.ofString "Error", PySem.Str.ofString "_Method"] ++ (recsOf hd10.view_39).map (fun x => x.name) ++ (litsOf hd10.view_39).map (fun x => x.1) ++ (clssOf hd10.view_39 (looseW hd10.view_39 [PySem.Str.ofString "Error", PySem.Str.ofString "_Method"])).map (fun x => x.name)) mean mg mb h₀ → dp + 5 < recursionLimit → un + 30 < cLine →
    @LT.lt Nat _ t e → (∀ p ∈ news, p.1 ≠ e) → (∀ p ∈ news, p.1 ≠ t) →
    (∀ h' tk' t' d, Fr h₀ L h' m → News h₀ L h' ((e, { cls := .ref 51, dict := some d, data := .fields #[.ref t', .none, .none, .none, .bool false, .none] }) :: news) → Q .none { s with heap := h', toks := tk' }) →
    wpAny (model Challenge.rw_dn0306_10.prog w) (ktrTop dp un gd cn ⟨.function, nms, ig, ic, mo⟩ L a ccd cl outer) (call (.ref 41) [.ref e, .int 3 t1, .str (PySem.Str.ofString "three") t2]) Q E s := by
  k_fill
  intro w mean mg mb dp un gd cn nms ig ic mo a ccd cl outer A₀ base h₀ L m s Q E news e t t1 t2 o B F X N T hd hu hte hne1 hne2 hret
  have hk9 : (envX cn ⟨.function, nms, ig, ic, mo⟩ L a ccd cl).scope.kind = .function := rfl
  refine never ?_
  walk_at "mine"
  rename News h₀ L _ _ => kN
  rename Fr h₀ L _ _ => kF
  exact hret _ _ _ _ kF (keepE kN)
end Mine

namespace Mine
abbrev errO (d t : Addr) : Obj := { cls := .ref 51, dict := some d, data := .fields #[.ref t, .none, .none, .none, .bool false, .none] }
abbrev env10 (nms : List (PySem.Str × NameKind)) (ig ic : Bool) (mo : List (PySem.Str × Const)) (L fa : Addr) : Env := envOfC (PySem.Str.ofString "law") ⟨.function, nms, ig, ic, mo⟩ L fa (.ref 115)
theorem look41 (w : World) : ∃ oI, (hd10.heap_39 w.params).lookup 41 = some oI ∧ oI.cls = .type "function" := ⟨_, rfl, rfl⟩
theorem mk_fault : ∀ (w : World) (mean : ExcName → Option Value) (mg mb : PySem.Str → Option Value) (base h₀ : Heap) (L fa : Addr) (nms : List (PySem.Str × NameKind)) (ig ic : Bool) (mo : List (PySem.Str × Const)) (m : PySem.Str → Option Value) (s : Shared) (Q E : Value → Shared → Prop) (news : List (Addr × Obj)) (t1 t2 : Tok),
    Below callerA base [] h₀ → Fr h₀ L s.heap m → (hd10.heap_39 w.params).In h₀ → News h₀ L s.heap news → Top topProg (looseW hd10.view_39 [PySem.Str.ofString "Error", PySem.Str.ofString "_Method"] ++ (recsOf hd10.view_39).map (fun x => x.name) ++ (litsOf hd10.view_39).map (fun x => x.1) ++ (clssOf hd10.view_39 (looseW hd10.view_39 [PySem.Str.ofString "Error", PySem.Str.ofString "_Method"])).map (fun x => x.name)) mean mg mb h₀ →
    (∀ e t' d h' tk', Fr h₀ L h' m → News h₀ L h' ((e, errO d t') :: news) → (∀ p ∈ news, p.1 < e) → Q (.ref e) { s with heap := h', toks := tk' }) →
    wpAny (model Challenge.rw_dn0306_10.prog w) (callerA.deeper (env10 nms ig ic mo L fa)) (call (.ref 51) [.int 3 t1, .str (PySem.Str.ofString "three") t2]) Q E s := by
  intro w mean mg mb base h₀ L fa nms ig ic mo m s Q E news t1 t2 B F X N T hret
  obtain ⟨oI, hf, hfc⟩ := look41 w
  refine make_exc F X N PySem.F.excBase_Exception (init51 w) hf hfc (Nat.le_of_ble_eq_true rfl) fun e t h' F' N' lt1 lt2 => ?_
  have lt3 : ∀ p ∈ news, p.1 < e := fun p hp => Nat.lt_trans (lt1 p hp) lt2
  refine fault_init w mean mg mb _ _ _ _ _ _ _ _ _ _ _ _ _ base h₀ L m _ _ _ news e t t1 t2 _ B F' X N' T ?_ ?_ lt2 (fun p hp => Nat.ne_of_lt (lt3 p hp)) (fun p hp => Nat.ne_of_lt (lt1 p hp)) ?_
  · exact Nat.le_of_ble_eq_true (by kernel_rfl)
  · exact Nat.le_of_ble_eq_true (by kernel_rfl)
  intro h2 tk2 t' d F2 N2
  exact ⟨rfl, hret e t' d h2 tk2 F2 N2 lt3⟩
end Mine

namespace Mine
inductive ErrL (e : Addr) : List (Addr × Obj) → Prop
  | fresh {oe : Obj} {vs : Array Value} : oe.cls = .ref 51 → oe.data = .fields vs → vs[1]? = some .none → ErrL e [(e, oe)]
  | traced {oe oT : Obj} {vs ts : Array Value} {T : Addr} : oe.cls = .ref 51 → oe.data = .fields vs → vs[1]? = some (.ref T) → T ≠ e → oT.data = .fields ts → ts[3]? = some .none → ErrL e [(e, oe), (T, oT)]
theorem ErrL.mem {e : Addr} {ex : List (Addr × Obj)} (h : ErrL e ex) : e ∈ ex.map (·.1) := by cases h <;> exact .head _
section
variable {M : Model} {A : Around} {E : Value → Shared → Prop} {s' : Shared} {base g : Heap} {outer : List Env} {L a e : Addr} {m : PySem.Str → Option Value} {name : PySem.Str} {scope : Scope} {cd : Value} {Q : Unit → Shared → Prop} {news ex : List (Addr × Obj)}
theorem leave_err (K : Below A base outer g) (F : Fr g L s'.heap m) (N : News g L s'.heap (ex ++ news)) (hex : ErrL e ex) (hdis : ∀ p ∈ news, p.1 ∉ ex.map (·.1))
    (hQ : ∀ h', RaisedSN base g outer e (.ref 51) news h' → g.UpToSlots h' → Q () { s' with heap := h' }) (hk : scope.kind = .function := by rfl) :
    wpAny M (A.deeper (envOf name scope L a cd)) (leaving (envOf name scope L a cd) (.ref e)) Q E s' := by
  have K' := K.push (name := name) (a := a) (cd := cd) F hk
  have exN : ∀ b ∈ ex.map (·.1), g.get? b = none := fun b hb => by
    obtain ⟨p, hp, rfl⟩ := List.mem_map.mp hb
    exact (N p (List.mem_append_left _ hp)).2.2
  have hin : ∀ env ∈ (envOf name scope L a cd :: outer), ∀ b, env.frame = some b → b ∈ ex.map (·.1) ++ (envOf name scope L a cd :: outer).filterMap (·.frame) := fun env he b hb => List.mem_append_right _ (List.mem_filterMap.mpr ⟨env, he, hb⟩)
  have st : base.StaysIn (hideAll s'.heap (ex.map (·.1) ++ (envOf name scope L a cd :: outer).filterMap (·.frame))) := fun b o q => hideAll_get _ (K'.stays b o q) fun hm => by
    rcases List.mem_append.mp hm with hm | hm
    · have := fresh_of_stays K.stays (exN b hm); rw [q] at this; cases this
    · rw [(K'.frames.mem hm).1] at q; cases q
  have sg : ∀ b o, g.get? b = some o → b ∉ outer.filterMap (·.frame) → (hideAll s'.heap (ex.map (·.1) ++ (envOf name scope L a cd :: outer).filterMap (·.frame))).get? b = some o := fun b o q nm => hideAll_get _ (F.keep b o q) fun hm => by
    rcases List.mem_append.mp hm with hm | hm
    · rw [exN b hm] at q; cases q
    rcases kts_mem hm with z | z
    · rw [z, kts_self F] at q
      cases q
    · exact nm z
  have hl : ∀ q ∈ news, (hideAll s'.heap (ex.map (·.1) ++ (envOf name scope L a cd :: outer).filterMap (·.frame))).get? q.1 = some q.2 ∧ g.get? q.1 = none ∧ base.get? q.1 = none := fun q hq => by
    have Nq := N q (List.mem_append_right _ hq)
    refine ⟨hideAll_get _ Nq.1 fun hm => ?_, Nq.2.2, fresh_of_stays K.stays Nq.2.2⟩
    rcases List.mem_append.mp hm with hm | hm
    · exact hdis q hq hm
    rcases kts_mem hm with z | z
    · exact Nq.2.1 z
    · obtain ⟨o, ho, _⟩ := (K.frames.mem z).2
      rw [Nq.2.2] at ho; cases ho
  have hen : (hideAll s'.heap (ex.map (·.1) ++ (envOf name scope L a cd :: outer).filterMap (·.frame))).get? e = none := hideAll_none _ (List.mem_append_left _ hex.mem)
  have fr := funFrames_hide K'.frames hin
  cases hex with
  | @fresh oe vs h1 h2 h3 =>
    have he := (N (e, oe) (.head _)).1
    obtain ⟨a0, h0⟩ : ∃ a0, vs[0]? = some a0 := by
      have := (Array.getElem?_eq_some_iff.mp h3).1
      exact ⟨vs[0], by simp⟩
    refine wpAny_leaving_firstW (a0 := a0) K'.stack fr rfl he (fun b o hb => of_hideAll _ hb) hen h2 h3 h0 fun h' hL => ?_
    obtain ⟨k1, ⟨_, _, k2⟩, k3, k4⟩ := hL
    exact hQ h' ⟨_, a0, st, sg, hl, k1, hen, k2, by rw [← h1]; exact k3⟩ ((Heap.UpToSlots.of_keeps F.keep).trans k4)
  | @traced oe oT vs ts T h1 h2 h3 h4 h5 h6 =>
    have he := (N (e, oe) (.head _)).1
    have hT := (N (T, oT) (.tail _ (.head _))).1
    obtain ⟨a0, h0⟩ : ∃ a0, vs[0]? = some a0 := by
      have := (Array.getElem?_eq_some_iff.mp h3).1
      exact ⟨vs[0], by simp⟩
    refine wpAny_leaving_nextW (cls := .ref 51) (a0 := a0) K'.stack fr rfl ⟨oe, vs, T, oT, ts, he, ⟨h1, h0⟩, h2, h3, hideAll_none _ (.tail _ (.head _)), h4, hT, h5, h6⟩ (fun b o hb => of_hideAll _ hb) hen fun h' hL => ?_
    obtain ⟨k1, ⟨_, _, k2⟩, k3, k4⟩ := hL
    exact hQ h' ⟨_, a0, st, sg, hl, k1, hen, k2, k3⟩ ((Heap.UpToSlots.of_keeps F.keep).trans k4)
theorem frame_mem {env : Env} {b : Addr} (hf : env.frame = some L) (hm : b ∈ (env :: outer).filterMap (·.frame)) : b = L ∨ b ∈ outer.filterMap (·.frame) := by
  obtain ⟨env', he, hf'⟩ := List.mem_filterMap.mp hm
  rcases List.mem_cons.mp he with rfl | he
  · rw [hf] at hf'; exact .inl (Option.some.inj hf').symm
  · exact .inr (List.mem_filterMap.mpr ⟨env', he, hf'⟩)
theorem leave_onX {env : Env} {g₂ : Heap} {cls : Value} (hf : env.frame = some L) (K : Below A base outer g) (F : Fr g L g₂ m) (R : RaisedSN base g₂ (env :: outer) e cls news s'.heap) (hsm : g₂.UpToSlots s'.heap)
    (hQ : ∀ h', RaisedSN base g outer e cls news h' → g.UpToSlots h' → Q () { s' with heap := h' }) :
    wpAny M (A.deeper env) (leaving env (.ref e)) Q E s' := by
  obtain ⟨B, a0, hB, hBG, hl, hfl⟩ := R
  refine wpAny_leaves_onW (Around.frames_deeper K.stack) hf hfl fun h' x1 x2 => hQ h' ⟨B, a0, hB, fun b o q nm => hBG b o (F.keep b o q) fun hm => ?_, fun q hq => ⟨(hl q hq).1, kts_none F.keep (hl q hq).2.1, (hl q hq).2.2⟩, x1⟩ ((Heap.UpToSlots.of_keeps F.keep).trans (hsm.trans x2))
  rcases frame_mem hf hm with z | z
  · rw [z, kts_self F] at q
    cases q
  · exact nm z
end
end Mine

namespace Mine
abbrev tupO (vs : List Value) : Obj := { cls := .type "tuple", data := .seq vs.toArray }
abbrev methD (P : Params) (v : Value) (nm : PySem.Str) (t1 t2 t3 : Tok) : Obj := dictOf [⟨PyData.keyHash P (PySem.Str.ofString "_Method__send"), .str (PySem.Str.ofString "_Method__send") t1, v⟩, ⟨PyData.keyHash P (PySem.Str.ofString "_Method__name"), .str (PySem.Str.ofString "_Method__name") t2, .str nm t3⟩] 2
abbrev kidN (nm x : PySem.Str) : PySem.Str := PySem.Str.empty ++ nm ++ PySem.Str.ofString "." ++ x
def Calls (w : World) (dpn unn : Nat) (y : Addr) (vs : List Value) (news : List (Addr × Obj)) (Post : Value → List (Addr × Obj) → Prop) : Prop :=
  ∀ (mean : ExcName → Option Value) (mg mb : PySem.Str → Option Value) (dp un : Nat) (gd : Option (List Code)) (cn : PySem.Str) (nms : List (PySem.Str × NameKind)) (ig ic : Bool) (mo : List (PySem.Str × Const)) (a : Addr) (ccd : Value) (cl : List (PySem.Str × Addr)) (outer : List Env) (A₀ : Around) (base h₀ : Heap) (L : Addr) (m : PySem.Str → Option Value) (s : Shared) (Q E : Value → Shared → Prop),
    Below A₀ base outer h₀ → Fr h₀ L s.heap m → (hd10.heap_39 w.params).In h₀ → News h₀ L s.heap news → Top topProg (looseW hd10.view_39 [PySem.Str.ofString "Error", PySem.Str.ofString "_Method"] ++ (recsOf hd10.view_39).map (fun x => x.name) ++ (litsOf hd10.view_39).map (fun x => x.1) ++ (clssOf hd10.view_39 (looseW hd10.view_39 [PySem.Str.ofString "Error", PySem.Str.ofString "_Method"])).map (fun x => x.name)) mean mg mb h₀ → dp + dpn < recursionLimit → un + unn < cLine →
    (∀ r news' h' tk', Fr h₀ L h' m → News h₀ L h' news' → Post r news' → Q r { s with heap := h', toks := tk' }) →
    wpAny (model Challenge.rw_dn0306_10.prog w) (ktrTop dp un gd cn ⟨.function, nms, ig, ic, mo⟩ L a ccd cl outer) (call (.ref y) vs) Q E s
theorem short_shape {vs : List Value} (h : vs.length ≤ 2) : vs = [] ∨ (∃ a, vs = [a]) ∨ ∃ a b, vs = [a, b] := by
  rcases vs with _ | ⟨a, _ | ⟨b, _ | ⟨c, r⟩⟩⟩
  · exact .inl rfl
  · exact .inr (.inl ⟨a, rfl⟩)
  · exact .inr (.inr ⟨a, b, rfl⟩)
  · simp at h
local macro_rules | `(tactic| walk_at "mine") => `(tactic| repeat' (first | (k_unfold; (try dsimp only)) | walk1 | (dsimp only; walk1) | (leave1; try dsimp only) | fail "no step"))
local macro_rules | `(tactic| k_mem) => `(tactic| assumption)
local macro_rules | `(tactic| k_room) => `(tactic| ktr_room)
local macro_rules | `(tactic| walk_at "call ref") => `(tactic| ((fail_if_success (with_reducible show wpAny _ _ (call (Value.ref 74) _) _ _ _)); (fail_if_success (with_reducible show wpAny _ _ (call (Value.ref 84) _) _ _ _)); refine Halt.go ?_))
local macro_rules | `(tactic| walk_at "getMethod ref") => `(tactic| (k_here; k_dflt (refine' methH ?k1 ?k2 ?k3 ?k4 ?k5 ?_; (case k1 => k_asm); (case k2 => k_asm); (case k3 => k_inst); (case k4 => k_is); (case k5 => k_is); k_whole)))
local macro_rules | `(tactic| walk_at "getAttr ref") => `(tactic| (k_here; k_dflt (refine' getH_miss ?k1 ?k2 ?k3 ?k4 ?k5 ?k6 ?k7 ?k8 ?k9 ?k10 ?_; (case k1 => k_asm); (case k2 => k_asm); (case k3 => k_inst); (case k4 => k_is); (case k5 => k_is); (case k6 => k_is); (case k7 => k_get); (case k8 => decide); (case k9 => k_is); (case k10 => k_is); k_whole)))
local macro_rules | `(tactic| walk_at "getAttr ref") => `(tactic| (k_here; k_dflt (refine' getH_own ?k1 ?k2 ?k3 ?k4 ?k5 ?k6 ?k7 ?k8 ?k9 ?_; (case k1 => k_asm); (case k2 => k_asm); (case k3 => k_inst); (case k4 => k_is); (case k5 => k_is); (case k6 => k_is); (case k7 => k_is); (case k8 => k_get); (case k9 => k_handed); k_whole)))
local macro_rules | `(tactic| walk_at "callWith ref") => `(tactic| (k_here; k_dflt (refine' callWith_led ?k1 ?_; (case k1 => assumption); k_whole)))
local macro_rules | `(tactic| walk_at "And") => `(tactic| ((with_reducible show Heap.get? _ _ = some _ ∧ _); k_dflt (refine ⟨News.get (by k_asm) (by k_mem), ?_⟩); try dsimp only [List.nil_append, List.cons_append]))
local macro_rules | `(tactic| k_all) => `(tactic| assumption)
local macro_rules | `(tactic| walk_at "call builtin:list.append") => `(tactic| (k_dflt (refine' append_K ?k1 ?k2 ?k3 ?_ ?z; (case k1 => k_asm); (case k2 => k_asm); (case k3 => k_upd); (case z => (rw [sizeLine_eq]; omega)); k_whole); intro h' F' N'))
theorem calls_meth : ∀ (w : World) (dpn unn : Nat) (x d y : Addr) (oy : Obj) (nm : PySem.Str) (t1 t2 t3 : Tok) (vs : List Value) (news : List (Addr × Obj)) (Post : Value → List (Addr × Obj) → Prop),
    (x, instObj 84 d) ∈ news → (d, methD w.params (.ref y) nm t1 t2 t3) ∈ news → (y, oy) ∈ news → Callee oy → vs.length ≤ 2 →
    (∀ D, (∀ p ∈ news, p.1 < D) → Calls w dpn unn y [.str nm t3, .ref D] ((D, tupO vs) :: news) Post) → Calls w (dpn + 1) (unn + 10) x vs news Post := by
  unfold Calls
  k_fill
  intro w dpn unn x d y oy nm t1 t2 t3 vs news Post hx hdx hy hcy hvs next mean mg mb dp un gd cn nms ig ic mo a ccd cl outer A₀ base h₀ L m s Q E B F X N T hd hu hret
  refine never ?_
  refine wpAny_call ?_
  refine' kco_code ?k1 ?k2 ?k3 ?k4 ?k5 ?k6 ?_
  case k1 => k_in
  case k2 => k_inst
  case k3 => rfl
  case k4 => k_is
  case k5 => k_is
  case k6 => k_is
  (try dsimp only)
  refine' kp_rest (vs := vs) (g₁ := fun D => some [(PySem.Str.ofString "self", _), (PySem.Str.ofString "args", Value.ref D)]) ?k1 ?k2 ?k3 ?k4 ?k5 ?kA ?kF ?kK ?k6 ?k7 ?k8 ?kV ?kP ?kG ?kB ?_ ?c2 ?c3 ?c4 ?c5; (case kA => exact rfl); (case kF => exact rfl); (case kK => exact rfl); (case k1 => k_asm); (case k2 => k_asm); (case k3 => k_asm); (case k4 => k_asm); (case k5 => k_asm); (case k6 => k_is); (case k7 => k_is); (case k8 => k_room); (case kV => exact rfl); (case kP => (rename List.length _ ≤ 2 => hv9; rcases short_shape hv9 with rfl | ⟨_, rfl⟩ | ⟨_, _, rfl⟩ <;> exact rfl)); (case kG => exact fun _ => rfl); (case kB => exact fun _ => locs rfl); (case c5 => decide); (case c2 => exact rfl); (case c3 => exact rfl); (case c4 => exact rfl)
  intro D' g' L' h' l1 FG' F' N' B' X' T'; (try dsimp only); (try k_lift B'); (try k_fold)
  walk_at "mine"
  show wpAny _ _ _ _ _ _
  refine next D' l1 mean mg mb _ _ _ _ _ _ _ _ _ _ _ _ _ _ _ _ _ _ _ _ B' (by k_asm) X' (by k_asm) T' (by show dp + 1 + dpn < _; omega) (by show un + 3 + unn < _; omega) ?_
  intro r news' h9 tk9 F9 N9 P9
  walk_at "mine"
  exact hret _ _ _ _ (by k_asm) (by k_asm) P9
end Mine

namespace Mine
def RCalls (w : World) (dpn unn : Nat) (e y : Addr) (vs : List Value) (news : List (Addr × Obj)) (Post : List (Addr × Obj) → Prop) : Prop :=
  ∀ (mean : ExcName → Option Value) (mg mb : PySem.Str → Option Value) (dp un : Nat) (gd : Option (List Code)) (cn : PySem.Str) (nms : List (PySem.Str × NameKind)) (ig ic : Bool) (mo : List (PySem.Str × Const)) (a : Addr) (ccd : Value) (cl : List (PySem.Str × Addr)) (outer : List Env) (A₀ : Around) (base h₀ : Heap) (L : Addr) (m : PySem.Str → Option Value) (s : Shared) (Q E : Value → Shared → Prop),
    Below A₀ base outer h₀ → Fr h₀ L s.heap m → (hd10.heap_39 w.params).In h₀ → News h₀ L s.heap news → Top topProg (looseW hd10.view_39 [PySem.Str.ofString "Error", PySem.Str.ofString "_Method"] ++ (recsOf hd10.view_39).map (fun x => x.name) ++ (litsOf hd10.view_39).map (fun x => x.1) ++ (clssOf hd10.view_39 (looseW hd10.view_39 [PySem.Str.ofString "Error", PySem.Str.ofString "_Method"])).map (fun x => x.name)) mean mg mb h₀ → dp + dpn < recursionLimit → un + unn < cLine →
    (∀ g' news' h' tk', Fr h₀ L g' m → RaisedSN base g' (envX cn ⟨.function, nms, ig, ic, mo⟩ L a ccd cl :: outer) e (.ref 51) news' h' → g'.UpToSlots h' → Post news' → E (.ref e) { s with heap := h', toks := tk' }) →
    wpAny (model Challenge.rw_dn0306_10.prog w) (ktrTop dp un gd cn ⟨.function, nms, ig, ic, mo⟩ L a ccd cl outer) (call (.ref y) vs) Q E s
local macro_rules | `(tactic| walk_at "mine") => `(tactic| repeat' (first | (k_unfold; (try dsimp only)) | walk1 | (dsimp only; walk1) | (leave1; try dsimp only) | fail "no step"))
local macro_rules | `(tactic| k_mem) => `(tactic| assumption)
local macro_rules | `(tactic| k_room) => `(tactic| ktr_room)
local macro_rules | `(tactic| walk_at "call ref") => `(tactic| ((fail_if_success (with_reducible show wpAny _ _ (call (Value.ref 74) _) _ _ _)); (fail_if_success (with_reducible show wpAny _ _ (call (Value.ref 84) _) _ _ _)); refine Halt.go ?_))
local macro_rules | `(tactic| walk_at "getMethod ref") => `(tactic| (k_here; k_dflt (refine' methH ?k1 ?k2 ?k3 ?k4 ?k5 ?_; (case k1 => k_asm); (case k2 => k_asm); (case k3 => k_inst); (case k4 => k_is); (case k5 => k_is); k_whole)))
local macro_rules | `(tactic| walk_at "getAttr ref") => `(tactic| (k_here; k_dflt (refine' getH_miss ?k1 ?k2 ?k3 ?k4 ?k5 ?k6 ?k7 ?k8 ?k9 ?k10 ?_; (case k1 => k_asm); (case k2 => k_asm); (case k3 => k_inst); (case k4 => k_is); (case k5 => k_is); (case k6 => k_is); (case k7 => k_get); (case k8 => decide); (case k9 => k_is); (case k10 => k_is); k_whole)))
local macro_rules | `(tactic| walk_at "getAttr ref") => `(tactic| (k_here; k_dflt (refine' getH_own ?k1 ?k2 ?k3 ?k4 ?k5 ?k6 ?k7 ?k8 ?k9 ?_; (case k1 => k_asm); (case k2 => k_asm); (case k3 => k_inst); (case k4 => k_is); (case k5 => k_is); (case k6 => k_is); (case k7 => k_is); (case k8 => k_get); (case k9 => k_handed); k_whole)))
local macro_rules | `(tactic| walk_at "callWith ref") => `(tactic| (k_here; k_dflt (refine' callWith_led ?k1 ?_; (case k1 => assumption); k_whole)))
local macro_rules | `(tactic| walk_at "And") => `(tactic| ((with_reducible show Heap.get? _ _ = some _ ∧ _); k_dflt (refine ⟨News.get (by k_asm) (by k_mem), ?_⟩); try dsimp only [List.nil_append, List.cons_append]))
local macro_rules | `(tactic| k_all) => `(tactic| assumption)
local macro_rules | `(tactic| walk_at "call builtin:list.append") => `(tactic| (k_dflt (refine' append_K ?k1 ?k2 ?k3 ?_ ?z; (case k1 => k_asm); (case k2 => k_asm); (case k3 => k_upd); (case z => (rw [sizeLine_eq]; omega)); k_whole); intro h' F' N'))
theorem rcalls_meth : ∀ (w : World) (dpn unn : Nat) (e x d y : Addr) (oy : Obj) (nm : PySem.Str) (t1 t2 t3 : Tok) (vs : List Value) (news : List (Addr × Obj)) (Post : List (Addr × Obj) → Prop),
    (x, instObj 84 d) ∈ news → (d, methD w.params (.ref y) nm t1 t2 t3) ∈ news → (y, oy) ∈ news → Callee oy → vs.length ≤ 2 →
    (∀ D, (∀ p ∈ news, p.1 < D) → RCalls w dpn unn e y [.str nm t3, .ref D] ((D, tupO vs) :: news) Post) → RCalls w (dpn + 1) (unn + 10) e x vs news Post := by
  unfold RCalls
  k_fill
  intro w dpn unn e x d y oy nm t1 t2 t3 vs news Post hx hdx hy hcy hvs next mean mg mb dp un gd cn nms ig ic mo a ccd cl outer A₀ base h₀ L m s Q E B F X N T hd hu hret
  refine wpAny_call ?_
  refine' kco_code ?k1 ?k2 ?k3 ?k4 ?k5 ?k6 ?_
  case k1 => k_in
  case k2 => k_inst
  case k3 => rfl
  case k4 => k_is
  case k5 => k_is
  case k6 => k_is
  (try dsimp only)
  refine' kp_rest (vs := vs) (g₁ := fun D => some [(PySem.Str.ofString "self", _), (PySem.Str.ofString "args", Value.ref D)]) ?k1 ?k2 ?k3 ?k4 ?k5 ?kA ?kF ?kK ?k6 ?k7 ?k8 ?kV ?kP ?kG ?kB ?_ ?c2 ?c3 ?c4 ?c5; (case kA => exact rfl); (case kF => exact rfl); (case kK => exact rfl); (case k1 => k_asm); (case k2 => k_asm); (case k3 => k_asm); (case k4 => k_asm); (case k5 => k_asm); (case k6 => k_is); (case k7 => k_is); (case k8 => k_room); (case kV => exact rfl); (case kP => (rename List.length _ ≤ 2 => hv9; rcases short_shape hv9 with rfl | ⟨_, rfl⟩ | ⟨_, _, rfl⟩ <;> exact rfl)); (case kG => exact fun _ => rfl); (case kB => exact fun _ => locs rfl); (case c5 => decide); (case c2 => exact rfl); (case c3 => exact rfl); (case c4 => exact rfl)
  intro D' g' L' h' l1 FG' F' N' B' X' T'; (try dsimp only); (try k_lift B'); (try k_fold)
  walk_at "mine"
  show wpAny _ _ _ _ _ _
  refine next D' l1 mean mg mb _ _ _ _ _ _ _ _ _ _ _ _ _ _ _ _ _ _ _ _ B' (by k_asm) X' (by k_asm) T' (by show dp + 1 + dpn < _; omega) (by show un + 3 + unn < _; omega) ?_
  intro g'' news'' h9 tk9 F9 R9 u9 P9
  show wpAny _ _ _ _ _ _
  refine leave_onX rfl B' F9 R9 u9 ?_
  intro h8 R8 u8
  exact hret _ _ _ _ (by k_asm) R8 u8 P9
end Mine

namespace Mine
section
variable {M : Model} {A : Around} {E : Value → Shared → Prop} {s : Shared} {env : Env}
variable {nm q : PySem.Str} {C N : Addr} {bs bm : List Value} {hdct : Bool} {sn : List PySem.Str} {sub : List Value} {ab : Bool} {col : Option Bool} {dd : Option Addr} {k0 k1 k2 k3 k5 : Option Value} {newId : String}
def RaisO (M : Model) (A : Around) (E : Value → Shared → Prop) (v : Value) (s₁ : Shared) : Prop := ∃ a ob vs nm q C N bs bm hdct sn sub ab col dd k0 k1 k2 k3 k5 newId, v = .ref a ∧ s₁.heap.get? a = some ob ∧ ob.cls = .ref C ∧ ob.data = .fields vs ∧ s₁.heap.get? C = some (excClassObj nm q C N bs bm hdct sn sub ab col dd k0 k1 k2 k3 k5 newId) ∧ (Value.ref C :: bm).contains (.type "BaseException") = true ∧
      wpAny M A (setFlight (.ref a) none) (fun _ s₂ => E (.ref a) s₂) E s₁
theorem raise_own {x : Expr} {pos : Pos} {Q : Flow → Shared → Prop} (hh : A.handled = none)
    (h : wpAny M A (eval x env) (RaisO M A E) E s) : wpAny M A (exec (.Raise (some x) none pos) env) Q E s := by
  show wpAny M A (do standAt pos; raiseStmt env (some (do let v ← eval x env; standAt pos; pure v)) none) Q E s
  refine wpAny_bind (wpAny_standAt ?_)
  unfold raiseStmt
  dsimp only
  refine wpAny_bind (wpAny_bind (wpAny_mono h (fun v s₁ h₁ => wpAny_bind (wpAny_standAt (wpAny_pure ?_))) fun _ _ x => x))
  obtain ⟨a, ob, vs, nm, q, C, N, bs, bm, hdct, sn, sub, ab, col, dd, k0, k1, k2, k3, k5, newId, rfl, ha, hcls, hd, hC, hcont, hE⟩ := h₁
  have hnt : ∀ {Q' : Bool → Shared → Prop}, Q' false s₁ → wpAny M A (isType (.ref a)) Q' E s₁ := by
    intro Q' hq
    simp only [isType, loadHead]
    refine wpAny_bind (wpAny_loadPart ha ?_)
    rw [hd]; exact wpAny_pure hq
  have hty : Looks M s₁.heap (typeOf (.ref a)) (.ref C) := by
    have : Looks M s₁.heap (typeOf (.ref a)) ob.cls := (Looks.ld ha).andThen .now
    rw [hcls] at this
    exact this
  have htc : Looks M s₁.heap (typeOf (.ref C)) (.type "type") := (Looks.ld hC).andThen .now
  refine wpAny_bind (wpAny_pure ?_)
  dsimp only
  refine wpAny_bind (wpAny_holding ?_)
  unfold excFromValue isExcClass
  refine wpAny_bind (wpAny_bind (hnt ?_))
  simp only [Bool.false_eq_true, if_false]
  refine wpAny_pure ?_
  simp only [Bool.false_eq_true, if_false]
  unfold isInstance
  obtain ⟨hp, gs, dr, tk, os⟩ := s₁
  refine wpAny_bind (wpAny_bind (hty.here (wpAny_isSubtype_exc hC ?_)))
  rw [hcont]
  simp only [if_true]
  refine wpAny_pure ?_
  refine wpAny_bind (hnt ?_)
  simp only [Bool.false_eq_true, if_false]
  unfold raisedInstance
  refine wpAny_bind (wpAny_bind (hty.here (wpAny_bind (htc.here ?_))))
  rw [if_pos (by decide)]
  refine wpAny_pure (wpAny_bind (wpAny_mono hE (fun _ s₂ h₂ => ?_) fun _ _ x => x))
  unfold raiseNew
  refine wpAny_bind (wpAny_handled ?_)
  rw [hh]
  first
    | exact wpAny_throw h₂
    | exact wpAny_bind (wpAny_pure (wpAny_throw h₂))
end
theorem flight_err {M : Model} {A : Around} {E : Value → Shared → Prop} {s : Shared} {g : Heap} {L e : Addr} {m : PySem.Str → Option Value} {news ex : List (Addr × Obj)} {Q : Unit → Shared → Prop} (F : Fr g L s.heap m) (N : News g L s.heap (ex ++ news)) (hex : ErrL e ex) (hdis : ∀ p ∈ news, p.1 ∉ ex.map (·.1))
    (h : ∀ h', Fr g L h' m → News g L h' (ex ++ news) → Q () { s with heap := h' }) : wpAny M A (setFlight (.ref e) none) Q E s := by
  unfold setFlight
  cases hex with
  | @fresh oe vs h1 h2 h3 =>
    have he := (N (e, oe) (.head _)).1
    refine wpAny_bind (wpAny_field he h2 h3 ?_)
    rw [if_neg (by decide)]
    exact wpAny_pure (h _ F N)
  | @traced oe oT vs ts T h1 h2 h3 h4 h5 h6 =>
    have he := (N (e, oe) (.head _)).1
    have hT := (N (T, oT) (.tail _ (.head _))).1
    have hlt := (Array.getElem?_eq_some_iff.mp h6).1
    have eq : Obj.mapFields (·.setIfInBounds 3 Value.none) oT = oT := by
      obtain ⟨c0, d0, da, sl⟩ := oT
      dsimp only at h5
      subst h5
      have : ts.setIfInBounds 3 Value.none = ts := by
        apply Array.ext
        · simp
        · intro i hi1 hi2
          rw [Array.getElem_setIfInBounds]
          split
          · rename_i e3
            subst e3
            exact ((Array.getElem?_eq_some_iff.mp h6).2).symm
          · rfl
      simp only [Obj.mapFields, this]
    obtain ⟨F2, N2⟩ := news_upd (pre := [(e, oe)]) (post := news) (f := Obj.mapFields (·.setIfInBounds 3 Value.none)) (o' := oT) F N (fun p hp => by rw [List.mem_singleton.mp hp]; exact h4.symm) (fun p hp q => hdis p hp (by rw [q]; exact .tail _ (.head _))) eq (Obj.isFreed_of_fields h5)
    refine wpAny_bind (wpAny_field he h2 h3 ?_)
    rw [if_pos (show (Value.ref T != Value.none) = true from by simp)]
    exact wpAny_setField hT h5 hlt (h _ F2 N2)
end Mine

namespace Mine
local macro_rules | `(tactic| walk_at "mine") => `(tactic| repeat' (first | (k_unfold; (try dsimp only)) | walk1 | (dsimp only; walk1) | (leave1; try dsimp only) | fail "no step"))
local macro_rules | `(tactic| k_mem) => `(tactic| (repeat (first | exact List.Mem.head _ | assumption | refine List.Mem.tail _ ?_)))
local macro_rules | `(tactic| k_room) => `(tactic| ktr_room)
local macro_rules | `(tactic| walk_at "call ref") => `(tactic| ((fail_if_success (with_reducible show wpAny _ _ (call (Value.ref 74) _) _ _ _)); (fail_if_success (with_reducible show wpAny _ _ (call (Value.ref 84) _) _ _ _)); refine Halt.go ?_))
local macro_rules | `(tactic| walk_at "getMethod ref") => `(tactic| (k_here; k_dflt (refine' methH ?k1 ?k2 ?k3 ?k4 ?k5 ?_; (case k1 => k_asm); (case k2 => k_asm); (case k3 => k_inst); (case k4 => k_is); (case k5 => k_is); k_whole)))
local macro_rules | `(tactic| walk_at "getAttr ref") => `(tactic| (k_here; k_dflt (refine' getH_miss ?k1 ?k2 ?k3 ?k4 ?k5 ?k6 ?k7 ?k8 ?k9 ?k10 ?_; (case k1 => k_asm); (case k2 => k_asm); (case k3 => k_inst); (case k4 => k_is); (case k5 => k_is); (case k6 => k_is); (case k7 => k_get); (case k8 => decide); (case k9 => k_is); (case k10 => k_is); k_whole)))
local macro_rules | `(tactic| walk_at "getAttr ref") => `(tactic| (k_here; k_dflt (refine' getH_own ?k1 ?k2 ?k3 ?k4 ?k5 ?k6 ?k7 ?k8 ?k9 ?_; (case k1 => k_asm); (case k2 => k_asm); (case k3 => k_inst); (case k4 => k_is); (case k5 => k_is); (case k6 => k_is); (case k7 => k_is); (case k8 => k_get); (case k9 => k_handed); k_whole)))
local macro_rules | `(tactic| walk_at "callWith ref") => `(tactic| (k_here; k_dflt (refine' callWith_led ?k1 ?_; (case k1 => assumption); k_whole)))
local macro_rules | `(tactic| walk_at "And") => `(tactic| ((with_reducible show Heap.get? _ _ = some _ ∧ _); k_dflt (refine ⟨News.get (by k_asm) (by k_mem), ?_⟩); try dsimp only [List.nil_append, List.cons_append]))
local macro_rules | `(tactic| k_all) => `(tactic| assumption)
local macro_rules | `(tactic| walk_at "call builtin:list.append") => `(tactic| (k_dflt (refine' append_K ?k1 ?k2 ?k3 ?_ ?z; (case k1 => k_asm); (case k2 => k_asm); (case k3 => k_upd); (case z => (rw [sizeLine_eq]; omega)); k_whole); intro h' F' N'))
local macro_rules | `(tactic| walk_at "exec Raise some none") => `(tactic| refine Halt.go ?_)
theorem ErrL.obj {e : Addr} {ex : List (Addr × Obj)} (h : ErrL e ex) : ∃ oe vs, (e, oe) ∈ ex ∧ oe.cls = .ref 51 ∧ oe.data = .fields vs := by
  cases h with
  | fresh a b c => exact ⟨_, _, .head _, a, b⟩
  | traced a b c => exact ⟨_, _, .head _, a, b⟩
theorem own_has {h : Heap} {bmB bm : List Value} {v : Value} (T : OwnTail h bmB bm) (hv : bmB.contains v = true) : bm.contains v = true := by
  induction T with
  | base => exact hv
  | own _ _ _ _ ih => rw [List.contains_cons, ih, Bool.or_true]
theorem fail_raises : ∀ (w : World) (e log D : Addr) (nm : PySem.Str) (t : Tok) (logs : Array Value) (el : Nat) (ex rest : List (Addr × Obj)) (Post : List (Addr × Obj) → Prop),
    ErrL e ex → logs.size ≤ 900 → (∀ p ∈ rest, p.1 ≠ log) → (∀ p ∈ rest, p.1 ∉ ex.map (·.1)) → log ∉ ex.map (·.1) →
    (∀ E9 u, (∀ p ∈ ex ++ rest, p.1 < E9) → Post ((log, W.listOf (logs.push (.ref E9)) (el + 1)) :: (E9, W.listOf #[.int 1 u, .str nm t, .ref D] 0) :: rest)) →
    RCalls w 2 20 e 102 [.ref log, .ref e, .str nm t, .ref D] ((log, W.listOf logs el) :: (ex ++ rest)) Post := by
  unfold RCalls
  k_fill
  intro w e log D nm t logs el ex rest Post hex hlg hne hdis hdl post mean mg mb dp un gd cn nms ig ic mo a ccd cl outer A₀ base h₀ L m s Q E B F X N T hd hu hret
  have hk9 : (envX cn ⟨.function, nms, ig, ic, mo⟩ L a ccd cl).scope.kind = .function := rfl
  have hne' : ∀ p ∈ ex ++ rest, p.1 ≠ log := fun p hp => (List.mem_append.mp hp).elim (fun h q => hdl (by rw [← q]; exact List.mem_map_of_mem h)) (hne p)
  generalize hrr : ex ++ rest = rr at *
  refine wpAny_call ?_
  k_dflt ktr_enter
  rename_i g' L' h' FG' F' N' B' X' T'
  walk_at "mine"
  show wpAny _ _ _ _ _ _
  refine raise_own rfl ?_
  walk_at "mine"
  show RaisO _ _ _ _ _
  rename News g' L' _ _ => kN
  rename Fr g' L' _ _ => kF
  rename log < _ ∧ AllLt _ _ => l1
  obtain ⟨nm9, qn9, N9, bs9, bm9, hdct9, sn9, sub9, ab9, col9, dd9, k0, k1, k2, k3, k5, mN9, hC, hn9, hi9, T9⟩ := init_of_in ((X'.keeps kF.keep)) (init51 w)
  subst hrr
  obtain ⟨oe, vs, hoe, hcls, hdat⟩ := hex.obj
  have he := (kN (e, oe) (List.Mem.tail _ (List.Mem.tail _ (List.mem_append_left rest hoe)))).1
  refine ⟨e, oe, vs, nm9, qn9, 51, N9, bs9, bm9, hdct9, sn9, sub9, ab9, col9, dd9, k0, k1, k2, k3, k5, _, rfl, he, hcls, hdat, hC, ?_, ?_⟩
  · rw [List.contains_cons, own_has T9 rfl, Bool.or_true]
  obtain ⟨l9, E9, kN, l1⟩ : ∃ l9 E9, News g' L' _ ((l9, W.listOf #[Value.int 1 E9, Value.str nm t, Value.ref D] 0) :: (log, W.listOf (logs.push (Value.ref l9)) (el + 1)) :: (ex ++ rest)) ∧ (log < l9 ∧ AllLt l9 (ex ++ rest)) := ⟨_, _, kN, l1⟩
  have kN2 := news_sub kN (n' := ex ++ ((log, W.listOf (logs.push (Value.ref l9)) (el + 1)) :: (l9, W.listOf #[Value.int 1 E9, Value.str nm t, Value.ref D] 0) :: rest)) fun p hp => by
    rcases List.mem_append.mp hp with hp | hp
    · exact .tail _ (.tail _ (List.mem_append_left _ hp))
    rcases List.mem_cons.mp hp with rfl | hp
    · exact .tail _ (.head _)
    rcases List.mem_cons.mp hp with rfl | hp
    · exact .head _
    · exact .tail _ (.tail _ (List.mem_append_right _ hp))
  have hdis9 : ∀ p ∈ ((log, W.listOf (logs.push (Value.ref l9)) (el + 1)) :: (l9, W.listOf #[Value.int 1 E9, Value.str nm t, Value.ref D] 0) :: rest), p.1 ∉ ex.map (·.1) := fun p hp => by
    rcases List.mem_cons.mp hp with rfl | hp
    · exact hdl
    rcases List.mem_cons.mp hp with rfl | hp
    · intro hm
      obtain ⟨q, hq, e9⟩ := List.mem_map.mp hm
      have := tb_ltOf l1.2 q (List.mem_append_left _ hq)
      exact absurd this (by rw [e9]; exact Nat.lt_irrefl _)
    · exact hdis p hp
  refine flight_err kF kN2 hex hdis9 fun h9 F9 N9 => ?_
  show wpAny _ _ _ _ _ _
  refine leave_err B' F9 N9 hex hdis9 fun h8 R8 u8 => ?_
  exact hret _ _ _ _ FG' R8 u8 (post l9 E9 (tb_ltOf l1.2))
end Mine

namespace Mine
def fnBody : Stmt → List Stmt
  | .FunctionDef _ _ b _ _ _ _ _ _ _ => b
  | _ => []
def fnScope : Stmt → Scope
  | .FunctionDef _ _ _ _ _ _ s _ _ _ => s
  | _ => { kind := .function, names := [], isGenerator := false, isCoroutine := false }
def lawDef10 : Stmt := (PySem.Challenge.pw_dn0306_10.main.body)[8]!
def law10 : List Stmt := fnBody lawDef10
def lamOf : Stmt → (Arguments × Expr × Scope) × (Arguments × Expr × Scope)
  | .Assign _ (.List [.Call _ [.Lambda p b sc _, _] _ _, .Call _ [.Lambda p' b' sc' _, _] _ _] _) _ => ((p, b, sc), (p', b', sc'))
  | _ => (({ posonlyargs := [], args := [], vararg := none, kwonlyargs := [], kw_defaults := [], kwarg := none, defaults := [] }, .Constant .none 0 ⟨0, 0, 0, 0⟩, { kind := .function, names := [], isGenerator := false, isCoroutine := false }), ({ posonlyargs := [], args := [], vararg := none, kwonlyargs := [], kw_defaults := [], kwarg := none, defaults := [] }, .Constant .none 0 ⟨0, 0, 0, 0⟩, { kind := .function, names := [], isGenerator := false, isCoroutine := false }))
def lamB : Arguments × Expr × Scope := (lamOf law10[3]!).1
def lamF : Arguments × Expr × Scope := (lamOf law10[3]!).2
def BoxOk (w : World) (log lam box : Addr) (lamL : List (Addr × Obj)) : Prop :=
  ∀ (rest : List (Addr × Obj)) (logs : Array Value) (el : Nat) (nm : PySem.Str) (t : Tok) (D : Addr), (∀ p ∈ lamL, p ∈ rest) → (∀ p ∈ rest, p.1 ≠ log) → logs.size ≤ 900 →
    Calls w 6 60 lam [.str nm t, .ref D] ((log, W.listOf logs el) :: rest) (fun r n => r = .ref box ∧ ∃ T u, ∀ p ∈ (log, W.listOf (logs.push (.ref T)) (el + 1)) :: (T, W.listOf #[.int 0 u, .str nm t, .ref D] 0) :: rest, p ∈ n)
def FailOk (w : World) (log lam e : Addr) (lamL : List (Addr × Obj)) : Prop :=
  ∀ (ex rest : List (Addr × Obj)) (logs : Array Value) (el : Nat) (nm : PySem.Str) (t : Tok) (D : Addr), ErrL e ex → (∀ p ∈ lamL, p ∈ rest) → (∀ p ∈ rest, p.1 ≠ log) → (∀ p ∈ rest, p.1 ∉ ex.map (·.1)) → log ∉ ex.map (·.1) → logs.size ≤ 900 →
    RCalls w 6 60 e lam [.str nm t, .ref D] ((log, W.listOf logs el) :: (ex ++ rest)) (fun n => ∃ T u, ∀ p ∈ (log, W.listOf (logs.push (.ref T)) (el + 1)) :: (T, W.listOf #[.int 1 u, .str nm t, .ref D] 0) :: rest, p ∈ n)
local macro_rules | `(tactic| walk_at "mine") => `(tactic| repeat' (first | (k_unfold; (try dsimp only)) | walk1 | (dsimp only; walk1) | (leave1; try dsimp only) | fail "no step"))
local macro_rules | `(tactic| k_mem) => `(tactic| assumption)
local macro_rules | `(tactic| k_room) => `(tactic| ktr_room)
local macro_rules | `(tactic| k_all) => `(tactic| assumption)
local macro_rules | `(tactic| walk_at "call builtin:list.append") => `(tactic| (k_dflt (refine' append_K ?k1 ?k2 ?k3 ?_ ?z; (case k1 => k_asm); (case k2 => k_asm); (case k3 => k_upd); (case z => (rw [sizeLine_eq]; omega)); k_whole); intro h' F' N'))
theorem swap2 {α : Type} {a b : α} {r : List α} : ∀ p ∈ b :: a :: r, p ∈ a :: b :: r := by
  intro p hp
  rcases List.mem_cons.mp hp with rfl | hp
  · exact .tail _ (.head _)
  rcases List.mem_cons.mp hp with rfl | hp
  · exact .head _
  exact .tail _ (.tail _ hp)
theorem lit3 {α β γ : Type} {x : α × β × γ} {P : α → β → γ → Prop} (a : α) (b : β) (c : γ) (e : x = (a, b, c)) (h : P a b c) : P x.1 x.2.1 x.2.2 := by subst e; exact h
local macro_rules | `(tactic| walk_at "eval Name") => `(tactic| ((first | (with_reducible show wpAny _ _ (eval (Expr.Name (Str.ofString "log") _) (envX _ _ _ _ _ _)) _ _ _) | (with_reducible show wpAny _ _ (eval (Expr.Name (Str.ofString "error") _) (envX _ _ _ _ _ _)) _ _ _) | (with_reducible show wpAny _ _ (eval (Expr.Name (Str.ofString "box") _) (envX _ _ _ _ _ _)) _ _ _)); k_dflt (refine' nameX_F ?N ?c ?m ?d ?_ ?a ?b; (case a => rfl); (case b => rfl); (case N => k_asm); (case c => rfl); (case m => assumption); (case d => assumption))))
theorem box_ok (w : World) (log box f c clog cbox : Addr) (oc olog obox : Obj) (q : PySem.Str) (pm ct : Value) (vs : Array Value) (tq : Tok) (hc : oc.data = .fields vs) (hc2 : vs[1]? = some (.str q tq)) (h1 : olog.data = .cell (some (.ref log))) (h2 : obox.data = .cell (some (.ref box))) :
    BoxOk w log f box [(f, kla_obj (PySem.Str.ofString "<lambda>") q lamB.1 lamB.2.1 lamB.2.2 [(PySem.Str.ofString "log", clog), (PySem.Str.ofString "box", cbox)] pm c ct), (c, oc), (clog, olog), (cbox, obox)] := by
  refine lit3 (x := lamB) (P := fun p b sc => BoxOk w log f box [(f, kla_obj (PySem.Str.ofString "<lambda>") q p b sc [(PySem.Str.ofString "log", clog), (PySem.Str.ofString "box", cbox)] pm c ct), (c, oc), (clog, olog), (cbox, obox)]) _ _ _ rfl ?_
  unfold BoxOk Calls
  k_fill
  intro rest logs el nm t D hrest hlog hsz mean mg mb dp un gd cn nms ig ic mo a ccd cl outer A₀ base h₀ L m s Q E B F X N T hd hu hret
  have m1 := List.mem_cons_of_mem (log, W.listOf logs el) (hrest _ (.head _))
  have m2 := List.mem_cons_of_mem (log, W.listOf logs el) (hrest _ (.tail _ (.head _)))
  have m3 := List.mem_cons_of_mem (log, W.listOf logs el) (hrest _ (.tail _ (.tail _ (.head _))))
  have m4 := List.mem_cons_of_mem (log, W.listOf logs el) (hrest _ (.tail _ (.tail _ (.tail _ (.head _)))))
  refine never ?_
  refine wpAny_call ?_
  kla_enter
  walk_at "mine"
  rename News h₀ L _ _ => kN9
  exact hret _ _ _ _ (by k_asm) kN9 ⟨rfl, _, _, swap2⟩
local macro_rules | `(tactic| walk_at "call ref") => `(tactic| refine Halt.go ?_)
theorem fail_ok (w : World) (log e f c clog cerr : Addr) (oc olog oerr : Obj) (q : PySem.Str) (pm ct : Value) (vs : Array Value) (tq : Tok) (hc : oc.data = .fields vs) (hc2 : vs[1]? = some (.str q tq)) (h1 : olog.data = .cell (some (.ref log))) (h2 : oerr.data = .cell (some (.ref e))) :
    FailOk w log f e [(f, kla_obj (PySem.Str.ofString "<lambda>") q lamF.1 lamF.2.1 lamF.2.2 [(PySem.Str.ofString "log", clog), (PySem.Str.ofString "error", cerr)] pm c ct), (c, oc), (clog, olog), (cerr, oerr)] := by
  refine lit3 (x := lamF) (P := fun p b sc => FailOk w log f e [(f, kla_obj (PySem.Str.ofString "<lambda>") q p b sc [(PySem.Str.ofString "log", clog), (PySem.Str.ofString "error", cerr)] pm c ct), (c, oc), (clog, olog), (cerr, oerr)]) _ _ _ rfl ?_
  unfold FailOk RCalls
  k_fill
  intro ex rest logs el nm t D hex hrest hlog hdis hdl hsz mean mg mb dp un gd cn nms ig ic mo a ccd cl outer A₀ base h₀ L m s Q E B F X N T hd hu hret
  have m1 := List.mem_cons_of_mem (log, W.listOf logs el) (List.mem_append_right ex (hrest _ (.head _)))
  have m2 := List.mem_cons_of_mem (log, W.listOf logs el) (List.mem_append_right ex (hrest _ (.tail _ (.head _))))
  have m3 := List.mem_cons_of_mem (log, W.listOf logs el) (List.mem_append_right ex (hrest _ (.tail _ (.tail _ (.head _)))))
  have m4 := List.mem_cons_of_mem (log, W.listOf logs el) (List.mem_append_right ex (hrest _ (.tail _ (.tail _ (.tail _ (.head _))))))
  refine wpAny_call ?_
  kla_enter
  rename_i g' L' h' FG' F' N' B' X' T'
  walk_at "mine"
  show wpAny _ _ _ _ _ _
  refine fail_raises w e log D nm t logs el ex rest (fun n => ∃ T u, ∀ p ∈ (log, W.listOf (logs.push (.ref T)) (el + 1)) :: (T, W.listOf #[.int 1 u, .str nm t, .ref D] 0) :: rest, p ∈ n) hex hsz hlog hdis hdl ?_ mean mg mb _ _ _ _ _ _ _ _ _ _ _ _ _ _ _ _ _ _ _ _ B' (by k_asm) X' (by k_asm) T' ?_ ?_ ?_
  · exact fun E9 u _ => ⟨E9, u, fun p hp => hp⟩
  · show dp + 1 + 2 < _
    omega
  · show un + 3 + 20 < _
    omega
  intro g'' news'' h9 tk9 F9 R9 u9 P9
  show wpAny _ _ _ _ _ _
  refine leave_onX rfl B' F9 R9 u9 ?_
  intro h8 R8 u8
  exact hret _ _ _ _ (by k_asm) R8 u8 P9
end Mine

namespace Mine
abbrev Chain := List PySem.Str
inductive ObjIn (P : Params) (lam : Addr) (news : List (Addr × Obj)) : Addr → Chain → Prop where
  | lam {x d : Addr} {nm : PySem.Str} {t1 t2 t3 : Tok} : (x, instObj 84 d) ∈ news → (d, methD P (.ref lam) nm t1 t2 t3) ∈ news → ObjIn P lam news x [nm]
  | meth {x d y : Addr} {nm : PySem.Str} {t1 t2 t3 : Tok} {c : PySem.Str} {r : Chain} : (x, instObj 84 d) ∈ news → (d, methD P (.ref y) nm t1 t2 t3) ∈ news → ObjIn P lam news y (c :: r) → ObjIn P lam news x (nm :: c :: r)
inductive HeldArgs (news : List (Addr × Obj)) (vs0 : List Value) : List Value → Chain → Prop where
  | base : HeldArgs news vs0 vs0 []
  | meth {D : Addr} {vs : List Value} {H : Chain} {nm : PySem.Str} {t : Tok} : (D, tupO vs) ∈ news → HeldArgs news vs0 vs H → HeldArgs news vs0 [.str nm t, .ref D] (nm :: H)
theorem ObjIn.mono {P : Params} {lam : Addr} {n n' : List (Addr × Obj)} {x : Addr} {c : Chain} (h : ObjIn P lam n x c) (s : ∀ p ∈ n, p ∈ n') : ObjIn P lam n' x c := by
  induction h with
  | lam a b => exact .lam (s _ a) (s _ b)
  | meth a b _ ih => exact .meth (s _ a) (s _ b) ih
theorem HeldArgs.mono {n n' : List (Addr × Obj)} {vs0 vs : List Value} {H : Chain} (h : HeldArgs n vs0 vs H) (s : ∀ p ∈ n, p ∈ n') : HeldArgs n' vs0 vs H := by
  induction h with
  | base => exact .base
  | meth a _ ih => exact .meth (s _ a) ih
theorem HeldArgs.short {n : List (Addr × Obj)} {vs0 vs : List Value} {H : Chain} (h : HeldArgs n vs0 vs H) (h0 : vs0.length ≤ 2) : vs.length ≤ 2 := by
  cases h with
  | base => exact h0
  | meth => exact Nat.le_refl _
theorem ObjIn.callee {P : Params} {lam : Addr} {n : List (Addr × Obj)} {x : Addr} {c : Chain} (h : ObjIn P lam n x c) : ∃ d, (x, instObj 84 d) ∈ n := by
  cases h with
  | lam a _ => exact ⟨_, a⟩
  | meth a _ _ => exact ⟨_, a⟩
theorem inst_callee (d : Addr) : Callee (instObj 84 d) := .inl rfl
def deliver : Chain → Chain → PySem.Str × Chain
  | [], H => (PySem.Str.empty, H)
  | [nm], H => (nm, H)
  | nm :: c :: r, H => deliver (c :: r) (nm :: H)
theorem Calls.sub {w : World} {dpn unn : Nat} {y : Addr} {vs : List Value} {n₁ n₂ : List (Addr × Obj)} {Post : Value → List (Addr × Obj) → Prop} (h : Calls w dpn unn y vs n₂ Post) (s : ∀ p ∈ n₂, p ∈ n₁) : Calls w dpn unn y vs n₁ Post := by
  unfold Calls at *
  intro mean mg mb dp un gd cn nms ig ic mo a ccd cl outer A₀ base h₀ L m st Q E B F X N T hd hu hret
  exact h mean mg mb dp un gd cn nms ig ic mo a ccd cl outer A₀ base h₀ L m st Q E B F X (fun p hp => N p (s p hp)) T hd hu hret
theorem Calls.mono {w : World} {dpn unn dpn' unn' : Nat} {y : Addr} {vs : List Value} {n : List (Addr × Obj)} {Post Post' : Value → List (Addr × Obj) → Prop} (h : Calls w dpn unn y vs n Post) (hp : ∀ r n', Post r n' → Post' r n') (h1 : dpn ≤ dpn') (h2 : unn ≤ unn') : Calls w dpn' unn' y vs n Post' := by
  unfold Calls at *
  intro mean mg mb dp un gd cn nms ig ic mo a ccd cl outer A₀ base h₀ L m st Q E B F X N T hd hu hret
  exact h mean mg mb dp un gd cn nms ig ic mo a ccd cl outer A₀ base h₀ L m st Q E B F X N T (by omega) (by omega) fun r n' h' tk' F' N' P => hret r n' h' tk' F' N' (hp _ _ P)
theorem RCalls.sub {w : World} {dpn unn : Nat} {e y : Addr} {vs : List Value} {n₁ n₂ : List (Addr × Obj)} {Post : List (Addr × Obj) → Prop} (h : RCalls w dpn unn e y vs n₂ Post) (s : ∀ p ∈ n₂, p ∈ n₁) : RCalls w dpn unn e y vs n₁ Post := by
  unfold RCalls at *
  intro mean mg mb dp un gd cn nms ig ic mo a ccd cl outer A₀ base h₀ L m st Q E B F X N T hd hu hret
  exact h mean mg mb dp un gd cn nms ig ic mo a ccd cl outer A₀ base h₀ L m st Q E B F X (fun p hp => N p (s p hp)) T hd hu hret
theorem RCalls.mono {w : World} {dpn unn dpn' unn' : Nat} {e y : Addr} {vs : List Value} {n : List (Addr × Obj)} {Post Post' : List (Addr × Obj) → Prop} (h : RCalls w dpn unn e y vs n Post) (hp : ∀ n', Post n' → Post' n') (h1 : dpn ≤ dpn') (h2 : unn ≤ unn') : RCalls w dpn' unn' e y vs n Post' := by
  unfold RCalls at *
  intro mean mg mb dp un gd cn nms ig ic mo a ccd cl outer A₀ base h₀ L m st Q E B F X N T hd hu hret
  exact h mean mg mb dp un gd cn nms ig ic mo a ccd cl outer A₀ base h₀ L m st Q E B F X N T (by omega) (by omega) fun g' n' h' tk' F' N' u P => hret g' n' h' tk' F' N' u (hp _ P)
def Told (j : Int) (log : Addr) (vs0 : List Value) (rest : List (Addr × Obj)) (logs : Array Value) (el : Nat) (out : PySem.Str × Chain) (n : List (Addr × Obj)) : Prop :=
  ∃ T u D t vs', (T, W.listOf #[.int j u, .str out.1 t, .ref D] 0) ∈ n ∧ (D, tupO vs') ∈ n ∧ HeldArgs n vs0 vs' out.2 ∧ (∀ p ∈ rest, p ∈ n) ∧ (log, W.listOf (logs.push (.ref T)) (el + 1)) ∈ n
theorem call_box {w : World} {log lam box : Addr} {lamL : List (Addr × Obj)} {olam : Obj} {vs0 : List Value} (hlam : BoxOk w log lam box lamL) (hol : (lam, olam) ∈ lamL) (hcl : Callee olam) (hv0 : vs0.length ≤ 2) :
    ∀ (n : Nat) (c : Chain) (H : Chain) (x : Addr) (vs : List Value) (rest : List (Addr × Obj)) (logs : Array Value) (el : Nat), c.length = n + 1 → ObjIn w.params lam rest x c → HeldArgs rest vs0 vs H → (∀ p ∈ lamL, p ∈ rest) →
      (∀ p ∈ rest, p.1 ≠ log) → logs.size ≤ 900 →
      Calls w (n + 7) (10 * n + 70) x vs ((log, W.listOf logs el) :: rest) (fun r n' => r = .ref box ∧ Told 0 log vs0 rest logs el (deliver c H) n') := by
  intro n
  induction n with
  | zero =>
    intro c H x vs rest logs el hn hx hh hl hne hls
    cases hx with
    | lam a b =>
      refine Calls.mono (calls_meth w 6 60 _ _ _ olam _ _ _ _ vs ((log, W.listOf logs el) :: rest) _ (.tail _ a) (.tail _ b) (.tail _ (hl _ hol)) hcl (hh.short hv0) fun D hD => ?_) (fun _ _ p => p) (by omega) (by omega)
      have hlogD : log ≠ D := Nat.ne_of_lt (hD (log, W.listOf logs el) (.head _))
      refine Calls.mono (Calls.sub (hlam ((D, tupO vs) :: rest) logs el _ _ D (fun p hp => .tail _ (hl p hp)) ?_ hls) swap2) ?_ (Nat.le_refl _) (Nat.le_refl _)
      · intro p hp
        rcases List.mem_cons.mp hp with rfl | hp
        · exact fun e => hlogD e.symm
        · exact hne p hp
      · rintro r n' ⟨rfl, T, u, hT⟩
        have hs : ∀ p ∈ rest, p ∈ n' := fun p hp => hT p (.tail _ (.tail _ (.tail _ hp)))
        exact ⟨rfl, T, u, D, _, vs, hT _ (.tail _ (.head _)), hT _ (.tail _ (.tail _ (.head _))), hh.mono hs, hs, hT _ (.head _)⟩
    | meth => simp at hn
  | succ n ih =>
    intro c H x vs rest logs el hn hx hh hl hne hls
    cases hx with
    | lam => simp at hn
    | @meth x d y nm t1 t2 t3 c r a b hy =>
      obtain ⟨dy, hoy⟩ := hy.callee
      refine Calls.mono (calls_meth w (n + 7) (10 * n + 70) _ _ _ _ _ _ _ _ vs ((log, W.listOf logs el) :: rest) _ (.tail _ a) (.tail _ b) (.tail _ hoy) (inst_callee dy) (hh.short hv0) fun D hD => ?_) (fun _ _ p => p) (by omega) (by omega)
      have h2 : log ≠ D := Nat.ne_of_lt (hD (log, W.listOf logs el) (.head _))
      have sub : ∀ p ∈ rest, p ∈ (D, tupO vs) :: rest := fun p hp => .tail _ hp
      refine Calls.mono (Calls.sub (ih (c :: r) (nm :: H) y [.str nm t3, .ref D] ((D, tupO vs) :: rest) logs el (by simpa using hn) (hy.mono sub) (.meth (.head _) (hh.mono sub)) (fun p hp => .tail _ (hl p hp)) ?_ hls) swap2) ?_ (Nat.le_refl _) (Nat.le_refl _)
      · intro p hp
        rcases List.mem_cons.mp hp with rfl | hp
        · exact fun e => h2 e.symm
        · exact hne p hp
      · rintro r' n' ⟨rfl, T, u, D', t, vs', k1, k2, k3, k4, k5⟩
        exact ⟨rfl, T, u, D', t, vs', k1, k2, k3, fun p hp => k4 p (.tail _ hp), k5⟩
theorem call_fail {w : World} {log lam e : Addr} {lamL : List (Addr × Obj)} {olam : Obj} {vs0 : List Value} (hlam : FailOk w log lam e lamL) (hol : (lam, olam) ∈ lamL) (hcl : Callee olam) (hv0 : vs0.length ≤ 2) :
    ∀ (n : Nat) (c : Chain) (H : Chain) (x : Addr) (vs : List Value) (ex rest : List (Addr × Obj)) (logs : Array Value) (el : Nat), ErrL e ex → c.length = n + 1 → ObjIn w.params lam rest x c → HeldArgs rest vs0 vs H → (∀ p ∈ lamL, p ∈ rest) →
      (∀ p ∈ rest, p.1 ≠ log) → (∀ p ∈ rest, p.1 ∉ ex.map (·.1)) → log ∉ ex.map (·.1) → logs.size ≤ 900 →
      RCalls w (n + 7) (10 * n + 70) e x vs ((log, W.listOf logs el) :: (ex ++ rest)) (fun n' => Told 1 log vs0 rest logs el (deliver c H) n') := by
  have toEx : ∀ (l : Addr × Obj) (ex rest : List (Addr × Obj)), ∀ p ∈ rest, p ∈ l :: (ex ++ rest) := fun l ex rest p hp => .tail _ (List.mem_append_right _ hp)
  have sw : ∀ (l d : Addr × Obj) (ex rest : List (Addr × Obj)), ∀ p ∈ l :: (ex ++ d :: rest), p ∈ d :: l :: (ex ++ rest) := fun l d ex rest p hp => by
    rcases List.mem_cons.mp hp with rfl | hp
    · exact .tail _ (.head _)
    rcases List.mem_append.mp hp with hp | hp
    · exact .tail _ (.tail _ (List.mem_append_left _ hp))
    rcases List.mem_cons.mp hp with rfl | hp
    · exact .head _
    · exact .tail _ (.tail _ (List.mem_append_right _ hp))
  have nex : ∀ (D : Addr) (l : Addr × Obj) (ex rest : List (Addr × Obj)), (∀ p ∈ l :: (ex ++ rest), p.1 < D) → D ∉ ex.map (·.1) := fun D l ex rest h hm => by
    obtain ⟨q, hq, e9⟩ := List.mem_map.mp hm
    have := h q (.tail _ (List.mem_append_left _ hq))
    exact absurd this (by rw [e9]; exact Nat.lt_irrefl _)
  intro n
  induction n with
  | zero =>
    intro c H x vs ex rest logs el hex hn hx hh hl hne hdis hdl hls
    cases hx with
    | lam a b =>
      refine RCalls.mono (rcalls_meth w 6 60 e _ _ _ olam _ _ _ _ vs ((log, W.listOf logs el) :: (ex ++ rest)) _ (toEx _ _ _ _ a) (toEx _ _ _ _ b) (toEx _ _ _ _ (hl _ hol)) hcl (hh.short hv0) fun D hD => ?_) (fun _ p => p) (by omega) (by omega)
      have hlogD : log ≠ D := Nat.ne_of_lt (hD (log, W.listOf logs el) (.head _))
      refine RCalls.mono (RCalls.sub (hlam ex ((D, tupO vs) :: rest) logs el _ _ D hex (fun p hp => .tail _ (hl p hp)) ?_ ?_ hdl hls) (sw _ _ _ _)) ?_ (Nat.le_refl _) (Nat.le_refl _)
      · intro p hp
        rcases List.mem_cons.mp hp with rfl | hp
        · exact fun e => hlogD e.symm
        · exact hne p hp
      · intro p hp
        rcases List.mem_cons.mp hp with rfl | hp
        · exact nex _ _ _ _ hD
        · exact hdis p hp
      · rintro n' ⟨T, u, hT⟩
        have hs : ∀ p ∈ rest, p ∈ n' := fun p hp => hT p (.tail _ (.tail _ (.tail _ hp)))
        exact ⟨T, u, D, _, vs, hT _ (.tail _ (.head _)), hT _ (.tail _ (.tail _ (.head _))), hh.mono hs, hs, hT _ (.head _)⟩
    | meth => simp at hn
  | succ n ih =>
    intro c H x vs ex rest logs el hex hn hx hh hl hne hdis hdl hls
    cases hx with
    | lam => simp at hn
    | @meth x d y nm t1 t2 t3 c r a b hy =>
      obtain ⟨dy, hoy⟩ := hy.callee
      refine RCalls.mono (rcalls_meth w (n + 7) (10 * n + 70) e _ _ _ _ _ _ _ _ vs ((log, W.listOf logs el) :: (ex ++ rest)) _ (toEx _ _ _ _ a) (toEx _ _ _ _ b) (toEx _ _ _ _ hoy) (inst_callee dy) (hh.short hv0) fun D hD => ?_) (fun _ p => p) (by omega) (by omega)
      have h2 : log ≠ D := Nat.ne_of_lt (hD (log, W.listOf logs el) (.head _))
      have sub : ∀ p ∈ rest, p ∈ (D, tupO vs) :: rest := fun p hp => .tail _ hp
      refine RCalls.mono (RCalls.sub (ih (c :: r) (nm :: H) y [.str nm t3, .ref D] ex ((D, tupO vs) :: rest) logs el hex (by simpa using hn) (hy.mono sub) (.meth (.head _) (hh.mono sub)) (fun p hp => .tail _ (hl p hp)) ?_ ?_ hdl hls) (sw _ _ _ _)) ?_ (Nat.le_refl _) (Nat.le_refl _)
      · intro p hp
        rcases List.mem_cons.mp hp with rfl | hp
        · exact fun e => h2 e.symm
        · exact hne p hp
      · intro p hp
        rcases List.mem_cons.mp hp with rfl | hp
        · exact nex _ _ _ _ hD
        · exact hdis p hp
      · rintro n' ⟨T, u, D', t, vs', k1, k2, k3, k4, k5⟩
        exact ⟨T, u, D', t, vs', k1, k2, k3, fun p hp => k4 p (.tail _ hp), k5⟩
end Mine

open PySem PySem.W PySem.Spec PySem.Calls PyProof.Rows
namespace Mine
theorem push_any {A : Around} {base h₀ h : Heap} {outer : List Env} {L : Addr} {m : PySem.Str → Option Value} {env : Env} (K : Below A base outer h₀) (F : Fr h₀ L h m) (hf : env.frame = some L) (hk : env.scope.kind = .function) : Below (A.deeper env) base (env :: outer) h := by
  have hnew : base.get? L = none := by
    cases hq : base.get? L with
    | none => rfl
    | some o => exact absurd (Nat.lt_of_lt_of_le (Heap.lt_size (K.stays L o hq)) F.above) (Nat.lt_irrefl _)
  refine ⟨Around.frames_deeper K.stack, fun b o e => F.keep b o (K.stays b o e), ?_⟩
  exact .cons (by rw [hk]; decide) hf F.ns hnew (K.frames.of_keeps fun b o e _ => ⟨o, F.keep b o e, rfl⟩)
section
variable {prog : Program} {w : World} {A₀ A : Around} {s : Shared} {base h₀ g₀ : Heap} {outer : List Env} {L a : Addr} {m : PySem.Str → Option Value} {env : Env} {news : List (Addr × Obj)} {K : Frag} {p : Program} {loose : List PySem.Str} {mean : ExcName → Option Value} {mg mb : PySem.Str → Option Value}
    {R : Result → Shared → Prop} {name qual : PySem.Str} {params : Arguments} {body : List Stmt} {scope : Scope} {dV kV doc pm cdv ct oc : Value} {an od : Option Addr} {osl : Array (Option Value)} {f : Addr} {args : Args} {binds : List (PySem.Str × Value)}
theorem enter_any (B : Below A₀ base outer h₀) (F : Fr h₀ L s.heap m) (N : News h₀ L s.heap news) (hA : A.frames = some (env :: outer)) (hf : env.frame = some L) (hck : env.scope.kind = .function) :
    ∃ oL es ep, (hideAll s.heap (news.map (·.1))).get? L = some oL ∧ oL.data = .dict es ep ∧ (∀ h', h'.get? L = some oL → Heap.Ns h' L m) ∧ (∀ (sl : Array (Option Value)) h', h'.get? L = some { oL with slots := sl } → Heap.Ns h' L m) ∧
      h₀.StaysIn (hideAll s.heap (news.map (·.1))) ∧ Below A base (env :: outer) (hideAll s.heap (news.map (·.1))) := by
  have nm : ∀ b o, h₀.get? b = some o → b ∉ news.map (·.1) := fun b o e q => by
    obtain ⟨p, hp, rfl⟩ := List.mem_map.mp q
    rw [(N p hp).2.2] at e; cases e
  have st : h₀.StaysIn (hideAll s.heap (news.map (·.1))) := fun b o e => hideAll_get _ (F.keep b o e) (nm b o e)
  obtain ⟨oL, es, ep, hL, hLd, hLk, hLf⟩ := F.ns
  have nL : L ∉ news.map (·.1) := fun q => by
    obtain ⟨p, hp, e⟩ := List.mem_map.mp q
    exact (N p hp).2.1 e
  have hLg := hideAll_get (news.map (·.1)) hL nL
  have B₁ := push_any B F hf hck
  exact ⟨oL, es, ep, hLg, hLd, fun h' e => ⟨oL, es, ep, e, hLd, hLk, hLf⟩, fun sl h' e => ⟨_, es, ep, e, hLd, hLk, hLf⟩, st, ⟨hA, fun b o e => st b o (B.stays b o e), funFrames_hideAll B₁.frames fun env' he b hb hf' => by
    cases he with
    | head => rw [hf] at hf'; exact nL ((Option.some.inj hf' : L = b) ▸ hb)
    | tail _ he =>
      obtain ⟨L₁, o₁, hf₁, ho₁⟩ := funFrames_in B.frames env' he
      rw [hf₁] at hf'
      exact nm L₁ o₁ ho₁ ((Option.some.inj hf' : L₁ = b) ▸ hb)⟩⟩
theorem code_defX0 (B : Below A₀ base [] h₀) (F : Fr h₀ L s.heap m) (X₀ : K.In h₀) (N : News h₀ L s.heap news) (T : Top p loose mean mg mb h₀) (hA : A.frames = some [env]) (hf : env.frame = some L) (hck : env.scope.kind = .function)
    (ho : K.lookup f = some ⟨oc, od, .func (fnOf name qual params body scope dV kV doc pm an cdv ct), osl⟩) (hcd : codeIn K cdv qual = true) (hroom : A.depth < recursionLimit)
    (hbind : BindsTo s (fnOf name qual params body scope dV kV doc pm an cdv ct) args binds) (hloc : ∀ y ∈ binds, scope.names.lookup y.1 = some .local)
    (h : ∀ g L' h₁, Fr h₀ L g m → Fr g L' h₁ (fun y => binds.reverse.lookup y) → News g L' h₁ news → Below A base [env] g → K.In g → Top p loose mean mg mb g → KtsDicts ([env].filterMap (·.frame)) g →
      wpAny (model prog w) (A.deeper (envOf qual scope L' f cdv)) (execs body (envOf qual scope L' f cdv))
        (fun fl s' => LeaveS0 ([env].filterMap (·.frame)) h₀ L m g R (match fl with | .ret v => v | _ => .none) s')
        (fun e s' => wpAny (model prog w) (A.deeper (envOf qual scope L' f cdv)) (leaving (envOf qual scope L' f cdv) e) (fun _ s'' => R (.error e) s'') (fun e' s'' => R (.error e') s'') s')
        { s with heap := h₁, toks := s.toks + binds.length })
    (hco : scope.isCoroutine = false) (hgen : scope.isGenerator = false) (hk : scope.kind = .function)
    (hcell : ∀ x ∈ scope.names, x.2 ≠ .cell) : codeAny (model prog w) A (.call (.ref f) args) R s := by
  have X := X₀.keeps F.keep
  refine codeAny_call_def (fd := fnOf name qual params body scope dV kV doc pm an cdv ct) (body := body) (binds := binds) hroom (X _ _ ho) rfl (T.nolimit.keeps F.keep) (codeRec_of X hcd) rfl hbind hcell hloc (fun h₁ hns hk₁ => ?_) hco hgen hk
  obtain ⟨oL, es, ep, hLg, hLd, hN, hNs, st, B₂⟩ := enter_any B F N hA hf hck
  refine wpAny_mono (h _ s.heap.objs.size h₁ ⟨hN _ hLg, st, F.above⟩ ⟨hns, fun b o e => hk₁ b o (of_hideAll _ e), Nat.le_of_eq (hideAll_size _ _)⟩
    (fun p hp => ⟨hk₁ _ _ (N p hp).1, Nat.ne_of_lt (Heap.lt_size (N p hp).1), hideAll_none _ (List.mem_map_of_mem hp)⟩) B₂ (X₀.keeps st) (T.keeps st) (fun b hb => by
      rcases frame_mem hf hb with rfl | z
      · exact ⟨oL, es, ep, hLg, hLd⟩
      · simp at z)) (fun fl s' hl => ?_) fun _ _ y => y
  obtain ⟨g', L', m', news', T', F', N', k⟩ := hl
  have nL₀ : h₀.get? L = none := kts_self F
  obtain ⟨sl, hs⟩ := T'.up hLg
  refine k ⟨hNs sl _ (F'.keep _ _ hs), fun b o e => F'.keep b o (T'.other b o (st b o e) (fun q => by
    rcases frame_mem hf q with z | z
    · rw [z, nL₀] at e
      cases e
    · simp at z)), F.above⟩ fun p hp => ⟨(N' p hp).1, fun q => ?_, ?_⟩
  · have := (N' p hp).2.2; rw [q, hs] at this; cases this
  · cases q : h₀.get? p.1 with
    | none => rfl
    | some o =>
      obtain ⟨sl', hs'⟩ := T'.up (st _ _ q)
      have := (N' p hp).2.2
      rw [hs'] at this
      cases this
end
section
variable {prog : Program} {w : World} {A₀ : Around} {E : Value → Shared → Prop} {s' : Shared} {base g g₀ G : Heap} {outer : List Env} {L a e t : Addr} {m : PySem.Str → Option Value} {name : PySem.Str} {scope : Scope} {cd cls : Value}
  {vs : List Value} {n : PySem.Str} {b₀ : Stmt} {suite : List Stmt} {pos : Pos} {rest hs : List ExceptHandler} {Q : Flow → Shared → Prop} {news : List (Addr × Obj)} {KF : Frag} {tt : Expr} {nm : Option PySem.Str} {body : List Stmt}
  {p : Program} {loose : List PySem.Str} {mean : ExcName → Option Value} {mg mb : PySem.Str → Option Value}
theorem hit_err (R : RaisedSN base G (envOf name scope L a cd :: outer) e (.ref 51) news s'.heap) (F : Fr g L G m) (K : Below A₀ base outer g) (hsm : G.UpToSlots s'.heap) (XB : KF.In base) (TB : Top p loose mean mg mb base)
    (D : KtsDicts (outer.filterMap (·.frame)) g) (T0 : KtsTurn (outer.filterMap (·.frame)) g₀ g) (T : KtsTest prog w KF p loose mg mb name scope L a cd (.ref 51) tt true)
    (k : ∀ h' g' tk ex, ErrL e ex → (∀ p ∈ news, p.1 ∉ ex.map (·.1)) → KtsTurn (outer.filterMap (·.frame)) g₀ g' → Fr g' L h' (fun y => if y = n then some (.ref e) else m y) → News g' L h' (ex ++ news) → Below A₀ base outer g' → KF.In g' → Top p loose mean mg mb g' → KtsDicts (outer.filterMap (·.frame)) g' →
      wpAny (model prog w) ((A₀.deeper (envOf name scope L a cd)).mark (some (.ref e))) (execs (b₀ :: suite) (envOf name scope L a cd))
        (fun f s₄ => wpAny (model prog w) (A₀.deeper (envOf name scope L a cd)) (do bindName (envOf name scope L a cd) n .none; unbindBehindTheSuite (envOf name scope L a cd) n pos) (fun _ s₅ => Q f s₅) E s₄)
        (AsSuiteRaised (model prog w) ((A₀.deeper (envOf name scope L a cd)).mark (some (.ref e))) (envOf name scope L a cd) n pos (notedBy (model prog w) ((A₀.deeper (envOf name scope L a cd)).mark (some (.ref e))) (envOf name scope L a cd) (cameBackBy (model prog w) (A₀.deeper (envOf name scope L a cd)) (envOf name scope L a cd) E)))
        { s' with heap := h', toks := tk })
    (hk : scope.kind = .function := by rfl) (hlo : (envOf name scope L a cd).kindOf n = some .local := by rfl) :
    wpAny (model prog w) (A₀.deeper (envOf name scope L a cd)) (handleBy (.ref e) (envOf name scope L a cd) (.ExceptHandler (some tt) (some n) (b₀ :: suite) pos :: rest)) Q E s' := by
  have R' := R
  obtain ⟨B₁, a1, _, hBG₁, _, hfl₁⟩ := R'
  obtain ⟨g₅, T₅, F₅, K₅⟩ := kts_ground K F hBG₁ hfl₁.1 hsm
  refine wpAny_handleBy_cons (codeAny_handlers_test (T _ _ _ _ g₅ e m F₅ (XB.keeps K₅.stays) (topRead_of (TB.keeps K₅.stays)) R.ty fun h₅ kp => ?_)) (by intro q; cases q)
  have hsm₅ : G.UpToSlots h₅ := hsm.trans (Heap.UpToSlots.of_keeps kp)
  obtain ⟨B, a0, hB, hBG, hl, hheld⟩ := R.keeps kp
  have hL : B.get? L = none := by
    obtain ⟨_, ⟨L', _, hf, hn', _⟩, _⟩ := hheld.2.2.1
    obtain rfl : L = L' := Option.some.inj hf
    exact hn'
  refine codeAny_handlers_suite_as ?_
  refine lands_againW hheld fun h₆ hfl₆ hsm₆ => ?_
  obtain ⟨g₆, T₆, F₆, K₆⟩ := kts_ground K F hBG hfl₆.1 (hsm₅.trans hsm₆)
  have Nl : News g₆ L h₆ news := fun q hq => ⟨hfl₆.1 _ _ (hl q hq).1, (fun z => by have := (hl q hq).1; rw [z, hL] at this; cases this), T₆.none_ _ (kts_none F.keep (hl q hq).2.1)⟩
  have X₆ : KF.In g₆ := XB.keeps K₆.stays
  have P₆ : Top p loose mean mg mb g₆ := TB.keeps K₆.stays
  have D₆ : KtsDicts (outer.filterMap (·.frame)) g₆ := D.turn T₆
  obtain ⟨f1, f2, f3, oe, ws, T9, oT, ts, he, hc, hd, h1, hn, hne, hT, hdT, h3⟩ := hfl₆
  have fresh : ∀ b o vs, h₆.get? b = some o → o.data = .fields vs → B.get? b = none → g₆.get? b = none := fun b o vs hb hdb hBb => T₆.none_ _ (kts_fresh F hBG hBb fun o' ho m => by
    obtain ⟨_, o2, ho2, hd2⟩ := K.frames.mem m
    rw [ho] at ho2
    cases ho2
    obtain ⟨sl, hs⟩ := (hsm₅.trans hsm₆) _ _ (F.keep _ _ ho) hd2
    rw [hb] at hs
    cases hs
    exact hd2 _ hdb)
  have N₆ := News.more F₆ (News.more F₆ Nl hT (fun es n q => by rw [hdT] at q; cases q) (fresh _ _ _ hT hdT hn)) he (fun es n q => by rw [hd] at q; cases q) (fresh _ _ _ he hd f2)
  refine stN F₆ N₆ (fun h₇ F₇ N₇ => ?_) hk hlo
  refine k h₇ g₆ _ [(e, oe), (T9, oT)] (.traced hc.1 hd h1 hne hdT h3) (fun q hq hm => ?_) (T0.trans T₆) F₇ N₇ K₆ X₆ P₆ D₆
  have hq1 := (hl q hq).1
  simp only [List.map_cons, List.map_nil, List.mem_cons, List.not_mem_nil, or_false] at hm
  rcases hm with z | z
  · rw [z, f2] at hq1; cases hq1
  · rw [z, hn] at hq1; cases hq1
end
end Mine

namespace Mine
local macro_rules | `(tactic| walk_at "mine") => `(tactic| repeat' (first | (k_unfold; (try dsimp only)) | walk1 | (dsimp only; walk1) | (leave1; try dsimp only) | fail "no step"))
local macro_rules | `(tactic| k_mem) => `(tactic| assumption)
local macro_rules | `(tactic| k_room) => `(tactic| ktr_room)
local macro_rules | `(tactic| k_all) => `(tactic| assumption)
local macro_rules | `(tactic| walk_at "call ref") => `(tactic| refine Halt.go ?_)
section
variable {M : Model} {A : Around} {E : Value → Shared → Prop} {s : Shared} {env : Env} {pos p : Pos} {y : Addr} {o : Obj} {first : List Value} {Q : Value → Shared → Prop}
theorem callWith_ledS {e : Expr} (ho : Callee o) (h : wpAny M A (eval e env) (fun v s₁ => StarOf M A E v (fun vs s₂ => s₂.heap.get? y = some o ∧ wpAny M A (call (.ref y) (first ++ vs)) Q E s₂) s₁) E s)
    (he : starEach [.Starred e p] env = [(true, eval e env)] := by rfl) :
    wpAny M A (callWith pos (.ref y) first (backTo pos (starEach [.Starred e p] env)) []) Q E s := by
  rw [he]
  rcases ho with hd | ⟨fd, hd⟩
  · have h' := ks_lone (f := .ref y) (pos := pos) (Q := fun a s₁ => s₁.heap.get? y = some o ∧ wpAny M A (call (.ref y) (first ++ a.pos) a.kw) Q E s₁) h
    unfold callWith
    refine wpAny_bind (wpAny_holding (wpAny_mono h' (fun a s₁ h₁ => wpAny_bind (wpAny_standAt ?_)) fun _ _ y => y))
    have L : Looks M s₁.heap (keeperOf (.ref y)) .caller := by
      refine (Looks.ld (part := none) h₁.1).andThen ?_
      simp only [hd]
      exact .now
    refine wpAny_bind (L.here ?_)
    have tail : ∀ {t : Sem Value}, wpAny M A t Q E s₁ → wpAny M A (t >>= fun r => holding [r] point >>= fun _ => pure r) Q E s₁ :=
      fun ht => wpAny_bind (wpAny_mono ht (fun r s₂ hr => wpAny_bind (wpAny_holding (wpAny_point (wpAny_pure hr)))) fun _ _ y => y)
    exact tail (wpAny_operating h₁.2)
  · refine ks_call (P := fun h => h.get? y = some o) rfl (fun h e => ⟨.frame, .inl rfl, ?_⟩) (ks_lone h)
    refine (Looks.ld (part := none) e).andThen ?_
    simp only [hd]
    exact .now
end
local macro_rules | `(tactic| walk_at "callWith ref") => `(tactic| (k_here; k_dflt (refine' callWith_ledS ?k1 ?_; (case k1 => assumption); k_whole)))
local macro_rules | `(tactic| walk_at "And") => `(tactic| ((with_reducible show Heap.get? _ _ = some _ ∧ _); k_dflt (refine ⟨News.get (by k_asm) (by k_mem), ?_⟩); try dsimp only [List.nil_append, List.cons_append]))
local macro_rules | `(tactic| walk_at "StarOf ref") => `(tactic| (k_here; k_dflt (refine' star_seq ?k1 ?k2 ?m ?c ?d ?T ?e ?z ?_; (case k1 => k_asm); (case k2 => k_asm); (case m => k_mem); (case c => exact rfl); (case d => exact rfl); (case T => first | exact .inl rfl | exact .inr rfl); (case e => exact rfl); (case z => (rw [sizeLine_eq]; simp only [List.size_toArray]; omega)); k_whole); intro h' F' N'; try dsimp only [List.nil_append, List.cons_append]))
theorem called_box : ∀ (w : World) (dpn unn : Nat) (y : Addr) (oy : Obj) (A : Addr) (vs : List Value) (news : List (Addr × Obj)) (Post : Value → List (Addr × Obj) → Prop),
    (y, oy) ∈ news → Callee oy → (A, tupO vs) ∈ news → vs.length ≤ 2 → Calls w dpn unn y vs news Post →
    ∀ (mean : ExcName → Option Value) (mg mb : PySem.Str → Option Value) (dp un : Nat) (gd : Option (List Code)) (cn : PySem.Str) (nms : List (PySem.Str × NameKind)) (ig ic : Bool) (mo : List (PySem.Str × Const)) (a : Addr) (ccd : Value) (cl : List (PySem.Str × Addr)) (outer : List Env) (A₀ : Around) (base h₀ : Heap) (L : Addr) (m : PySem.Str → Option Value) (s : Shared) (Q E : Value → Shared → Prop),
    Below A₀ base outer h₀ → Fr h₀ L s.heap m → (hd10.heap_39 w.params).In h₀ → News h₀ L s.heap news → Top topProg (looseW hd10.view_39 [PySem.Str.ofString "Error", PySem.Str.ofString "_Method"] ++ (recsOf hd10.view_39).map (fun x => x.name) ++ (litsOf hd10.view_39).map (fun x => x.1) ++ (clssOf hd10.view_39 (looseW hd10.view_39 [PySem.Str.ofString "Error", PySem.Str.ofString "_Method"])).map (fun x => x.name)) mean mg mb h₀ → dp + dpn + 2 < recursionLimit → un + unn + 20 < cLine →
    (∀ r news' T u h' tk', Fr h₀ L h' m → News h₀ L h' ((T, W.listOf #[.str (PySem.Str.ofString "given") u, r] 0) :: news') → (∀ p ∈ news', p.1 < T) → Post r news' → Q (.ref T) { s with heap := h', toks := tk' }) →
    wpAny (model Challenge.rw_dn0306_10.prog w) (ktrTop dp un gd cn ⟨.function, nms, ig, ic, mo⟩ L a ccd cl outer) (call (.ref 109) [.ref y, .ref A]) Q E s := by
  k_fill
  intro w dpn unn y oy A vs news Post hy hcy hA hvs hcalls mean mg mb dp un gd cn nms ig ic mo a ccd cl outer A₀ base h₀ L m s Q E B F X N T hd hu hret
  have hk9 : (envX cn ⟨.function, nms, ig, ic, mo⟩ L a ccd cl).scope.kind = .function := rfl
  refine never ?_
  refine wpAny_call ?_
  k_dflt ktr_enter
  rename_i g' L' h' FG' F' N' B' X' T'
  walk_at "mine"
  show wpAny _ _ _ _ _ _
  refine hcalls mean mg mb _ _ _ _ _ _ _ _ _ _ _ _ _ _ _ _ _ _ _ _ B' (by k_asm) X' (by k_asm) T' (by show dp + 1 + dpn < _; omega) (by show un + 3 + unn < _; omega) ?_
  intro r news' h9 tk9 F9 N9 P9
  walk_at "mine"
  exact hret _ _ _ _ _ _ (by k_asm) (by k_asm) (by assumption) P9
theorem called_fail : ∀ (w : World) (dpn unn : Nat) (e y : Addr) (oy : Obj) (A : Addr) (vs : List Value) (news : List (Addr × Obj)) (Post : List (Addr × Obj) → Prop),
    (y, oy) ∈ news → Callee oy → (A, tupO vs) ∈ news → vs.length ≤ 2 → RCalls w dpn unn e y vs news Post →
    ∀ (mean : ExcName → Option Value) (mg mb : PySem.Str → Option Value) (dp un : Nat) (gd : Option (List Code)) (cn : PySem.Str) (nms : List (PySem.Str × NameKind)) (ig ic : Bool) (mo : List (PySem.Str × Const)) (a : Addr) (ccd : Value) (cl : List (PySem.Str × Addr)) (A₀ : Around) (base h₀ : Heap) (L : Addr) (m : PySem.Str → Option Value) (s : Shared) (Q E : Value → Shared → Prop),
    Below A₀ base [] h₀ → (hd10.heap_39 w.params).In base → Top topProg (looseW hd10.view_39 [PySem.Str.ofString "Error", PySem.Str.ofString "_Method"] ++ (recsOf hd10.view_39).map (fun x => x.name) ++ (litsOf hd10.view_39).map (fun x => x.1) ++ (clssOf hd10.view_39 (looseW hd10.view_39 [PySem.Str.ofString "Error", PySem.Str.ofString "_Method"])).map (fun x => x.name)) mean mg mb base → Fr h₀ L s.heap m → (hd10.heap_39 w.params).In h₀ → News h₀ L s.heap news → Top topProg (looseW hd10.view_39 [PySem.Str.ofString "Error", PySem.Str.ofString "_Method"] ++ (recsOf hd10.view_39).map (fun x => x.name) ++ (litsOf hd10.view_39).map (fun x => x.1) ++ (clssOf hd10.view_39 (looseW hd10.view_39 [PySem.Str.ofString "Error", PySem.Str.ofString "_Method"])).map (fun x => x.name)) mean mg mb h₀ → dp + dpn + 2 < recursionLimit → un + unn + 20 < cLine →
    (∀ ex news' T u h' tk', ErrL e ex → (∀ p ∈ news', p.1 ∉ ex.map (·.1)) → Fr h₀ L h' m → News h₀ L h' ((T, W.listOf #[.str (PySem.Str.ofString "failed") u, .ref e] 0) :: (ex ++ news')) → (∀ p ∈ ex ++ news', p.1 < T) → Post news' → Q (.ref T) { s with heap := h', toks := tk' }) →
    wpAny (model Challenge.rw_dn0306_10.prog w) (ktrTop dp un gd cn ⟨.function, nms, ig, ic, mo⟩ L a ccd cl []) (call (.ref 109) [.ref y, .ref A]) Q E s := by
  k_fill
  intro w dpn unn e y oy A vs news Post hy hcy hA hvs hcalls mean mg mb dp un gd cn nms ig ic mo a ccd cl A₀ base h₀ L m s Q E B XB TB F X N T hd hu hret
  have hk9 : (envX cn ⟨.function, nms, ig, ic, mo⟩ L a ccd cl).scope.kind = .function := rfl
  refine wpAny_call ?_
  refine' code_defX0 ?k1 ?k2 ?k3 ?k4 ?k5 ?kA ?kF ?kK ?k6 ?k7 ?k8 ?k9 ?kB ?_ ?c2 ?c3 ?c4 ?c5; (case kA => exact rfl); (case kF => exact rfl); (case kK => assumption); (case k1 => k_asm); (case k2 => k_asm); (case k3 => k_asm); (case k4 => k_asm); (case k5 => k_asm); (case k6 => k_is); (case k7 => k_is); (case k8 => ktr_room); (case k9 => exact BindsTo.of_eq rfl); (case c5 => decide); (case kB => exact locs rfl); (case c2 => exact rfl); (case c3 => exact rfl); (case c4 => exact rfl)
  intro g' L' h' FG' F' N' B' X' T' D'
  (try dsimp only); (try k_lift B')
  walk_at "mine"
  show wpAny _ _ _ _ _ _
  refine hcalls mean mg mb _ _ _ _ _ _ _ _ _ _ _ _ _ _ _ _ _ _ _ _ B' (by k_asm) X' (by k_asm) T' (by show dp + 1 + dpn < _; omega) (by show un + 3 + unn < _; omega) ?_
  intro g'' news'' h9 tk9 F9 R9 u9 P9
  show wpAny _ _ (noteFrame _ _) _ _ _
  refine kts_lookSN R9 F9 B' u9 D' fun h8 R8 u8 => ?_
  refine hit_err (n := PySem.Str.ofString "e") R8 F9 B' u8 XB TB D' KtsTurn.refl ?test fun h7 g7 tk7 ex hex hdis T7 F7 N7 B7 X7 P7 D7 => ?_
  case test => kts_test
  (try k_lift B7); (try k_sweep)
  generalize hrr : ex ++ news'' = rr at *
  (try dsimp only)
  walk_at "mine"
  subst hrr
  exact hret ex news'' _ _ _ _ hex hdis (by k_asm) (by k_asm) (by assumption) P9
end Mine

namespace Mine
structure Nd where
  nm : PySem.Str
  p : Nat
  mo : PySem.Str
  b : Bool
  ch : Chain
  x : Addr
  tt : Addr
abbrev poolO (nds : List Nd) (e : Nat) : Obj := W.listOf (nds.map fun n => Value.ref n.x).toArray e
abbrev toldO (nds : List Nd) (e : Nat) : Obj := W.listOf (nds.map fun n => Value.ref n.tt).toArray e
structure NdOk (P : Params) (lb lf : Addr) (rest : List (Addr × Obj)) (nds : List Nd) (i : Nat) (nd : Nd) : Prop where
  obj : ObjIn P (if nd.b then lf else lb) rest nd.x nd.ch
  told : ∃ t t' t'', (nd.tt, W.listOf #[.str nd.nm t, .int nd.p t', .str nd.mo t''] 0) ∈ rest
  len : nd.nm.length ≤ 10
  ok : PyData.strOk nd.nm = true
  mlen : nd.mo.length ≤ 4
  mok : PyData.strOk nd.mo = true
  low : i < 2 → nd.ch = [nd.nm] ∧ nd.b = decide (i = 1)
  high : 2 ≤ i → nd.p < i ∧ ∃ nd' tl, nds[nd.p]? = some nd' ∧ nd'.ch = nd'.nm :: tl ∧ nd.ch = nd.nm :: (nd'.nm ++ nd.mo) :: tl ∧ nd.b = nd'.b
structure PoolOk (P : Params) (lb lf : Addr) (rest : List (Addr × Obj)) (nds : List Nd) : Prop where
  two : 2 ≤ nds.length
  each : ∀ i nd, nds[i]? = some nd → NdOk P lb lf rest nds i nd
theorem NdOk.head {P : Params} {lb lf : Addr} {rest : List (Addr × Obj)} {nds : List Nd} {i : Nat} {nd : Nd} (h : NdOk P lb lf rest nds i nd) : ∃ tl, nd.ch = nd.nm :: tl := by
  rcases Nat.lt_or_ge i 2 with h1 | h1
  · exact ⟨_, (h.low h1).1⟩
  · obtain ⟨_, nd', tl, _, _, e, _⟩ := h.high h1; exact ⟨_, e⟩
def forBody : Stmt → List Stmt
  | .For _ _ b _ _ => b
  | _ => []
theorem ObjIn.open {P : Params} {lam : Addr} {n : List (Addr × Obj)} {x : Addr} {h : PySem.Str} {tl : Chain} (H : ObjIn P lam n x (h :: tl)) : ∃ d y t1 t2 t3, (x, instObj 84 d) ∈ n ∧ (d, methD P (.ref y) h t1 t2 t3) ∈ n ∧
    ∀ n' x' d' h' u1 u2 u3, (∀ p ∈ n, p ∈ n') → (x', instObj 84 d') ∈ n' → (d', methD P (.ref y) h' u1 u2 u3) ∈ n' → ObjIn P lam n' x' (h' :: tl) := by
  cases H with
  | lam a b => exact ⟨_, _, _, _, _, a, b, fun n' x' d' h' u1 u2 u3 s a' b' => .lam a' b'⟩
  | meth a b c => exact ⟨_, _, _, _, _, a, b, fun n' x' d' h' u1 u2 u3 s a' b' => .meth a' b' (c.mono s)⟩
theorem ObjIn.mk84 {P : Params} {lam : Addr} {n : List (Addr × Obj)} {x d y : Addr} {c : PySem.Str} {r : Chain} {nm : PySem.Str} {t1 t2 t3 : Tok} (a : (x, instObj 84 d) ∈ n) (b : (d, methD P (.ref y) nm t1 t2 t3) ∈ n) (h : ObjIn P lam n y (c :: r)) : ObjIn P lam n x (nm :: c :: r) := .meth a b h
theorem PoolOk.snoc {P : Params} {lb lf : Addr} {rest ext : List (Addr × Obj)} {nds : List Nd} {nd nd' : Nd} {tl : Chain} (hP : PoolOk P lb lf rest nds) (hobj : ObjIn P (if nd.b then lf else lb) (ext ++ rest) nd.x nd.ch) (htold : ∃ t t' t'', (nd.tt, W.listOf #[.str nd.nm t, .int nd.p t', .str nd.mo t''] 0) ∈ ext ++ rest) (hlen : nd.nm.length ≤ 10) (hok : PyData.strOk nd.nm = true) (hml : nd.mo.length ≤ 4) (hmok : PyData.strOk nd.mo = true)
    (hp : nds[nd.p]? = some nd') (hch' : nd'.ch = nd'.nm :: tl) (hch : nd.ch = nd.nm :: (nd'.nm ++ nd.mo) :: tl) (hb : nd.b = nd'.b) : PoolOk P lb lf (ext ++ rest) (nds ++ [nd]) := by
  have sub : ∀ p ∈ rest, p ∈ ext ++ rest := fun p hp => List.mem_append_right _ hp
  have lt_of : ∀ {i : Nat} {x : Nd}, nds[i]? = some x → i < nds.length := fun {i x} h => by
    rcases Nat.lt_or_ge i nds.length with h1 | h1
    · exact h1
    · rw [List.getElem?_eq_none h1] at h; cases h
  refine ⟨by rw [List.length_append]; have := hP.two; omega, fun i x hx => ?_⟩
  rcases Nat.lt_or_ge i nds.length with h1 | h1
  · rw [List.getElem?_append_left h1] at hx
    obtain ⟨o1, ⟨t, t', t'', o2⟩, o3, o4, o5, o6, o7, o8⟩ := hP.each i x hx
    refine ⟨o1.mono sub, ⟨t, t', t'', sub _ o2⟩, o3, o4, o5, o6, o7, fun h => ?_⟩
    obtain ⟨q1, y, tl', q2, q3⟩ := o8 h
    exact ⟨q1, y, tl', by rw [List.getElem?_append_left (lt_of q2)]; exact q2, q3⟩
  · have hi : i = nds.length := by
      have := List.getElem?_eq_some_iff.mp hx
      obtain ⟨hl, _⟩ := this
      rw [List.length_append, List.length_singleton] at hl
      omega
    subst hi
    rw [List.getElem?_append_right (Nat.le_refl _), Nat.sub_self] at hx
    cases hx
    have := hP.two
    exact ⟨hobj, htold, hlen, hok, hml, hmok, fun h => absurd h (by omega), fun _ => ⟨lt_of hp, nd', tl, by rw [List.getElem?_append_left (lt_of hp)]; exact hp, hch', hch, hb⟩⟩
theorem push_map {α : Type} (f : α → Value) (l : List α) (a : α) : (l.map f).toArray.push (f a) = ((l ++ [a]).map f).toArray := by simp
theorem lit2 {α β : Type} {x : α} {y : β} {P : α → β → Prop} (a : α) (b : β) (e : x = a) (e' : y = b) (h : P a b) : P x y := by subst e e'; exact h
abbrev envL (sc : Scope) (L fa : Addr) : Env := envOfC (PySem.Str.ofString "law") sc L fa (.ref 115)
abbrev f1 (M : PySem.Str → Option Value) (x p way nm : Option Value) : PySem.Str → Option Value := fun y =>
  if y = PySem.Str.ofString "x" then x else if y = PySem.Str.ofString "p" then p else if y = PySem.Str.ofString "way" then way else if y = PySem.Str.ofString "name" then nm else M y
abbrev mLaw (lp lt sc : Addr) : PySem.Str → Option Value := fun y =>
  if y = PySem.Str.ofString "told" then some (.ref lt) else if y = PySem.Str.ofString "row" then some (.ref lp) else if y = PySem.Str.ofString "script" then some (.ref sc) else none
local macro_rules | `(tactic| walk_at "mine") => `(tactic| repeat' (first | (k_unfold; (try dsimp only)) | walk1 | (dsimp only; walk1) | (leave1; try dsimp only) | fail "no step"))
local macro_rules | `(tactic| k_mem) => `(tactic| (repeat (first | exact List.Mem.head _ | assumption | refine List.Mem.tail _ ?_)))
local macro_rules | `(tactic| k_all) => `(tactic| assumption)
local macro_rules | `(tactic| walk_at "execs cons") => `(tactic| (refine genToks ?_ (by omega); intro k9 p9))
local macro_rules | `(tactic| walk_at "execs nil") => `(tactic| (refine genToks ?_ (by omega); intro k9 p9))
local macro_rules | `(tactic| walk_at "execs cons") => `(tactic| ((with_reducible show wpAny _ _ _ _ _ (Shared.mk _ _ _ (Shared.toks _) _)); dsimp only))
local macro_rules | `(tactic| walk_at "execs nil") => `(tactic| ((with_reducible show wpAny _ _ _ _ _ (Shared.mk _ _ _ (Shared.toks _) _)); dsimp only))
theorem lenMap {prog : Program} {w : World} {A : Around} {E : Value → Shared → Prop} {s : Shared} {l : Addr} {α : Type} {f : α → Value} {vs : List α} {Q : Value → Shared → Prop} (hl : s.heap.IsList l (vs.map f).toArray) (hb : vs.length ≤ 1000)
    (h : ∀ t k, s.toks ≤ k → Q (.int (vs.length : Int) t) { s with toks := k }) : wpAny (model prog w) A (call (.builtin "len") [.ref l]) Q E s := by
  refine Calls.call_len_list hl (by simp only [List.size_toArray, List.length_map]; omega) ?_
  have e : (vs.map f).toArray.size = vs.length := by simp
  rw [e]
  exact h _ _ (by omega)
theorem itemLit {prog : Program} {w : World} {A : Around} {E : Value → Shared → Prop} {s : Shared} {value slice : Expr} {l : Addr} {its : Array Value} {k : Int} {u : Tok} {x : Value} {Q : Value → Shared → Prop}
    (hl : s.heap.IsList l its) (hb : its.size ≤ 1000) (h0 : 0 ≤ k) (hx : its[k.toNat]? = some x) (h : Q x s)
    (hs : subscripted slice false (.ref l) (.int k u) = operate [.ref l, .int k u] (getItem (.ref l) (.int k u)) := by with_unfolding_all rfl) :
    wpAny (model prog w) A (subscriptTail value slice (.ref l) (.int k u)) Q E s := by
  have hlt : k.toNat < its.size := by
    rcases Nat.lt_or_ge k.toNat its.size with h1 | h1
    · exact h1
    · rw [Array.getElem?_eq_none h1] at hx; cases hx
  exact tail_any hl.typeIs slot_list_getitem.lookup (wpAny_getItem_list hl h0 (by omega) hx h) hs
theorem itemAt {prog : Program} {w : World} {A : Around} {E : Value → Shared → Prop} {s : Shared} {value slice : Expr} {l : Addr} {α : Type} {f : α → Value} {vs : List α} {k : Nat} {u : Tok} {x : α} {Q : Value → Shared → Prop}
    (hl : s.heap.IsList l (vs.map f).toArray) (hb : vs.length ≤ 1000) (hx : vs[k]? = some x) (h : Q (f x) s)
    (hs : subscripted slice false (.ref l) (.int k u) = operate [.ref l, .int k u] (getItem (.ref l) (.int k u)) := by with_unfolding_all rfl) :
    wpAny (model prog w) A (subscriptTail value slice (.ref l) (.int k u)) Q E s :=
  itemLit hl (by simpa using hb) (by omega) (by simp [hx]) h hs
local macro_rules | `(tactic| walk_at "call builtin:len") => `(tactic| (k_dflt (refine lenMap (News.isList (by k_asm) (by k_mem)) (by omega) ?_); intro t9 k9 u9; (try dsimp only at u9)))
theorem fm_lo {n m : Int} (h : 0 < m) : 0 ≤ n.fmod m := by rw [Int.fmod_eq_emod_of_nonneg _ (by omega)]; exact Int.emod_nonneg _ (by omega)
theorem fm_hi {n m : Int} (h : 0 < m) : n.fmod m < m := by rw [Int.fmod_eq_emod_of_nonneg _ (by omega)]; exact Int.emod_lt_of_pos _ h
local macro_rules | `(tactic| walk_at "subscriptTail Name Name ref int") => `(tactic| (k_dflt (refine itemAt (News.isList (by k_asm) (by k_mem)) (by omega) (by assumption) ?_)))
local macro_rules | `(tactic| walk_at "exec If") => `(tactic| refine Halt.go ?_)
local macro_rules | `(tactic| walk_at "call builtin:list.append") => `(tactic| (k_dflt (refine' append_K ?k1 ?k2 ?k3 ?_ ?z; (case k1 => k_asm); (case k2 => k_asm); (case k3 => k_upd); (case z => (rw [sizeLine_eq]; (try simp only [List.size_toArray, List.length_map]); omega)); k_whole); intro h' F' N'))
local macro_rules | `(tactic| walk_at "getMethod ref") => `(tactic| (k_here; k_dflt (refine' methH ?k1 ?k2 ?k3 ?k4 ?k5 ?_; (case k1 => k_asm); (case k2 => k_asm); (case k3 => k_inst); (case k4 => k_is); (case k5 => k_is); k_whole)))
local macro_rules | `(tactic| walk_at "getAttr ref") => `(tactic| (k_here; k_dflt (refine' getH_miss ?k1 ?k2 ?k3 ?k4 ?k5 ?k6 ?k7 ?k8 ?k9 ?k10 ?_; (case k1 => k_asm); (case k2 => k_asm); (case k3 => k_inst); (case k4 => k_is); (case k5 => k_is); (case k6 => k_is); (case k7 => k_get); (case k8 => decide); (case k9 => k_is); (case k10 => k_is); k_whole)))
local macro_rules | `(tactic| walk_at "getAttr ref") => `(tactic| (k_here; k_dflt (refine' getH_own ?k1 ?k2 ?k3 ?k4 ?k5 ?k6 ?k7 ?k8 ?k9 ?_; (case k1 => k_asm); (case k2 => k_asm); (case k3 => k_inst); (case k4 => k_is); (case k5 => k_is); (case k6 => k_is); (case k7 => k_is); (case k8 => k_get); (case k9 => k_handed); k_whole)))
section
variable {prog : Program} {w : World} {A : Around} {E : Value → Shared → Prop} {s : Shared} {value slice : Expr} {l : Addr} {a b c : Value} {u : Tok} {Q : Value → Shared → Prop}
theorem three0 (hl : s.heap.IsList l #[a, b, c]) (h : Q a s) (hs : subscripted slice false (.ref l) (.int 0 u) = operate [.ref l, .int 0 u] (getItem (.ref l) (.int 0 u)) := by with_unfolding_all rfl) : wpAny (model prog w) A (subscriptTail value slice (.ref l) (.int 0 u)) Q E s := itemLit hl (by decide : 3 ≤ 1000) (by decide) rfl h hs
theorem three1 (hl : s.heap.IsList l #[a, b, c]) (h : Q b s) (hs : subscripted slice false (.ref l) (.int 1 u) = operate [.ref l, .int 1 u] (getItem (.ref l) (.int 1 u)) := by with_unfolding_all rfl) : wpAny (model prog w) A (subscriptTail value slice (.ref l) (.int 1 u)) Q E s := itemLit hl (by decide : 3 ≤ 1000) (by decide) rfl h hs
theorem three2 (hl : s.heap.IsList l #[a, b, c]) (h : Q c s) (hs : subscripted slice false (.ref l) (.int 2 u) = operate [.ref l, .int 2 u] (getItem (.ref l) (.int 2 u)) := by with_unfolding_all rfl) : wpAny (model prog w) A (subscriptTail value slice (.ref l) (.int 2 u)) Q E s := itemLit hl (by decide : 3 ≤ 1000) (by decide) rfl h hs
end
local macro_rules | `(tactic| walk_at "subscriptTail List Name ref int") => `(tactic| (k_dflt (first | refine three0 (News.isList (by k_asm) (by k_mem)) ?_ | refine three1 (News.isList (by k_asm) (by k_mem)) ?_ | refine three2 (News.isList (by k_asm) (by k_mem)) ?_)))
theorem nm_facts (x : Int) : (PySem.Str.ofString "n" ++ PySem.Str.ofString (toString (x.fmod 100))).length ≤ 10 ∧ PyData.strOk (PySem.Str.ofString "n" ++ PySem.Str.ofString (toString (x.fmod 100))) = true := by
  have h1 : 0 ≤ x.fmod 100 := fm_lo (by omega)
  have h2 : x.fmod 100 < 100 := fm_hi (by omega)
  generalize x.fmod 100 = y at *
  obtain ⟨n, rfl⟩ := Int.eq_ofNat_of_zero_le h1
  have h3 : n < 100 := by omega
  have key : ∀ n : Fin 100, (PySem.Str.ofString "n" ++ PySem.Str.ofString (toString ((n.1 : Nat) : Int))).length ≤ 10 ∧ PyData.strOk (PySem.Str.ofString "n" ++ PySem.Str.ofString (toString ((n.1 : Nat) : Int))) = true := by decide +kernel
  exact key ⟨n, h3⟩
theorem str_ext {x y : PySem.Str} (h : x.cps.toList = y.cps.toList) : x = y := by
  cases x; cases y
  congr 1
  exact Array.toList_inj.mp h
theorem kid_go (nm : PySem.Str) : kidN nm (PySem.Str.ofString "go") = nm ++ PySem.Str.ofString ".go" := by
  unfold kidN
  refine str_ext ?_
  simp only [Str.cps_append, Array.toList_append]
  rw [show (PySem.Str.empty).cps.toList = [] from rfl, show (PySem.Str.ofString ".go").cps.toList = (PySem.Str.ofString ".").cps.toList ++ (PySem.Str.ofString "go").cps.toList by decide]
  simp
theorem kid_ab (nm : PySem.Str) : kidN (kidN nm (PySem.Str.ofString "a")) (PySem.Str.ofString "b") = nm ++ PySem.Str.ofString ".a.b" := by
  unfold kidN
  refine str_ext ?_
  simp only [Str.cps_append, Array.toList_append]
  rw [show (PySem.Str.empty).cps.toList = [] from rfl, show (PySem.Str.ofString ".a.b").cps.toList = (PySem.Str.ofString ".").cps.toList ++ (PySem.Str.ofString "a").cps.toList ++ (PySem.Str.ofString ".").cps.toList ++ (PySem.Str.ofString "b").cps.toList by decide]
  simp
theorem app_nil (nm : PySem.Str) : nm ++ PySem.Str.ofString "" = nm := by
  refine str_ext ?_
  simp only [Str.cps_append, Array.toList_append]
  rw [show (PySem.Str.ofString "").cps.toList = [] from rfl]
  simp
theorem f1_end {g h : Heap} {L : Addr} {M : PySem.Str → Option Value} {x p kp nm u1 u2 u3 : Option Value}
    (F : Fr g L h (fun y => if y = PySem.Str.ofString "name" then nm else if y = PySem.Str.ofString "way" then kp else if y = PySem.Str.ofString "p" then p else f1 M x u1 u2 u3 y)) : Fr g L h (f1 M x p kp nm) := by
  refine fr_eq F fun y => ?_
  by_cases h1 : y = PySem.Str.ofString "name"
  · subst h1; rfl
  by_cases h2 : y = PySem.Str.ofString "way"
  · subst h2; rfl
  by_cases h3 : y = PySem.Str.ofString "p"
  · subst h3; rfl
  by_cases h4 : y = PySem.Str.ofString "x"
  · subst h4; rfl
  simp only [f1, if_neg h1, if_neg h2, if_neg h3, if_neg h4]
theorem turn1_end {P : Params} {h₀ h' : Heap} {L lp lt lb lf sc l x' d0 : Addr} {nds : List Nd} {e1 e2 : Nat} {rest own rr ext : List (Addr × Obj)} {x wv : Int} {tx t t2 t3 tw : Tok} {u1 u2 u3 : Option Value} {s : Shared} {Q : Flow → Shared → Prop} {nm mo : PySem.Str} {pn : Nat} {nd : Nd} {tk : Nat} {tl : Chain}
    (hret : ∀ nd ext h' tk' v1 v2 v3, Fr h₀ L h' (f1 (mLaw lp lt sc) (some (.int x tx)) v1 v2 v3) → News h₀ L h' ((lp, poolO (nds ++ [nd]) (e1 + 1)) :: (lt, toldO (nds ++ [nd]) (e2 + 1)) :: (ext ++ (rest ++ own))) → PoolOk P lb lf (ext ++ rest) (nds ++ [nd]) → (∀ p ∈ ext, lt < p.1 ∧ ∀ q ∈ own, q.1 < p.1) → Q .next { s with heap := h', toks := tk' }) (hrr : rest ++ own = rr)
    (kF : Fr h₀ L h' (fun y => if y = PySem.Str.ofString "name" then some (.str nm t) else if y = PySem.Str.ofString "way" then some (.int wv tw) else if y = PySem.Str.ofString "p" then some (.int pn t2) else f1 (mLaw lp lt sc) (some (.int x tx)) u1 u2 u3 y))
    (kN : News h₀ L h' (ext ++ (lp, W.listOf ((nds.map fun n => Value.ref n.x) ++ [Value.ref x']).toArray (e1 + 1)) :: (lt, W.listOf ((nds.map fun n => Value.ref n.tt) ++ [Value.ref l]).toArray (e2 + 1)) :: rr))
    (hP : PoolOk P lb lf rest nds) (hnd : nds[pn]? = some nd) (htl : nd.ch = nd.nm :: tl) (hlen : nm.length ≤ 10) (hok : PyData.strOk nm = true) (hml : mo.length ≤ 4) (hmok : PyData.strOk mo = true)
    (hobj : ∀ r, (∀ p ∈ rest, p ∈ r) → (∀ p ∈ ext, p ∈ r) → ObjIn P (if nd.b then lf else lb) r x' (nm :: (nd.nm ++ mo) :: tl))
    (htold : (l, W.listOf #[.str nm t, .int pn t2, .str mo t3] 0) ∈ ext) (h0 : lt < d0) (h1 : ∀ q ∈ rr, q.1 < d0) (hext : ∀ p ∈ ext, @LE.le Nat _ d0 p.1) : Q .next { s with heap := h', toks := tk } := by
  subst hrr
  refine hret ⟨nm, pn, mo, nd.b, nm :: (nd.nm ++ mo) :: tl, x', l⟩ ext h' tk _ _ _ (f1_end kF) (news_sub kN fun p hp => ?_) (hP.snoc (hobj _ (fun p hp => List.mem_append_right _ hp) fun p hp => List.mem_append_left _ hp) ⟨t, t2, t3, List.mem_append_left _ htold⟩ hlen hok hml hmok hnd htl rfl rfl) fun p hp => ⟨Nat.lt_of_lt_of_le h0 (hext p hp), fun q hq => Nat.lt_of_lt_of_le (h1 q (List.mem_append_right _ hq)) (hext p hp)⟩
  rcases List.mem_cons.mp hp with rfl | hp
  · rw [poolO, List.map_append]; exact List.mem_append_right _ (.head _)
  rcases List.mem_cons.mp hp with rfl | hp
  · rw [toldO, List.map_append]; exact List.mem_append_right _ (.tail _ (.head _))
  rcases List.mem_append.mp hp with hp | hp
  · exact List.mem_append_left _ hp
  · exact List.mem_append_right _ (.tail _ (.tail _ hp))
theorem turn1 : ∀ (w : World) (mean : ExcName → Option Value) (mg mb : PySem.Str → Option Value) (base h₀ : Heap) (L fa lp lt lb lf sc : Addr) (nds : List Nd) (e1 e2 : Nat) (rest own : List (Addr × Obj)) (x : Int) (tx : Tok) (u1 u2 u3 : Option Value) (s : Shared) (Q : Flow → Shared → Prop),
    Below callerA base [] h₀ → (hd10.heap_39 w.params).In h₀ → Top topProg (looseW hd10.view_39 [PySem.Str.ofString "Error", PySem.Str.ofString "_Method"] ++ (recsOf hd10.view_39).map (fun x => x.name) ++ (litsOf hd10.view_39).map (fun x => x.1) ++ (clssOf hd10.view_39 (looseW hd10.view_39 [PySem.Str.ofString "Error", PySem.Str.ofString "_Method"])).map (fun x => x.name)) mean mg mb h₀ →
    Fr h₀ L s.heap (f1 (mLaw lp lt sc) (some (.int x tx)) u1 u2 u3) → News h₀ L s.heap ((lp, poolO nds e1) :: (lt, toldO nds e2) :: (rest ++ own)) → 0 < s.toks → PoolOk w.params lb lf rest nds → nds.length ≤ 500 → lp < lt → (∀ p ∈ rest ++ own, p.1 ≠ lp ∧ p.1 ≠ lt) →
    (∀ nd ext h' tk' v1 v2 v3, Fr h₀ L h' (f1 (mLaw lp lt sc) (some (.int x tx)) v1 v2 v3) → News h₀ L h' ((lp, poolO (nds ++ [nd]) (e1 + 1)) :: (lt, toldO (nds ++ [nd]) (e2 + 1)) :: (ext ++ (rest ++ own))) → PoolOk w.params lb lf (ext ++ rest) (nds ++ [nd]) → (∀ p ∈ ext, lt < p.1 ∧ ∀ q ∈ own, q.1 < p.1) → Q .next { s with heap := h', toks := tk' }) →
    wpAny (model Challenge.rw_dn0306_10.prog w) (callerA.deeper (envL (fnScope lawDef10) L fa)) (execs (forBody law10[5]!) (envL (fnScope lawDef10) L fa)) Q (fun _ _ => False) s := by
  k_fill
  intro w mean mg mb base h₀ L fa lp lt lb lf sc nds e1 e2 rest own x tx u1 u2 u3 s Q B X T F N hpos hP hlen hlp hne hret
  generalize hrr : rest ++ own = rr at N hne
  have hne1 : ∀ p ∈ rr, p.1 ≠ lp := fun p hp => (hne p hp).1
  have hne2 : ∀ p ∈ rr, p.1 ≠ lt := fun p hp => (hne p hp).2
  replace hlp := ltN hlp
  refine lit2 (x := fnScope lawDef10) (y := forBody law10[5]!) (P := fun scp bd => wpAny (model Challenge.rw_dn0306_10.prog w) (callerA.deeper (envL scp L fa)) (execs bd (envL scp L fa)) Q (fun _ _ => False) s) ⟨_, _, _, _, _⟩ (_ :: _) rfl rfl ?_
  have h2 := hP.two
  walk_at "mine"
  show wpAny _ _ _ _ _ _
  have hp1 : 0 ≤ ((nds.length : Int) - 1 - x.fdiv 6).fmod nds.length := fm_lo (by omega)
  have hp2 : ((nds.length : Int) - 1 - x.fdiv 6).fmod nds.length < nds.length := fm_hi (by omega)
  obtain ⟨hn1, hn2⟩ := nm_facts x
  generalize ((nds.length : Int) - 1 - x.fdiv 6).fmod nds.length = pp at *
  obtain ⟨pn, rfl⟩ := Int.eq_ofNat_of_zero_le hp1
  generalize PySem.Str.ofString "n" ++ PySem.Str.ofString (toString (x.fmod 100)) = nm at *
  have hw1 : 0 ≤ x.fmod 3 := fm_lo (by omega)
  have hw2 : x.fmod 3 < 3 := fm_hi (by omega)
  generalize x.fmod 3 = way at *
  obtain ⟨nd, hnd⟩ : ∃ nd, nds[pn]? = some nd := ⟨nds[pn], List.getElem?_eq_getElem (by omega)⟩
  have no := hP.each _ _ hnd
  obtain ⟨tl, htl⟩ := no.head
  have nobj := no.obj
  rw [htl] at nobj
  obtain ⟨d, y, t1, t2, t3, m1, m2, mk⟩ := nobj.open
  have m1' : (nd.x, instObj 84 d) ∈ rr := hrr ▸ List.mem_append_left _ m1
  have m2' : (d, methD w.params (.ref y) nd.nm t1 t2 t3) ∈ rr := hrr ▸ List.mem_append_left _ m2
  have nlen := no.len
  have hw : way = 0 ∨ way = 1 ∨ way = 2 := by omega
  rcases hw with rfl | rfl | rfl
  · refine wpAny_If ?_
    walk_at "mine"
    rename News h₀ L _ _ => kN
    (try simp only [List.push_toArray] at kN)
    rename Fr h₀ L _ _ => kF
    rename lp < _ ∧ lt < _ ∧ AllLt _ rr => l1
    refine turn1_end (ext := [_, _, _, _]) hret hrr kF kN hP hnd htl hn1 hn2 (by decide) (by decide +kernel) ?obj (.head _) l1.2.1 (tb_ltOf l1.2.2) ?ord
    case ord =>
      intro p hp
      simp only [List.mem_cons, List.not_mem_nil, or_false] at hp
      rcases hp with rfl | rfl | rfl | rfl <;> dsimp only <;> omega
    case obj =>
      intro r s1 s2
      rw [app_nil]
      exact .mk84 (s2 _ (.tail _ (.tail _ (.head _)))) (s2 _ (.tail _ (.tail _ (.tail _ (.head _))))) (nobj.mono s1)
  · refine wpAny_If ?_
    walk_at "mine"
    show wpAny _ _ _ _ _ _
    refine wpAny_If ?_
    walk_at "mine"
    rename News h₀ L _ _ => kN
    (try simp only [List.push_toArray] at kN)
    rename Fr h₀ L _ _ => kF
    rename lp < _ ∧ lt < _ ∧ AllLt _ rr => l1
    refine turn1_end (ext := [_, _, _, _, _, _]) hret hrr kF kN hP hnd htl hn1 hn2 (by decide) (by decide +kernel) ?obj (.head _) l1.2.1 (tb_ltOf l1.2.2) ?ord
    case ord =>
      intro p hp
      simp only [List.mem_cons, List.not_mem_nil, or_false] at hp
      rcases hp with rfl | rfl | rfl | rfl | rfl | rfl <;> dsimp only <;> omega
    case obj =>
      intro r s1 s2
      rw [← kid_go]
      exact .mk84 (s2 _ (.tail _ (.tail _ (.head _)))) (s2 _ (.tail _ (.tail _ (.tail _ (.head _))))) (mk r _ _ _ _ _ _ s1 (s2 _ (.tail _ (.tail _ (.tail _ (.tail _ (.head _)))))) (s2 _ (.tail _ (.tail _ (.tail _ (.tail _ (.tail _ (.head _))))))))
  · refine wpAny_If ?_
    walk_at "mine"
    show wpAny _ _ _ _ _ _
    refine wpAny_If ?_
    walk_at "mine"
    rename News h₀ L _ _ => kN
    (try simp only [List.push_toArray] at kN)
    rename Fr h₀ L _ _ => kF
    rename lp < _ ∧ lt < _ ∧ AllLt _ rr => l1
    refine turn1_end (ext := [_, _, _, _, _, _, _, _]) hret hrr kF kN hP hnd htl hn1 hn2 (by decide) (by decide +kernel) ?obj (.head _) l1.2.1 (tb_ltOf l1.2.2) ?ord
    case ord =>
      intro p hp
      simp only [List.mem_cons, List.not_mem_nil, or_false] at hp
      rcases hp with rfl | rfl | rfl | rfl | rfl | rfl | rfl | rfl <;> dsimp only <;> omega
    case obj =>
      intro r s1 s2
      rw [← kid_ab]
      exact .mk84 (s2 _ (.tail _ (.tail _ (.head _)))) (s2 _ (.tail _ (.tail _ (.tail _ (.head _))))) (mk r _ _ _ _ _ _ s1 (s2 _ (.tail _ (.tail _ (.tail _ (.tail _ (.head _)))))) (s2 _ (.tail _ (.tail _ (.tail _ (.tail _ (.tail _ (.head _))))))))
end Mine

namespace Mine
structure L1S where
  x : Option Value
  p : Option Value
  way : Option Value
  nm : Option Value
  nds : List Nd
  ext : List (Addr × Obj)
  e1 : Nat
  e2 : Nat
structure L1J (P : Params) (lb lf lt : Addr) (rest : List (Addr × Obj)) (I i : Nat) (y : L1S) : Prop where
  pool : PoolOk P lb lf (y.ext ++ rest) y.nds
  len : y.nds.length = 2 + i
  off : ∀ p ∈ y.ext, lt < p.1 ∧ p.1 ≠ I
theorem x_in {g h : Heap} {L : Addr} {M : PySem.Str → Option Value} {x p kp nm b : Option Value} (F : Fr g L h (fun y => if y = PySem.Str.ofString "x" then b else f1 M x p kp nm y)) : Fr g L h (f1 M b p kp nm) := by
  refine fr_eq F fun y => ?_
  by_cases h1 : y = PySem.Str.ofString "x"
  · subst h1; rfl
  simp only [f1, if_neg h1]
theorem loop1 : ∀ (w : World) (mean : ExcName → Option Value) (mg mb : PySem.Str → Option Value) (base h₀ : Heap) (L fa lp lt lb lf sc l : Addr) (nds : List Nd) (e1 e2 : Nat) (rest more : List (Addr × Obj)) (vs : List Value) (ns : List Int) (px : Pos) (s : Shared) (Q : Flow → Shared → Prop),
    Below callerA base [] h₀ → (hd10.heap_39 w.params).In h₀ → Top topProg (looseW hd10.view_39 [PySem.Str.ofString "Error", PySem.Str.ofString "_Method"] ++ (recsOf hd10.view_39).map (fun x => x.name) ++ (litsOf hd10.view_39).map (fun x => x.1) ++ (clssOf hd10.view_39 (looseW hd10.view_39 [PySem.Str.ofString "Error", PySem.Str.ofString "_Method"])).map (fun x => x.name)) mean mg mb h₀ →
    Fr h₀ L s.heap (f1 (mLaw lp lt sc) none none none none) → News h₀ L s.heap ((lp, poolO nds e1) :: (lt, toldO nds e2) :: (rest ++ more)) → 0 < s.toks → PoolOk w.params lb lf rest nds → nds.length = 2 → lp < lt → (∀ p ∈ rest ++ more, p.1 ≠ lp ∧ p.1 ≠ lt) →
    s.heap.IsList l vs.toArray → l ≠ L → lt < l → IntsAre vs ns → ns.length ≤ 18 →
    (∀ (y : L1S) h' tk', Fr h₀ L h' (f1 (mLaw lp lt sc) y.x y.p y.way y.nm) → News h₀ L h' ((lp, poolO y.nds y.e1) :: (lt, toldO y.nds y.e2) :: ((y.ext ++ rest) ++ more)) → PoolOk w.params lb lf (y.ext ++ rest) y.nds → y.nds.length ≤ 20 → (∀ p ∈ y.ext, lt < p.1) → 0 < tk' → Q .next { s with heap := h', toks := tk' }) →
    wpAny (model Challenge.rw_dn0306_10.prog w) (callerA.deeper (envL (fnScope lawDef10) L fa)) (pyIter (.ref l)) (fun it s₂ => codeAny (model Challenge.rw_dn0306_10.prog w) (callerA.deeper (envL (fnScope lawDef10) L fa)) (.forLoop (.Name (PySem.Str.ofString "x") px) it (forBody law10[5]!) [] (envL (fnScope lawDef10) L fa)) (forR (model Challenge.rw_dn0306_10.prog w) (callerA.deeper (envL (fnScope lawDef10) L fa)) (envL (fnScope lawDef10) L fa) Q (fun _ _ => False)) s₂) (fun _ _ => False) s := by
  intro w mean mg mb base h₀ L fa lp lt lb lf sc l nds e1 e2 rest more vs ns px s Q B X T F N hpos hP hlen hlp hne hl hlL hll hI hns hret
  have slp := Heap.lt_size (N (lp, _) (.head _)).1
  have slt := Heap.lt_size (N (lt, _) (.tail _ (.head _))).1
  refine iterList_st2 (σ := L1S) (fun y => f1 (mLaw lp lt sc) y.x y.p y.way y.nm) (fun y => (lp, poolO y.nds y.e1) :: (lt, toldO y.nds y.e2) :: ((y.ext ++ rest) ++ more)) (L1J w.params lb lf lt rest s.heap.objs.size) ⟨none, none, none, none, nds, [], e1, e2⟩ hl rfl rfl rfl hlL hpos F N ⟨hP, by rw [hlen], fun _ h => (nomatch h)⟩ ?off ?turn ?done ?hE
  case hE => passes_own
  case off =>
    intro i y hJ p hp
    rcases List.mem_cons.mp hp with rfl | hp
    · exact Nat.ne_of_lt slp
    rcases List.mem_cons.mp hp with rfl | hp
    · exact Nat.ne_of_lt slt
    rcases List.mem_append.mp hp with hp | hp
    · rcases List.mem_append.mp hp with hp | hp
      · exact (hJ.off p hp).2
      · exact Nat.ne_of_lt (Heap.lt_size (N p (.tail _ (.tail _ (List.mem_append_left _ hp)))).1)
    · exact Nat.ne_of_lt (Heap.lt_size (N p (.tail _ (.tail _ (List.mem_append_right _ hp)))).1)
  case done =>
    intro y h' tk' pos' hJ F' N' sz'
    exact hret y h' tk' F' N' hJ.pool (by rw [hJ.len, hI.length]; omega) (fun p hp => (hJ.off p hp).1) pos'
  rintro i v ⟨x, p, kp, nm, nds', ext, f1', f2'⟩ h' tk' own pos' hv hJ ho hIo F' N' sz'
  obtain ⟨n, tn, rfl, hin⟩ := hI.at i v hv
  have hi18 : i < 18 := by
    have := (List.getElem?_eq_some_iff.mp hin).1
    omega
  dsimp only [List.cons_append] at F' N' ⊢
  rw [List.append_assoc] at N'
  have hlen' := hJ.len
  dsimp only at hlen'
  obtain ⟨oI, hoI⟩ := hIo
  refine turn1 w mean mg mb base h₀ L fa lp lt lb lf sc nds' f1' f2' (ext ++ rest) (more ++ own) n tn _ _ _ _ _ B X T (x_in F') N' pos' hJ.pool (by omega) hlp ?ne ?_
  case ne =>
    intro q hq
    rcases List.mem_append.mp hq with hq | hq
    · rcases List.mem_append.mp hq with hq | hq
      · have := (hJ.off q hq).1
        exact ⟨Nat.ne_of_gt (Nat.lt_trans hlp this), Nat.ne_of_gt this⟩
      · exact hne q (List.mem_append_left _ hq)
    rcases List.mem_append.mp hq with hq | hq
    · exact hne q (List.mem_append_right _ hq)
    rcases ho q hq with e | e
    · rw [e]; exact ⟨Nat.ne_of_gt slp, Nat.ne_of_gt slt⟩
    · rw [e]; exact ⟨Nat.ne_of_gt (Nat.lt_trans hlp hll), Nat.ne_of_gt hll⟩
  intro nd ext2 h2 tk2 v1 v2 v3 F2 N2 P2 hlt2
  refine ForSt.next (σ := L1S) (L1S.mk _ v1 v2 v3 (nds' ++ [nd]) (ext2 ++ ext) (f1' + 1) (f2' + 1)) F2 ?_ ⟨?_, ?_, ?_⟩
  · rw [List.cons_append, List.cons_append, List.append_assoc ext2, List.append_assoc (ext2 ++ (ext ++ rest)), List.append_assoc ext2]; exact N2
  · dsimp only; rw [List.append_assoc]; exact P2
  · dsimp only; rw [List.length_append, List.length_singleton, hlen']; omega
  · intro q hq
    rcases List.mem_append.mp hq with hq | hq
    · exact ⟨(hlt2 q hq).1, Nat.ne_of_gt ((hlt2 q hq).2 _ (List.mem_append_right _ hoI))⟩
    · exact hJ.off q hq
end Mine

namespace Mine
def nth (l : List Stmt) (i : Nat) : Stmt := l[i]!
def inner10 : List Stmt := forBody (nth (forBody law10[6]!) 1)
structure V7 where
  name : Option Value
  p : Option Value
  more : Option Value
  due : Option Value
  j : Option Value
  got : Option Value
  inner : Option Value
abbrev f2 (M : PySem.Str → Option Value) (k things args : Option Value) (v : V7) : PySem.Str → Option Value := fun y =>
  if y = PySem.Str.ofString "k" then k else if y = PySem.Str.ofString "things" then things else if y = PySem.Str.ofString "args" then args else if y = PySem.Str.ofString "name" then v.name
  else if y = PySem.Str.ofString "p" then v.p else if y = PySem.Str.ofString "more" then v.more else if y = PySem.Str.ofString "due" then v.due
  else if y = PySem.Str.ofString "j" then v.j else if y = PySem.Str.ofString "got" then v.got else if y = PySem.Str.ofString "inner" then v.inner else M y
abbrev mLaw2 (xv wv : Option Value) (lp lt sc : Addr) : PySem.Str → Option Value := fun y => if y = PySem.Str.ofString "x" then xv else if y = PySem.Str.ofString "way" then wv else mLaw lp lt sc y
local macro_rules | `(tactic| walk_at "mine") => `(tactic| repeat' (first | (k_unfold; (try dsimp only)) | walk1 | (dsimp only; walk1) | (leave1; try dsimp only) | fail "no step"))
local macro_rules | `(tactic| k_mem) => `(tactic| (repeat (first | exact List.Mem.head _ | assumption | refine List.Mem.tail _ ?_)))
local macro_rules | `(tactic| k_all) => `(tactic| assumption)
local macro_rules | `(tactic| walk_at "execs cons") => `(tactic| (refine genToks ?_ (by omega); intro k9 p9))
local macro_rules | `(tactic| walk_at "execs nil") => `(tactic| (refine genToks ?_ (by omega); intro k9 p9))
local macro_rules | `(tactic| walk_at "execs cons") => `(tactic| ((with_reducible show wpAny _ _ _ _ _ (Shared.mk _ _ _ (Shared.toks _) _)); dsimp only))
local macro_rules | `(tactic| walk_at "execs nil") => `(tactic| ((with_reducible show wpAny _ _ _ _ _ (Shared.mk _ _ _ (Shared.toks _) _)); dsimp only))
local macro_rules | `(tactic| walk_at "subscriptTail Name Name ref int") => `(tactic| (k_dflt (refine itemAt (News.isList (by k_asm) (by k_mem)) (by omega) (by assumption) ?_)))
section
variable {prog : Program} {w : World} {A : Around} {E : Value → Shared → Prop} {s : Shared} {value : Expr} {l : Addr} {a b c : Value} {u : Tok} {Q : Value → Shared → Prop} {po : Pos} {kk : Nat}
theorem told0 (hl : s.heap.IsList l #[a, b, c]) (h : Q a s) : wpAny (model prog w) A (subscriptTail value (.Constant (.int 0) kk po) (.ref l) (.int 0 u)) Q E s := itemLit hl (by decide : 3 ≤ 1000) (by decide) rfl h
theorem told1 (hl : s.heap.IsList l #[a, b, c]) (h : Q b s) : wpAny (model prog w) A (subscriptTail value (.Constant (.int 1) kk po) (.ref l) (.int 1 u)) Q E s := itemLit hl (by decide : 3 ≤ 1000) (by decide) rfl h
theorem told2 (hl : s.heap.IsList l #[a, b, c]) (h : Q c s) : wpAny (model prog w) A (subscriptTail value (.Constant (.int 2) kk po) (.ref l) (.int 2 u)) Q E s := itemLit hl (by decide : 3 ≤ 1000) (by decide) rfl h
end
local macro_rules | `(tactic| walk_at "subscriptTail Name Constant ref int") => `(tactic| (k_dflt (first | refine told0 (News.isList (by k_asm) (by k_mem)) ?_ | refine told1 (News.isList (by k_asm) (by k_mem)) ?_ | refine told2 (News.isList (by k_asm) (by k_mem)) ?_)))
structure WSt where
  nd : Nd
  j : Nat
  nm : PySem.Str
  tn : Tok
  due : Addr
  H : Chain
  tj : Tok
  tp : Tok
  tm : Tok
  ext : List (Addr × Obj)
structure WJ (nds : List Nd) (rest : List (Addr × Obj)) (log : Addr) (vs0 : List Value) (nd0 : Nd) (x : WSt) : Prop where
  nd : nds[x.j]? = some x.nd
  run : ∃ tl, x.nd.ch = x.nd.nm :: tl ∧ deliver (x.nm :: tl) x.H = deliver nd0.ch [] ∧ x.nd.b = nd0.b
  len : x.nm.length ≤ 20
  ok : PyData.strOk x.nm = true
  held : ∃ vs, (x.due, tupO vs) ∈ x.ext ++ rest ∧ HeldArgs (x.ext ++ rest) vs0 vs x.H
  short : x.H.length + x.nd.ch.length ≤ nd0.ch.length
  oks : ∀ y ∈ x.H, PyData.strOk y = true
  off : ∀ p ∈ x.ext, log < p.1 ∧ ∀ q ∈ rest, q.1 < p.1
abbrev wF (M : PySem.Str → Option Value) (k things args got inner : Option Value) (x : WSt) : PySem.Str → Option Value := f2 M k things args ⟨some (.str x.nm x.tn), some (.int x.nd.p x.tp), some (.str x.nd.mo x.tm), some (.ref x.due), some (.int x.j x.tj), got, inner⟩
abbrev wG (log lp lt : Addr) (logs : Array Value) (el e1 e2 : Nat) (nds : List Nd) (rest : List (Addr × Obj)) (x : WSt) : List (Addr × Obj) := (log, W.listOf logs el) :: (lp, poolO nds e1) :: (lt, toldO nds e2) :: (x.ext ++ rest)
theorem strOk_app {x y : PySem.Str} (h1 : PyData.strOk x = true) (h2 : PyData.strOk y = true) : PyData.strOk (x ++ y) = true := by
  unfold PyData.strOk at *
  rw [Str.cps_append, Array.all_append, h1, h2]; rfl
theorem len_app (x y : PySem.Str) : (x ++ y).length = x.length + y.length := by
  show (x ++ y).cps.size = x.cps.size + y.cps.size
  rw [Str.cps_append, Array.size_append]
theorem PoolOk.mono {P : Params} {lb lf : Addr} {rest rr : List (Addr × Obj)} {nds : List Nd} (hP : PoolOk P lb lf rest nds) (sub : ∀ p ∈ rest, p ∈ rr) : PoolOk P lb lf rr nds := ⟨hP.two, fun i y hy => by
    obtain ⟨o1, ⟨t, t', t'', o2⟩, o3, o4, o5, o6, o7, o8⟩ := hP.each i y hy
    exact ⟨o1.mono sub, ⟨t, t', t'', sub _ o2⟩, o3, o4, o5, o6, o7, o8⟩⟩
section
variable {g h : Heap} {L : Addr} {M : PySem.Str → Option Value} {k t a p mo j nm du : Option Value} {v : V7}
theorem w_end (F : Fr g L h (fun y => if y = PySem.Str.ofString "p" then p else if y = PySem.Str.ofString "more" then mo else if y = PySem.Str.ofString "j" then j else if y = PySem.Str.ofString "name" then nm else if y = PySem.Str.ofString "due" then du else f2 M k t a v y)) :
    Fr g L h (f2 M k t a ⟨nm, p, mo, du, j, v.got, v.inner⟩) := by
  refine fr_eq F fun y => ?_
  by_cases h2 : y = PySem.Str.ofString "p"
  · subst h2; rfl
  by_cases h3 : y = PySem.Str.ofString "more"
  · subst h3; rfl
  by_cases h4 : y = PySem.Str.ofString "j"
  · subst h4; rfl
  by_cases h5 : y = PySem.Str.ofString "name"
  · subst h5; rfl
  by_cases h6 : y = PySem.Str.ofString "due"
  · subst h6; rfl
  simp only [f2, if_neg h2, if_neg h3, if_neg h4, if_neg h5, if_neg h6]
end
theorem WJ.step {P : Params} {nds : List Nd} {rest : List (Addr × Obj)} {log lb lf : Addr} {vs0 : List Value} {nd0 nd nd' : Nd} {j : Nat} {nm : PySem.Str} {tn t : Tok} {due D1 : Addr} {H : Chain} {tj tp tm tj' tp' tm' : Tok} {ext : List (Addr × Obj)} {tl : Chain}
    (J : WJ nds rest log vs0 nd0 ⟨nd, j, nm, tn, due, H, tj, tp, tm, ext⟩) (hnd' : nds[nd.p]? = some nd') (hc' : nd'.ch = nd'.nm :: tl) (hc : nd.ch = nd.nm :: (nd'.nm ++ nd.mo) :: tl) (hb : nd.b = nd'.b) (no : NdOk P lb lf (ext ++ rest) nds nd.p nd') (hml : nd.mo.length ≤ 4) (hmo : PyData.strOk nd.mo = true)
    (h1 : log < D1) (h2 : ∀ q ∈ rest, q.1 < D1) :
    WJ nds rest log vs0 nd0 ⟨nd', nd.p, nd'.nm ++ nd.mo, t, D1, nm :: H, tj', tp', tm', (D1, tupO [.str nm tn, .ref due]) :: ext⟩ := by
  obtain ⟨_, ⟨tl0, hch, hdl, hbb⟩, hnl, hok, ⟨vs, hhd, hha⟩, hsh, hoks, hoff⟩ := J
  dsimp only at *
  rw [hc] at hch
  obtain rfl : (nd'.nm ++ nd.mo) :: tl = tl0 := (List.cons.inj hch).2
  have sub : ∀ p ∈ ext ++ rest, p ∈ ((D1, tupO [.str nm tn, .ref due]) :: ext) ++ rest := fun p hp => .tail _ hp
  refine ⟨hnd', ⟨tl, hc', ?_, ?_⟩, ?_, strOk_app no.ok hmo, ⟨[.str nm tn, .ref due], .head _, .meth (sub _ hhd) (hha.mono sub)⟩, ?_, ?_, ?_⟩
  · rw [← hdl]; rfl
  · rw [← hbb]; exact hb.symm
  · show (nd'.nm ++ nd.mo).length ≤ 20
    rw [len_app]
    have := no.len
    omega
  · show (H.length + 1) + nd'.ch.length ≤ _
    rw [hc] at hsh; rw [hc']
    simp only [List.length_cons] at hsh ⊢; omega
  · intro y hy
    rcases List.mem_cons.mp hy with rfl | hy
    · exact hok
    · exact hoks y hy
  · intro p hp
    rcases List.mem_cons.mp hp with rfl | hp
    · exact ⟨h1, h2⟩
    · exact hoff p hp
theorem endW {P : Params} {nds : List Nd} {rest rr : List (Addr × Obj)} {log lb lf lp lt L : Addr} {vs0 : List Value} {nd0 nd nd' : Nd} {j : Nat} {nm : PySem.Str} {tn t t2 t3 : Tok} {due D1 D3 : Addr} {H : Chain} {tj tp tm : Tok} {ext : List (Addr × Obj)} {tl : Chain} {o3 : Obj} {h₀ h' : Heap} {M : PySem.Str → Option Value} {kv things args got inner : Option Value} {logs : Array Value} {el e1 e2 tk : Nat} {s : Shared} {Q : Flow → Shared → Prop}
    (hJ : WJ nds rest log vs0 nd0 ⟨nd, j, nm, tn, due, H, tj, tp, tm, ext⟩) (hnd' : nds[nd.p]? = some nd') (hc' : nd'.ch = nd'.nm :: tl) (hc : nd.ch = nd.nm :: (nd'.nm ++ nd.mo) :: tl) (hb : nd.b = nd'.b) (no : NdOk P lb lf rr nds nd.p nd') (hml : nd.mo.length ≤ 4) (hmo : PyData.strOk nd.mo = true) (hpj : nd.p < j) (hrr : ext ++ rest = rr)
    (kF : Fr h₀ L h' (fun y => if y = PySem.Str.ofString "p" then some (.int nd'.p t2) else if y = PySem.Str.ofString "more" then some (.str nd'.mo t3) else if y = PySem.Str.ofString "j" then some (.int nd.p tp) else if y = PySem.Str.ofString "name" then some (.str (nd'.nm ++ nd.mo) t) else if y = PySem.Str.ofString "due" then some (.ref D1) else f2 M kv things args ⟨some (.str nm tn), some (.int nd.p tp), some (.str nd.mo tm), some (.ref due), some (.int j tj), got, inner⟩ y))
    (kN : News h₀ L h' ((D3, o3) :: (D1, tupO [.str nm tn, .ref due]) :: (log, W.listOf logs el) :: (lp, poolO nds e1) :: (lt, toldO nds e2) :: rr))
    (h1 : log < D1 ∧ lp < D1 ∧ lt < D1 ∧ AllLt D1 rr) :
    StepSt h₀ L (wF M kv things args got inner) (wG log lp lt logs el e1 e2 nds rest) (WJ nds rest log vs0 nd0) (fun x => x.j) ⟨nd, j, nm, tn, due, H, tj, tp, tm, ext⟩ s Q .next { s with heap := h', toks := tk } := by
  subst hrr
  refine StepSt.next ⟨nd', nd.p, nd'.nm ++ nd.mo, t, D1, nm :: H, tp, t2, t3, (D1, tupO [.str nm tn, .ref due]) :: ext⟩ (w_end kF) (news_sub kN fun p hp => ?_) (hJ.step hnd' hc' hc hb no hml hmo h1.1 fun q hq => tb_ltOf h1.2.2.2 q (List.mem_append_right _ hq)) hpj
  rcases List.mem_cons.mp hp with rfl | hp
  · exact .tail _ (.tail _ (.head _))
  rcases List.mem_cons.mp hp with rfl | hp
  · exact .tail _ (.tail _ (.tail _ (.head _)))
  rcases List.mem_cons.mp hp with rfl | hp
  · exact .tail _ (.tail _ (.tail _ (.tail _ (.head _))))
  rcases List.mem_cons.mp hp with rfl | hp
  · exact .tail _ (.head _)
  exact .tail _ (.tail _ (.tail _ (.tail _ (.tail _ hp))))
theorem while10 : ∀ (w : World) (mean : ExcName → Option Value) (mg mb : PySem.Str → Option Value) (h₀ : Heap) (L fa lp lt log lb lf sc : Addr) (nds : List Nd) (e1 e2 el : Nat) (logs : Array Value) (rest : List (Addr × Obj)) (kv things args got inner : Option Value) (vs0 : List Value) (nd0 : Nd) (xv wv : Option Value) (x₀ : WSt) (s : Shared) (Q : Flow → Shared → Prop),
    Below callerA h₀ [] h₀ → (hd10.heap_39 w.params).In h₀ → Top topProg (looseW hd10.view_39 [PySem.Str.ofString "Error", PySem.Str.ofString "_Method"] ++ (recsOf hd10.view_39).map (fun x => x.name) ++ (litsOf hd10.view_39).map (fun x => x.1) ++ (clssOf hd10.view_39 (looseW hd10.view_39 [PySem.Str.ofString "Error", PySem.Str.ofString "_Method"])).map (fun x => x.name)) mean mg mb h₀ →
    Fr h₀ L s.heap (wF (mLaw2 xv wv lp lt sc) kv things args got inner x₀) → News h₀ L s.heap (wG log lp lt logs el e1 e2 nds rest x₀) → 0 < s.toks → PoolOk w.params lb lf rest nds → nds.length ≤ 20 → WJ nds rest log vs0 nd0 x₀ →
    (∀ x h' tk', x.j < 2 → WJ nds rest log vs0 nd0 x → 0 < tk' → Fr h₀ L h' (wF (mLaw2 xv wv lp lt sc) kv things args got inner x) → News h₀ L h' (wG log lp lt logs el e1 e2 nds rest x) → Q .next { s with heap := h', toks := tk' }) →
    wpAny (model Challenge.rw_dn0306_10.prog w) (callerA.deeper (envL (fnScope lawDef10) L fa)) (exec (nth inner10 3) (envL (fnScope lawDef10) L fa)) Q (fun _ _ => False) s := by
  k_fill
  intro w mean mg mb h₀ L fa lp lt log lb lf sc nds e1 e2 el logs rest kv things args got inner vs0 nd0 xv wv x₀ s Q B X T F N hpos hP hlen hJ hret
  refine lit2 (x := fnScope lawDef10) (y := nth inner10 3) (P := fun scp bd => wpAny (model Challenge.rw_dn0306_10.prog w) (callerA.deeper (envL scp L fa)) (exec bd (envL scp L fa)) Q (fun _ _ => False) s) ⟨_, _, _, _, _⟩ (.While _ _ [] _) rfl rfl ?_
  refine While_st (σ := WSt) (wF (mLaw2 xv wv lp lt sc) kv things args got inner) (wG log lp lt logs el e1 e2 nds rest) (WJ nds rest log vs0 nd0) (fun x => x.j) x₀ hpos F N hJ ?turn ?hE
  case hE => passes_own
  clear F N hJ x₀
  rintro ⟨nd, j, nm, tn, due, H, tj, tp, tm, ext⟩ h₁ tk₁ pos₁ hJ F₁ N₁ sz₁
  have h2 := hP.two
  have hP' : PoolOk w.params lb lf (ext ++ rest) nds := hP.mono fun p hp => List.mem_append_right _ hp
  obtain ⟨hnd, ⟨tl, hch, hdl, hbb⟩, hnl, hok, ⟨vs, hhd, hha⟩, hsh, hoks, hoff⟩ := id hJ
  dsimp only [wF, wG] at F₁ N₁ hnd hch hdl hnl hok hhd hha hsh hoks hoff
  have hno := hP'.each _ _ hnd
  clear hP
  have hsub : ∀ p ∈ rest, p ∈ ext ++ rest := fun p hp => List.mem_append_right _ hp
  generalize hrr : ext ++ rest = rr at *
  by_cases hj : 2 ≤ j
  · obtain ⟨hpj, nd', tl', hnd', hc', hc, hb⟩ := hno.high hj
    have no' := hP'.each _ _ hnd'
    obtain ⟨t1', t2', t3', m'⟩ := no'.told
    have hl' := no'.len
    have hml := hno.mlen
    have hmo := hno.mok
    clear hnd
    walk_at "mine"
    rename News h₀ L _ _ => kN
    rename Fr h₀ L _ _ => kF
    rename log < _ ∧ lp < _ ∧ lt < _ ∧ AllLt _ rr => l9
    exact endW hJ hnd' hc' hc hb no' hml hmo hpj hrr kF kN l9
  · walk_at "mine"
    subst hrr
    exact hret _ _ _ (by dsimp only; omega) hJ (Nat.succ_pos _) F₁ N₁
end Mine

namespace Mine
local macro_rules | `(tactic| walk_at "mine") => `(tactic| repeat' (first | (k_unfold; (try dsimp only)) | walk1 | (dsimp only; walk1) | (leave1; try dsimp only) | fail "no step"))
local macro_rules | `(tactic| k_mem) => `(tactic| (repeat (first | exact List.Mem.head _ | assumption | refine List.Mem.tail _ ?_)))
local macro_rules | `(tactic| k_all) => `(tactic| assumption)
local macro_rules | `(tactic| walk_at "execs cons") => `(tactic| (refine genToks ?_ (by omega); intro k9 p9))
local macro_rules | `(tactic| walk_at "execs nil") => `(tactic| (refine genToks ?_ (by omega); intro k9 p9))
local macro_rules | `(tactic| walk_at "execs cons") => `(tactic| ((with_reducible show wpAny _ _ _ _ _ (Shared.mk _ _ _ (Shared.toks _) _)); dsimp only))
local macro_rules | `(tactic| walk_at "execs nil") => `(tactic| ((with_reducible show wpAny _ _ _ _ _ (Shared.mk _ _ _ (Shared.toks _) _)); dsimp only))
local macro_rules | `(tactic| walk_at "eval Name") => `(tactic| ((first | (with_reducible show wpAny _ _ (eval (Expr.Name (Str.ofString "log") _) _) _ _ _) | (with_reducible show wpAny _ _ (eval (Expr.Name (Str.ofString "error") _) _) _ _ _) | (with_reducible show wpAny _ _ (eval (Expr.Name (Str.ofString "box") _) _) _ _ _)); k_dflt (refine' nameX_C ?N ?c ?m ?d ?_ ?a ?b; (case a => rfl); (case b => rfl); (case N => k_asm); (case c => rfl); (case m => k_mem); (case d => assumption))))
section
variable {prog : Program} {w : World} {A : Around} {E : Value → Shared → Prop} {s : Shared} {value slice : Expr} {l : Addr} {a b : Value} {u : Tok} {Q : Value → Shared → Prop}
theorem pair0 (hl : s.heap.IsList l #[a, b]) (h : Q a s) (hs : subscripted slice false (.ref l) (.int 0 u) = operate [.ref l, .int 0 u] (getItem (.ref l) (.int 0 u)) := by with_unfolding_all rfl) : wpAny (model prog w) A (subscriptTail value slice (.ref l) (.int 0 u)) Q E s := itemLit hl (by decide : 2 ≤ 1000) (by decide) rfl h hs
theorem pair1 (hl : s.heap.IsList l #[a, b]) (h : Q b s) (hs : subscripted slice false (.ref l) (.int 1 u) = operate [.ref l, .int 1 u] (getItem (.ref l) (.int 1 u)) := by with_unfolding_all rfl) : wpAny (model prog w) A (subscriptTail value slice (.ref l) (.int 1 u)) Q E s := itemLit hl (by decide : 2 ≤ 1000) (by decide) rfl h hs
end
local macro_rules | `(tactic| walk_at "subscriptTail Name Constant ref int") => `(tactic| (k_dflt (first | ((with_reducible show wpAny _ _ (subscriptTail _ _ _ (Value.int 0 _)) _ _ _); refine pair0 (News.isList (by k_asm) (by k_mem)) ?_) | ((with_reducible show wpAny _ _ (subscriptTail _ _ _ (Value.int 1 _)) _ _ _); refine pair1 (News.isList (by k_asm) (by k_mem)) ?_))))
local macro_rules | `(tactic| walk_at "subscriptTail List Name ref int") => `(tactic| (k_dflt (first | ((with_reducible show wpAny _ _ (subscriptTail _ _ _ (Value.int 0 _)) _ _ _); refine pair0 (News.isList (by k_asm) (by k_mem)) ?_) | ((with_reducible show wpAny _ _ (subscriptTail _ _ _ (Value.int 1 _)) _ _ _); refine pair1 (News.isList (by k_asm) (by k_mem)) ?_))))
theorem tailB : ∀ (w : World) (mean : ExcName → Option Value) (mg mb : PySem.Str → Option Value) (h₀ : Heap) (L fa T box e : Addr) (obox oerr : Obj) (M : PySem.Str → Option Value) (nn : List (Addr × Obj)) (kv things args nv pv mv dv iv : Option Value) (j : Int) (tj ug : Tok) (g : PySem.Str) (r : Value) (s : Shared) (Q : Flow → Shared → Prop),
    Below callerA h₀ [] h₀ → (hd10.heap_39 w.params).In h₀ → Top topProg (looseW hd10.view_39 [PySem.Str.ofString "Error", PySem.Str.ofString "_Method"] ++ (recsOf hd10.view_39).map (fun x => x.name) ++ (litsOf hd10.view_39).map (fun x => x.1) ++ (clssOf hd10.view_39 (looseW hd10.view_39 [PySem.Str.ofString "Error", PySem.Str.ofString "_Method"])).map (fun x => x.name)) mean mg mb h₀ →
    Fr h₀ L s.heap (f2 M kv things args ⟨nv, pv, mv, dv, some (.int j tj), some (.ref T), iv⟩) → News h₀ L s.heap nn → 0 < s.toks → (T, W.listOf #[.str g ug, r] 0) ∈ nn → (L + 1, obox) ∈ nn → (L + 1 + 1, oerr) ∈ nn → obox.data = .cell (some (.ref box)) → oerr.data = .cell (some (.ref e)) →
    ((j = 0 ∧ g = PySem.Str.ofString "given" ∧ r = .ref box) ∨ (j = 1 ∧ g = PySem.Str.ofString "failed" ∧ r = .ref e)) →
    (∀ h' tk', Fr h₀ L h' (f2 M kv things args ⟨nv, pv, mv, dv, some (.int j tj), some (.ref T), iv⟩) → News h₀ L h' nn → Q .next { s with heap := h', toks := tk' }) →
    wpAny (model Challenge.rw_dn0306_10.prog w) (callerA.deeper (envL (fnScope lawDef10) L fa)) (execs (inner10.drop 10) (envL (fnScope lawDef10) L fa)) Q (fun _ _ => False) s := by
  k_fill
  intro w mean mg mb h₀ L fa T box e obox oerr M nn kv things args nv pv mv dv iv j tj ug g r s Q B X T9 F N hpos hT hb he hdb hde hcase hret
  refine lit2 (x := fnScope lawDef10) (y := inner10.drop 10) (P := fun scp bd => wpAny (model Challenge.rw_dn0306_10.prog w) (callerA.deeper (envL scp L fa)) (execs bd (envL scp L fa)) Q (fun _ _ => False) s) ⟨_, _, _, _, _⟩ (_ :: _) rfl rfl ?_
  rcases hcase with ⟨rfl, rfl, rfl⟩ | ⟨rfl, rfl, rfl⟩
  · walk_at "mine"
    exact hret _ _ (by k_asm) (news_sub (by k_asm) fun p hp => .tail _ hp)
  · walk_at "mine"
    exact hret _ _ (by k_asm) (news_sub (by k_asm) fun p hp => .tail _ hp)
end Mine

namespace Mine
local macro_rules | `(tactic| walk_at "mine") => `(tactic| repeat' (first | (k_unfold; (try dsimp only)) | walk1 | (dsimp only; walk1) | (leave1; try dsimp only) | fail "no step"))
local macro_rules | `(tactic| k_mem) => `(tactic| (repeat (first | exact List.Mem.head _ | assumption | refine List.Mem.tail _ ?_)))
local macro_rules | `(tactic| k_all) => `(tactic| assumption)
local macro_rules | `(tactic| walk_at "execs cons") => `(tactic| (refine genToks ?_ (by omega); intro k9 p9))
local macro_rules | `(tactic| walk_at "execs nil") => `(tactic| (refine genToks ?_ (by omega); intro k9 p9))
local macro_rules | `(tactic| walk_at "execs cons") => `(tactic| ((with_reducible show wpAny _ _ _ _ _ (Shared.mk _ _ _ (Shared.toks _) _)); dsimp only))
local macro_rules | `(tactic| walk_at "execs nil") => `(tactic| ((with_reducible show wpAny _ _ _ _ _ (Shared.mk _ _ _ (Shared.toks _) _)); dsimp only))
theorem i_in {g h : Heap} {L : Addr} {M : PySem.Str → Option Value} {k t a b : Option Value} {v : V7} (F : Fr g L h (fun y => if y = PySem.Str.ofString "inner" then b else f2 M k t a v y)) : Fr g L h (f2 M k t a ⟨v.name, v.p, v.more, v.due, v.j, v.got, b⟩) := by
  refine fr_eq F fun y => ?_
  by_cases h1 : y = PySem.Str.ofString "inner"
  · subst h1; rfl
  simp only [f2, if_neg h1]
abbrev iF (M : PySem.Str → Option Value) (k t a : Option Value) (v : V7) (x : Addr × Chain) : PySem.Str → Option Value := f2 M k t a ⟨v.name, v.p, v.more, v.due, v.j, v.got, some (.ref x.1)⟩
theorem whileI : ∀ (w : World) (mean : ExcName → Option Value) (mg mb : PySem.Str → Option Value) (h₀ : Heap) (L fa th D9 : Addr) (M : PySem.Str → Option Value) (nn : List (Addr × Obj)) (kv things args : Option Value) (v : V7) (k : Nat) (tk tk2 : Tok) (vs0 vs9 : List Value) (H : Chain) (s : Shared) (Q : Flow → Shared → Prop),
    Below callerA h₀ [] h₀ → (hd10.heap_39 w.params).In h₀ → Top topProg (looseW hd10.view_39 [PySem.Str.ofString "Error", PySem.Str.ofString "_Method"] ++ (recsOf hd10.view_39).map (fun x => x.name) ++ (litsOf hd10.view_39).map (fun x => x.1) ++ (clssOf hd10.view_39 (looseW hd10.view_39 [PySem.Str.ofString "Error", PySem.Str.ofString "_Method"])).map (fun x => x.name)) mean mg mb h₀ →
    Fr h₀ L s.heap (iF M kv things args v (D9, H)) → News h₀ L s.heap nn → 0 < s.toks → (D9, tupO vs9) ∈ nn → HeldArgs nn vs0 vs9 H → (th, W.listOf #[.int k tk2] 0) ∈ nn → (vs0 = [] ∨ vs0 = [.int k tk, .ref th] ∨ vs0 = [.ref th]) →
    (∀ D h' tk', 0 < tk' → Fr h₀ L h' (iF M kv things args v (D, [])) → News h₀ L h' nn → (D, tupO vs0) ∈ nn → Q .next { s with heap := h', toks := tk' }) →
    wpAny (model Challenge.rw_dn0306_10.prog w) (callerA.deeper (envL (fnScope lawDef10) L fa)) (exec (nth inner10 8) (envL (fnScope lawDef10) L fa)) Q (fun _ _ => False) s := by
  k_fill
  intro w mean mg mb h₀ L fa th D9 M nn kv things args v k tk tk2 vs0 vs9 H s Q B X T F N hpos hD9 hh hth hvs hret
  refine lit2 (x := fnScope lawDef10) (y := nth inner10 8) (P := fun scp bd => wpAny (model Challenge.rw_dn0306_10.prog w) (callerA.deeper (envL scp L fa)) (exec bd (envL scp L fa)) Q (fun _ _ => False) s) ⟨_, _, _, _, _⟩ (.While _ _ [] _) rfl rfl ?_
  refine While_st (σ := Addr × Chain) (iF M kv things args v) (fun _ => nn) (fun x => ∃ vs, (x.1, tupO vs) ∈ nn ∧ HeldArgs nn vs0 vs x.2) (fun x => x.2.length) (D9, H) hpos F N ⟨vs9, hD9, hh⟩ ?turn ?hE
  case hE => passes_own
  clear F N hD9 hh
  rintro ⟨z1, H1⟩ h₁ tk₁ pos₁ ⟨vs1, hz1, hh1⟩ F₁ N₁ sz₁
  dsimp only at hz1 hh1 F₁ N₁
  cases hh1 with
  | base =>
    rcases hvs with rfl | rfl | rfl
    · walk_at "mine"
      exact hret _ _ _ (by first | assumption | omega | (dsimp only; omega)) (by k_asm) (by k_asm) hz1
    · walk_at "mine"
      exact hret _ _ _ (by first | assumption | omega | (dsimp only; omega)) (by k_asm) (by k_asm) hz1
    · walk_at "mine"
      exact hret _ _ _ (by first | assumption | omega | (dsimp only; omega)) (by k_asm) (by k_asm) hz1
  | @meth D vs H nm t hD hr =>
    walk_at "mine"
    exact StepSt.next (D, H) (i_in (v := ⟨v.name, v.p, v.more, v.due, v.j, v.got, some (.ref z1)⟩) (by k_asm)) (by k_asm) ⟨_, hD, hr⟩ (Nat.lt_succ_self _)
end Mine

namespace Mine
def dOf (b : PyData) : Chain → PyData
  | [] => b
  | nm :: H => .tuple [.str nm, dOf b H]
theorem dOf_ok {b : PyData} (hb : b.canLay0 = true) : ∀ {H : Chain}, (∀ y ∈ H, PyData.strOk y = true) → (dOf b H).canLay0 = true
  | [], _ => hb
  | nm :: H, h => by
    have h1 := h _ (.head _)
    have h2 := dOf_ok hb (H := H) fun y hy => h y (.tail _ hy)
    simp only [dOf, PyData.canLay0, PyData.canLayAll0, h2, Bool.and_true]; exact h1
theorem dOf_depth (b : PyData) : ∀ (H : Chain), (dOf b H).depth ≤ b.depth + 2 * H.length
  | [] => by simp [dOf]
  | nm :: H => by
    have := dOf_depth b H
    simp only [dOf, PyData.depth, PyData.depthAll, List.length_cons]; omega
theorem HeldArgs.reads {h : Heap} {news : List (Addr × Obj)} {vs0 vs : List Value} {H : Chain} {b : PyData} (N : ∀ p ∈ news, h.get? p.1 = some p.2) (hb : ∀ D, (D, tupO vs0) ∈ news → ∃ as, Reads h (.ref D) b as)
    (hh : HeldArgs news vs0 vs H) : ∀ D, (D, tupO vs) ∈ news → ∃ as, Reads h (.ref D) (dOf b H) as := by
  induction hh with
  | base => exact hb
  | @meth D vs H nm t hD _ ih =>
    intro D' hD'
    obtain ⟨as, r⟩ := ih D hD
    exact ⟨_, reads_tuple_at (N _ hD') rfl rfl (.cons (.str nm t) (.cons r .nil))⟩
theorem ne_same {prog : Program} {w : World} {A : Around} {E : Value → Shared → Prop} {s : Shared} {a b : Value} {d : PyData} {as bs : List Addr} {Q : Value → Shared → Prop} (ra : Reads s.heap a d as) (rb : Reads s.heap b d bs) (h1 : d.canLay0 = true) (h2 : d.depth ≤ 64) (hu : A.units + 64 < cLine)
    (h : Q (.bool false) s) : wpAny (model prog w) A (compareOp .NotEq a b) Q E s := by
  have sh : SeqAt.shaped d = true := by unfold SeqAt.shaped; simp [h1, h2]
  refine ne_dataH ra rb sh sh hu ?_
  rw [SeqAt.eqv_refl d h1]
  exact h
theorem log_ne {prog : Program} {w : World} {A : Around} {E : Value → Shared → Prop} {s : Shared} {h₀ : Heap} {L l1 l0 log T9 D9 due th : Addr} {news : List (Addr × Obj)} {f1 f2 f3 f4 : Nat} {j : Int} {u u2 t9 tn tk2 : Tok} {k : Nat} {tk : Tok} {nm : PySem.Str} {vs0 vs9 vsH : List Value} {H : Chain} {Q : Value → Shared → Prop}
    (N : News h₀ L s.heap news) (h1 : (log, W.listOf #[.ref T9] f1) ∈ news) (h2 : (T9, W.listOf #[.int j u, .str nm t9, .ref D9] f2) ∈ news) (h3 : (l1, W.listOf #[.ref l0] f3) ∈ news) (h4 : (l0, W.listOf #[.int j u2, .str nm tn, .ref due] f4) ∈ news)
    (h5 : (D9, tupO vs9) ∈ news) (h6 : HeldArgs news vs0 vs9 H) (h7 : (due, tupO vsH) ∈ news) (h8 : HeldArgs news vs0 vsH H) (h9 : (th, W.listOf #[.int k tk2] 0) ∈ news) (hvs : vs0 = [] ∨ vs0 = [.int k tk, .ref th] ∨ vs0 = [.ref th])
    (ok : PyData.strOk nm = true) (oks : ∀ y ∈ H, PyData.strOk y = true) (hH : H.length ≤ 25) (hu : A.units + 64 < cLine) (h : Q (.bool false) s) : wpAny (model prog w) A (compareOp .NotEq (.ref log) (.ref l1)) Q E s := by
  have hl : ∀ p ∈ news, s.heap.get? p.1 = some p.2 := fun p hp => (N p hp).1
  obtain ⟨b, hb1, hb2, hb3⟩ : ∃ b : PyData, b.canLay0 = true ∧ b.depth ≤ 2 ∧ ∀ D, (D, tupO vs0) ∈ news → ∃ as, Reads s.heap (.ref D) b as := by
    rcases hvs with rfl | rfl | rfl
    · exact ⟨.tuple [], rfl, by decide, fun D hD => ⟨_, reads_tuple_at (hl _ hD) rfl rfl .nil⟩⟩
    · exact ⟨.tuple [.int k, .list [.int k]], rfl, (by simp [PyData.depth, PyData.depthAll]), fun D hD => ⟨_, reads_tuple_at (hl _ hD) rfl rfl (.cons (.int _ _) (.cons (reads_list_at (hl _ h9) rfl rfl (.cons (.int _ _) .nil)) .nil))⟩⟩
    · exact ⟨.tuple [.list [.int k]], rfl, (by simp [PyData.depth, PyData.depthAll]), fun D hD => ⟨_, reads_tuple_at (hl _ hD) rfl rfl (.cons (reads_list_at (hl _ h9) rfl rfl (.cons (.int _ _) .nil)) .nil)⟩⟩
  obtain ⟨a1, r1⟩ := h6.reads hl hb3 D9 h5
  obtain ⟨a2, r2⟩ := h8.reads hl hb3 due h7
  have dep := dOf_depth b H
  have lay := dOf_ok hb1 oks
  refine ne_same (d := .list [.list [.int j, .str nm, dOf b H]]) (reads_list_at (hl _ h1) rfl rfl (.cons (reads_list_at (hl _ h2) rfl rfl (.cons (.int _ _) (.cons (.str nm t9) (.cons r1 .nil)))) .nil)) (reads_list_at (hl _ h3) rfl rfl (.cons (reads_list_at (hl _ h4) rfl rfl (.cons (.int _ _) (.cons (.str nm tn) (.cons r2 .nil)))) .nil)) ?_ ?_ hu h
  · simp only [PyData.canLayAll0, PyData.canLay0, lay, Bool.and_true, Bool.true_and]; exact ok
  · simp only [PyData.depth, PyData.depthAll]; omega
end Mine

namespace Mine
local macro_rules | `(tactic| walk_at "mine") => `(tactic| repeat' (first | (k_unfold; (try dsimp only)) | walk1 | (dsimp only; walk1) | (leave1; try dsimp only) | fail "no step"))
local macro_rules | `(tactic| k_mem) => `(tactic| (repeat (first | exact List.Mem.head _ | assumption | refine List.Mem.tail _ ?_)))
local macro_rules | `(tactic| k_all) => `(tactic| assumption)
local macro_rules | `(tactic| walk_at "execs cons") => `(tactic| (refine genToks ?_ (by omega); intro k9 p9))
local macro_rules | `(tactic| walk_at "execs nil") => `(tactic| (refine genToks ?_ (by omega); intro k9 p9))
local macro_rules | `(tactic| walk_at "execs cons") => `(tactic| ((with_reducible show wpAny _ _ _ _ _ (Shared.mk _ _ _ (Shared.toks _) _)); dsimp only))
local macro_rules | `(tactic| walk_at "execs nil") => `(tactic| ((with_reducible show wpAny _ _ _ _ _ (Shared.mk _ _ _ (Shared.toks _) _)); dsimp only))
local macro_rules | `(tactic| walk_at "eval Name") => `(tactic| ((first | (with_reducible show wpAny _ _ (eval (Expr.Name (Str.ofString "log") _) _) _ _ _) | (with_reducible show wpAny _ _ (eval (Expr.Name (Str.ofString "error") _) _) _ _ _) | (with_reducible show wpAny _ _ (eval (Expr.Name (Str.ofString "box") _) _) _ _ _)); k_dflt (refine' nameX_C ?N ?c ?m ?d ?_ ?a ?b; (case a => rfl); (case b => rfl); (case N => k_asm); (case c => rfl); (case m => k_mem); (case d => assumption))))
local macro_rules | `(tactic| walk_at "compareOp NotEq ref ref") => `(tactic| refine Halt.go ?_)
local macro_rules | `(tactic| walk_at "exec While") => `(tactic| refine Halt.go ?_)
section
variable {prog : Program} {w : World} {A : Around} {E : Value → Shared → Prop} {s : Shared} {value slice : Expr} {l : Addr} {a b c : Value} {u : Tok} {Q : Value → Shared → Prop}
theorem one0 (hl : s.heap.IsList l #[a]) (h : Q a s) (hs : subscripted slice false (.ref l) (.int 0 u) = operate [.ref l, .int 0 u] (getItem (.ref l) (.int 0 u)) := by with_unfolding_all rfl) : wpAny (model prog w) A (subscriptTail value slice (.ref l) (.int 0 u)) Q E s := itemLit hl (by decide : 1 ≤ 1000) (by decide) rfl h hs
end
local macro_rules | `(tactic| walk_at "subscriptTail Name Constant ref int") => `(tactic| (k_dflt (first | ((with_reducible show wpAny _ _ (subscriptTail _ _ _ (Value.int 0 _)) _ _ _); refine one0 (News.isList (by k_asm) (by k_mem)) ?_) | ((with_reducible show wpAny _ _ (subscriptTail _ _ _ (Value.int 2 _)) _ _ _); refine told2 (News.isList (by k_asm) (by k_mem)) ?_))))
local macro_rules | `(tactic| walk_at "execs cons") => `(tactic| ((with_reducible show wpAny _ _ (execs (Stmt.If (Expr.Compare _ _ _ _) _ _ _ :: _) _) _ _ _); refine Halt.go ?_))
theorem tailC : ∀ (w : World) (mean : ExcName → Option Value) (mg mb : PySem.Str → Option Value) (h₀ : Heap) (L fa T box e th ag D : Addr) (obox oerr : Obj) (M : PySem.Str → Option Value) (nn : List (Addr × Obj)) (kv nv pv mv dv : Option Value) (k : Nat) (tk tk2 : Tok) (vs0 : List Value) (j : Int) (tj ug : Tok) (g : PySem.Str) (r : Value) (s : Shared) (Q : Flow → Shared → Prop),
    Below callerA h₀ [] h₀ → (hd10.heap_39 w.params).In h₀ → Top topProg (looseW hd10.view_39 [PySem.Str.ofString "Error", PySem.Str.ofString "_Method"] ++ (recsOf hd10.view_39).map (fun x => x.name) ++ (litsOf hd10.view_39).map (fun x => x.1) ++ (clssOf hd10.view_39 (looseW hd10.view_39 [PySem.Str.ofString "Error", PySem.Str.ofString "_Method"])).map (fun x => x.name)) mean mg mb h₀ →
    Fr h₀ L s.heap (f2 M kv (some (.ref th)) (some (.ref ag)) ⟨nv, pv, mv, dv, some (.int j tj), some (.ref T), some (.ref D)⟩) → News h₀ L s.heap nn → 0 < s.toks → (T, W.listOf #[.str g ug, r] 0) ∈ nn → (L + 1, obox) ∈ nn → (L + 1 + 1, oerr) ∈ nn → obox.data = .cell (some (.ref box)) → oerr.data = .cell (some (.ref e)) →
    ((j = 0 ∧ g = PySem.Str.ofString "given" ∧ r = .ref box) ∨ (j = 1 ∧ g = PySem.Str.ofString "failed" ∧ r = .ref e)) → (D, tupO vs0) ∈ nn → (ag, tupO vs0) ∈ nn → (th, W.listOf #[.int k tk2] 0) ∈ nn → (vs0 = [] ∨ vs0 = [.int k tk, .ref th] ∨ vs0 = [.ref th]) →
    (∀ h' tk', Fr h₀ L h' (f2 M kv (some (.ref th)) (some (.ref ag)) ⟨nv, pv, mv, dv, some (.int j tj), some (.ref T), some (.ref D)⟩) → News h₀ L h' nn → Q .next { s with heap := h', toks := tk' }) →
    wpAny (model Challenge.rw_dn0306_10.prog w) (callerA.deeper (envL (fnScope lawDef10) L fa)) (execs (inner10.drop 9) (envL (fnScope lawDef10) L fa)) Q (fun _ _ => False) s := by
  k_fill
  intro w mean mg mb h₀ L fa T box e th ag D obox oerr M nn kv nv pv mv dv k tk tk2 vs0 j tj ug g r s Q B X T9 F N hpos hT hb he hdb hde hcase hD hag hth hvs hret
  have hB := fun h' tk' F' N' p' => tailB w mean mg mb h₀ L fa T box e obox oerr M nn kv (some (.ref th)) (some (.ref ag)) nv pv mv dv (some (.ref D)) j tj ug g r { s with heap := h', toks := tk' } Q B X T9 F' N' p' hT hb he hdb hde hcase fun h2 tk2 F2 N2 => hret h2 tk2 F2 N2
  refine lit2 (x := fnScope lawDef10) (y := inner10.drop 9) (P := fun scp bd => (∀ h' tk', Fr h₀ L h' (f2 M kv (some (.ref th)) (some (.ref ag)) ⟨nv, pv, mv, dv, some (.int j tj), some (.ref T), some (.ref D)⟩) → News h₀ L h' nn → 0 < tk' → wpAny (model Challenge.rw_dn0306_10.prog w) (callerA.deeper (envL scp L fa)) (execs bd.tail (envL scp L fa)) Q (fun _ _ => False) { s with heap := h', toks := tk' }) → wpAny (model Challenge.rw_dn0306_10.prog w) (callerA.deeper (envL scp L fa)) (execs bd (envL scp L fa)) Q (fun _ _ => False) s) ⟨_, _, _, _, _⟩ (_ :: _) rfl rfl ?_ hB
  clear hB
  intro hB
  dsimp only [List.tail] at hB
  rcases hvs with rfl | rfl | rfl
  · walk_at "mine"
    show wpAny _ _ _ _ _ _
    exact hB _ _ (by k_asm) (by k_asm) (by first | assumption | omega | (dsimp only; omega))
  · walk_at "mine"
    show wpAny _ _ _ _ _ _
    exact hB _ _ (by k_asm) (by k_asm) (by first | assumption | omega | (dsimp only; omega))
  · walk_at "mine"
    show wpAny _ _ _ _ _ _
    exact hB _ _ (by k_asm) (by k_asm) (by first | assumption | omega | (dsimp only; omega))
end Mine

namespace Mine
local macro_rules | `(tactic| walk_at "mine") => `(tactic| repeat' (first | (k_unfold; (try dsimp only)) | walk1 | (dsimp only; walk1) | (leave1; try dsimp only) | fail "no step"))
local macro_rules | `(tactic| k_mem) => `(tactic| (repeat (first | exact List.Mem.head _ | assumption | refine List.Mem.tail _ ?_)))
local macro_rules | `(tactic| k_all) => `(tactic| assumption)
local macro_rules | `(tactic| walk_at "execs cons") => `(tactic| (refine genToks ?_ (by omega); intro k9 p9))
local macro_rules | `(tactic| walk_at "execs nil") => `(tactic| (refine genToks ?_ (by omega); intro k9 p9))
local macro_rules | `(tactic| walk_at "execs cons") => `(tactic| ((with_reducible show wpAny _ _ _ _ _ (Shared.mk _ _ _ (Shared.toks _) _)); dsimp only))
local macro_rules | `(tactic| walk_at "execs nil") => `(tactic| ((with_reducible show wpAny _ _ _ _ _ (Shared.mk _ _ _ (Shared.toks _) _)); dsimp only))
local macro_rules | `(tactic| walk_at "eval Name") => `(tactic| ((first | (with_reducible show wpAny _ _ (eval (Expr.Name (Str.ofString "log") _) _) _ _ _) | (with_reducible show wpAny _ _ (eval (Expr.Name (Str.ofString "error") _) _) _ _ _) | (with_reducible show wpAny _ _ (eval (Expr.Name (Str.ofString "box") _) _) _ _ _)); k_dflt (refine' nameX_C ?N ?c ?m ?d ?_ ?a ?b; (case a => rfl); (case b => rfl); (case N => k_asm); (case c => rfl); (case m => k_mem); (case d => assumption))))
local macro_rules | `(tactic| walk_at "compareOp NotEq ref ref") => `(tactic| refine Halt.go ?_)
local macro_rules | `(tactic| walk_at "exec While") => `(tactic| refine Halt.go ?_)
local macro_rules | `(tactic| walk_at "subscriptTail Name Constant ref int") => `(tactic| (k_dflt (first | ((with_reducible show wpAny _ _ (subscriptTail _ _ _ (Value.int 0 _)) _ _ _); refine one0 (News.isList (by k_asm) (by k_mem)) ?_) | ((with_reducible show wpAny _ _ (subscriptTail _ _ _ (Value.int 2 _)) _ _ _); refine told2 (News.isList (by k_asm) (by k_mem)) ?_))))
theorem up2 {α : Type} {a b : α} {nn : List α} : ∀ p ∈ nn, p ∈ a :: b :: nn := fun _ hp => .tail _ (.tail _ hp)
theorem tailA : ∀ (w : World) (mean : ExcName → Option Value) (mg mb : PySem.Str → Option Value) (h₀ : Heap) (L fa T box log e th ag due T9 D9 : Addr) (olog obox oerr : Obj) (M : PySem.Str → Option Value) (nn : List (Addr × Obj)) (el : Nat) (kv pv mv iv : Option Value) (nm : PySem.Str) (tn t9 u9 : Tok) (k : Nat) (tk tk2 : Tok) (vs0 vs9 vsH : List Value) (H : Chain) (j : Int) (tj ug : Tok) (g : PySem.Str) (r : Value) (s : Shared) (Q : Flow → Shared → Prop),
    Below callerA h₀ [] h₀ → (hd10.heap_39 w.params).In h₀ → Top topProg (looseW hd10.view_39 [PySem.Str.ofString "Error", PySem.Str.ofString "_Method"] ++ (recsOf hd10.view_39).map (fun x => x.name) ++ (litsOf hd10.view_39).map (fun x => x.1) ++ (clssOf hd10.view_39 (looseW hd10.view_39 [PySem.Str.ofString "Error", PySem.Str.ofString "_Method"])).map (fun x => x.name)) mean mg mb h₀ →
    Fr h₀ L s.heap (f2 M kv (some (.ref th)) (some (.ref ag)) ⟨some (.str nm tn), pv, mv, some (.ref due), some (.int j tj), some (.ref T), iv⟩) → News h₀ L s.heap nn → 0 < s.toks → (T, W.listOf #[.str g ug, r] 0) ∈ nn → (L + 1, obox) ∈ nn → (L + 1 + 1, oerr) ∈ nn → (L + 1 + 1 + 1, olog) ∈ nn → obox.data = .cell (some (.ref box)) → oerr.data = .cell (some (.ref e)) → olog.data = .cell (some (.ref log)) →
    ((j = 0 ∧ g = PySem.Str.ofString "given" ∧ r = .ref box) ∨ (j = 1 ∧ g = PySem.Str.ofString "failed" ∧ r = .ref e)) → (ag, tupO vs0) ∈ nn → (th, W.listOf #[.int k tk2] 0) ∈ nn → (vs0 = [] ∨ vs0 = [.int k tk, .ref th] ∨ vs0 = [.ref th]) →
    (log, W.listOf #[.ref T9] el) ∈ nn → (T9, W.listOf #[.int j u9, .str nm t9, .ref D9] 0) ∈ nn → (D9, tupO vs9) ∈ nn → HeldArgs nn vs0 vs9 H → (due, tupO vsH) ∈ nn → HeldArgs nn vs0 vsH H → PyData.strOk nm = true → (∀ y ∈ H, PyData.strOk y = true) → H.length ≤ 25 →
    (∀ h' tk' v, Fr h₀ L h' (f2 M kv (some (.ref th)) (some (.ref ag)) v) → News h₀ L h' nn → Q .next { s with heap := h', toks := tk' }) →
    wpAny (model Challenge.rw_dn0306_10.prog w) (callerA.deeper (envL (fnScope lawDef10) L fa)) (execs (inner10.drop 6) (envL (fnScope lawDef10) L fa)) Q (fun _ _ => False) s := by
  k_fill
  intro w mean mg mb h₀ L fa T box log e th ag due T9 D9 olog obox oerr M nn el kv pv mv iv nm tn t9 u9 k tk tk2 vs0 vs9 vsH H j tj ug g r s Q B X TT F N hpos hT hb he hl hdb hde hdl hcase hag hth hvs hlog hT9 hD9 hh9 hdue hhH hok hoks hHl hret
  refine lit2 (x := fnScope lawDef10) (y := inner10.drop 6) (P := fun scp bd => wpAny (model Challenge.rw_dn0306_10.prog w) (callerA.deeper (envL scp L fa)) (execs bd (envL scp L fa)) Q (fun _ _ => False) s) ⟨_, _, _, _, _⟩ (_ :: _) rfl rfl ?_
  walk_at "mine"
  show wpAny _ _ _ _ _ _
  rename News h₀ L _ _ => kN
  refine log_ne kN (up2 _ hlog) (up2 _ hT9) (.head _) (.tail _ (.head _)) (up2 _ hD9) (hh9.mono up2) (up2 _ hdue) (hhH.mono up2) (up2 _ hth) hvs hok hoks hHl (by ke_room) ?_
  walk_at "mine"
  show wpAny _ _ _ _ _ _
  rename News h₀ L _ _ => kN2
  rename Fr h₀ L _ _ => kF2
  refine whileI w mean mg mb h₀ L fa th D9 M nn kv (some (.ref th)) (some (.ref ag)) ⟨some (.str nm tn), pv, mv, some (.ref due), some (.int j tj), some (.ref T), iv⟩ k tk tk2 vs0 vs9 H _ _ B X TT (i_in kF2) (news_sub kN2 up2) (by first | assumption | omega) hD9 hh9 hth hvs ?_
  intro D h' tk' pos' F' N' hD
  exact tailC w mean mg mb h₀ L fa T box e th ag D obox oerr M nn kv _ pv mv _ k tk tk2 vs0 j tj ug g r _ _ B X TT F' N' pos' hT hb he hdb hde hcase hD hag hth hvs fun h2 tk2 F2 N2 => hret h2 tk2 _ F2 N2
end Mine

namespace Mine
theorem clearAny {prog : Program} {w : World} {A : Around} {E : Value → Shared → Prop} {s : Shared} {h₀ : Heap} {L D : Addr} {m : PySem.Str → Option Value} {news : List (Addr × Obj)} {g : Obj → List (Addr × Obj)} {its : Array Value} {n : Nat} {Q : Value → Shared → Prop}
    (F : Fr h₀ L s.heap m) (N : News h₀ L s.heap news) (U : UpdF D (W.listOf its n) news g) (hz : its.size ≤ 1000)
    (h : ∀ h' n', Fr h₀ L h' m → News h₀ L h' (g (W.listOf #[] n')) → Q .none { s with heap := h' }) : wpAny (model prog w) A (call (.builtin "list.clear") [.ref D]) Q E s := by
  obtain ⟨pre, post, rfl, hg, a, c⟩ := U.split
  have z := N (D, W.listOf its n) (List.mem_append.mpr (.inr (.head _)))
  refine call_meets PySem.F.slot_list_clear ⟨_, z.1, rfl⟩ PySem.F.entry_list_clear (PySem.F.args_list_clear_1 _) (PySem.AutoSeq1.list_clear_list_0 D its n (by rw [sizeLine_eq]; omega)) ⟨z.1, ?_⟩
  by_cases he : its.size = 0
  · refine h _ n (F.change (Heap.SameBut.update ..) z.2.1 z.2.2) ?_
    rw [hg]
    exact kl_turn0 (fun _ => #[]) N a c rfl he.symm
  · refine h _ (n + 1) (F.change (Heap.SameBut.update ..) z.2.1 z.2.2) ?_
    rw [hg]
    exact kl_turn (fun _ => #[]) N a c rfl (fun q => he q.symm)
structure ExOk (e : Addr) (ex : List (Addr × Obj)) (log lp lt : Addr) (rest : List (Addr × Obj)) : Prop where
  err : ErrL e ex
  nlog : log ∉ ex.map (·.1)
  nlp : lp ∉ ex.map (·.1)
  nlt : lt ∉ ex.map (·.1)
  nrest : ∀ p ∈ rest, p.1 ∉ ex.map (·.1)
theorem ErrL.noTup {e D : Addr} {ex : List (Addr × Obj)} {vs : List Value} (h : ErrL e ex) : (D, tupO vs) ∉ ex := by
  intro hm
  cases h with
  | fresh a b c =>
    have e1 := List.mem_singleton.mp hm
    obtain ⟨rfl, rfl⟩ := Prod.mk.inj e1
    cases b
  | traced a b c d f g =>
    rcases List.mem_cons.mp hm with e1 | hm
    · obtain ⟨rfl, rfl⟩ := Prod.mk.inj e1
      cases b
    · obtain ⟨rfl, rfl⟩ := Prod.mk.inj (List.mem_singleton.mp hm)
      cases f
theorem stripM {e D : Addr} {ex ext rest : List (Addr × Obj)} {vs : List Value} (h : ErrL e ex) (hm : (D, tupO vs) ∈ ext ++ (ex ++ rest)) : (D, tupO vs) ∈ ext ++ rest := by
  rcases List.mem_append.mp hm with hm | hm
  · exact List.mem_append_left _ hm
  rcases List.mem_append.mp hm with hm | hm
  · exact absurd hm h.noTup
  · exact List.mem_append_right _ hm
theorem HeldArgs.strip {e : Addr} {ex ext rest : List (Addr × Obj)} {vs0 vs : List Value} {H : Chain} (h : ErrL e ex) (hh : HeldArgs (ext ++ (ex ++ rest)) vs0 vs H) : HeldArgs (ext ++ rest) vs0 vs H := by
  induction hh with
  | base => exact .base
  | meth hD _ ih => exact .meth (stripM h hD) ih
theorem PoolOk.chain {P : Params} {lb lf : Addr} {rest : List (Addr × Obj)} {nds : List Nd} (hP : PoolOk P lb lf rest nds) : ∀ i nd, nds[i]? = some nd → nd.ch.length ≤ i + 1 := by
  intro i
  induction i using Nat.strongRecOn with
  | ind i ih =>
    intro nd h
    have no := hP.each i nd h
    rcases Nat.lt_or_ge i 2 with h1 | h1
    · rw [(no.low h1).1]; simp
    · obtain ⟨hp, nd', tl, hn', e', e, _⟩ := no.high h1
      have := ih _ hp nd' hn'
      rw [e'] at this
      rw [e]
      simp only [List.length_cons] at this ⊢; omega
theorem got_in {g h : Heap} {L : Addr} {M : PySem.Str → Option Value} {k t a b : Option Value} {v : V7} (F : Fr g L h (fun y => if y = PySem.Str.ofString "got" then b else f2 M k t a v y)) : Fr g L h (f2 M k t a ⟨v.name, v.p, v.more, v.due, v.j, b, v.inner⟩) := by
  refine fr_eq F fun y => ?_
  by_cases h1 : y = PySem.Str.ofString "got"
  · subst h1; rfl
  simp only [f2, if_neg h1]
theorem low_run {P : Params} {lb lf log : Addr} {nds : List Nd} {rest rr : List (Addr × Obj)} {vs0 : List Value} {nd0 : Nd} {x : WSt} (hP : PoolOk P lb lf rr nds) (hJ : WJ nds rest log vs0 nd0 x) (hj : x.j < 2) : deliver nd0.ch [] = (x.nm, x.H) ∧ nd0.b = decide (x.j = 1) := by
  obtain ⟨tl, h1, h2, h3⟩ := hJ.run
  obtain ⟨k1, k2⟩ := (hP.each _ _ hJ.nd).low hj
  rw [k1] at h1
  obtain rfl := (List.cons.inj h1).2
  exact ⟨h2.symm, by rw [← h3]; exact k2⟩
end Mine

namespace Mine
local macro_rules | `(tactic| walk_at "mine") => `(tactic| repeat' (first | (k_unfold; (try dsimp only)) | walk1 | (dsimp only; walk1) | (leave1; try dsimp only) | fail "no step"))
local macro_rules | `(tactic| k_mem) => `(tactic| (repeat (first | exact List.Mem.head _ | assumption | refine List.Mem.tail _ ?_)))
local macro_rules | `(tactic| k_all) => `(tactic| assumption)
local macro_rules | `(tactic| walk_at "execs cons") => `(tactic| (refine genToks ?_ (by omega); intro k9 p9))
local macro_rules | `(tactic| walk_at "execs nil") => `(tactic| (refine genToks ?_ (by omega); intro k9 p9))
local macro_rules | `(tactic| walk_at "execs cons") => `(tactic| ((with_reducible show wpAny _ _ _ _ _ (Shared.mk _ _ _ (Shared.toks _) _)); dsimp only))
local macro_rules | `(tactic| walk_at "execs nil") => `(tactic| ((with_reducible show wpAny _ _ _ _ _ (Shared.mk _ _ _ (Shared.toks _) _)); dsimp only))
local macro_rules | `(tactic| walk_at "eval Name") => `(tactic| ((first | (with_reducible show wpAny _ _ (eval (Expr.Name (Str.ofString "log") _) _) _ _ _) | (with_reducible show wpAny _ _ (eval (Expr.Name (Str.ofString "error") _) _) _ _ _) | (with_reducible show wpAny _ _ (eval (Expr.Name (Str.ofString "box") _) _) _ _ _)); k_dflt (refine' nameX_C ?N ?c ?m ?d ?_ ?a ?b; (case a => rfl); (case b => rfl); (case N => k_asm); (case c => rfl); (case m => k_mem); (case d => assumption))))
local macro_rules | `(tactic| walk_at "call ref") => `(tactic| refine Halt.go ?_)
local macro_rules | `(tactic| walk_at "call builtin:list.clear") => `(tactic| (k_dflt (refine' clearAny ?F ?N ?U ?z ?_; (case F => k_asm); (case N => k_asm); (case U => k_updF); (case z => omega)); intro h' n' F' N'; (try dsimp only at N')))
local macro_rules | `(tactic| walk_at "subscriptTail Name Name ref int") => `(tactic| (k_dflt (refine itemAt (News.isList (by k_asm) (by k_mem)) (by omega) (by assumption) ?_)))
local macro_rules | `(tactic| walk_at "execs cons") => `(tactic| ((with_reducible show wpAny _ _ (execs (Stmt.If (Expr.Compare _ _ _ _) _ _ _ :: _) _) _ _ _); refine Halt.go ?_))
theorem tail10 : ∀ (w : World) (mean : ExcName → Option Value) (mg mb : PySem.Str → Option Value) (h₀ : Heap) (L fa lp lt log box e lb lf sc ag th : Addr) (olog obox oerr olb olf : Obj) (lamB lamF : List (Addr × Obj)) (nds : List Nd) (e1 e2 el : Nat) (logs : Array Value) (ex rest : List (Addr × Obj)) (k : Nat) (tk tk2 : Tok) (vs0 : List Value) (xv wv : Option Value) (nd0 : Nd) (got inner : Option Value) (x : WSt) (s : Shared) (Q : Flow → Shared → Prop),
    Below callerA h₀ [] h₀ → (hd10.heap_39 w.params).In h₀ → Top topProg (looseW hd10.view_39 [PySem.Str.ofString "Error", PySem.Str.ofString "_Method"] ++ (recsOf hd10.view_39).map (fun x => x.name) ++ (litsOf hd10.view_39).map (fun x => x.1) ++ (clssOf hd10.view_39 (looseW hd10.view_39 [PySem.Str.ofString "Error", PySem.Str.ofString "_Method"])).map (fun x => x.name)) mean mg mb h₀ →
    Fr h₀ L s.heap (wF (mLaw2 xv wv lp lt sc) (some (.int k tk)) (some (.ref th)) (some (.ref ag)) got inner x) → News h₀ L s.heap (wG log lp lt logs el e1 e2 nds (ex ++ rest) x) → 0 < s.toks → PoolOk w.params lb lf rest nds → nds.length ≤ 20 → nds[k]? = some nd0 → x.j < 2 → WJ nds (ex ++ rest) log vs0 nd0 x → ExOk e ex log lp lt rest →
    (ag, tupO vs0) ∈ rest → (th, W.listOf #[.int k tk2] 0) ∈ rest → (L + 1, obox) ∈ rest → (L + 1 + 1, oerr) ∈ rest → (L + 1 + 1 + 1, olog) ∈ rest → obox.data = .cell (some (.ref box)) → oerr.data = .cell (some (.ref e)) → olog.data = .cell (some (.ref log)) →
    (∀ p ∈ lamB, p ∈ rest) → BoxOk w log lb box lamB → (lb, olb) ∈ lamB → Callee olb → (∀ p ∈ lamF, p ∈ rest) → FailOk w log lf e lamF → (lf, olf) ∈ lamF → Callee olf →
    log < lp → lp < lt → (∀ p ∈ rest, p.1 ≠ log) → (vs0 = [] ∨ vs0 = [.int k tk, .ref th] ∨ vs0 = [.ref th]) → logs.size ≤ 1000 →
    (∀ ex' logs' el' h' tk' v, ExOk e ex' log lp lt rest → Fr h₀ L h' (f2 (mLaw2 xv wv lp lt sc) (some (.int k tk)) (some (.ref th)) (some (.ref ag)) v) → News h₀ L h' ((log, W.listOf logs' el') :: (lp, poolO nds e1) :: (lt, toldO nds e2) :: (ex' ++ rest)) → logs'.size ≤ 1 → Q .next { s with heap := h', toks := tk' }) →
    wpAny (model Challenge.rw_dn0306_10.prog w) (callerA.deeper (envL (fnScope lawDef10) L fa)) (execs (inner10.drop 4) (envL (fnScope lawDef10) L fa)) Q (fun _ _ => False) s := by
  k_fill
  intro w mean mg mb h₀ L fa lp lt log box e lb lf sc ag th olog obox oerr olb olf lamB lamF nds e1 e2 el logs ex rest k tk tk2 vs0 xv wv nd0 got inner x s Q B X T F N hpos hP hlen hnd0 hj hJ hex hag hth hcb hce hcl hdb hde hdl hlB hB holb hcalb hlF hF holf hcalf n2 n3 hr hvs hls hret
  refine lit2 (x := fnScope lawDef10) (y := inner10.drop 4) (P := fun scp bd => wpAny (model Challenge.rw_dn0306_10.prog w) (callerA.deeper (envL scp L fa)) (execs bd (envL scp L fa)) Q (fun _ _ => False) s) ⟨_, _, _, _, _⟩ (_ :: _) rfl rfl ?_
  have h2 := hP.two
  replace n2 := ltN n2
  replace n3 := ltN n3
  obtain ⟨hdel, hbj⟩ := low_run hP hJ hj
  have hc1 := hP.chain _ _ hnd0
  have hk20 : k < 20 := by
    have := (List.getElem?_eq_some_iff.mp hnd0).1
    omega
  have no := hP.each _ _ hnd0
  obtain ⟨dx, hox⟩ := no.obj.callee
  obtain ⟨n, hn⟩ : ∃ n, nd0.ch.length = n + 1 := by
    obtain ⟨tl, e⟩ := no.head
    exact ⟨tl.length, by rw [e]; rfl⟩
  have hv2 : vs0.length ≤ 2 := by
    rcases hvs with rfl | rfl | rfl
    · exact Nat.zero_le _
    · exact Nat.le_refl _
    · exact Nat.le_of_ble_eq_true rfl
  obtain ⟨nd, j, nm, tn, due, H, tj, tp, tm, ext⟩ := x
  dsimp only [wF, wG] at F N hj hdel hbj
  obtain ⟨vsH, hd1, hd2⟩ := hJ.held
  replace hd1 := stripM hex.err hd1
  replace hd2 := HeldArgs.strip hex.err hd2
  have hok := hJ.ok
  have hoks := hJ.oks
  have hsh := hJ.short
  have hoff := hJ.off
  dsimp only at hd1 hd2 hok hoks hsh hoff
  have hH25 : H.length ≤ 25 := by omega
  have hrr : ∀ p ∈ ext ++ (ex ++ rest), p.1 ≠ log := fun p hp => by
    rcases List.mem_append.mp hp with hp | hp
    · exact Nat.ne_of_gt (hoff p hp).1
    rcases List.mem_append.mp hp with hp | hp
    · exact fun q => hex.nlog (q ▸ List.mem_map_of_mem hp)
    · exact hr p hp
  have sub : ∀ p ∈ rest, p ∈ ext ++ (ex ++ rest) := fun p hp => List.mem_append_right _ (List.mem_append_right _ hp)
  have sub1 : ∀ p ∈ rest, p ∈ ext ++ rest := fun p hp => List.mem_append_right _ hp
  have mcl := sub _ hcl
  have mag := sub _ hag
  generalize hrg : ext ++ (ex ++ rest) = rr at N hrr sub mcl mag
  walk_at "mine"
  show wpAny _ _ _ _ _ _
  rename News h₀ L _ _ => kN
  rename Fr h₀ L _ _ => kF
  obtain ⟨el0, kN⟩ : ∃ el0, News h₀ L _ ((log, W.listOf #[] el0) :: (lp, poolO nds e1) :: (lt, toldO nds e2) :: rr) := ⟨_, kN⟩
  refine any_up ?_
  cases hbv : nd0.b with
  | false =>
    rw [hbv] at hbj
    obtain rfl : j = 0 := by
      have : ¬ j = 1 := of_decide_eq_false hbj.symm
      omega
    have ho : ObjIn w.params lb rest nd0.x nd0.ch := by
      have := no.obj
      rw [hbv] at this
      exact this
    refine called_box w (20 + 7) (10 * 20 + 70) nd0.x _ ag vs0 _ _ (.tail _ (.tail _ (.tail _ (sub _ hox)))) (inst_callee dx) (.tail _ (.tail _ (.tail _ mag))) hv2 (Calls.mono (call_box hB holb hcalb hv2 n nd0.ch [] nd0.x vs0 ((lp, poolO nds e1) :: (lt, toldO nds e2) :: rr) #[] _ hn ?obj .base ?lamL ?off ?z) (fun _ _ p => p) (by omega) (by omega)) mean mg mb _ _ _ _ _ _ _ _ _ _ _ _ _ _ _ _ _ _ _ _ B kF X kN T ?hd ?hu ?_
    case hd => decide
    case hu => decide
    case z => exact Nat.zero_le _
    case obj => exact ho.mono fun p hp => .tail _ (.tail _ (sub p hp))
    case lamL => exact fun p hp => .tail _ (.tail _ (sub _ (hlB p hp)))
    case off =>
      intro p hp
      rcases List.mem_cons.mp hp with rfl | hp
      · exact Nat.ne_of_gt n2
      rcases List.mem_cons.mp hp with rfl | hp
      · exact Nat.ne_of_gt (Nat.lt_trans n2 n3)
      exact hrr p hp
    rintro r news' T9 u9 h9 tk9 F9 N9 lt9 ⟨rfl, T8, u8, D8, t8, vs8, k1, k2, k3, k4, k5⟩ up
    obtain ⟨el9, k5⟩ : ∃ el9, (log, W.listOf #[.ref T8] el9) ∈ news' := ⟨_, k5⟩
    rw [hdel] at k1 k3
    dsimp only at k1 k3
    replace up := up.1
    dsimp only at up
    clear kN kF
    walk_at "mine"
    show wpAny _ _ _ _ _ _
    rename Fr h₀ L _ _ => kF
    rename News h₀ L _ _ => kN
    have k4' : ∀ p ∈ rest, p ∈ (T9, W.listOf #[.str (PySem.Str.ofString "given") u9, .ref box] 0) :: news' := fun p hp => .tail _ (k4 p (.tail _ (.tail _ (sub p hp))))
    have k4'' : ∀ p ∈ ext ++ rest, p ∈ (T9, W.listOf #[.str (PySem.Str.ofString "given") u9, .ref box] 0) :: news' := fun p hp => .tail _ (k4 p (.tail _ (.tail _ (by
      rw [← hrg]
      exact (List.mem_append.mp hp).elim (fun h => List.mem_append_left _ h) fun h => List.mem_append_right _ (List.mem_append_right _ h)))))
    refine tailA w mean mg mb h₀ L fa T9 box log e th ag due T8 D8 olog obox oerr _ _ _ _ _ _ _ nm tn t8 u8 k tk tk2 vs0 vs8 vsH H ((0 : Nat) : Int) tj u9 _ _ _ _ B X T (got_in kF) kN (by first | assumption | omega | (dsimp only; omega)) (.head _) (k4' _ hcb) (k4' _ hce) (k4' _ hcl) hdb hde hdl (.inl ⟨rfl, rfl, rfl⟩) (k4' _ hag) (k4' _ hth) hvs (.tail _ k5) (.tail _ k1) (.tail _ k2) (k3.mono fun p hp => .tail _ hp) (k4'' _ hd1) (hd2.mono k4'') hok hoks hH25 ?_
    intro h' tk' v F' N'
    refine hret ex #[.ref T8] el9 h' tk' v hex F' (news_sub N' fun p hp => ?_) (Nat.le_refl 1)
    rcases List.mem_cons.mp hp with rfl | hp
    · exact .tail _ k5
    rcases List.mem_cons.mp hp with rfl | hp
    · exact .tail _ (k4 _ (.head _))
    rcases List.mem_cons.mp hp with rfl | hp
    · exact .tail _ (k4 _ (.tail _ (.head _)))
    exact .tail _ (k4 p (.tail _ (.tail _ (by rw [← hrg]; exact List.mem_append_right _ hp))))
  | true =>
    rw [hbv] at hbj
    obtain rfl : j = 1 := of_decide_eq_true hbj.symm
    have ho : ObjIn w.params lf rest nd0.x nd0.ch := by
      have := no.obj
      rw [hbv] at this
      exact this
    have toEx : ∀ (f : Nat), ∀ p ∈ rest, p ∈ (log, W.listOf #[] f) :: (ex ++ ((lp, poolO nds e1) :: (lt, toldO nds e2) :: (ext ++ rest))) := fun f p hp => .tail _ (List.mem_append_right _ (.tail _ (.tail _ (sub1 p hp))))
    refine called_fail w (20 + 7) (10 * 20 + 70) e nd0.x _ ag vs0 _ _ (toEx el0 _ hox) (inst_callee dx) (toEx el0 _ hag) hv2 (RCalls.mono (call_fail hF holf hcalf hv2 n nd0.ch [] nd0.x vs0 ex ((lp, poolO nds e1) :: (lt, toldO nds e2) :: (ext ++ rest)) #[] el0 hex.err hn ?obj .base ?lamL ?off ?dis hex.nlog ?z) (fun _ p => p) (by omega) (by omega)) mean mg mb _ _ _ _ _ _ _ _ _ _ _ _ _ _ _ _ _ _ _ B X T kF X (news_sub kN ?perm) T ?hd ?hu ?_
    case hd => decide
    case hu => decide
    case z => exact Nat.zero_le _
    case obj => exact ho.mono fun p hp => .tail _ (.tail _ (sub1 p hp))
    case lamL => exact fun p hp => .tail _ (.tail _ (sub1 _ (hlF p hp)))
    case off =>
      intro p hp
      rcases List.mem_cons.mp hp with rfl | hp
      · exact Nat.ne_of_gt n2
      rcases List.mem_cons.mp hp with rfl | hp
      · exact Nat.ne_of_gt (Nat.lt_trans n2 n3)
      refine hrr p ?_
      rw [← hrg]
      exact (List.mem_append.mp hp).elim (fun h => List.mem_append_left _ h) fun h => List.mem_append_right _ (List.mem_append_right _ h)
    case dis =>
      intro p hp
      rcases List.mem_cons.mp hp with rfl | hp
      · exact hex.nlp
      rcases List.mem_cons.mp hp with rfl | hp
      · exact hex.nlt
      rcases List.mem_append.mp hp with hp | hp
      · intro hm
        obtain ⟨q, hq, e9⟩ := List.mem_map.mp hm
        have := (hoff p hp).2 q (List.mem_append_left _ hq)
        exact absurd this (by rw [e9]; exact Nat.lt_irrefl _)
      · exact hex.nrest p hp
    case perm =>
      intro p hp
      rw [← hrg]
      rcases List.mem_cons.mp hp with rfl | hp
      · exact .head _
      rcases List.mem_append.mp hp with hp | hp
      · exact .tail _ (.tail _ (.tail _ (List.mem_append_right _ (List.mem_append_left _ hp))))
      rcases List.mem_cons.mp hp with rfl | hp
      · exact .tail _ (.head _)
      rcases List.mem_cons.mp hp with rfl | hp
      · exact .tail _ (.tail _ (.head _))
      refine .tail _ (.tail _ (.tail _ ?_))
      exact (List.mem_append.mp hp).elim (fun h => List.mem_append_left _ h) fun h => List.mem_append_right _ (List.mem_append_right _ h)
    rintro ex' news' T9 u9 h9 tk9 hex' hdis' F9 N9 lt9 ⟨T8, u8, D8, t8, vs8, k1, k2, k3, k4, k5⟩ up
    obtain ⟨el9, k5⟩ : ∃ el9, (log, W.listOf #[.ref T8] el9) ∈ news' := ⟨_, k5⟩
    rw [hdel] at k1 k3
    dsimp only at k1 k3
    replace up := up.1
    dsimp only at up
    clear kN kF
    walk_at "mine"
    show wpAny _ _ _ _ _ _
    rename Fr h₀ L _ _ => kF
    rename News h₀ L _ _ => kN
    have kk : ∀ p ∈ news', p ∈ (T9, W.listOf #[.str (PySem.Str.ofString "failed") u9, .ref e] 0) :: (ex' ++ news') := fun p hp => .tail _ (List.mem_append_right _ hp)
    have k4'' : ∀ p ∈ ext ++ rest, p ∈ (T9, W.listOf #[.str (PySem.Str.ofString "failed") u9, .ref e] 0) :: (ex' ++ news') := fun p hp => kk p (k4 p (.tail _ (.tail _ hp)))
    have k4' : ∀ p ∈ rest, p ∈ (T9, W.listOf #[.str (PySem.Str.ofString "failed") u9, .ref e] 0) :: (ex' ++ news') := fun p hp => k4'' p (sub1 p hp)
    refine tailA w mean mg mb h₀ L fa T9 box log e th ag due T8 D8 olog obox oerr _ _ _ _ _ _ _ nm tn t8 u8 k tk tk2 vs0 vs8 vsH H ((1 : Nat) : Int) tj u9 _ _ _ _ B X T (got_in kF) kN (by first | assumption | omega | (dsimp only; omega)) (.head _) (k4' _ hcb) (k4' _ hce) (k4' _ hcl) hdb hde hdl (.inr ⟨rfl, rfl, rfl⟩) (k4' _ hag) (k4' _ hth) hvs (kk _ k5) (kk _ k1) (kk _ k2) (k3.mono kk) (k4'' _ hd1) (hd2.mono k4'') hok hoks hH25 ?_
    intro h' tk' v F' N'
    refine hret ex' #[.ref T8] el9 h' tk' v ⟨hex', hdis' _ k5, hdis' _ (k4 _ (.head _)), hdis' _ (k4 _ (.tail _ (.head _))), fun p hp => hdis' p (k4 p (.tail _ (.tail _ (sub1 p hp))))⟩ F' (news_sub N' fun p hp => ?_) (Nat.le_refl 1)
    rcases List.mem_cons.mp hp with rfl | hp
    · exact kk _ k5
    rcases List.mem_cons.mp hp with rfl | hp
    · exact kk _ (k4 _ (.head _))
    rcases List.mem_cons.mp hp with rfl | hp
    · exact kk _ (k4 _ (.tail _ (.head _)))
    rcases List.mem_append.mp hp with hp | hp
    · exact .tail _ (List.mem_append_left _ hp)
    · exact k4' p hp
end Mine

namespace Mine
theorem n_end {g h : Heap} {L : Addr} {M : PySem.Str → Option Value} {k t a nm p mo du j : Option Value} {v : V7}
    (F : Fr g L h (fun y => if y = PySem.Str.ofString "j" then j else if y = PySem.Str.ofString "due" then du else if y = PySem.Str.ofString "more" then mo else if y = PySem.Str.ofString "p" then p else if y = PySem.Str.ofString "name" then nm else f2 M k t a v y)) :
    Fr g L h (f2 M k t a ⟨nm, p, mo, du, j, v.got, v.inner⟩) := by
  refine fr_eq F fun y => ?_
  by_cases h2 : y = PySem.Str.ofString "p"
  · subst h2; rfl
  by_cases h3 : y = PySem.Str.ofString "more"
  · subst h3; rfl
  by_cases h4 : y = PySem.Str.ofString "j"
  · subst h4; rfl
  by_cases h5 : y = PySem.Str.ofString "name"
  · subst h5; rfl
  by_cases h6 : y = PySem.Str.ofString "due"
  · subst h6; rfl
  simp only [f2, if_neg h2, if_neg h3, if_neg h4, if_neg h5, if_neg h6]
local macro_rules | `(tactic| walk_at "mine") => `(tactic| repeat' (first | (k_unfold; (try dsimp only)) | walk1 | (dsimp only; walk1) | (leave1; try dsimp only) | fail "no step"))
local macro_rules | `(tactic| k_mem) => `(tactic| (repeat (first | exact List.Mem.head _ | assumption | refine List.Mem.tail _ ?_)))
local macro_rules | `(tactic| k_all) => `(tactic| assumption)
local macro_rules | `(tactic| walk_at "execs cons") => `(tactic| (refine genToks ?_ (by omega); intro k9 p9))
local macro_rules | `(tactic| walk_at "execs nil") => `(tactic| (refine genToks ?_ (by omega); intro k9 p9))
local macro_rules | `(tactic| walk_at "execs cons") => `(tactic| ((with_reducible show wpAny _ _ _ _ _ (Shared.mk _ _ _ (Shared.toks _) _)); dsimp only))
local macro_rules | `(tactic| walk_at "execs nil") => `(tactic| ((with_reducible show wpAny _ _ _ _ _ (Shared.mk _ _ _ (Shared.toks _) _)); dsimp only))
local macro_rules | `(tactic| walk_at "subscriptTail Name Name ref int") => `(tactic| (k_dflt (refine itemAt (News.isList (by k_asm) (by k_mem)) (by omega) (by assumption) ?_)))
local macro_rules | `(tactic| walk_at "exec While") => `(tactic| refine Halt.go ?_)
theorem turn2 : ∀ (w : World) (mean : ExcName → Option Value) (mg mb : PySem.Str → Option Value) (h₀ : Heap) (L fa lp lt log box e lb lf sc ag th : Addr) (olog obox oerr olb olf : Obj) (lamB lamF : List (Addr × Obj)) (nds : List Nd) (e1 e2 el : Nat) (logs : Array Value) (ex rest : List (Addr × Obj)) (k : Nat) (tk tk2 : Tok) (vs0 : List Value) (xv wv : Option Value) (nd0 : Nd) (u : V7) (s : Shared) (Q : Flow → Shared → Prop),
    Below callerA h₀ [] h₀ → (hd10.heap_39 w.params).In h₀ → Top topProg (looseW hd10.view_39 [PySem.Str.ofString "Error", PySem.Str.ofString "_Method"] ++ (recsOf hd10.view_39).map (fun x => x.name) ++ (litsOf hd10.view_39).map (fun x => x.1) ++ (clssOf hd10.view_39 (looseW hd10.view_39 [PySem.Str.ofString "Error", PySem.Str.ofString "_Method"])).map (fun x => x.name)) mean mg mb h₀ →
    Fr h₀ L s.heap (f2 (mLaw2 xv wv lp lt sc) (some (.int k tk)) (some (.ref th)) (some (.ref ag)) u) → News h₀ L s.heap ((log, W.listOf logs el) :: (lp, poolO nds e1) :: (lt, toldO nds e2) :: (ex ++ rest)) → 0 < s.toks → PoolOk w.params lb lf rest nds → nds.length ≤ 20 → nds[k]? = some nd0 → ExOk e ex log lp lt rest →
    (ag, tupO vs0) ∈ rest → (th, W.listOf #[.int k tk2] 0) ∈ rest → (L + 1, obox) ∈ rest → (L + 1 + 1, oerr) ∈ rest → (L + 1 + 1 + 1, olog) ∈ rest → obox.data = .cell (some (.ref box)) → oerr.data = .cell (some (.ref e)) → olog.data = .cell (some (.ref log)) →
    (∀ p ∈ lamB, p ∈ rest) → BoxOk w log lb box lamB → (lb, olb) ∈ lamB → Callee olb → (∀ p ∈ lamF, p ∈ rest) → FailOk w log lf e lamF → (lf, olf) ∈ lamF → Callee olf →
    log < lp → lp < lt → (∀ p ∈ rest, p.1 ≠ log) → (vs0 = [] ∨ vs0 = [.int k tk, .ref th] ∨ vs0 = [.ref th]) → logs.size ≤ 1000 →
    (∀ ex' logs' el' h' tk' v, ExOk e ex' log lp lt rest → Fr h₀ L h' (f2 (mLaw2 xv wv lp lt sc) (some (.int k tk)) (some (.ref th)) (some (.ref ag)) v) → News h₀ L h' ((log, W.listOf logs' el') :: (lp, poolO nds e1) :: (lt, toldO nds e2) :: (ex' ++ rest)) → logs'.size ≤ 1 → Q .next { s with heap := h', toks := tk' }) →
    wpAny (model Challenge.rw_dn0306_10.prog w) (callerA.deeper (envL (fnScope lawDef10) L fa)) (execs inner10 (envL (fnScope lawDef10) L fa)) Q (fun _ _ => False) s := by
  k_fill
  intro w mean mg mb h₀ L fa lp lt log box e lb lf sc ag th olog obox oerr olb olf lamB lamF nds e1 e2 el logs ex rest k tk tk2 vs0 xv wv nd0 u s Q B X T F N hpos hP hlen hnd0 hex hag hth hcb hce hcl hdb hde hdl hlB hB holb hcalb hlF hF holf hcalf n2 n3 hr hvs hls hret
  refine lit2 (x := fnScope lawDef10) (y := inner10) (P := fun scp bd => wpAny (model Challenge.rw_dn0306_10.prog w) (callerA.deeper (envL scp L fa)) (execs bd (envL scp L fa)) Q (fun _ _ => False) s) ⟨_, _, _, _, _⟩ (_ :: _) rfl rfl ?_
  have h2 := hP.two
  have no := hP.each _ _ hnd0
  obtain ⟨t91, t92, t93, m9⟩ := no.told
  obtain ⟨tl, htl⟩ := no.head
  have sub : ∀ p ∈ rest, p ∈ ex ++ rest := fun p hp => List.mem_append_right _ hp
  have m9' := sub _ m9
  have hag' := sub _ hag
  generalize hrr : ex ++ rest = rr at N m9' hag'
  walk_at "mine"
  show wpAny _ _ _ _ _ _
  rename Fr h₀ L _ _ => kF
  rename News h₀ L _ _ => kN
  subst hrr
  refine while10 w mean mg mb h₀ L fa lp lt log lb lf sc nds e1 e2 el logs (ex ++ rest) (some (.int k tk)) (some (.ref th)) (some (.ref ag)) u.got u.inner vs0 nd0 xv wv ⟨nd0, k, nd0.nm, t91, ag, [], tk, t92, t93, []⟩ _ _ B X T (n_end kF) kN (by assumption) (hP.mono sub) hlen ?J ?_
  case J => exact ⟨hnd0, ⟨tl, htl, by rw [← htl], rfl⟩, Nat.le_trans no.len (by decide), no.ok, ⟨vs0, hag', .base⟩, (by simp), (fun _ h => (nomatch h)), (fun _ h => (nomatch h))⟩
  intro x h' tk' hj hJ hp F9 N9
  exact tail10 w mean mg mb h₀ L fa lp lt log box e lb lf sc ag th olog obox oerr olb olf lamB lamF nds e1 e2 el logs ex rest k tk tk2 vs0 xv wv nd0 u.got u.inner x _ _ B X T F9 N9 hp hP hlen hnd0 hj hJ hex hag hth hcb hce hcl hdb hde hdl hlB hB holb hcalb hlF hF holf hcalf n2 n3 hr hvs hls hret
end Mine

namespace Mine
theorem ErrL.no {e D : Addr} {ex : List (Addr × Obj)} {o : Obj} (h : ErrL e ex) (ho : ∀ vs, o.data ≠ .fields vs) : (D, o) ∉ ex := by
  intro hm
  cases h with
  | fresh a b c =>
    obtain ⟨rfl, rfl⟩ := Prod.mk.inj (List.mem_singleton.mp hm)
    exact ho _ b
  | traced a b c d f g =>
    rcases List.mem_cons.mp hm with e1 | hm
    · obtain ⟨rfl, rfl⟩ := Prod.mk.inj e1
      exact ho _ b
    · obtain ⟨rfl, rfl⟩ := Prod.mk.inj (List.mem_singleton.mp hm)
      exact ho _ f
theorem notEx {h₀ h : Heap} {L e D : Addr} {n ex : List (Addr × Obj)} {o : Obj} (N : News h₀ L h n) (hD : (D, o) ∈ n) (hex : ∀ p ∈ ex, p ∈ n) (he : ErrL e ex) (ho : ∀ vs, o.data ≠ .fields vs) : D ∉ ex.map (·.1) := by
  intro hm
  obtain ⟨⟨q1, q2⟩, hq, e1⟩ := List.mem_map.mp hm
  have e1 : q1 = D := e1
  subst e1
  have h1 := (N _ hD).1
  have h2 := (N _ (hex _ hq)).1
  have e2 : some o = some q2 := h1.symm.trans h2
  cases e2
  exact he.no ho hq
structure IS where
  a : Option Value
  u : V7
  logs : Array Value
  el : Nat
  ex : List (Addr × Obj)
theorem a_in {g h : Heap} {L : Addr} {M : PySem.Str → Option Value} {k t a b : Option Value} {v : V7} (F : Fr g L h (fun y => if y = PySem.Str.ofString "args" then b else f2 M k t a v y)) : Fr g L h (f2 M k t b v) := by
  refine fr_eq F fun y => ?_
  by_cases h1 : y = PySem.Str.ofString "args"
  · subst h1; rfl
  simp only [f2, if_neg h1]
theorem t_in {g h : Heap} {L : Addr} {M : PySem.Str → Option Value} {k t a b : Option Value} {v : V7} (F : Fr g L h (fun y => if y = PySem.Str.ofString "things" then b else f2 M k t a v y)) : Fr g L h (f2 M k b a v) := by
  refine fr_eq F fun y => ?_
  by_cases h1 : y = PySem.Str.ofString "things"
  · subst h1; rfl
  simp only [f2, if_neg h1]
theorem ExOk.mono {e log lp lt : Addr} {ex r r' : List (Addr × Obj)} (h : ExOk e ex log lp lt r) (s : ∀ p ∈ r', p ∈ r) : ExOk e ex log lp lt r' := ⟨h.err, h.nlog, h.nlp, h.nlt, fun p hp => h.nrest p (s p hp)⟩
abbrev restI (la D1 D2 D3 th : Addr) (k : Nat) (tk : Tok) (rest : List (Addr × Obj)) : List (Addr × Obj) :=
  (la, W.listOf #[.ref D1, .ref D2, .ref D3] 0) :: (D3, tupO []) :: (D2, tupO [.ref th]) :: (D1, tupO [.int k tk, .ref th]) :: (th, W.listOf #[.int k tk] 0) :: rest
theorem loopI {w : World} {mean : ExcName → Option Value} {mg mb : PySem.Str → Option Value} {h₀ : Heap} {L fa lp lt log box e lb lf sc th la D1 D2 D3 : Addr} {olog obox oerr olb olf : Obj} {lamB lamF : List (Addr × Obj)} {nds : List Nd} {e1 e2 el : Nat} {logs : Array Value} {ex rest : List (Addr × Obj)} {k : Nat} {tk : Tok} {xv wv : Option Value} {nd0 : Nd} {a : Option Value} {u : V7} {px : Pos} {s : Shared} {Q : Flow → Shared → Prop}
    (B : Below callerA h₀ [] h₀) (X : (hd10.heap_39 w.params).In h₀) (T : Top topProg (looseW hd10.view_39 [PySem.Str.ofString "Error", PySem.Str.ofString "_Method"] ++ (recsOf hd10.view_39).map (fun x => x.name) ++ (litsOf hd10.view_39).map (fun x => x.1) ++ (clssOf hd10.view_39 (looseW hd10.view_39 [PySem.Str.ofString "Error", PySem.Str.ofString "_Method"])).map (fun x => x.name)) mean mg mb h₀)
    (F : Fr h₀ L s.heap (f2 (mLaw2 xv wv lp lt sc) (some (.int k tk)) (some (.ref th)) a u)) (N : News h₀ L s.heap ((la, W.listOf #[.ref D1, .ref D2, .ref D3] 0) :: (D3, tupO []) :: (D2, tupO [.ref th]) :: (D1, tupO [.int k tk, .ref th]) :: (th, W.listOf #[.int k tk] 0) :: (log, W.listOf logs el) :: (lp, poolO nds e1) :: (lt, toldO nds e2) :: (ex ++ rest))) (hpos : 0 < s.toks) (hP : PoolOk w.params lb lf rest nds) (hlen : nds.length ≤ 20) (hnd0 : nds[k]? = some nd0) (hex : ExOk e ex log lp lt rest)
    (hcb : (L + 1, obox) ∈ rest) (hce : (L + 1 + 1, oerr) ∈ rest) (hcl : (L + 1 + 1 + 1, olog) ∈ rest) (hdb : obox.data = .cell (some (.ref box))) (hde : oerr.data = .cell (some (.ref e))) (hdl : olog.data = .cell (some (.ref log)))
    (hlB : ∀ p ∈ lamB, p ∈ rest) (hB : BoxOk w log lb box lamB) (holb : (lb, olb) ∈ lamB) (hcalb : Callee olb) (hlF : ∀ p ∈ lamF, p ∈ rest) (hF : FailOk w log lf e lamF) (holf : (lf, olf) ∈ lamF) (hcalf : Callee olf)
    (n2 : log < lp) (n3 : lp < lt) (hr : ∀ p ∈ rest, p.1 ≠ log) (o1 : la ≠ log) (o2 : D1 ≠ log) (o3 : D2 ≠ log) (o4 : D3 ≠ log) (o5 : th ≠ log) (hls : logs.size ≤ 1000)
    (hret : ∀ ex' logs' el' h' tk' a' v, ExOk e ex' log lp lt rest → Fr h₀ L h' (f2 (mLaw2 xv wv lp lt sc) (some (.int k tk)) (some (.ref th)) a' v) → News h₀ L h' ((log, W.listOf logs' el') :: (lp, poolO nds e1) :: (lt, toldO nds e2) :: (ex' ++ rest)) → logs'.size ≤ 1000 → 0 < tk' → Q .next { s with heap := h', toks := tk' }) :
    wpAny (model Challenge.rw_dn0306_10.prog w) (callerA.deeper (envL (fnScope lawDef10) L fa)) (pyIter (.ref la)) (fun it s₂ => codeAny (model Challenge.rw_dn0306_10.prog w) (callerA.deeper (envL (fnScope lawDef10) L fa)) (.forLoop (.Name (PySem.Str.ofString "args") px) it inner10 [] (envL (fnScope lawDef10) L fa)) (forR (model Challenge.rw_dn0306_10.prog w) (callerA.deeper (envL (fnScope lawDef10) L fa)) (envL (fnScope lawDef10) L fa) Q (fun _ _ => False)) s₂) (fun _ _ => False) s := by
  have exN : ∀ p ∈ ex, p ∈ (la, W.listOf #[.ref D1, .ref D2, .ref D3] 0) :: (D3, tupO []) :: (D2, tupO [.ref th]) :: (D1, tupO [.int k tk, .ref th]) :: (th, W.listOf #[.int k tk] 0) :: (log, W.listOf logs el) :: (lp, poolO nds e1) :: (lt, toldO nds e2) :: (ex ++ rest) :=
    fun p hp => .tail _ (.tail _ (.tail _ (.tail _ (.tail _ (.tail _ (.tail _ (.tail _ (List.mem_append_left _ hp))))))))
  have hex0 : ExOk e ex log lp lt (restI la D1 D2 D3 th k tk rest) := ⟨hex.err, hex.nlog, hex.nlp, hex.nlt, fun p hp => by
    rcases List.mem_cons.mp hp with rfl | hp
    · exact notEx N (.head _) exN hex.err (fun _ h => nomatch h)
    rcases List.mem_cons.mp hp with rfl | hp
    · exact notEx N (.tail _ (.head _)) exN hex.err (fun _ h => nomatch h)
    rcases List.mem_cons.mp hp with rfl | hp
    · exact notEx N (.tail _ (.tail _ (.head _))) exN hex.err (fun _ h => nomatch h)
    rcases List.mem_cons.mp hp with rfl | hp
    · exact notEx N (.tail _ (.tail _ (.tail _ (.head _)))) exN hex.err (fun _ h => nomatch h)
    rcases List.mem_cons.mp hp with rfl | hp
    · exact notEx N (.tail _ (.tail _ (.tail _ (.tail _ (.head _))))) exN hex.err (fun _ h => nomatch h)
    exact hex.nrest p hp⟩
  have toN : ∀ p ∈ restI la D1 D2 D3 th k tk rest, p ∈ (la, W.listOf #[.ref D1, .ref D2, .ref D3] 0) :: (D3, tupO []) :: (D2, tupO [.ref th]) :: (D1, tupO [.int k tk, .ref th]) :: (th, W.listOf #[.int k tk] 0) :: (log, W.listOf logs el) :: (lp, poolO nds e1) :: (lt, toldO nds e2) :: (ex ++ rest) := by
    intro p hp
    rcases List.mem_cons.mp hp with rfl | hp
    · exact .head _
    rcases List.mem_cons.mp hp with rfl | hp
    · exact .tail _ (.head _)
    rcases List.mem_cons.mp hp with rfl | hp
    · exact .tail _ (.tail _ (.head _))
    rcases List.mem_cons.mp hp with rfl | hp
    · exact .tail _ (.tail _ (.tail _ (.head _)))
    rcases List.mem_cons.mp hp with rfl | hp
    · exact .tail _ (.tail _ (.tail _ (.tail _ (.head _))))
    exact .tail _ (.tail _ (.tail _ (.tail _ (.tail _ (.tail _ (.tail _ (.tail _ (List.mem_append_right _ hp))))))))
  have neL : ∀ p ∈ restI la D1 D2 D3 th k tk rest, p.1 ≠ log := by
    intro p hp
    rcases List.mem_cons.mp hp with rfl | hp
    · exact o1
    rcases List.mem_cons.mp hp with rfl | hp
    · exact o4
    rcases List.mem_cons.mp hp with rfl | hp
    · exact o3
    rcases List.mem_cons.mp hp with rfl | hp
    · exact o2
    rcases List.mem_cons.mp hp with rfl | hp
    · exact o5
    exact hr p hp
  have sub0 : ∀ p ∈ rest, p ∈ restI la D1 D2 D3 th k tk rest := fun p hp => .tail _ (.tail _ (.tail _ (.tail _ (.tail _ hp))))
  have szN := fun p hp => Heap.lt_size (N p hp).1
  have slog := szN (log, W.listOf logs el) (.tail _ (.tail _ (.tail _ (.tail _ (.tail _ (.head _))))))
  have slp := szN (lp, poolO nds e1) (.tail _ (.tail _ (.tail _ (.tail _ (.tail _ (.tail _ (.head _)))))))
  have slt := szN (lt, toldO nds e2) (.tail _ (.tail _ (.tail _ (.tail _ (.tail _ (.tail _ (.tail _ (.head _))))))))
  refine iterList_st2 (σ := IS) (fun y => f2 (mLaw2 xv wv lp lt sc) (some (.int k tk)) (some (.ref th)) y.a y.u) (fun y => (log, W.listOf y.logs y.el) :: (lp, poolO nds e1) :: (lt, toldO nds e2) :: (y.ex ++ restI la D1 D2 D3 th k tk rest))
    (fun _ y => y.logs.size ≤ 1000 ∧ ExOk e y.ex log lp lt (restI la D1 D2 D3 th k tk rest) ∧ s.heap.objs.size ∉ y.ex.map (·.1)) ⟨a, u, logs, el, ex⟩ (News.isList N (.head _)) rfl rfl rfl (N (la, _) (.head _)).2.1 hpos F (news_sub N ?sub) ⟨hls, hex0, ?nI⟩ ?off ?turn ?done ?hE
  case hE => passes_own
  case nI =>
    intro hm
    obtain ⟨q, hq, e1⟩ := List.mem_map.mp hm
    have := szN q (exN q hq)
    exact absurd this (by rw [e1]; exact Nat.lt_irrefl _)
  case sub =>
    intro p hp
    rcases List.mem_cons.mp hp with rfl | hp
    · exact .tail _ (.tail _ (.tail _ (.tail _ (.tail _ (.head _)))))
    rcases List.mem_cons.mp hp with rfl | hp
    · exact .tail _ (.tail _ (.tail _ (.tail _ (.tail _ (.tail _ (.head _))))))
    rcases List.mem_cons.mp hp with rfl | hp
    · exact .tail _ (.tail _ (.tail _ (.tail _ (.tail _ (.tail _ (.tail _ (.head _)))))))
    rcases List.mem_append.mp hp with hp | hp
    · exact exN p hp
    · exact toN p hp
  case off =>
    rintro i y ⟨-, -, hI⟩ p hp
    rcases List.mem_cons.mp hp with rfl | hp
    · exact Nat.ne_of_lt slog
    rcases List.mem_cons.mp hp with rfl | hp
    · exact Nat.ne_of_lt slp
    rcases List.mem_cons.mp hp with rfl | hp
    · exact Nat.ne_of_lt slt
    rcases List.mem_append.mp hp with hp | hp
    · exact fun q => hI (q ▸ List.mem_map_of_mem hp)
    · exact Nat.ne_of_lt (szN p (toN p hp))
  case done =>
    rintro ⟨a', u', logs', el', ex'⟩ h' tk' pos' ⟨z1, z2, z3⟩ F' N' sz'
    dsimp only at F' N' z1 z2 z3 ⊢
    refine hret ex' logs' el' _ _ _ _ (z2.mono sub0) F' (news_sub N' ?_) z1 pos'
    intro p hp
    rcases List.mem_cons.mp hp with rfl | hp
    · exact .head _
    rcases List.mem_cons.mp hp with rfl | hp
    · exact .tail _ (.head _)
    rcases List.mem_cons.mp hp with rfl | hp
    · exact .tail _ (.tail _ (.head _))
    rcases List.mem_append.mp hp with hp | hp
    · exact .tail _ (.tail _ (.tail _ (List.mem_append_left _ hp)))
    · exact .tail _ (.tail _ (.tail _ (List.mem_append_right _ (sub0 p hp))))
  rintro i v ⟨a', u', logs', el', ex'⟩ h' tk' own pos' hv ⟨z1, z2, z3⟩ ho ⟨oI, hoI⟩ F' N' sz'
  dsimp only [List.cons_append] at F' N' z1 z2 z3 ⊢
  rw [List.append_assoc] at N'
  have sub : ∀ p ∈ restI la D1 D2 D3 th k tk rest, p ∈ restI la D1 D2 D3 th k tk rest ++ own := fun p hp => List.mem_append_left _ hp
  obtain ⟨ag, vs0, rfl, hag, hvs⟩ : ∃ ag vs0, v = .ref ag ∧ (ag, tupO vs0) ∈ restI la D1 D2 D3 th k tk rest ∧ (vs0 = [] ∨ vs0 = [.int k tk, .ref th] ∨ vs0 = [.ref th]) := by
    rcases i with _ | _ | _ | i
    · exact ⟨D1, _, (Option.some.inj hv).symm, .tail _ (.tail _ (.tail _ (.head _))), .inr (.inl rfl)⟩
    · exact ⟨D2, _, (Option.some.inj hv).symm, .tail _ (.tail _ (.head _)), .inr (.inr rfl)⟩
    · exact ⟨D3, _, (Option.some.inj hv).symm, .tail _ (.head _), .inl rfl⟩
    · exact absurd hv (by simp)
  refine turn2 w mean mg mb h₀ L fa lp lt log box e lb lf sc ag th olog obox oerr olb olf lamB lamF nds e1 e2 el' logs' ex' (restI la D1 D2 D3 th k tk rest ++ own) k tk tk vs0 xv wv nd0 u' _ _ B X T (a_in F') N' pos' (hP.mono fun p hp => sub p (sub0 p hp)) hlen hnd0 ⟨z2.err, z2.nlog, z2.nlp, z2.nlt, ?exR⟩ (sub _ hag) (sub _ (.tail _ (.tail _ (.tail _ (.tail _ (.head _)))))) (sub _ (sub0 _ hcb)) (sub _ (sub0 _ hce)) (sub _ (sub0 _ hcl)) hdb hde hdl (fun p hp => sub _ (sub0 _ (hlB p hp))) hB holb hcalb (fun p hp => sub _ (sub0 _ (hlF p hp))) hF holf hcalf n2 n3 ?neR hvs z1 ?_
  case exR =>
    intro p hp
    rcases List.mem_append.mp hp with hp | hp
    · exact z2.nrest p hp
    rcases ho p hp with e9 | e9
    · rw [e9]; exact z3
    · rw [e9]; exact z2.nrest (la, _) (.head _)
  case neR =>
    intro p hp
    rcases List.mem_append.mp hp with hp | hp
    · exact neL p hp
    rcases ho p hp with e9 | e9
    · rw [e9]; exact Nat.ne_of_gt slog
    · rw [e9]; exact o1
  intro ex2 logs2 el2 h2 tk2 v2 X2 F2 N2 z4
  refine ForSt.next (σ := IS) (IS.mk (some (.ref ag)) v2 logs2 el2 ex2) F2 ?_ ⟨Nat.le_trans z4 (by decide), X2.mono sub, X2.nrest _ (List.mem_append_right _ hoI)⟩
  dsimp only [List.cons_append]
  rw [List.append_assoc]
  exact N2
end Mine

namespace Mine
local macro_rules | `(tactic| walk_at "mine") => `(tactic| repeat' (first | (k_unfold; (try dsimp only)) | walk1 | (dsimp only; walk1) | (leave1; try dsimp only) | fail "no step"))
local macro_rules | `(tactic| k_mem) => `(tactic| (repeat (first | exact List.Mem.head _ | assumption | refine List.Mem.tail _ ?_)))
local macro_rules | `(tactic| k_all) => `(tactic| assumption)
local macro_rules | `(tactic| walk_at "execs cons") => `(tactic| (refine genToks ?_ (by omega); intro k9 p9))
local macro_rules | `(tactic| walk_at "execs nil") => `(tactic| (refine genToks ?_ (by omega); intro k9 p9))
local macro_rules | `(tactic| walk_at "execs cons") => `(tactic| ((with_reducible show wpAny _ _ _ _ _ (Shared.mk _ _ _ (Shared.toks _) _)); dsimp only))
local macro_rules | `(tactic| walk_at "execs nil") => `(tactic| ((with_reducible show wpAny _ _ _ _ _ (Shared.mk _ _ _ (Shared.toks _) _)); dsimp only))
local macro_rules | `(tactic| walk_at "exec For Name List cons nil") => `(tactic| refine Halt.go ?_)
local macro_rules | `(tactic| walk_at "pyIter ref") => `(tactic| refine Halt.go ?_)
theorem turn3 : ∀ (w : World) (mean : ExcName → Option Value) (mg mb : PySem.Str → Option Value) (h₀ : Heap) (L fa lp lt log box e lb lf sc : Addr) (olog obox oerr olb olf : Obj) (lamB lamF : List (Addr × Obj)) (nds : List Nd) (e1 e2 el : Nat) (logs : Array Value) (ex rest : List (Addr × Obj)) (k : Nat) (tk : Tok) (xv wv : Option Value) (nd0 : Nd) (t a : Option Value) (u : V7) (s : Shared) (Q : Flow → Shared → Prop),
    Below callerA h₀ [] h₀ → (hd10.heap_39 w.params).In h₀ → Top topProg (looseW hd10.view_39 [PySem.Str.ofString "Error", PySem.Str.ofString "_Method"] ++ (recsOf hd10.view_39).map (fun x => x.name) ++ (litsOf hd10.view_39).map (fun x => x.1) ++ (clssOf hd10.view_39 (looseW hd10.view_39 [PySem.Str.ofString "Error", PySem.Str.ofString "_Method"])).map (fun x => x.name)) mean mg mb h₀ →
    Fr h₀ L s.heap (f2 (mLaw2 xv wv lp lt sc) (some (.int k tk)) t a u) → News h₀ L s.heap ((log, W.listOf logs el) :: (lp, poolO nds e1) :: (lt, toldO nds e2) :: (ex ++ rest)) → 0 < s.toks → PoolOk w.params lb lf rest nds → nds.length ≤ 20 → nds[k]? = some nd0 → ExOk e ex log lp lt rest →
    (L + 1, obox) ∈ rest → (L + 1 + 1, oerr) ∈ rest → (L + 1 + 1 + 1, olog) ∈ rest → obox.data = .cell (some (.ref box)) → oerr.data = .cell (some (.ref e)) → olog.data = .cell (some (.ref log)) →
    (∀ p ∈ lamB, p ∈ rest) → BoxOk w log lb box lamB → (lb, olb) ∈ lamB → Callee olb → (∀ p ∈ lamF, p ∈ rest) → FailOk w log lf e lamF → (lf, olf) ∈ lamF → Callee olf →
    log < lp → lp < lt → (∀ p ∈ rest, p.1 ≠ log) → logs.size ≤ 1000 →
    (∀ ex' logs' el' h' tk' t' a' v, ExOk e ex' log lp lt rest → Fr h₀ L h' (f2 (mLaw2 xv wv lp lt sc) (some (.int k tk)) t' a' v) → News h₀ L h' ((log, W.listOf logs' el') :: (lp, poolO nds e1) :: (lt, toldO nds e2) :: (ex' ++ rest)) → logs'.size ≤ 1000 → Q .next { s with heap := h', toks := tk' }) →
    wpAny (model Challenge.rw_dn0306_10.prog w) (callerA.deeper (envL (fnScope lawDef10) L fa)) (execs (forBody law10[6]!) (envL (fnScope lawDef10) L fa)) Q (fun _ _ => False) s := by
  k_fill
  intro w mean mg mb h₀ L fa lp lt log box e lb lf sc olog obox oerr olb olf lamB lamF nds e1 e2 el logs ex rest k tk xv wv nd0 t a u s Q B X T F N hpos hP hlen hnd0 hex hcb hce hcl hdb hde hdl hlB hB holb hcalb hlF hF holf hcalf n2 n3 hr hls hret
  refine lit2 (x := fnScope lawDef10) (y := forBody law10[6]!) (P := fun scp bd => wpAny (model Challenge.rw_dn0306_10.prog w) (callerA.deeper (envL scp L fa)) (execs bd (envL scp L fa)) Q (fun _ _ => False) s) ⟨_, _, _, _, _⟩ (_ :: _) rfl rfl ?_
  have h2 := hP.two
  generalize hrr : ex ++ rest = rr at N
  walk_at "mine"
  refine wpAny_For ?_ (by intro _; rfl)
  walk_at "mine"
  show wpAny _ _ _ _ _ _
  rename Fr h₀ L _ _ => kF
  rename News h₀ L _ _ => kN
  subst hrr
  refine loopI (olog := olog) (obox := obox) (oerr := oerr) (olb := olb) (olf := olf) B X T (t_in kF) kN (by assumption) hP hlen hnd0 hex hcb hce hcl hdb hde hdl hlB hB holb hcalb hlF hF holf hcalf n2 n3 hr (by k_ne) (by k_ne) (by k_ne) (by k_ne) (by k_ne) hls ?_
  intro ex' logs' el' h' tk' a' v hex' F' N' z pos'
  walk_at "mine"
  exact hret ex' logs' el' _ _ _ _ _ hex' F' N' z
end Mine

namespace Mine
theorem k_in {g h : Heap} {L : Addr} {M : PySem.Str → Option Value} {k t a b : Option Value} {v : V7} (F : Fr g L h (fun y => if y = PySem.Str.ofString "k" then b else f2 M k t a v y)) : Fr g L h (f2 M b t a v) := by
  refine fr_eq F fun y => ?_
  by_cases h1 : y = PySem.Str.ofString "k"
  · subst h1; rfl
  simp only [f2, if_neg h1]
theorem loopK {w : World} {mean : ExcName → Option Value} {mg mb : PySem.Str → Option Value} {h₀ : Heap} {L fa lp lt log box e lb lf sc r : Addr} {olog obox oerr olb olf : Obj} {lamB lamF : List (Addr × Obj)} {nds : List Nd} {e1 e2 el : Nat} {logs : Array Value} {ex rest : List (Addr × Obj)} {xv wv k t a : Option Value} {u : V7} {px : Pos} {t₀ u₀ v₀ : Tok} {s : Shared} {Q : Flow → Shared → Prop}
    (B : Below callerA h₀ [] h₀) (X : (hd10.heap_39 w.params).In h₀) (T : Top topProg (looseW hd10.view_39 [PySem.Str.ofString "Error", PySem.Str.ofString "_Method"] ++ (recsOf hd10.view_39).map (fun x => x.name) ++ (litsOf hd10.view_39).map (fun x => x.1) ++ (clssOf hd10.view_39 (looseW hd10.view_39 [PySem.Str.ofString "Error", PySem.Str.ofString "_Method"])).map (fun x => x.name)) mean mg mb h₀)
    (hR : IsRange s.heap r 0 nds.length 1 t₀ u₀ v₀)
    (F : Fr h₀ L s.heap (f2 (mLaw2 xv wv lp lt sc) k t a u)) (N : News h₀ L s.heap ((log, W.listOf logs el) :: (lp, poolO nds e1) :: (lt, toldO nds e2) :: (ex ++ rest))) (hpos : 0 < s.toks) (hP : PoolOk w.params lb lf rest nds) (hlen : nds.length ≤ 20) (hex : ExOk e ex log lp lt rest)
    (hcb : (L + 1, obox) ∈ rest) (hce : (L + 1 + 1, oerr) ∈ rest) (hcl : (L + 1 + 1 + 1, olog) ∈ rest) (hdb : obox.data = .cell (some (.ref box))) (hde : oerr.data = .cell (some (.ref e))) (hdl : olog.data = .cell (some (.ref log)))
    (hlB : ∀ p ∈ lamB, p ∈ rest) (hB : BoxOk w log lb box lamB) (holb : (lb, olb) ∈ lamB) (hcalb : Callee olb) (hlF : ∀ p ∈ lamF, p ∈ rest) (hF : FailOk w log lf e lamF) (holf : (lf, olf) ∈ lamF) (hcalf : Callee olf)
    (n2 : log < lp) (n3 : lp < lt) (hr : ∀ p ∈ rest, p.1 ≠ log) (hls : logs.size ≤ 1000)
    (hret : ∀ ex' logs' el' h' tk' k' t' a' v, Fr h₀ L h' (f2 (mLaw2 xv wv lp lt sc) k' t' a' v) → News h₀ L h' ((log, W.listOf logs' el') :: (lp, poolO nds e1) :: (lt, toldO nds e2) :: (ex' ++ rest)) → 0 < tk' → Q .next { s with heap := h', toks := tk' }) :
    wpAny (model Challenge.rw_dn0306_10.prog w) (callerA.deeper (envL (fnScope lawDef10) L fa)) (pyIter (.ref r)) (fun it s₂ => codeAny (model Challenge.rw_dn0306_10.prog w) (callerA.deeper (envL (fnScope lawDef10) L fa)) (.forLoop (.Name (PySem.Str.ofString "k") px) it (forBody law10[6]!) [] (envL (fnScope lawDef10) L fa)) (forR (model Challenge.rw_dn0306_10.prog w) (callerA.deeper (envL (fnScope lawDef10) L fa)) (envL (fnScope lawDef10) L fa) Q (fun _ _ => False)) s₂) (fun _ _ => False) s := by
  have h2 := hP.two
  have szN := fun p hp => Heap.lt_size (N p hp).1
  have slog := szN (log, W.listOf logs el) (.head _)
  have slp := szN (lp, poolO nds e1) (.tail _ (.head _))
  have slt := szN (lt, toldO nds e2) (.tail _ (.tail _ (.head _)))
  have srest : ∀ p ∈ rest, p.1 < s.heap.objs.size := fun p hp => szN p (.tail _ (.tail _ (.tail _ (List.mem_append_right _ hp))))
  refine iterRange_st2 (σ := Option Value × Option Value × IS) (fun y => f2 (mLaw2 xv wv lp lt sc) y.1 y.2.1 y.2.2.a y.2.2.u) (fun y => (log, W.listOf y.2.2.logs y.2.2.el) :: (lp, poolO nds e1) :: (lt, toldO nds e2) :: (y.2.2.ex ++ rest))
    (fun _ y => y.2.2.logs.size ≤ 1000 ∧ ExOk e y.2.2.ex log lp lt rest ∧ s.heap.objs.size ∉ y.2.2.ex.map (·.1)) ⟨k, t, ⟨a, u, logs, el, ex⟩⟩ hR ?small ?sz rfl rfl rfl hpos F N ⟨hls, hex, ?nI⟩ ?off ?turn ?done ?hE
  case hE => passes_own
  case small => exact small_one (by omega) (by omega) (by omega) (by omega)
  case sz => rw [rangeSize_nat]; omega
  case nI =>
    intro hm
    obtain ⟨q, hq, e1⟩ := List.mem_map.mp hm
    have := szN q (.tail _ (.tail _ (.tail _ (List.mem_append_left _ hq))))
    exact absurd this (by rw [e1]; exact Nat.lt_irrefl _)
  case off =>
    rintro i y ⟨-, -, hI⟩ p hp
    rcases List.mem_cons.mp hp with rfl | hp
    · exact Nat.ne_of_lt slog
    rcases List.mem_cons.mp hp with rfl | hp
    · exact Nat.ne_of_lt slp
    rcases List.mem_cons.mp hp with rfl | hp
    · exact Nat.ne_of_lt slt
    rcases List.mem_append.mp hp with hp | hp
    · exact fun q => hI (q ▸ List.mem_map_of_mem hp)
    · exact Nat.ne_of_lt (srest p hp)
  case done =>
    rintro ⟨k', t', a', u', logs', el', ex'⟩ h' tk' pos' - F' N' sz'
    exact hret ex' logs' el' _ _ _ _ _ _ F' N' pos'
  rintro i tk9 ⟨k', t', a', u', logs', el', ex'⟩ h' tk' own pos' hi ⟨z1, z2, z3⟩ ho ⟨oI, hoI⟩ F' N' sz'
  dsimp only [List.cons_append] at F' N' z1 z2 z3 ⊢
  rw [List.append_assoc] at N'
  have sub : ∀ p ∈ rest, p ∈ rest ++ own := fun p hp => List.mem_append_left _ hp
  obtain ⟨nd0, hnd0⟩ : ∃ nd0, nds[i]? = some nd0 := ⟨nds[i], List.getElem?_eq_getElem hi⟩
  refine turn3 w mean mg mb h₀ L fa lp lt log box e lb lf sc olog obox oerr olb olf lamB lamF nds e1 e2 el' logs' ex' (rest ++ own) i tk9 xv wv nd0 t' a' u' _ _ B X T (k_in F') N' pos' (hP.mono sub) hlen hnd0 ⟨z2.err, z2.nlog, z2.nlp, z2.nlt, ?exR⟩ (sub _ hcb) (sub _ hce) (sub _ hcl) hdb hde hdl (fun p hp => sub _ (hlB p hp)) hB holb hcalb (fun p hp => sub _ (hlF p hp)) hF holf hcalf n2 n3 ?neR z1 ?_
  case exR =>
    intro p hp
    rcases List.mem_append.mp hp with hp | hp
    · exact z2.nrest p hp
    · rw [ho p hp]; exact z3
  case neR =>
    intro p hp
    rcases List.mem_append.mp hp with hp | hp
    · exact hr p hp
    · rw [ho p hp]; exact Nat.ne_of_gt slog
  intro ex2 logs2 el2 h2 tk2 t2 a2 v2 X2 F2 N2 z4
  refine ForSt.next (σ := Option Value × Option Value × IS) (some (.int i tk9), t2, IS.mk a2 v2 logs2 el2 ex2) F2 ?_ ⟨z4, X2.mono sub, X2.nrest _ (List.mem_append_right _ hoI)⟩
  dsimp only [List.cons_append]
  rw [List.append_assoc]
  exact N2
local macro_rules | `(tactic| walk_at "mine") => `(tactic| repeat' (first | (k_unfold; (try dsimp only)) | walk1 | (dsimp only; walk1) | (leave1; try dsimp only) | fail "no step"))
local macro_rules | `(tactic| k_mem) => `(tactic| (repeat (first | exact List.Mem.head _ | assumption | refine List.Mem.tail _ ?_)))
local macro_rules | `(tactic| k_all) => `(tactic| assumption)
local macro_rules | `(tactic| walk_at "call builtin:len") => `(tactic| (k_dflt (refine lenMap (News.isList (by k_asm) (by k_mem)) (by omega) ?_); intro t9 k9 u9; (try dsimp only at u9)))
local macro_rules | `(tactic| walk_at "pyIter ref") => `(tactic| refine Halt.go ?_)
theorem loop2 : ∀ (w : World) (mean : ExcName → Option Value) (mg mb : PySem.Str → Option Value) (h₀ : Heap) (L fa lp lt log box e lb lf sc : Addr) (olog obox oerr olb olf : Obj) (lamB lamF : List (Addr × Obj)) (nds : List Nd) (e1 e2 el : Nat) (logs : Array Value) (ex rest : List (Addr × Obj)) (xv wv k t a : Option Value) (u : V7) (s : Shared) (Q : Flow → Shared → Prop),
    Below callerA h₀ [] h₀ → (hd10.heap_39 w.params).In h₀ → Top topProg (looseW hd10.view_39 [PySem.Str.ofString "Error", PySem.Str.ofString "_Method"] ++ (recsOf hd10.view_39).map (fun x => x.name) ++ (litsOf hd10.view_39).map (fun x => x.1) ++ (clssOf hd10.view_39 (looseW hd10.view_39 [PySem.Str.ofString "Error", PySem.Str.ofString "_Method"])).map (fun x => x.name)) mean mg mb h₀ →
    Fr h₀ L s.heap (f2 (mLaw2 xv wv lp lt sc) k t a u) → News h₀ L s.heap ((log, W.listOf logs el) :: (lp, poolO nds e1) :: (lt, toldO nds e2) :: (ex ++ rest)) → 0 < s.toks → PoolOk w.params lb lf rest nds → nds.length ≤ 20 → ExOk e ex log lp lt rest →
    (L + 1, obox) ∈ rest → (L + 1 + 1, oerr) ∈ rest → (L + 1 + 1 + 1, olog) ∈ rest → obox.data = .cell (some (.ref box)) → oerr.data = .cell (some (.ref e)) → olog.data = .cell (some (.ref log)) →
    (∀ p ∈ lamB, p ∈ rest) → BoxOk w log lb box lamB → (lb, olb) ∈ lamB → Callee olb → (∀ p ∈ lamF, p ∈ rest) → FailOk w log lf e lamF → (lf, olf) ∈ lamF → Callee olf →
    log < lp → lp < lt → (∀ p ∈ rest, p.1 ≠ log) → logs.size ≤ 1000 →
    (∀ ex' logs' el' h' tk' k' t' a' v, Fr h₀ L h' (f2 (mLaw2 xv wv lp lt sc) k' t' a' v) → News h₀ L h' ((log, W.listOf logs' el') :: (lp, poolO nds e1) :: (lt, toldO nds e2) :: (ex' ++ rest)) → 0 < tk' → Q .next { s with heap := h', toks := tk' }) →
    wpAny (model Challenge.rw_dn0306_10.prog w) (callerA.deeper (envL (fnScope lawDef10) L fa)) (exec law10[6]! (envL (fnScope lawDef10) L fa)) Q (fun _ _ => False) s := by
  k_fill
  intro w mean mg mb h₀ L fa lp lt log box e lb lf sc olog obox oerr olb olf lamB lamF nds e1 e2 el logs ex rest xv wv k t a u s Q B X T F N hpos hP hlen hex hcb hce hcl hdb hde hdl hlB hB holb hcalb hlF hF holf hcalf n2 n3 hr hls hret
  refine lit2 (x := fnScope lawDef10) (y := law10[6]!) (P := fun scp bd => wpAny (model Challenge.rw_dn0306_10.prog w) (callerA.deeper (envL scp L fa)) (exec bd (envL scp L fa)) Q (fun _ _ => False) s) ⟨_, _, _, _, _⟩ (.For _ _ _ _ _) rfl rfl ?_
  have h2 := hP.two
  generalize hrr : ex ++ rest = rr at N
  refine wpAny_For ?_ (by intro _; rfl)
  refine any_up ?_
  walk_at "mine"
  show wpAny _ _ _ _ _ _
  rename Up _ _ => up
  replace up := up.1
  rename IsRange _ _ _ _ _ _ _ _ => hR
  rename Fr h₀ L _ _ => kF
  rename News h₀ L _ _ => kN
  subst hrr
  refine loopK (olog := olog) (obox := obox) (oerr := oerr) (olb := olb) (olf := olf) B X T hR kF kN (Nat.lt_of_lt_of_le hpos up) hP hlen hex hcb hce hcl hdb hde hdl hlB hB holb hcalb hlF hF holf hcalf n2 n3 hr hls ?_
  exact hret
end Mine

namespace Mine
theorem box_ok2 {w : World} {log box f c clog cbox : Addr} {oc olog obox : Obj} {q : PySem.Str} {pm ct : Value} {vs : Array Value} {tq : Tok} {p : Arguments} {b : Expr} {sc : Scope} (e : lamB = (p, b, sc)) (hc : oc.data = .fields vs) (hc2 : vs[1]? = some (.str q tq)) (h1 : olog.data = .cell (some (.ref log))) (h2 : obox.data = .cell (some (.ref box))) :
    BoxOk w log f box [(f, kla_obj (PySem.Str.ofString "<lambda>") q p b sc [(PySem.Str.ofString "log", clog), (PySem.Str.ofString "box", cbox)] pm c ct), (c, oc), (clog, olog), (cbox, obox)] := by
  have := box_ok w log box f c clog cbox oc olog obox q pm ct vs tq hc hc2 h1 h2
  rw [e] at this
  exact this
theorem fail_ok2 {w : World} {log er f c clog cerr : Addr} {oc olog oerr : Obj} {q : PySem.Str} {pm ct : Value} {vs : Array Value} {tq : Tok} {p : Arguments} {b : Expr} {sc : Scope} (e : lamF = (p, b, sc)) (hc : oc.data = .fields vs) (hc2 : vs[1]? = some (.str q tq)) (h1 : olog.data = .cell (some (.ref log))) (h2 : oerr.data = .cell (some (.ref er))) :
    FailOk w log f er [(f, kla_obj (PySem.Str.ofString "<lambda>") q p b sc [(PySem.Str.ofString "log", clog), (PySem.Str.ofString "error", cerr)] pm c ct), (c, oc), (clog, olog), (cerr, oerr)] := by
  have := fail_ok w log er f c clog cerr oc olog oerr q pm ct vs tq hc hc2 h1 h2
  rw [e] at this
  exact this
theorem f1_start {g h : Heap} {L lp lt sc : Addr} {R : PySem.Str → Option Value} (F : Fr g L h (fun y => if y = PySem.Str.ofString "told" then some (.ref lt) else if y = PySem.Str.ofString "row" then some (.ref lp) else R y)) (hR : ∀ y, R y = if y = PySem.Str.ofString "script" then some (.ref sc) else none) : Fr g L h (f1 (mLaw lp lt sc) none none none none) := by
  refine fr_eq F fun y => ?_
  by_cases h1 : y = PySem.Str.ofString "x"
  · subst h1; exact hR _
  by_cases h2 : y = PySem.Str.ofString "p"
  · subst h2; exact hR _
  by_cases h3 : y = PySem.Str.ofString "way"
  · subst h3; exact hR _
  by_cases h4 : y = PySem.Str.ofString "name"
  · subst h4; exact hR _
  simp only [f1, mLaw, if_neg h1, if_neg h2, if_neg h3, if_neg h4, hR]
theorem f2_start {g h : Heap} {L lp lt sc : Addr} {x p way nm : Option Value} (F : Fr g L h (f1 (mLaw lp lt sc) x p way nm)) : Fr g L h (f2 (mLaw2 x way lp lt sc) none none none ⟨nm, p, none, none, none, none, none⟩) := by
  refine fr_eq F fun y => ?_
  by_cases h1 : y = PySem.Str.ofString "x"
  · subst h1; rfl
  by_cases h2 : y = PySem.Str.ofString "p"
  · subst h2; rfl
  by_cases h3 : y = PySem.Str.ofString "way"
  · subst h3; rfl
  by_cases h4 : y = PySem.Str.ofString "name"
  · subst h4; rfl
  by_cases h5 : y = PySem.Str.ofString "k"
  · subst h5; rfl
  by_cases h6 : y = PySem.Str.ofString "things"
  · subst h6; rfl
  by_cases h7 : y = PySem.Str.ofString "args"
  · subst h7; rfl
  by_cases h8 : y = PySem.Str.ofString "more"
  · subst h8; rfl
  by_cases h9 : y = PySem.Str.ofString "due"
  · subst h9; rfl
  by_cases h10 : y = PySem.Str.ofString "j"
  · subst h10; rfl
  by_cases h11 : y = PySem.Str.ofString "got"
  · subst h11; rfl
  by_cases h12 : y = PySem.Str.ofString "inner"
  · subst h12; rfl
  simp only [f1, f2, mLaw2, if_neg h1, if_neg h2, if_neg h3, if_neg h4, if_neg h5, if_neg h6, if_neg h7, if_neg h8, if_neg h9, if_neg h10, if_neg h11, if_neg h12]
abbrev rest10 (P : Params) (D D1 l lt0 lt1 x0 x1 d0 d1 f0 c0 f1 c1 q L box : Addr) (oD oD1 ol of0 oc0 of1 oc1 olog oerr obox oq : Obj) (a1 a2 a3 b1 b2 b3 t1 t2 t3 u1 u2 u3 : Tok) : List (Addr × Obj) :=
  [(f0, of0), (c0, oc0), (f1, of1), (c1, oc1), (L + 1 + 1 + 1, olog), (L + 1 + 1, oerr), (L + 1, obox), (q, oq), (lt1, W.listOf #[.str (PySem.Str.ofString "fail") t1, .int 1 t2, .str (PySem.Str.ofString "") t3] 0), (lt0, W.listOf #[.str (PySem.Str.ofString "base") u1, .int 0 u2, .str (PySem.Str.ofString "") u3] 0),
    (x1, instObj 84 d1), (d1, methD P (.ref f1) (PySem.Str.ofString "fail") a1 a2 a3), (x0, instObj 84 d0), (d0, methD P (.ref f0) (PySem.Str.ofString "base") b1 b2 b3), (D, oD), (D1, oD1), (l, ol), (box, W.listOf #[] 0)]
theorem start10 {w : World} {mean : ExcName → Option Value} {mg mb : PySem.Str → Option Value} {h₀ : Heap} {L fa lp lt log box e sc D D1 l lt0 lt1 x0 x1 d0 d1 f0 c0 f1 c1 q ed et : Addr} {oD1 ol of0 oc0 of1 oc1 olog oerr obox oq : Obj} {vs : List Value} {ns : List Int} {a1 a2 a3 b1 b2 b3 t1 t2 t3 u1 u2 u3 : Tok} {px : Pos} {s : Shared} {Q : Flow → Shared → Prop} {R : PySem.Str → Option Value}
    (B : Below callerA h₀ [] h₀) (X : (hd10.heap_39 w.params).In h₀) (T : Top topProg (looseW hd10.view_39 [PySem.Str.ofString "Error", PySem.Str.ofString "_Method"] ++ (recsOf hd10.view_39).map (fun x => x.name) ++ (litsOf hd10.view_39).map (fun x => x.1) ++ (clssOf hd10.view_39 (looseW hd10.view_39 [PySem.Str.ofString "Error", PySem.Str.ofString "_Method"])).map (fun x => x.name)) mean mg mb h₀)
    (F : Fr h₀ L s.heap (fun y => if y = PySem.Str.ofString "told" then some (.ref lt) else if y = PySem.Str.ofString "row" then some (.ref lp) else R y)) (hR : ∀ y, R y = if y = PySem.Str.ofString "script" then some (.ref sc) else none)
    (N : News h₀ L s.heap [(D, W.listOf vs.toArray 0), (D1, oD1), (l, ol), (lt, W.listOf #[.ref lt0, .ref lt1] 0), (lt1, W.listOf #[.str (PySem.Str.ofString "fail") t1, .int 1 t2, .str (PySem.Str.ofString "") t3] 0), (lt0, W.listOf #[.str (PySem.Str.ofString "base") u1, .int 0 u2, .str (PySem.Str.ofString "") u3] 0), (lp, W.listOf #[.ref x0, .ref x1] 0),
      (x1, instObj 84 d1), (d1, methD w.params (.ref f1) (PySem.Str.ofString "fail") a1 a2 a3), (f1, of1), (c1, oc1), (x0, instObj 84 d0), (d0, methD w.params (.ref f0) (PySem.Str.ofString "base") b1 b2 b3), (f0, of0), (c0, oc0), (e, errO ed et), (box, W.listOf #[] 0), (log, W.listOf #[] 0), (L + 1 + 1 + 1, olog), (L + 1 + 1, oerr), (L + 1, obox), (q, oq)])
    (hpos : 0 < s.toks) (hI : IntsAre vs ns) (hns : ns.length ≤ 18)
    (o1 : q < L) (o2 : L + 1 + 1 + 1 < log) (o3 : log < box) (o4 : box < e) (o5 : e < c0) (o6 : c0 < f0) (o7 : f0 < d0) (o8 : d0 < x0) (o9 : x0 < c1) (o10 : c1 < f1) (o11 : f1 < d1) (o12 : d1 < x1) (o13 : x1 < lp) (o14 : lp < lt0) (o15 : lt0 < lt1) (o16 : lt1 < lt) (o17 : lt < l) (o18 : l < D1) (o19 : D1 < D)
    (hret : ∀ (y : L1S) rest h' tk', Fr h₀ L h' (f2 (mLaw2 y.x y.way lp lt sc) none none none ⟨y.nm, y.p, none, none, none, none, none⟩) → News h₀ L h' ((log, W.listOf #[] 0) :: (lp, poolO y.nds y.e1) :: (lt, toldO y.nds y.e2) :: ([(e, errO ed et)] ++ rest)) →
      PoolOk w.params f0 f1 rest y.nds → y.nds.length ≤ 20 → ExOk e [(e, errO ed et)] log lp lt rest → (L + 1, obox) ∈ rest → (L + 1 + 1, oerr) ∈ rest → (L + 1 + 1 + 1, olog) ∈ rest → (∀ p ∈ [(f0, of0), (c0, oc0), (L + 1 + 1 + 1, olog), (L + 1, obox)], p ∈ rest) → (∀ p ∈ [(f1, of1), (c1, oc1), (L + 1 + 1 + 1, olog), (L + 1 + 1, oerr)], p ∈ rest) → (q, oq) ∈ rest → log < lp → lp < lt → (∀ p ∈ rest, p.1 ≠ log) → 0 < tk' → Q .next { s with heap := h', toks := tk' }) :
    wpAny (model Challenge.rw_dn0306_10.prog w) (callerA.deeper (envL (fnScope lawDef10) L fa)) (pyIter (.ref D)) (fun it s₂ => codeAny (model Challenge.rw_dn0306_10.prog w) (callerA.deeper (envL (fnScope lawDef10) L fa)) (.forLoop (.Name (PySem.Str.ofString "x") px) it (forBody law10[5]!) [] (envL (fnScope lawDef10) L fa)) (forR (model Challenge.rw_dn0306_10.prog w) (callerA.deeper (envL (fnScope lawDef10) L fa)) (envL (fnScope lawDef10) L fa) Q (fun _ _ => False)) s₂) (fun _ _ => False) s := by
  have N' : News h₀ L s.heap ((lp, poolO [⟨PySem.Str.ofString "base", 0, PySem.Str.ofString "", false, [PySem.Str.ofString "base"], x0, lt0⟩, ⟨PySem.Str.ofString "fail", 1, PySem.Str.ofString "", true, [PySem.Str.ofString "fail"], x1, lt1⟩] 0) :: (lt, toldO [⟨PySem.Str.ofString "base", 0, PySem.Str.ofString "", false, [PySem.Str.ofString "base"], x0, lt0⟩, ⟨PySem.Str.ofString "fail", 1, PySem.Str.ofString "", true, [PySem.Str.ofString "fail"], x1, lt1⟩] 0) ::
      (rest10 w.params D D1 l lt0 lt1 x0 x1 d0 d1 f0 c0 f1 c1 q L box (W.listOf vs.toArray 0) oD1 ol of0 oc0 of1 oc1 olog oerr obox oq a1 a2 a3 b1 b2 b3 t1 t2 t3 u1 u2 u3 ++ [(log, W.listOf #[] 0), (e, errO ed et)])) := by
    refine news_sub N ?_
    intro p hp
    simp only [rest10, List.cons_append, List.nil_append, List.mem_cons, List.not_mem_nil, or_false] at hp ⊢
    rcases hp with h | h | h | h | h | h | h | h | h | h | h | h | h | h | h | h | h | h | h | h | h | h <;> simp [h, poolO, toldO]
  have e2 := ltN o2
  replace o1 := ltN o1; replace o3 := ltN o3; replace o4 := ltN o4; replace o5 := ltN o5; replace o6 := ltN o6; replace o7 := ltN o7; replace o8 := ltN o8; replace o9 := ltN o9; replace o10 := ltN o10
  replace o11 := ltN o11; replace o12 := ltN o12; replace o13 := ltN o13; replace o14 := ltN o14; replace o15 := ltN o15; replace o16 := ltN o16; replace o17 := ltN o17; replace o18 := ltN o18; replace o19 := ltN o19
  have ne : ∀ p ∈ rest10 w.params D D1 l lt0 lt1 x0 x1 d0 d1 f0 c0 f1 c1 q L box (W.listOf vs.toArray 0) oD1 ol of0 oc0 of1 oc1 olog oerr obox oq a1 a2 a3 b1 b2 b3 t1 t2 t3 u1 u2 u3 ++ [(log, W.listOf #[] 0), (e, errO ed et)], p.1 ≠ lp ∧ p.1 ≠ lt := by
    intro p hp
    simp only [rest10, List.cons_append, List.nil_append, List.mem_cons, List.not_mem_nil, or_false] at hp
    rcases hp with h | h | h | h | h | h | h | h | h | h | h | h | h | h | h | h | h | h | h | h <;> subst h <;> dsimp only <;> constructor <;> (intro e; subst e; omega)
  have ne2 : ∀ p ∈ rest10 w.params D D1 l lt0 lt1 x0 x1 d0 d1 f0 c0 f1 c1 q L box (W.listOf vs.toArray 0) oD1 ol of0 oc0 of1 oc1 olog oerr obox oq a1 a2 a3 b1 b2 b3 t1 t2 t3 u1 u2 u3, p.1 ≠ log ∧ p.1 ≠ e := by
    intro p hp
    simp only [rest10, List.cons_append, List.nil_append, List.mem_cons, List.not_mem_nil, or_false] at hp
    rcases hp with h | h | h | h | h | h | h | h | h | h | h | h | h | h | h | h | h | h <;> subst h <;> dsimp only <;> constructor <;> (intro e; subst e; omega)
  have hlL : D ≠ L := (N (D, _) (.head _)).2.1
  refine loop1 w mean mg mb h₀ h₀ L fa lp lt f0 f1 sc D _ 0 0 _ _ vs ns px s Q B X T (f1_start F hR) N' hpos ?pool rfl (Nat.lt_trans o14 (Nat.lt_trans o15 o16)) ne (News.isList N (.head _)) hlL (Nat.lt_trans o17 (Nat.lt_trans o18 o19)) hI hns ?_
  case pool =>
    refine ⟨Nat.le_refl _, fun i nd h => ?_⟩
    rcases i with _ | _ | i
    · cases h
      exact ⟨.lam (by simp [rest10]) (d := d0) (t1 := b1) (t2 := b2) (t3 := b3) (by simp [rest10]), ⟨u1, u2, u3, by simp [rest10]⟩, (by decide : (PySem.Str.ofString "base").length ≤ 10), (by decide +kernel : PyData.strOk (PySem.Str.ofString "base") = true), (by decide : (PySem.Str.ofString "").length ≤ 4), (by decide +kernel : PyData.strOk (PySem.Str.ofString "") = true), fun _ => ⟨rfl, rfl⟩, fun h => absurd h (by decide)⟩
    · cases h
      exact ⟨.lam (by simp [rest10]) (d := d1) (t1 := a1) (t2 := a2) (t3 := a3) (by simp [rest10]), ⟨t1, t2, t3, by simp [rest10]⟩, (by decide : (PySem.Str.ofString "fail").length ≤ 10), (by decide +kernel : PyData.strOk (PySem.Str.ofString "fail") = true), (by decide : (PySem.Str.ofString "").length ≤ 4), (by decide +kernel : PyData.strOk (PySem.Str.ofString "") = true), fun _ => ⟨rfl, rfl⟩, fun h => absurd h (by decide)⟩
    · exact absurd h (by simp)
  intro y h' tk' F2 N2 P2 l2 off2 pos2
  have k1 : log < lt := by show @LT.lt Nat _ log lt; omega
  have k2 : e < lt := by show @LT.lt Nat _ e lt; omega
  have k3 : log < lp := by show @LT.lt Nat _ log lp; omega
  have k4 : lp < lt := by show @LT.lt Nat _ lp lt; omega
  have k5 : log ≠ e := by intro h; subst h; omega
  have k6 : lp ≠ e := by intro h; subst h; omega
  have k7 : lt ≠ e := Nat.ne_of_gt k2
  refine hret y (y.ext ++ rest10 w.params D D1 l lt0 lt1 x0 x1 d0 d1 f0 c0 f1 c1 q L box (W.listOf vs.toArray 0) oD1 ol of0 oc0 of1 oc1 olog oerr obox oq a1 a2 a3 b1 b2 b3 t1 t2 t3 u1 u2 u3) h' tk' (f2_start F2) (news_sub N2 ?_) P2 l2 ⟨.fresh rfl rfl rfl, ?_, ?_, ?_, ?_⟩ ?_ ?_ ?_ ?_ ?_ ?_ k3 k4 ?_ pos2
  · intro p hp
    rcases List.mem_cons.mp hp with rfl | hp
    · exact .tail _ (.tail _ (List.mem_append_right _ (.head _)))
    rcases List.mem_cons.mp hp with rfl | hp
    · exact .head _
    rcases List.mem_cons.mp hp with rfl | hp
    · exact .tail _ (.head _)
    rcases List.mem_cons.mp hp with rfl | hp
    · exact .tail _ (.tail _ (List.mem_append_right _ (.tail _ (.head _))))
    exact .tail _ (.tail _ (List.mem_append_left _ hp))
  · exact fun h => k5 (List.mem_singleton.mp h)
  · exact fun h => k6 (List.mem_singleton.mp h)
  · exact fun h => k7 (List.mem_singleton.mp h)
  · intro p hp h
    have h := List.mem_singleton.mp h
    rcases List.mem_append.mp hp with hp | hp
    · exact Nat.ne_of_gt (Nat.lt_trans k2 (off2 p hp)) h
    · exact (ne2 p hp).2 h
  · exact List.mem_append_right _ (by simp [rest10])
  · exact List.mem_append_right _ (by simp [rest10])
  · exact List.mem_append_right _ (by simp [rest10])
  · intro p hp
    refine List.mem_append_right _ ?_
    simp only [List.mem_cons, List.not_mem_nil, or_false] at hp
    rcases hp with rfl | rfl | rfl | rfl <;> simp [rest10]
  · intro p hp
    refine List.mem_append_right _ ?_
    simp only [List.mem_cons, List.not_mem_nil, or_false] at hp
    rcases hp with rfl | rfl | rfl | rfl <;> simp [rest10]
  · exact List.mem_append_right _ (by simp [rest10])
  · intro p hp
    rcases List.mem_append.mp hp with hp | hp
    · exact Nat.ne_of_gt (Nat.lt_trans k1 (off2 p hp))
    · exact (ne2 p hp).1
end Mine

namespace Mine
local macro_rules | `(tactic| walk_at "execs cons") => `(tactic| (refine genToks ?_ (by omega); intro k9 p9))
local macro_rules | `(tactic| walk_at "execs nil") => `(tactic| (refine genToks ?_ (by omega); intro k9 p9))
local macro_rules | `(tactic| walk_at "execs cons") => `(tactic| ((with_reducible show wpAny _ _ _ _ _ (Shared.mk _ _ _ (Shared.toks _) _)); dsimp only))
local macro_rules | `(tactic| walk_at "execs nil") => `(tactic| ((with_reducible show wpAny _ _ _ _ _ (Shared.mk _ _ _ (Shared.toks _) _)); dsimp only))
local macro_rules | `(tactic| walk_at "exec For Name BinOp cons nil") => `(tactic| refine Halt.go ?_)
local macro_rules | `(tactic| walk_at "exec For Name Call cons nil") => `(tactic| refine Halt.go ?_)
local macro_rules | `(tactic| walk_at "pyIter ref") => `(tactic| refine Halt.go ?_)
local macro_rules | `(tactic| walk_at "call ref cons nil") => `(tactic| ((with_reducible show wpAny _ _ (call (Value.ref 51) _) _ _ _); refine Halt.go ?_))
local macro_rules | `(tactic| walk_at "mine") => `(tactic| repeat' (first | (k_unfold; (try dsimp only)) | walk1 | (dsimp only; walk1) | (leave1; try dsimp only) | fail "no step"))
theorem law_holds : PySem.Challenge.rw_dn0306_10.Holds := hd10 (by
  k_go0
  refine never ?_
  (all_goals try k_fold)
  walk_at "mine"
  show wpAny _ _ _ _ _ _
  refine mk_fault _ _ _ _ _ _ _ _ _ _ _ _ _ _ _ _ _ _ _ (by k_asm) (by k_asm) (by k_asm) (by k_asm) (by k_asm) ?_
  intro e t' d h8 tk8 F8 N8 lt8
  k_lt lt8
  walk_at "mine"
  refine wpAny_For ?_ (by intro _; rfl)
  walk_at "mine"
  show wpAny _ _ _ _ _ _
  rename Fr (ghostOf _ _) _ _ _ => kF
  rename News (ghostOf _ _) _ _ _ => kN
  refine start10 (sc := ?sc) (by k_asm) (by k_asm) (by k_asm) kF ?hR kN ?hp (by assumption) ?hns ?o1 ?o2 ?o3 ?o4 ?o5 ?o6 ?o7 ?o8 ?o9 ?o10 ?o11 ?o12 ?o13 ?o14 ?o15 ?o16 ?o17 ?o18 ?o19 ?_
  case hp => first | exact Nat.succ_pos _ | (dsimp only; omega)
  case o1 => assumption
  case o2 => exact And.left (by assumption)
  case o3 => exact And.left (by assumption)
  case o4 => exact And.left (by assumption)
  case o5 => exact And.left (by assumption)
  case o6 => assumption
  case o7 => exact And.left (by assumption)
  case o8 => assumption
  case o9 => exact And.left (by assumption)
  case o10 => assumption
  case o11 => exact And.left (by assumption)
  case o12 => assumption
  case o13 => exact And.left (by assumption)
  case o14 => exact And.left (by assumption)
  case o15 => exact And.left (by assumption)
  case o16 => exact And.left (by assumption)
  case o17 => exact And.left (by assumption)
  case o18 => exact And.left (by assumption)
  case o19 => exact And.left (by assumption)
  case hR => exact fun y => (by with_unfolding_all rfl)
  case hns => rw [List.length_append, List.length_take]; simp only [List.length_cons, List.length_nil]; omega
  intro y rest h' tk' F2 N2 P2 len2 hex2 mb2 me2 ml2 mlB mlF mq k3 k4 off1 pos2
  walk_at "mine"
  show wpAny _ _ _ _ _ _
  refine loop2 _ _ _ _ _ _ _ _ _ _ ?bx _ _ _ _ _ _ _ _ _ _ _ _ _ _ _ _ _ _ _ _ _ _ _ _ _ _ (by k_asm) (by k_asm) (by k_asm) F2 N2 pos2 P2 len2 hex2 mb2 me2 ml2 ?c1 ?c2 ?c3 mlB ?lamB (.head _) (.inr ⟨_, rfl⟩) mlF ?lamF (.head _) (.inr ⟨_, rfl⟩) k3 k4 off1 (Nat.zero_le _) ?_
  case c1 => assumption
  case c2 => assumption
  case c3 => assumption
  case lamB => refine' box_ok2 ?qE ?qC ?qD ?qF ?qG; (case qE => exact rfl); (case qC => assumption); (case qD => assumption); (case qF => assumption); (case qG => assumption)
  case lamF => refine' fail_ok2 ?qE ?qC ?qD ?qF ?qG; (case qE => exact rfl); (case qC => assumption); (case qD => assumption); (case qF => assumption); (case qG => assumption)
  intro ex' logs' el' h3 tk3 k' t' a' v F3 N3 pos3
  clear N2 F2 kN
  dsimp only
  walk1
  walk1
  walk1
  walk1
  · k_steps
  · exact ⟨GrownAt.of N3 (.tail _ (.tail _ (.tail _ (List.mem_append_right _ mq)))), trivial⟩)
end Mine

theorem PySem.Challenge.cw_dn0306_10_holds : PySem.Challenge.rw_dn0306_10.Holds := by
  exact Mine.law_holds
