import PyProof.Rows.All
import Wide.All
import OpenK.AllK
import Wide.FinOn
import PySem.Challenge.RW_dn0306_04
open PySem PySem.W PyProof.Rows
set_option Elab.async false
set_option maxRecDepth 100000
set_option maxHeartbeats 8000000
namespace Mine
def Up (s s' : Shared) : Prop := s.toks ≤ s'.toks ∧ s.heap.objs.size ≤ s'.heap.objs.size
theorem Up.refl (s : Shared) : Up s s := ⟨Nat.le_refl _, Nat.le_refl _⟩
theorem Up.trans {a b c : Shared} (h : Up a b) (k : Up b c) : Up a c := ⟨Nat.le_trans h.1 k.1, Nat.le_trans h.2 k.2⟩
theorem size_update (h : Heap) (a : Addr) (f : Obj → Obj) : (h.update a f).objs.size = h.objs.size := by
  cases h; simp [Heap.update]
theorem size_push (h : Heap) (o : Obj) : (h.push o).objs.size = h.objs.size + 1 := by
  cases h; simp [Heap.push]
theorem runs_up {M : Model} {Γ : Ctx} {p : Pos} {t : Sem Fin} {fs : List Frame} {s : Shared} {e : End} {s' : Shared} (r : Runs M Γ p t fs s e s') : Up s s' := by
  induction r with
  | done => exact Up.refl _
  | raise => exact Up.refl _
  | yield => exact Up.refl _
  | again _ _ ih => exact ih
  | rule _ ih => exact ih
  | «at» _ ih => exact ih
  | load _ _ ih => exact ih
  | update _ _ ih => exact ⟨ih.1, by have := ih.2; rw [size_update] at this; exact this⟩
  | loadIfAlive _ ih => exact ih
  | point _ ih => exact ih
  | alloc _ ih => exact ⟨ih.1, by have := ih.2; rw [size_push] at this; omega⟩
  | fresh _ ih => exact ⟨Nat.le_trans (Nat.le_succ _) ih.1, ih.2⟩
  | ask _ ih => exact ih
  | choose _ _ ih => exact ih
  | os _ ih => exact ih
  | handled _ ih => exact ih
  | genState _ _ ih => exact ih
  | stack _ ih => exact ih
  | thread _ ih => exact ih
  | newGen _ ih => exact ih
  | call _ _ i1 i2 => exact Up.trans i1 i2
  | callSusp _ ih => exact ih
  | resumeFresh _ _ _ _ i1 i2 => exact Up.trans i1 i2
  | resumeSuspended _ _ _ _ i1 i2 => exact Up.trans i1 i2
  | resumeJustStarted _ _ _ ih => exact ih
  | resumeThrowFresh _ _ ih => exact ih
  | resumeRunning _ _ ih => exact ih
  | resumeFinished _ _ ih => exact ih
  | segRet _ _ i1 i2 => exact Up.trans i1 i2
  | segGen _ _ i1 i2 => exact Up.trans i1 i2
  | segSuspOut _ _ ih => exact ih
  | segSuspGen _ _ _ _ i1 i2 => exact Up.trans i1 i2
theorem wakes_up {M : Model} {Γ : Ctx} {p : Pos} {g : Nat} {r : Resume} {s : Shared} {res : GenResult} {s' : Shared} (h : Wakes M Γ p g r s res s') : Up s s' := by
  unfold Wakes at h
  split at h
  · exact h.elim
  · split at h
    · obtain ⟨e, s₁, h1, _, _, rfl⟩ := h; have u := runs_up h1; exact ⟨u.1, u.2⟩
    · obtain ⟨_, rfl⟩ := h; exact Up.refl _
    · obtain ⟨_, rfl⟩ := h; exact Up.refl _
  · obtain ⟨e, s₁, h1, _, _, rfl⟩ := h; have u := runs_up h1; exact ⟨u.1, u.2⟩
  · obtain ⟨_, rfl⟩ := h; exact Up.refl _
  · obtain ⟨_, rfl⟩ := h; exact Up.refl _
theorem wp_up {α : Type} {M : Model} {Γ : Ctx} {t : Sem α} : ∀ {Q : α → Pos → Shared → Prop} {E : Value → Pos → Shared → Prop} {p : Pos} {s s₀ : Shared}, Up s₀ s →
    Sem.wp M Γ t (fun a p' s' => Up s₀ s' → Q a p' s') (fun e p' s' => Up s₀ s' → E e p' s') p s → Sem.wp M Γ t Q E p s := by
  induction t with
  | pure a => intro Q E p s s₀ u h; exact h u
  | raise e => intro Q E p s s₀ u h; exact h u
  | update a part f k ih =>
    intro Q E p s s₀ u h
    rw [Sem.wp_update] at h ⊢
    exact ⟨h.1, ih () (Up.trans u ⟨Nat.le_refl _, by show _ ≤ (s.heap.update a f).objs.size; rw [size_update]; exact Nat.le_refl _⟩) h.2⟩
  | alloc o k ih =>
    intro Q E p s s₀ u h
    rw [Sem.wp_alloc] at h ⊢
    exact ih _ (Up.trans u ⟨Nat.le_refl _, by show _ ≤ (s.heap.push o).objs.size; rw [size_push]; exact Nat.le_succ _⟩) h
  | fresh k ih =>
    intro Q E p s s₀ u h
    rw [Sem.wp_fresh] at h ⊢
    exact ih _ (Up.trans u ⟨Nat.le_succ _, Nat.le_refl _⟩) h
  | load a part k ih => intro Q E p s s₀ u h; rw [Sem.wp_load] at h ⊢; obtain ⟨o, h1, h2⟩ := h; exact ⟨o, h1, ih o u h2⟩
  | choose src n k ih => intro Q E p s s₀ u h; rw [Sem.wp_choose] at h ⊢; exact ⟨h.1, ih _ (Up.trans u (Up.refl _)) h.2⟩
  | genState g k ih => intro Q E p s s₀ u h; rw [Sem.wp_genState] at h ⊢; obtain ⟨o, h1, h2⟩ := h; exact ⟨o, h1, ih _ u h2⟩
  | call c hh g l k ih =>
    intro Q E p s s₀ u h
    rw [Sem.wp_call] at h ⊢
    obtain ⟨r, s', h1, h2⟩ := h
    exact ⟨r, s', h1, ih r (Up.trans u (runs_up h1)) h2⟩
  | resume g r l k ih =>
    intro Q E p s s₀ u h
    rw [Sem.wp_resume] at h ⊢
    obtain ⟨r, s', h1, h2⟩ := h
    exact ⟨r, s', h1, ih r (Up.trans u (wakes_up h1)) h2⟩
  | rule tag k ih => intro Q E p s s₀ u h; rw [Sem.wp_rule] at h ⊢; exact ih _ u h
  | «at» q k ih => intro Q E p s s₀ u h; rw [Sem.wp_at] at h ⊢; exact ih _ u h
  | loadIfAlive q k ih => intro Q E p s s₀ u h; rw [Sem.wp_loadIfAlive] at h ⊢; exact ih _ u h
  | point q k ih => intro Q E p s s₀ u h; rw [Sem.wp_point] at h ⊢; exact ih _ u h
  | ask k ih => intro Q E p s s₀ u h; rw [Sem.wp_ask] at h ⊢; exact ih _ u h
  | os q l k ih => intro Q E p s s₀ u h; rw [Sem.wp_os] at h ⊢; exact ih _ (Up.trans u (Up.refl _)) h
  | handled q k ih => intro Q E p s s₀ u h; rw [Sem.wp_handled] at h ⊢; exact ih _ u h
  | newGen q k ih => intro Q E p s s₀ u h; rw [Sem.wp_newGen] at h ⊢; exact ih _ (Up.trans u (Up.refl _)) h
  | stack k ih => intro Q E p s s₀ u h; rw [Sem.wp_stack] at h ⊢; exact ih _ u h
  | thread k ih => intro Q E p s s₀ u h; rw [Sem.wp_thread] at h ⊢; exact ih _ u h
  | unsupported => intro Q E p s s₀ u h; rw [Sem.wp_unsupported] at h; exact h.elim
  | finish => intro Q E p s s₀ u h; rw [Sem.wp_finish] at h; exact h.elim
  | register => intro Q E p s s₀ u h; rw [Sem.wp_register] at h; exact h.elim
  | yield => intro Q E p s s₀ u h; rw [Sem.wp_yield] at h; exact h.elim
  | fork => intro Q E p s s₀ u h; rw [Sem.wp_fork] at h; exact h.elim
  | await => intro Q E p s s₀ u h; rw [Sem.wp_await] at h; exact h.elim
theorem any_up {α : Type} {M : Model} {A : Around} {t : Sem α} {Q : α → Shared → Prop} {E : Value → Shared → Prop} {s : Shared}
    (h : wpAny M A t (fun a s' => Up s s' → Q a s') (fun e s' => Up s s' → E e s') s) : wpAny M A t Q E s :=
  fun Γ p hΓ => wp_up (Up.refl s) (h Γ p hΓ)
end Mine

namespace Mine
def Halt (P : Prop) : Prop := P
theorem Halt.go {P : Prop} (h : Halt P) : P := h
theorem genToks {α : Type} {M : Model} {A : Around} {t : Sem α} {Q : α → Shared → Prop} {E : Value → Shared → Prop} {hp : Heap} {g : Array GenState} {d : Drawn} {a b : Nat} {os : OsState}
    (h : ∀ k, 0 < k → wpAny M A t Q E ⟨hp, g, d, k, os⟩) (hpos : 0 < a + b) : wpAny M A t Q E ⟨hp, g, d, a + b, os⟩ := h _ hpos
end Mine

namespace Mine
theorem never {α : Type} {M : Model} {A : Around} {t : Sem α} {Q : α → Shared → Prop} {E : Value → Shared → Prop} {s : Shared} (h : wpAny M A t Q (fun _ _ => False) s) : wpAny M A t Q E s :=
  wpAny_mono h (fun _ _ x => x) fun _ _ x => x.elim
theorem fr_eq {h₀ h : Heap} {L : Addr} {m m' : PySem.Str → Option Value} (F : Fr h₀ L h m) (e : ∀ y, m y = m' y) : Fr h₀ L h m' := (funext e : m = m') ▸ F
theorem news_sub {h₀ h : Heap} {L : Addr} {n n' : List (Addr × Obj)} (N : News h₀ L h n) (e : ∀ p ∈ n', p ∈ n) : News h₀ L h n' := fun p hp => N p (e p hp)

def StepSt {σ : Type} (h₀ : Heap) (L : Addr) (fm : σ → PySem.Str → Option Value) (lg : σ → List (Addr × Obj)) (J : σ → Prop) (μ : σ → Nat) (x : σ) (s : Shared) (Q : Flow → Shared → Prop) (f : Flow) (s₃ : Shared) : Prop :=
  match f with
  | .next | .cont => ∃ y h' tk, s₃ = { s with heap := h', toks := tk } ∧ Fr h₀ L h' (fm y) ∧ News h₀ L h' (lg y) ∧ J y ∧ μ y < μ x
  | .brk => Q .next s₃
  | .ret v => Q (.ret v) s₃
theorem StepSt.next {σ : Type} {h₀ : Heap} {L : Addr} {fm : σ → PySem.Str → Option Value} {lg : σ → List (Addr × Obj)} {J : σ → Prop} {μ : σ → Nat} {x : σ} {s : Shared} {Q : Flow → Shared → Prop} (y : σ) {h' : Heap} {tk : Nat}
    (F : Fr h₀ L h' (fm y)) (N : News h₀ L h' (lg y)) (hJ : J y) (hm : μ y < μ x) : StepSt h₀ L fm lg J μ x s Q .next { s with heap := h', toks := tk } := ⟨y, h', tk, rfl, F, N, hJ, hm⟩

theorem While_st {σ : Type} {prog : Program} {w : World} {A : Around} {E : Value → Shared → Prop} {Q : Flow → Shared → Prop} {s : Shared} {env : Env} {h₀ : Heap} {L : Addr} {test : Expr} {body : List Stmt} {pos : Pos}
    (fm : σ → PySem.Str → Option Value) (lg : σ → List (Addr × Obj)) (J : σ → Prop) (μ : σ → Nat) (x₀ : σ)
    (hpos : 0 < s.toks) (F : Fr h₀ L s.heap (fm x₀)) (N : News h₀ L s.heap (lg x₀)) (hJ : J x₀)
    (turn : ∀ x h₁ tk₁, 0 < tk₁ → J x → Fr h₀ L h₁ (fm x) → News h₀ L h₁ (lg x) → s.heap.objs.size ≤ h₁.objs.size →
      wpAny (model prog w) A (isTrue test env (eval test env)) (fun b s₂ =>
        if b = true then wpAny (model prog w) A (execs body env) (StepSt h₀ L fm lg J μ x s Q) E s₂ else Q .next s₂) E { s with heap := h₁, toks := tk₁ })
    (hE : PassesOwn (model prog w) A env E := by passes_own) :
    wpAny (model prog w) A (exec (.While test body [] pos) env) Q E s := by
  refine wpAny_While (codeAny_whileLoop (fun n s' => ∃ x h₁ tk₁, s' = { s with heap := h₁, toks := tk₁ } ∧ 0 < tk₁ ∧ J x ∧ Fr h₀ L h₁ (fm x) ∧ News h₀ L h₁ (lg x) ∧ s.heap.objs.size ≤ h₁.objs.size ∧ μ x = n) ?_ (μ x₀) ⟨x₀, s.heap, s.toks, rfl, hpos, hJ, F, N, Nat.le_refl _, rfl⟩)
  rintro n s' ⟨x, h₁, tk₁, rfl, p₁, J₁, F₁, N₁, z₁, rfl⟩
  refine any_up (wpAny_mono (turn x h₁ tk₁ p₁ J₁ F₁ N₁ z₁) (fun b s₂ h₂ up => ?_) fun e s₂ h₂ up => hE e s₂ h₂)
  cases b with
  | false =>
    simp only [Bool.false_eq_true, if_false] at h₂ ⊢
    exact wpAny_execs_nil h₂
  | true =>
    simp only [if_true] at h₂ ⊢
    refine any_up (wpAny_mono h₂ (fun f s₃ h₃ up₃ => ?_) fun e s₂ h₂ up => hE e s₂ h₂)
    have up' := up.trans up₃
    have key : (∃ y h' tk, s₃ = { s with heap := h', toks := tk } ∧ Fr h₀ L h' (fm y) ∧ News h₀ L h' (lg y) ∧ J y ∧ μ y < μ x) →
        ∃ m, m < μ x ∧ ∃ x h₁ tk₁, s₃ = { s with heap := h₁, toks := tk₁ } ∧ 0 < tk₁ ∧ J x ∧ Fr h₀ L h₁ (fm x) ∧ News h₀ L h₁ (lg x) ∧ s.heap.objs.size ≤ h₁.objs.size ∧ μ x = m := by
      rintro ⟨y, h', tk, rfl, F₂, N₂, J₂, hm⟩
      have u1 : tk₁ ≤ tk := up'.1
      have u2 : h₁.objs.size ≤ h'.objs.size := up'.2
      exact ⟨μ y, hm, y, h', tk, rfl, by omega, J₂, F₂, N₂, by omega, rfl⟩
    cases f with
    | next => exact key h₃
    | cont => exact key h₃
    | brk => exact h₃
    | ret v => exact h₃
end Mine

namespace Mine
def ForSt {σ : Type} (h₀ : Heap) (L : Addr) (fm : σ → PySem.Str → Option Value) (lg : σ → List (Addr × Obj)) (own : List (Addr × Obj)) (J : σ → Prop) (s : Shared) (Q : Flow → Shared → Prop) (f : Flow) (s₃ : Shared) : Prop :=
  match f with
  | .next | .cont => ∃ y h' tk, s₃ = { s with heap := h', toks := tk } ∧ Fr h₀ L h' (fm y) ∧ News h₀ L h' (lg y ++ own) ∧ J y
  | .brk => Q .next s₃
  | .ret v => Q (.ret v) s₃
theorem ForSt.next {σ : Type} {h₀ : Heap} {L : Addr} {fm : σ → PySem.Str → Option Value} {lg : σ → List (Addr × Obj)} {own : List (Addr × Obj)} {J : σ → Prop} {s : Shared} {Q : Flow → Shared → Prop} (y : σ) {h' : Heap} {tk : Nat}
    (F : Fr h₀ L h' (fm y)) (N : News h₀ L h' (lg y ++ own)) (hJ : J y) : ForSt h₀ L fm lg own J s Q .next { s with heap := h', toks := tk } := ⟨y, h', tk, rfl, F, N, hJ⟩
abbrev forR (M : Model) (A : Around) (env : Env) (Q : Flow → Shared → Prop) (E : Value → Shared → Prop) : Result → Shared → Prop := fun r s' => match r with | .ok f => Q f s' | .error e => cameBackBy M A env E e s'

theorem forLoop_st {σ : Type} {prog : Program} {w : World} {A : Around} {E : Value → Shared → Prop} {Q : Flow → Shared → Prop} {s : Shared} {env : Env} {h₀ : Heap} {x : PySem.Str} {px : Pos} {body : List Stmt} {I : Addr} {fp wr : List Addr} {n : Nat} {P : Nat → Value → Prop} {St : Nat → Heap → Prop}
    (fm : σ → PySem.Str → Option Value) (lg : σ → List (Addr × Obj)) (J : Nat → σ → Prop) (x₀ : σ)
    (W : Walks prog w A I fp wr n P St) (hx : env.kindOf x = some .local) (hp : (env.scope.kind == .class || (env.scope.kind == .module && env.locals != env.globals)) = false)
    (hLf : env.locals ∉ fp) (hwr : ∀ b ∈ wr, h₀.get? b = none) (hoff : ∀ i y, J i y → ∀ p ∈ lg y, p.1 ∉ wr)
    (hst : St 0 s.heap) (hpos : 0 < s.toks) (F : Fr h₀ env.locals s.heap (fm x₀)) (N : News h₀ env.locals s.heap (lg x₀)) (h0 : J 0 x₀)
    (turn : ∀ i v y h tk own, 0 < tk → i < n → P i v → J i y → (∀ p ∈ own, p.1 ∈ fp) → Fr h₀ env.locals h (fun z => if z = x then some v else fm y z) → News h₀ env.locals h (lg y ++ own) → s.heap.objs.size ≤ h.objs.size →
      wpAny (model prog w) A (execs body env) (ForSt h₀ env.locals fm lg own (J (i + 1)) s Q) E { s with heap := h, toks := tk })
    (done : ∀ y h tk, 0 < tk → J n y → Fr h₀ env.locals h (fm y) → News h₀ env.locals h (lg y) → s.heap.objs.size ≤ h.objs.size → Q .next { s with heap := h, toks := tk })
    (hE : PassesOwn (model prog w) A env E := by passes_own) :
    codeAny (model prog w) A (.forLoop (.Name x px) (.ref I) body [] env) (forR (model prog w) A env Q E) s := by
  have hLw : env.locals ∉ wr := fun h => hLf (W.sub _ h)
  have old : ∀ b o, h₀.get? b = some o → b ∉ wr := fun b o e hb => by rw [hwr b hb] at e; cases e
  refine codeAny_forLoop
    (fun k s' => ∃ y h' tk i, s' = { s with heap := h', toks := tk } ∧ 0 < tk ∧ s.heap.objs.size ≤ h'.objs.size ∧ St i h' ∧ Fr h₀ env.locals h' (fm y) ∧ News h₀ env.locals h' (lg y) ∧ J i y ∧ i ≤ n ∧ k = n + 1 - i) ?_ (n + 1)
    ⟨x₀, s.heap, s.toks, 0, rfl, hpos, Nat.le_refl _, hst, F, N, h0, Nat.zero_le _, rfl⟩
  rintro k s' ⟨y, h', tk, i, rfl, ptk, sz, hst', F', N', hJ, hi, rfl⟩
  have next : ∀ h₁ : Heap, (∀ b o, b ∉ wr → h'.get? b = some o → h₁.get? b = some o) → Fr h₀ env.locals h₁ (fm y) ∧ News h₀ env.locals h₁ (lg y) := fun h₁ hk₁ =>
    ⟨⟨F'.ns.at' fun o e => hk₁ _ o hLw e, fun b o e => hk₁ b o (old b o e) (F'.keep b o e), F'.above⟩, fun p hp => ⟨hk₁ _ _ (hoff i y hJ p hp) (N' p hp).1, (N' p hp).2⟩⟩
  by_cases hlt : i < n
  · refine any_up (W.item i _ _ _ hlt hst' fun v h₁ tk₁ hP hst₁ hk₁ up => ?_)
    obtain ⟨F₁, N₁⟩ := next h₁ hk₁
    refine wpAny_assign_Name (any_up (wpAny_storeName_local hx F₁.ns (fun h₂ hn₂ hs₂ up₂ => ?_) hp))
    have F₂ := F₁.set hn₂ hs₂
    have u1 : tk ≤ tk₁ := up.1
    have u2 : h'.objs.size ≤ h₁.objs.size := up.2
    have u3 : h₁.objs.size ≤ h₂.objs.size := up₂.2
    have Nown : News h₀ env.locals h₂ (ownOf h₀ fp h₂) := news_ownOf hLf
    refine any_up (wpAny_mono (turn i v y h₂ (tk₁ + 1) (ownOf h₀ fp h₂) (by omega) hlt hP hJ ownOf_sub F₂ ((N₁.set hs₂).append Nown) (by omega)) (fun f s₃ h₃ up₃ => ?_) fun e s₂ h₂ _ => hE e s₂ h₂)
    have key : (∃ y h' tk, s₃ = { s with heap := h', toks := tk } ∧ Fr h₀ env.locals h' (fm y) ∧ News h₀ env.locals h' (lg y ++ ownOf h₀ fp h₂) ∧ J (i + 1) y) →
        ∃ m, m < n + 1 - i ∧ ∃ y h' tk i, s₃ = { s with heap := h', toks := tk } ∧ 0 < tk ∧ s.heap.objs.size ≤ h'.objs.size ∧ St i h' ∧ Fr h₀ env.locals h' (fm y) ∧ News h₀ env.locals h' (lg y) ∧ J i y ∧ i ≤ n ∧ m = n + 1 - i := by
      rintro ⟨y', h₃', tk₃, rfl, F₃, N₃, hJ₃⟩
      have v1 : tk₁ + 1 ≤ tk₃ := up₃.1
      have v2 : h₂.objs.size ≤ h₃'.objs.size := up₃.2
      refine ⟨n + 1 - (i + 1), by omega, y', h₃', tk₃, i + 1, rfl, by omega, by omega, ?_, F₃, fun p hp => N₃ p (List.mem_append_left _ hp), hJ₃, hlt, rfl⟩
      refine W.frame _ _ _ hst₁ fun b hb o e => ?_
      have e₂ : h₂.get? b = some o := (hs₂.2 b fun q => hLf (q ▸ hb)).trans e
      cases hn : h₀.get? b with
      | some o₀ =>
        have : o₀ = o := by have := F₂.keep b o₀ hn; rw [e₂] at this; exact (Option.some.inj this).symm
        exact this ▸ F₃.keep b o₀ hn
      | none => exact (N₃ _ (List.mem_append_right _ (mem_ownOf hb hn e₂))).1
    cases f with
    | next => exact key h₃
    | cont => exact key h₃
    | brk => exact h₃
    | ret v => exact h₃
  · have hin : i = n := by omega
    subst hin
    refine any_up (W.done _ _ _ hst' fun h₁ tk₁ hk₁ up => wpAny_execs_nil ?_)
    obtain ⟨F₁, N₁⟩ := next h₁ hk₁
    have u1 : tk ≤ tk₁ := up.1
    have u2 : h'.objs.size ≤ h₁.objs.size := up.2
    exact done y h₁ tk₁ (by omega) hJ F₁ N₁ (by omega)

section
variable {σ : Type} {prog : Program} {w : World} {A : Around} {E : Value → Shared → Prop} {Q : Flow → Shared → Prop} {s : Shared} {env : Env} {h₀ : Heap} {x : PySem.Str} {px : Pos} {body : List Stmt}

theorem iterList_st {l : Addr} {vs : List Value} (fm : σ → PySem.Str → Option Value) (lg : σ → List (Addr × Obj)) (J : Nat → σ → Prop) (x₀ : σ)
    (hl : s.heap.IsList l vs.toArray) (hh : A.handled = none) (hx : env.kindOf x = some .local) (hp : (env.scope.kind == .class || (env.scope.kind == .module && env.locals != env.globals)) = false)
    (hloc : l ≠ env.locals) (hpos : 0 < s.toks) (F : Fr h₀ env.locals s.heap (fm x₀)) (N : News h₀ env.locals s.heap (lg x₀)) (h0 : J 0 x₀)
    (hoff : ∀ i y, J i y → ∀ p ∈ lg y, p.1 ≠ s.heap.objs.size)
    (turn : ∀ i v y h tk own, 0 < tk → vs[i]? = some v → J i y → (∀ p ∈ own, p.1 = s.heap.objs.size ∨ p.1 = l) → Fr h₀ env.locals h (fun z => if z = x then some v else fm y z) → News h₀ env.locals h (lg y ++ own) → s.heap.objs.size < h.objs.size →
      wpAny (model prog w) A (execs body env) (ForSt h₀ env.locals fm lg own (J (i + 1)) s Q) E { s with heap := h, toks := tk })
    (done : ∀ y h tk, 0 < tk → J vs.length y → Fr h₀ env.locals h (fm y) → News h₀ env.locals h (lg y) → s.heap.objs.size < h.objs.size → Q .next { s with heap := h, toks := tk })
    (hE : PassesOwn (model prog w) A env E := by passes_own) :
    wpAny (model prog w) A (pyIter (.ref l)) (fun it s₂ => codeAny (model prog w) A (.forLoop (.Name x px) it body [] env) (forR (model prog w) A env Q E) s₂) E s := by
  obtain ⟨ol, hol, hlr⟩ := id hl
  have hlt : l < s.heap.objs.size := Heap.lt_size hol
  have hne : l ≠ s.heap.objs.size := Nat.ne_of_lt hlt
  refine wpAny_pyIter_list hl ?_
  have W := Walks.list (prog := prog) (w := w) hh s.heap.objs.size l hne vs.toArray
  rw [List.size_toArray] at W
  refine forLoop_st fm lg J x₀ W hx hp ?_ ?_ ?_ ⟨⟨_, Heap.get?_push_size _ rfl, rfl, rfl⟩, hl.at fun o e => Heap.get?_push_of_some _ e⟩ hpos (F.push _) (fun p hp => ⟨Heap.get?_push_of_some _ (N p hp).1, (N p hp).2⟩) h0 ?_ ?_ hE
  · intro hm
    rcases List.mem_cons.mp hm with e | hm
    · exact absurd F.ns.lt (e ▸ Nat.lt_irrefl _)
    · exact hloc (List.mem_singleton.mp hm).symm
  · intro b hb
    rw [List.mem_singleton.mp hb]
    exact next_is_new F
  · intro i y hJ p hp hI
    exact hoff i y hJ p hp (List.mem_singleton.mp hI)
  · intro i v y h tk own p1 hi hP hJ ho F₁ N₁ sz
    exact turn i v y h tk own p1 (by simpa using hP) hJ (fun p hp => by rcases List.mem_cons.mp (ho p hp) with e | e; exact .inl e; exact .inr (List.mem_singleton.mp e)) F₁ N₁ (by have : (s.heap.push _).objs.size ≤ h.objs.size := sz; rw [size_push] at this; omega)
  · intro y h tk p1 hJ F₁ N₁ sz
    exact done y h tk p1 hJ F₁ N₁ (by have : (s.heap.push _).objs.size ≤ h.objs.size := sz; rw [size_push] at this; omega)
end
end Mine

namespace Mine
section
variable {σ : Type} {prog : Program} {w : World} {A : Around} {E : Value → Shared → Prop} {Q : Flow → Shared → Prop} {s : Shared} {env : Env} {h₀ : Heap} {x : PySem.Str} {px : Pos} {body : List Stmt}
theorem iterKeys_st {d : Addr} {D : List (PyData × PyData)} (fm : σ → PySem.Str → Option Value) (lg : σ → List (Addr × Obj)) (J : Nat → σ → Prop) (x₀ : σ)
    (T : StrTab prog w s.heap d D) (hh : A.handled = none) (hx : env.kindOf x = some .local) (hp : (env.scope.kind == .class || (env.scope.kind == .module && env.locals != env.globals)) = false)
    (hloc : d ≠ env.locals) (hpos : 0 < s.toks) (F : Fr h₀ env.locals s.heap (fm x₀)) (N : News h₀ env.locals s.heap (lg x₀)) (h0 : J 0 x₀)
    (hoff : ∀ i y, J i y → ∀ p ∈ lg y, p.1 ≠ s.heap.objs.size)
    (turn : ∀ i k dv t y h tk own, 0 < tk → D[i]? = some (.str k, dv) → J i y → (∀ p ∈ own, p.1 = s.heap.objs.size ∨ p.1 = d) → Fr h₀ env.locals h (fun z => if z = x then some (.str k t) else fm y z) → News h₀ env.locals h (lg y ++ own) → s.heap.objs.size < h.objs.size →
      wpAny (model prog w) A (execs body env) (ForSt h₀ env.locals fm lg own (J (i + 1)) s Q) E { s with heap := h, toks := tk })
    (done : ∀ y h tk, 0 < tk → J D.length y → Fr h₀ env.locals h (fm y) → News h₀ env.locals h (lg y) → s.heap.objs.size < h.objs.size → Q .next { s with heap := h, toks := tk })
    (hE : PassesOwn (model prog w) A env E := by passes_own) :
    wpAny (model prog w) A (pyIter (.ref d)) (fun it s₂ => codeAny (model prog w) A (.forLoop (.Name x px) it body [] env) (forR (model prog w) A env Q E) s₂) E s := by
  obtain ⟨lo, kvs, hdo, hf⟩ := id T
  obtain ⟨ep, hat⟩ := hdo.dictAt
  have hne : d ≠ s.heap.objs.size := Nat.ne_of_lt hat.lt_size
  refine wpAny_pyIter_dict lo hat ?_
  have W := Walks.dictKeys (prog := prog) (w := w) (knd := PySem.strKind prog w) hh s.heap.objs.size d hne kvs ep
  have hlen : kvs.length = D.length := hf.length.symm
  rw [hlen] at W
  refine forLoop_st fm lg J x₀ W hx hp ?_ ?_ ?_ ⟨⟨_, Heap.get?_push_size _ rfl, rfl, by rw [hlen]; rfl⟩, hat.push _⟩ hpos (F.push _) (fun p hp => ⟨Heap.get?_push_of_some _ (N p hp).1, (N p hp).2⟩) h0 ?_ ?_ hE
  · intro hm
    rcases List.mem_cons.mp hm with e | hm
    · exact absurd F.ns.lt (e ▸ Nat.lt_irrefl _)
    · exact hloc (List.mem_singleton.mp hm).symm
  · intro b hb
    rw [List.mem_singleton.mp hb]
    exact next_is_new F
  · intro i y hJ p hp hI
    exact hoff i y hJ p hp (List.mem_singleton.mp hI)
  · rintro i v y h tk own p1 hi ⟨k, xv, hx', hkey⟩ hJ ho F₁ N₁ sz
    obtain ⟨dv, hD, _⟩ := hf.at hx'
    obtain ⟨t, rfl⟩ := Value.isStrOf_shape hkey
    exact turn i k dv t y h tk own p1 hD hJ (fun p hp => by rcases List.mem_cons.mp (ho p hp) with e | e; exact .inl e; exact .inr (List.mem_singleton.mp e)) F₁ N₁ (by have : (s.heap.push _).objs.size ≤ h.objs.size := sz; rw [size_push] at this; omega)
  · intro y h tk p1 hJ F₁ N₁ sz
    exact done y h tk p1 hJ F₁ N₁ (by have : (s.heap.push _).objs.size ≤ h.objs.size := sz; rw [size_push] at this; omega)
theorem iterRange_st {r : Addr} {n : Nat} {t₀ u₀ v₀ : Tok} (fm : σ → PySem.Str → Option Value) (lg : σ → List (Addr × Obj)) (J : Nat → σ → Prop) (x₀ : σ)
    (hr : IsRange s.heap r 0 n 1 t₀ u₀ v₀) (hsmall : Builtin.Range.small 0 n 1 = true) (hn : Builtin.Range.rangeSize 0 n 1 = (n : Int)) (hh : A.handled = none) (hx : env.kindOf x = some .local) (hp : (env.scope.kind == .class || (env.scope.kind == .module && env.locals != env.globals)) = false)
    (hpos : 0 < s.toks) (F : Fr h₀ env.locals s.heap (fm x₀)) (N : News h₀ env.locals s.heap (lg x₀)) (h0 : J 0 x₀)
    (hoff : ∀ i y, J i y → ∀ p ∈ lg y, p.1 ≠ s.heap.objs.size)
    (turn : ∀ (i : Nat) t y h tk own, 0 < tk → i < n → J i y → (∀ p ∈ own, p.1 = s.heap.objs.size) → Fr h₀ env.locals h (fun z => if z = x then some (.int i t) else fm y z) → News h₀ env.locals h (lg y ++ own) → s.heap.objs.size < h.objs.size →
      wpAny (model prog w) A (execs body env) (ForSt h₀ env.locals fm lg own (J (i + 1)) s Q) E { s with heap := h, toks := tk })
    (done : ∀ y h tk, 0 < tk → J n y → Fr h₀ env.locals h (fm y) → News h₀ env.locals h (lg y) → s.heap.objs.size < h.objs.size → Q .next { s with heap := h, toks := tk })
    (hE : PassesOwn (model prog w) A env E := by passes_own) :
    wpAny (model prog w) A (pyIter (.ref r)) (fun it s₂ => codeAny (model prog w) A (.forLoop (.Name x px) it body [] env) (forR (model prog w) A env Q E) s₂) E s := by
  refine wpAny_pyIter_range hr hsmall ?_
  have W := Walks.range (prog := prog) (w := w) hh s.heap.objs.size 0 1 n
  refine forLoop_st fm lg J x₀ W hx hp ?_ ?_ ?_ (by show IsRangeIter _ _ _ _ _; rw [hn]; simpa using Heap.get?_push_size _ rfl) hpos (F.push _) (fun p hp => ⟨Heap.get?_push_of_some _ (N p hp).1, (N p hp).2⟩) h0 ?_ ?_ hE
  · intro hm
    exact absurd F.ns.lt ((List.mem_singleton.mp hm) ▸ Nat.lt_irrefl _)
  · intro b hb
    rw [List.mem_singleton.mp hb]
    exact next_is_new F
  · intro i y hJ p hp hI
    exact hoff i y hJ p hp (List.mem_singleton.mp hI)
  · rintro i v y h tk own p1 hi ⟨t, rfl⟩ hJ ho F₁ N₁ sz
    have e : (0 : Int) + (i : Int) * 1 = (i : Int) := by omega
    rw [e] at F₁
    exact turn i t y h tk own p1 hi hJ (fun p hp => List.mem_singleton.mp (ho p hp)) F₁ N₁ (by have : (s.heap.push _).objs.size ≤ h.objs.size := sz; rw [size_push] at this; omega)
  · intro y h tk p1 hJ F₁ N₁ sz
    exact done y h tk p1 hJ F₁ N₁ (by have : (s.heap.push _).objs.size ≤ h.objs.size := sz; rw [size_push] at this; omega)
end
end Mine

namespace Mine
theorem forLoop_st2 {σ : Type} {prog : Program} {w : World} {A : Around} {E : Value → Shared → Prop} {Q : Flow → Shared → Prop} {s : Shared} {env : Env} {h₀ : Heap} {x : PySem.Str} {px : Pos} {body : List Stmt} {I : Addr} {fp wr : List Addr} {n : Nat} {P : Nat → Value → Prop} {St : Nat → Heap → Prop}
    (fm : σ → PySem.Str → Option Value) (lg : σ → List (Addr × Obj)) (J : Nat → σ → Prop) (x₀ : σ)
    (W : Walks prog w A I fp wr n P St) (hx : env.kindOf x = some .local) (hp : (env.scope.kind == .class || (env.scope.kind == .module && env.locals != env.globals)) = false)
    (hLf : env.locals ∉ fp) (hwr : ∀ b ∈ wr, h₀.get? b = none) (hoff : ∀ i y, J i y → ∀ p ∈ lg y, p.1 ∉ wr) (hIs : ∀ i h, St i h → ∃ o, h.get? I = some o) (hIf : I ∈ fp) (hIw : I ∈ wr)
    (hst : St 0 s.heap) (hpos : 0 < s.toks) (F : Fr h₀ env.locals s.heap (fm x₀)) (N : News h₀ env.locals s.heap (lg x₀)) (h0 : J 0 x₀)
    (turn : ∀ i v y h tk own, 0 < tk → i < n → P i v → J i y → (∀ p ∈ own, p.1 ∈ fp) → (∃ o, (I, o) ∈ own) → Fr h₀ env.locals h (fun z => if z = x then some v else fm y z) → News h₀ env.locals h (lg y ++ own) → s.heap.objs.size ≤ h.objs.size →
      wpAny (model prog w) A (execs body env) (ForSt h₀ env.locals fm lg own (J (i + 1)) s Q) E { s with heap := h, toks := tk })
    (done : ∀ y h tk, 0 < tk → J n y → Fr h₀ env.locals h (fm y) → News h₀ env.locals h (lg y) → s.heap.objs.size ≤ h.objs.size → Q .next { s with heap := h, toks := tk })
    (hE : PassesOwn (model prog w) A env E := by passes_own) :
    codeAny (model prog w) A (.forLoop (.Name x px) (.ref I) body [] env) (forR (model prog w) A env Q E) s := by
  have hLw : env.locals ∉ wr := fun h => hLf (W.sub _ h)
  have old : ∀ b o, h₀.get? b = some o → b ∉ wr := fun b o e hb => by rw [hwr b hb] at e; cases e
  refine codeAny_forLoop
    (fun k s' => ∃ y h' tk i, s' = { s with heap := h', toks := tk } ∧ 0 < tk ∧ s.heap.objs.size ≤ h'.objs.size ∧ St i h' ∧ Fr h₀ env.locals h' (fm y) ∧ News h₀ env.locals h' (lg y) ∧ J i y ∧ i ≤ n ∧ k = n + 1 - i) ?_ (n + 1)
    ⟨x₀, s.heap, s.toks, 0, rfl, hpos, Nat.le_refl _, hst, F, N, h0, Nat.zero_le _, rfl⟩
  rintro k s' ⟨y, h', tk, i, rfl, ptk, sz, hst', F', N', hJ, hi, rfl⟩
  have next : ∀ h₁ : Heap, (∀ b o, b ∉ wr → h'.get? b = some o → h₁.get? b = some o) → Fr h₀ env.locals h₁ (fm y) ∧ News h₀ env.locals h₁ (lg y) := fun h₁ hk₁ =>
    ⟨⟨F'.ns.at' fun o e => hk₁ _ o hLw e, fun b o e => hk₁ b o (old b o e) (F'.keep b o e), F'.above⟩, fun p hp => ⟨hk₁ _ _ (hoff i y hJ p hp) (N' p hp).1, (N' p hp).2⟩⟩
  by_cases hlt : i < n
  · refine any_up (W.item i _ _ _ hlt hst' fun v h₁ tk₁ hP hst₁ hk₁ up => ?_)
    obtain ⟨F₁, N₁⟩ := next h₁ hk₁
    refine wpAny_assign_Name (any_up (wpAny_storeName_local hx F₁.ns (fun h₂ hn₂ hs₂ up₂ => ?_) hp))
    have F₂ := F₁.set hn₂ hs₂
    have u1 : tk ≤ tk₁ := up.1
    have u2 : h'.objs.size ≤ h₁.objs.size := up.2
    have u3 : h₁.objs.size ≤ h₂.objs.size := up₂.2
    have hIo : ∃ o, (I, o) ∈ ownOf h₀ fp h₂ := by
      obtain ⟨o, eo⟩ := hIs _ _ hst₁
      exact ⟨o, mem_ownOf hIf (hwr I hIw) ((hs₂.2 I fun q => hLf (q ▸ hIf)).trans eo)⟩
    have Nown : News h₀ env.locals h₂ (ownOf h₀ fp h₂) := news_ownOf hLf
    refine any_up (wpAny_mono (turn i v y h₂ (tk₁ + 1) (ownOf h₀ fp h₂) (by omega) hlt hP hJ ownOf_sub hIo F₂ ((N₁.set hs₂).append Nown) (by omega)) (fun f s₃ h₃ up₃ => ?_) fun e s₂ h₂ _ => hE e s₂ h₂)
    have key : (∃ y h' tk, s₃ = { s with heap := h', toks := tk } ∧ Fr h₀ env.locals h' (fm y) ∧ News h₀ env.locals h' (lg y ++ ownOf h₀ fp h₂) ∧ J (i + 1) y) →
        ∃ m, m < n + 1 - i ∧ ∃ y h' tk i, s₃ = { s with heap := h', toks := tk } ∧ 0 < tk ∧ s.heap.objs.size ≤ h'.objs.size ∧ St i h' ∧ Fr h₀ env.locals h' (fm y) ∧ News h₀ env.locals h' (lg y) ∧ J i y ∧ i ≤ n ∧ m = n + 1 - i := by
      rintro ⟨y', h₃', tk₃, rfl, F₃, N₃, hJ₃⟩
      have v1 : tk₁ + 1 ≤ tk₃ := up₃.1
      have v2 : h₂.objs.size ≤ h₃'.objs.size := up₃.2
      refine ⟨n + 1 - (i + 1), by omega, y', h₃', tk₃, i + 1, rfl, by omega, by omega, ?_, F₃, fun p hp => N₃ p (List.mem_append_left _ hp), hJ₃, hlt, rfl⟩
      refine W.frame _ _ _ hst₁ fun b hb o e => ?_
      have e₂ : h₂.get? b = some o := (hs₂.2 b fun q => hLf (q ▸ hb)).trans e
      cases hn : h₀.get? b with
      | some o₀ =>
        have : o₀ = o := by have := F₂.keep b o₀ hn; rw [e₂] at this; exact (Option.some.inj this).symm
        exact this ▸ F₃.keep b o₀ hn
      | none => exact (N₃ _ (List.mem_append_right _ (mem_ownOf hb hn e₂))).1
    cases f with
    | next => exact key h₃
    | cont => exact key h₃
    | brk => exact h₃
    | ret v => exact h₃
  · have hin : i = n := by omega
    subst hin
    refine any_up (W.done _ _ _ hst' fun h₁ tk₁ hk₁ up => wpAny_execs_nil ?_)
    obtain ⟨F₁, N₁⟩ := next h₁ hk₁
    have u1 : tk ≤ tk₁ := up.1
    have u2 : h'.objs.size ≤ h₁.objs.size := up.2
    exact done y h₁ tk₁ (by omega) hJ F₁ N₁ (by omega)

section
variable {σ : Type} {prog : Program} {w : World} {A : Around} {E : Value → Shared → Prop} {Q : Flow → Shared → Prop} {s : Shared} {env : Env} {h₀ : Heap} {x : PySem.Str} {px : Pos} {body : List Stmt}

theorem iterList_st2 {l : Addr} {vs : List Value} (fm : σ → PySem.Str → Option Value) (lg : σ → List (Addr × Obj)) (J : Nat → σ → Prop) (x₀ : σ)
    (hl : s.heap.IsList l vs.toArray) (hh : A.handled = none) (hx : env.kindOf x = some .local) (hp : (env.scope.kind == .class || (env.scope.kind == .module && env.locals != env.globals)) = false)
    (hloc : l ≠ env.locals) (hpos : 0 < s.toks) (F : Fr h₀ env.locals s.heap (fm x₀)) (N : News h₀ env.locals s.heap (lg x₀)) (h0 : J 0 x₀)
    (hoff : ∀ i y, J i y → ∀ p ∈ lg y, p.1 ≠ s.heap.objs.size)
    (turn : ∀ i v y h tk own, 0 < tk → vs[i]? = some v → J i y → (∀ p ∈ own, p.1 = s.heap.objs.size ∨ p.1 = l) → (∃ o, (s.heap.objs.size, o) ∈ own) → Fr h₀ env.locals h (fun z => if z = x then some v else fm y z) → News h₀ env.locals h (lg y ++ own) → s.heap.objs.size < h.objs.size →
      wpAny (model prog w) A (execs body env) (ForSt h₀ env.locals fm lg own (J (i + 1)) s Q) E { s with heap := h, toks := tk })
    (done : ∀ y h tk, 0 < tk → J vs.length y → Fr h₀ env.locals h (fm y) → News h₀ env.locals h (lg y) → s.heap.objs.size < h.objs.size → Q .next { s with heap := h, toks := tk })
    (hE : PassesOwn (model prog w) A env E := by passes_own) :
    wpAny (model prog w) A (pyIter (.ref l)) (fun it s₂ => codeAny (model prog w) A (.forLoop (.Name x px) it body [] env) (forR (model prog w) A env Q E) s₂) E s := by
  obtain ⟨ol, hol, hlr⟩ := id hl
  have hlt : l < s.heap.objs.size := Heap.lt_size hol
  have hne : l ≠ s.heap.objs.size := Nat.ne_of_lt hlt
  refine wpAny_pyIter_list hl ?_
  have W := Walks.list (prog := prog) (w := w) hh s.heap.objs.size l hne vs.toArray
  rw [List.size_toArray] at W
  refine forLoop_st2 fm lg J x₀ W hx hp ?_ ?_ ?_ (fun i h hst => by obtain ⟨⟨o, ho, _⟩, _⟩ := hst; exact ⟨o, ho⟩) (.head _) (.head _) ⟨⟨_, Heap.get?_push_size _ rfl, rfl, rfl⟩, hl.at fun o e => Heap.get?_push_of_some _ e⟩ hpos (F.push _) (fun p hp => ⟨Heap.get?_push_of_some _ (N p hp).1, (N p hp).2⟩) h0 ?_ ?_ hE
  · intro hm
    rcases List.mem_cons.mp hm with e | hm
    · exact absurd F.ns.lt (e ▸ Nat.lt_irrefl _)
    · exact hloc (List.mem_singleton.mp hm).symm
  · intro b hb
    rw [List.mem_singleton.mp hb]
    exact next_is_new F
  · intro i y hJ p hp hI
    exact hoff i y hJ p hp (List.mem_singleton.mp hI)
  · intro i v y h tk own p1 hi hP hJ ho hIo F₁ N₁ sz
    exact turn i v y h tk own p1 (by simpa using hP) hJ (fun p hp => by rcases List.mem_cons.mp (ho p hp) with e | e; exact .inl e; exact .inr (List.mem_singleton.mp e)) hIo F₁ N₁ (by have : (s.heap.push _).objs.size ≤ h.objs.size := sz; rw [size_push] at this; omega)
  · intro y h tk p1 hJ F₁ N₁ sz
    exact done y h tk p1 hJ F₁ N₁ (by have : (s.heap.push _).objs.size ≤ h.objs.size := sz; rw [size_push] at this; omega)
end
end Mine

namespace Mine
open Builtin Builtin.ObjectAttr in
section
variable {prog : Program} {w : World} {A : Around} {E : Value → Shared → Prop} {s : Shared} {K : Frag} {x C L f : Addr} {h₀ : Heap} {m : PySem.Str → Option Value} {ox : Obj} {od : Option Obj} {es : List DictEntry} {n : Nat} {name : PySem.Str} {v : Value} {expr : Bool}
theorem getH_own {Q : Value → Shared → Prop} {attr : Option Value} (F : Fr h₀ L s.heap m) (X₀ : K.In h₀) (I : InstAt s.heap x ox C (some (dictOf es n))) (hga : findIn K (.ref C) "__getattribute__" = some (some (.builtin "object.__getattribute__"))) (hh : hasDictIn K C = true)
    (ha : findIn K (.ref C) name = some attr) (hn : noGet K attr = true) (hl : getL name es = some (some v)) (hv : handedIn v = true) (h : Q v { s with toks := s.toks + 1 }) :
    wpAny (model prog w) A (getAttr (.ref x) name expr) Q E s :=
  get_value (X₀.keeps F.keep) I hga (findObj_own hh ha hn hl) hv h
theorem methH {pl : Sem Bool} {Q : Value × List Value → Shared → Prop} {hook : Value} (F : Fr h₀ L s.heap m) (X₀ : K.In h₀) (I : InstAt s.heap x ox C od) (hga : findIn K (.ref C) "__getattribute__" = some (some (.builtin "object.__getattribute__")))
    (hk : findIn K (.ref C) "__getattr__" = some (some hook)) (h : wpAny (model prog w) A (getAttr (.ref x) name) (fun v => Q (v, [])) E s) : wpAny (model prog w) A (getMethod (.ref x) name pl) Q E s := by
  have X := X₀.keeps F.keep
  have hcan := PySem.F.canon_object_ga
  have u : wpAny (model prog w) A (do return (← getAttr (.ref x) name, ([] : List Value))) Q E s := wpAny_bind (wpAny_mono h (fun _ _ z => wpAny_pure z) fun _ _ z => z)
  unfold getMethod specialOf
  refine wpAny_bind (wpAny_bind (I.type.here ((looks_findIn X hga).here ?_)))
  dsimp only
  rw [hcan, if_neg (by decide)]
  refine wpAny_bind (wpAny_bind (I.type.here ((looks_findIn X hk).here ?_)))
  exact u
theorem findObj_miss {o : Obj} (hh : hasDictIn K C = true) (ha : findIn K (.ref C) name = some none) (hl : lookIn name o = some none) (hc : copiedNames.contains name = false) : findObj K C (some o) name = some .missing := by
  obtain ⟨cd, hc', hd⟩ := any_some hh
  unfold findObj
  rw [hc', Option.bind_some, ha, Option.bind_some]
  have ho : W.ownOf cd (some o) name = some none := by unfold W.ownOf; rw [if_pos hd]; exact hl
  have hm : ¬ name ∈ copiedNames := fun h => by rw [List.contains_iff_mem.mpr h] at hc; cases hc
  simp [ho, hm]
theorem getH_miss {Q : Value → Shared → Prop} (F : Fr h₀ L s.heap m) (X₀ : K.In h₀) (I : InstAt s.heap x ox C (some (dictOf es n))) (hga : findIn K (.ref C) "__getattribute__" = some (some (.builtin "object.__getattribute__"))) (hh : hasDictIn K C = true)
    (ha : findIn K (.ref C) name = some none) (hl : getL name es = some none) (hc : copiedNames.contains name = false) (hk : findIn K (.ref C) "__getattr__" = some (some (.ref f))) (ht : isFn K (.ref f) = true)
    (h : wpAny (model prog w) A.in1 (call (.ref f) [.ref x, .str name s.toks]) (fun v s' => handedIn v = true ∧ Q v s') (fun _ _ => False) { s with toks := s.toks + 1 }) :
    wpAny (model prog w) A (getAttr (.ref x) name expr) Q E s := by
  have X := X₀.keeps F.keep
  refine get_open X I hga ?_
  obtain ⟨hh', g, d, t, os⟩ := s
  have L0 := I.type (M := model prog w)
  have L1 := looks_find (M := model prog w) X I (findObj_miss hh ha hl hc)
  have L2 := looks_findIn (M := model prog w) X hk
  have L3 := bind_fn (M := model prog w) X (.ref x) (beq_iff_eq.mp ht)
  refine wpAny_bind (wpAny_pure (wpAny_bind (L0.at (wpAny_bind (L1.at (wpAny_bind (L2.at ?_)))))))
  show wpAny _ _ (byHook _ _ _) _ _ _
  unfold byHook
  refine wpAny_bind (L3.at (wpAny_bind ?_))
  refine wpAny_mono h (fun v s' z => ?_) fun _ _ z => z.elim
  refine wpAny_bind (wpAny_rule (wpAny_pure ?_))
  show wpAny _ _ (handedOut v) _ _ _
  rw [handedOut_of z.1]
  exact wpAny_pure z.2
end
end Mine

namespace Mine
def Callee (o : Obj) : Prop := o.data = .plain ∨ ∃ fd, o.data = .func fd
section
open PySem.Calls
variable {M : Model} {A : Around} {E : Value → Shared → Prop} {s : Shared} {env : Env} {pos : Pos} {y : Addr} {o : Obj} {first : List Value} {Q : Value → Shared → Prop}
theorem callWith_led0 {args : List (Bool × Sem Value)} (hplain : (args.any (·.1) || ([] : List (Option PySem.Str × Sem Value)).any (·.1.isNone)) = false) (ho : Callee o)
    (h : wpAny M A (evalArgs (.ref y) true args []) (fun a s₁ => s₁.heap.get? y = some o ∧ wpAny M A (call (.ref y) (first ++ a.pos) a.kw) Q E s₁) E s) : wpAny M A (callWith pos (.ref y) first args []) Q E s := by
  rcases ho with hd | ⟨fd, hd⟩
  · unfold callWith
    refine wpAny_bind (wpAny_holding (wpAny_mono h (fun a s₁ h₁ => wpAny_bind (wpAny_standAt ?_)) fun _ _ y => y))
    have L : Looks M s₁.heap (keeperOf (.ref y)) .caller := by
      refine (Looks.ld (part := none) h₁.1).andThen ?_
      simp only [hd]
      exact .now
    simp only [hplain]
    refine wpAny_bind (L.here ?_)
    have tail : ∀ {t : Sem Value}, wpAny M A t Q E s₁ → wpAny M A (t >>= fun r => holding [r] point >>= fun _ => pure r) Q E s₁ :=
      fun ht => wpAny_bind (wpAny_mono ht (fun r s₂ hr => wpAny_bind (wpAny_holding (wpAny_point (wpAny_pure hr)))) fun _ _ y => y)
    exact tail (wpAny_operateT h₁.2)
  · refine callWith_of (P := fun h => h.get? y = some o) hplain (fun h e => ⟨.frame, .inl rfl, ?_⟩) h
    refine (Looks.ld (part := none) e).andThen ?_
    simp only [hd]
    exact .now
theorem callWith_led {e : Expr} {rest : List Expr} (ho : Callee o) (h : wpAny M A (spliced (backTo pos (starEach (e :: rest) env))) (fun vs s₁ => s₁.heap.get? y = some o ∧ wpAny M A (call (.ref y) (first ++ vs)) Q E s₁) E s)
    (he : starEach (e :: rest) env = (false, eval e env) :: starEach rest env := by rfl) (hplain : (backTo pos (starEach rest env)).any (·.1) = false := by rfl) :
    wpAny M A (callWith pos (.ref y) first (backTo pos (starEach (e :: rest) env)) []) Q E s := by
  rw [he] at h ⊢
  exact callWith_led0 (by show ((false || (backTo pos (starEach rest env)).any (·.1)) || false) = false; rw [hplain]; rfl) ho (evalArgs_plain h)
end
end Mine

namespace Mine
theorem pick_upto (vs : List Value) {y : Int} (h : 0 ≤ y) : slicePick vs.toArray none (some y) none = (vs.take y.toNat).toArray := by
  have e : sliceBounds none (some y) none vs.toArray.size = (((0 : Nat) : Int), ((min y.toNat vs.toArray.size : Nat) : Int), 1) := by
    simp only [sliceBounds, Option.getD_none, show (1 : Int) > 0 by decide, if_true, if_neg (show ¬ (y < 0) by omega)]
    congr 1
    congr 1
    omega
  rw [kmk_pick_nat _ e]
  show ((vs.drop 0).take (min y.toNat vs.toArray.size - 0)).toArray = _
  rw [List.drop_zero, Nat.sub_zero, List.size_toArray, kmk_take_min]
theorem pick_from (vs : List Value) {x : Int} (h : 0 ≤ x) : slicePick vs.toArray (some x) none none = (vs.drop x.toNat).toArray := by
  have e : sliceBounds (some x) none none vs.toArray.size = (((min x.toNat vs.toArray.size : Nat) : Int), ((vs.toArray.size : Nat) : Int), 1) := by
    simp only [sliceBounds, Option.getD_none, show (1 : Int) > 0 by decide, if_true, if_neg (show ¬ (x < 0) by omega)]
    congr 1
    omega
  rw [kmk_pick_nat _ e]
  show ((vs.drop (min x.toNat vs.toArray.size)).take (vs.toArray.size - min x.toNat vs.toArray.size)).toArray = _
  rw [List.size_toArray, kmk_drop_min, List.take_of_length_le (by rw [List.length_drop]; omega)]
section
variable {prog : Program} {w : World} {A : Around} {E : Value → Shared → Prop} {s : Shared} {h₀ : Heap} {L l : Addr} {m : PySem.Str → Option Value} {news : List (Addr × Obj)} {value slice : PySem.Expr} {vs : List Value} {i : Int} {t : Tok} {Q : Value → Shared → Prop}
theorem sliceToV (F : Fr h₀ L s.heap m) (N : News h₀ L s.heap news) (hl : s.heap.IsList l vs.toArray) (h0 : 0 ≤ i)
    (h : ∀ D h', Fr h₀ L h' m → News h₀ L h' ((D, W.listOf (vs.take i.toNat).toArray 0) :: news) → (∀ p ∈ news, p.1 < D) → Q (.ref D) { s with heap := h' }) (hz : vs.length ≤ 1000)
    (hs : subscripted slice false (.ref l) (.ref s.heap.objs.size) = operate [.ref s.heap.objs.size, .ref l] (getItem (.ref l) (.ref s.heap.objs.size)) := by with_unfolding_all rfl) (ht : ∀ r, letTemporaryGo value (.ref l) r = pure () := by intro _; with_unfolding_all rfl) :
    wpAny (model prog w) A (subscriptTail value slice (.ref l) (.ref s.heap.objs.size)) Q E { s with heap := s.heap.push { cls := .type "slice", data := .fields #[.none, .int i t, .none] } } := by
  refine kmk_slice F N hl .none (.int i t) (fun D h' F' N' l1 => h D h' F' ?_ l1) hs ht (by simp only [List.size_toArray]; rw [sizeLine_eq]; omega)
  rw [pick_upto _ h0] at N'
  exact N'
theorem sliceFromV (F : Fr h₀ L s.heap m) (N : News h₀ L s.heap news) (hl : s.heap.IsList l vs.toArray) (h0 : 0 ≤ i)
    (h : ∀ D h', Fr h₀ L h' m → News h₀ L h' ((D, W.listOf (vs.drop i.toNat).toArray 0) :: news) → (∀ p ∈ news, p.1 < D) → Q (.ref D) { s with heap := h' }) (hz : vs.length ≤ 1000)
    (hs : subscripted slice false (.ref l) (.ref s.heap.objs.size) = operate [.ref s.heap.objs.size, .ref l] (getItem (.ref l) (.ref s.heap.objs.size)) := by with_unfolding_all rfl) (ht : ∀ r, letTemporaryGo value (.ref l) r = pure () := by intro _; with_unfolding_all rfl) :
    wpAny (model prog w) A (subscriptTail value slice (.ref l) (.ref s.heap.objs.size)) Q E { s with heap := s.heap.push { cls := .type "slice", data := .fields #[.int i t, .none, .none] } } := by
  refine kmk_slice F N hl (.int i t) .none (fun D h' F' N' l1 => h D h' F' ?_ l1) hs ht (by simp only [List.size_toArray]; rw [sizeLine_eq]; omega)
  rw [pick_from _ h0] at N'
  exact N'
theorem lenV (hl : s.heap.IsList l vs.toArray) (hb : vs.length ≤ 1000) (h : ∀ t k, s.toks ≤ k → Q (.int (vs.length : Nat) t) { s with toks := k }) : wpAny (model prog w) A (call (.builtin "len") [.ref l]) Q E s := by
  refine Calls.call_len_list hl (by simp only [List.size_toArray]; omega) ?_
  rw [List.size_toArray]
  exact h _ _ (by omega)
theorem itemV {k : Int} {u : Tok} {x : Value} (hl : s.heap.IsList l vs.toArray) (hb : vs.length ≤ 1000) (h0 : 0 ≤ k) (hx : vs[k.toNat]? = some x) (h : Q x s)
    (hs : subscripted slice false (.ref l) (.int k u) = operate [.ref l, .int k u] (getItem (.ref l) (.int k u)) := by with_unfolding_all rfl) :
    wpAny (model prog w) A (subscriptTail value slice (.ref l) (.int k u)) Q E s := by
  have hlt : k.toNat < vs.length := by
    rcases Nat.lt_or_ge k.toNat vs.length with h1 | h1
    · exact h1
    · rw [List.getElem?_eq_none h1] at hx; cases hx
  exact tail_any hl.typeIs slot_list_getitem.lookup (wpAny_getItem_list hl h0 (by omega) (by rw [List.getElem?_toArray]; exact hx) h) hs
end
theorem allLt_mem {d : Nat} : ∀ {l : List (Addr × Obj)}, AllLt d l → ∀ q ∈ l, q.1 < d
  | [], _, _, h => nomatch h
  | _ :: _, h, q, hq => by
    rcases List.mem_cons.mp hq with rfl | hq
    · exact h.1
    · exact allLt_mem h.2 q hq
theorem fm_lo {n m : Int} (h : 0 < m) : 0 ≤ n.fmod m := by rw [Int.fmod_eq_emod_of_nonneg _ (by omega)]; exact Int.emod_nonneg _ (by omega)
theorem fm_hi {n m : Int} (h : 0 < m) : n.fmod m < m := by rw [Int.fmod_eq_emod_of_nonneg _ (by omega)]; exact Int.emod_lt_of_pos _ h
theorem lit2 {α β : Type} {x : α} {y : β} {P : α → β → Prop} (a : α) (b : β) (e : x = a) (e' : y = b) (h : P a b) : P x y := by subst e e'; exact h
theorem lit3 {α β γ : Type} {x : α × β × γ} {P : α → β → γ → Prop} (a : α) (b : β) (c : γ) (e : x = (a, b, c)) (h : P a b c) : P x.1 x.2.1 x.2.2 := by subst e; exact h
theorem While_st0 {σ : Type} {prog : Program} {w : World} {A : Around} {E : Value → Shared → Prop} {Q : Flow → Shared → Prop} {s : Shared} {env : Env} {h₀ : Heap} {L : Addr} {test : Expr} {body : List Stmt} {pos : Pos}
    (fm : σ → PySem.Str → Option Value) (lg : σ → List (Addr × Obj)) (J : σ → Prop) (μ : σ → Nat) (x₀ : σ)
    (F : Fr h₀ L s.heap (fm x₀)) (N : News h₀ L s.heap (lg x₀)) (hJ : J x₀)
    (turn : ∀ x h₁ tk₁, J x → Fr h₀ L h₁ (fm x) → News h₀ L h₁ (lg x) → s.heap.objs.size ≤ h₁.objs.size →
      wpAny (model prog w) A (isTrue test env (eval test env)) (fun b s₂ =>
        if b = true then wpAny (model prog w) A (execs body env) (StepSt h₀ L fm lg J μ x s Q) E s₂ else Q .next s₂) E { s with heap := h₁, toks := tk₁ })
    (hE : PassesOwn (model prog w) A env E := by passes_own) :
    wpAny (model prog w) A (exec (.While test body [] pos) env) Q E s := by
  refine wpAny_While (codeAny_whileLoop (fun n s' => ∃ x h₁ tk₁, s' = { s with heap := h₁, toks := tk₁ } ∧ J x ∧ Fr h₀ L h₁ (fm x) ∧ News h₀ L h₁ (lg x) ∧ s.heap.objs.size ≤ h₁.objs.size ∧ μ x = n) ?_ (μ x₀) ⟨x₀, s.heap, s.toks, rfl, hJ, F, N, Nat.le_refl _, rfl⟩)
  rintro n s' ⟨x, h₁, tk₁, rfl, J₁, F₁, N₁, z₁, rfl⟩
  refine any_up (wpAny_mono (turn x h₁ tk₁ J₁ F₁ N₁ z₁) (fun b s₂ h₂ up => ?_) fun e s₂ h₂ up => hE e s₂ h₂)
  cases b with
  | false =>
    simp only [Bool.false_eq_true, if_false] at h₂ ⊢
    exact wpAny_execs_nil h₂
  | true =>
    simp only [if_true] at h₂ ⊢
    refine any_up (wpAny_mono h₂ (fun f s₃ h₃ up₃ => ?_) fun e s₂ h₂ up => hE e s₂ h₂)
    have up' := up.trans up₃
    have key : (∃ y h' tk, s₃ = { s with heap := h', toks := tk } ∧ Fr h₀ L h' (fm y) ∧ News h₀ L h' (lg y) ∧ J y ∧ μ y < μ x) →
        ∃ m, m < μ x ∧ ∃ x h₁ tk₁, s₃ = { s with heap := h₁, toks := tk₁ } ∧ J x ∧ Fr h₀ L h₁ (fm x) ∧ News h₀ L h₁ (lg x) ∧ s.heap.objs.size ≤ h₁.objs.size ∧ μ x = m := by
      rintro ⟨y, h', tk, rfl, F₂, N₂, J₂, hm⟩
      have u2 : h₁.objs.size ≤ h'.objs.size := up'.2
      exact ⟨μ y, hm, y, h', tk, rfl, J₂, F₂, N₂, by omega, rfl⟩
    cases f with
    | next => exact key h₃
    | cont => exact key h₃
    | brk => exact h₃
    | ret v => exact h₃
theorem itemVN {prog : Program} {w : World} {A : Around} {E : Value → Shared → Prop} {s : Shared} {l : Addr} {value slice : PySem.Expr} {vs : List Value} {Q : Value → Shared → Prop} {k : Nat} {u : Tok} {x : Value} (hl : s.heap.IsList l vs.toArray) (hb : vs.length ≤ 1000) (hx : vs[k]? = some x) (h : Q x s)
    (hs : subscripted slice false (.ref l) (.int k u) = operate [.ref l, .int k u] (getItem (.ref l) (.int k u)) := by with_unfolding_all rfl) :
    wpAny (model prog w) A (subscriptTail value slice (.ref l) (.int k u)) Q E s := itemV hl hb (by omega) (by simpa using hx) h hs
theorem addV {prog : Program} {w : World} {A : Around} {E : Value → Shared → Prop} {s : Shared} {h₀ : Heap} {L l b : Addr} {m : PySem.Str → Option Value} {news : List (Addr × Obj)} {vs ws : List Value} {Q : Value → Shared → Prop} (F : Fr h₀ L s.heap m) (N : News h₀ L s.heap news) (hl : s.heap.IsList l vs.toArray) (hb : s.heap.IsList b ws.toArray)
    (h : ∀ D h', Fr h₀ L h' m → News h₀ L h' ((D, W.listOf (vs ++ ws).toArray 0) :: news) → (∀ p ∈ news, p.1 < D) → Q (.ref D) { s with heap := h' }) (hsz : vs.length + ws.length ≤ 1000) :
    wpAny (model prog w) A (binaryOp .Add (.ref l) (.ref b)) Q E s :=
  add_lists F N hl hb (fun h' F' N' => h _ h' F' N' fun p hp => Heap.lt_size (N p hp).1) (by rw [sizeLine_eq]; omega)
end Mine

namespace Mine
open_top hd04 for PySem.Challenge.rw_dn0306_04
end Mine

namespace Mine
abbrev tupO (vs : List Value) : Obj := { cls := .type "tuple", data := .seq vs.toArray }
abbrev methD (P : Params) (v : Value) (nm : PySem.Str) (t1 t2 t3 : Tok) : Obj := dictOf [⟨PyData.keyHash P (PySem.Str.ofString "_Method__send"), .str (PySem.Str.ofString "_Method__send") t1, v⟩, ⟨PyData.keyHash P (PySem.Str.ofString "_Method__name"), .str (PySem.Str.ofString "_Method__name") t2, .str nm t3⟩] 2
abbrev kidN (nm x : PySem.Str) : PySem.Str := PySem.Str.empty ++ nm ++ PySem.Str.ofString "." ++ x
def Calls (w : World) (dpn unn : Nat) (y : Addr) (vs : List Value) (news : List (Addr × Obj)) (Post : Value → List (Addr × Obj) → Prop) : Prop :=
  ∀ (mean : ExcName → Option Value) (mg mb : PySem.Str → Option Value) (dp un : Nat) (gd : Option (List Code)) (cn : PySem.Str) (nms : List (PySem.Str × NameKind)) (ig ic : Bool) (mo : List (PySem.Str × Const)) (a : Addr) (ccd : Value) (cl : List (PySem.Str × Addr)) (outer : List Env) (A₀ : Around) (base h₀ : Heap) (L : Addr) (m : PySem.Str → Option Value) (s : Shared) (Q E : Value → Shared → Prop),
    Below A₀ base outer h₀ → Fr h₀ L s.heap m → (hd04.heap_39 w.params).In h₀ → News h₀ L s.heap news → Top topProg (looseW hd04.view_39 [PySem.Str.ofString "_Method"] ++ (recsOf hd04.view_39).map (fun x => x.name) ++ (litsOf hd04.view_39).map (fun x => x.1) ++ (clssOf hd04.view_39 (looseW hd04.view_39 [PySem.Str.ofString "_Method"])).map (fun x => x.name)) mean mg mb h₀ → dp + dpn < recursionLimit → un + unn < cLine →
    (∀ r news' h' tk', Fr h₀ L h' m → News h₀ L h' news' → Post r news' → Q r { s with heap := h', toks := tk' }) →
    wpAny (model Challenge.rw_dn0306_04.prog w) (ktrTop dp un gd cn ⟨.function, nms, ig, ic, mo⟩ L a ccd cl outer) (call (.ref y) vs) Q E s
theorem short_shape {vs : List Value} (h : vs.length ≤ 2) : vs = [] ∨ (∃ a, vs = [a]) ∨ ∃ a b, vs = [a, b] := by
  rcases vs with _ | ⟨a, _ | ⟨b, _ | ⟨c, r⟩⟩⟩
  · exact .inl rfl
  · exact .inr (.inl ⟨a, rfl⟩)
  · exact .inr (.inr ⟨a, b, rfl⟩)
  · simp at h
local macro_rules | `(tactic| walk_at "mine") => `(tactic| repeat' (first | (k_unfold; (try dsimp only)) | walk1 | (dsimp only; walk1) | (leave1; try dsimp only) | fail "no step"))
local macro_rules | `(tactic| k_mem) => `(tactic| assumption)
local macro_rules | `(tactic| k_room) => `(tactic| ktr_room)
local macro_rules | `(tactic| walk_at "call ref") => `(tactic| ((fail_if_success (with_reducible show wpAny _ _ (call (Value.ref 35) _) _ _ _)); (fail_if_success (with_reducible show wpAny _ _ (call (Value.ref 45) _) _ _ _)); refine Halt.go ?_))
local macro_rules | `(tactic| walk_at "getMethod ref") => `(tactic| (k_here; k_dflt (refine' methH ?k1 ?k2 ?k3 ?k4 ?k5 ?_; (case k1 => k_asm); (case k2 => k_asm); (case k3 => k_inst); (case k4 => k_is); (case k5 => k_is); k_whole)))
local macro_rules | `(tactic| walk_at "getAttr ref") => `(tactic| (k_here; k_dflt (refine' getH_miss ?k1 ?k2 ?k3 ?k4 ?k5 ?k6 ?k7 ?k8 ?k9 ?k10 ?_; (case k1 => k_asm); (case k2 => k_asm); (case k3 => k_inst); (case k4 => k_is); (case k5 => k_is); (case k6 => k_is); (case k7 => k_get); (case k8 => decide); (case k9 => k_is); (case k10 => k_is); k_whole)))
local macro_rules | `(tactic| walk_at "getAttr ref") => `(tactic| (k_here; k_dflt (refine' getH_own ?k1 ?k2 ?k3 ?k4 ?k5 ?k6 ?k7 ?k8 ?k9 ?_; (case k1 => k_asm); (case k2 => k_asm); (case k3 => k_inst); (case k4 => k_is); (case k5 => k_is); (case k6 => k_is); (case k7 => k_is); (case k8 => k_get); (case k9 => k_handed); k_whole)))
local macro_rules | `(tactic| walk_at "callWith ref") => `(tactic| (k_here; k_dflt (refine' callWith_led ?k1 ?_; (case k1 => assumption); k_whole)))
local macro_rules | `(tactic| walk_at "And") => `(tactic| ((with_reducible show Heap.get? _ _ = some _ ∧ _); k_dflt (refine ⟨News.get (by k_asm) (by k_mem), ?_⟩); try dsimp only [List.nil_append, List.cons_append]))
local macro_rules | `(tactic| k_all) => `(tactic| assumption)
local macro_rules | `(tactic| walk_at "call builtin:list.append") => `(tactic| (k_dflt (refine' append_K ?k1 ?k2 ?k3 ?_ ?z; (case k1 => k_asm); (case k2 => k_asm); (case k3 => k_upd); (case z => (rw [sizeLine_eq]; omega)); k_whole); intro h' F' N'))
theorem calls_meth : ∀ (w : World) (dpn unn : Nat) (x d y : Addr) (oy : Obj) (nm : PySem.Str) (t1 t2 t3 : Tok) (vs : List Value) (news : List (Addr × Obj)) (Post : Value → List (Addr × Obj) → Prop),
    (x, instObj 45 d) ∈ news → (d, methD w.params (.ref y) nm t1 t2 t3) ∈ news → (y, oy) ∈ news → Callee oy → vs.length ≤ 2 →
    (∀ D, (∀ p ∈ news, p.1 < D) → Calls w dpn unn y [.str nm t3, .ref D] ((D, tupO vs) :: news) Post) → Calls w (dpn + 1) (unn + 10) x vs news Post := by
  unfold Calls
  k_fill
  intro w dpn unn x d y oy nm t1 t2 t3 vs news Post hx hdx hy hcy hvs next mean mg mb dp un gd cn nms ig ic mo a ccd cl outer A₀ base h₀ L m s Q E B F X N T hd hu hret
  refine never ?_
  refine wpAny_call ?_
  refine' kco_code ?k1 ?k2 ?k3 ?k4 ?k5 ?k6 ?_
  case k1 => k_in
  case k2 => k_inst
  case k3 => rfl
  case k4 => k_is
  case k5 => k_is
  case k6 => k_is
  (try dsimp only)
  refine' kp_rest (vs := vs) (g₁ := fun D => some [(PySem.Str.ofString "self", _), (PySem.Str.ofString "args", Value.ref D)]) ?k1 ?k2 ?k3 ?k4 ?k5 ?kA ?kF ?kK ?k6 ?k7 ?k8 ?kV ?kP ?kG ?kB ?_ ?c2 ?c3 ?c4 ?c5; (case kA => exact rfl); (case kF => exact rfl); (case kK => exact rfl); (case k1 => k_asm); (case k2 => k_asm); (case k3 => k_asm); (case k4 => k_asm); (case k5 => k_asm); (case k6 => k_is); (case k7 => k_is); (case k8 => k_room); (case kV => exact rfl); (case kP => (rename List.length _ ≤ 2 => hv9; rcases short_shape hv9 with rfl | ⟨_, rfl⟩ | ⟨_, _, rfl⟩ <;> exact rfl)); (case kG => exact fun _ => rfl); (case kB => exact fun _ => locs rfl); (case c5 => decide); (case c2 => exact rfl); (case c3 => exact rfl); (case c4 => exact rfl)
  intro D' g' L' h' l1 FG' F' N' B' X' T'; (try dsimp only); (try k_lift B'); (try k_fold)
  walk_at "mine"
  show wpAny _ _ _ _ _ _
  refine next D' l1 mean mg mb _ _ _ _ _ _ _ _ _ _ _ _ _ _ _ _ _ _ _ _ B' (by k_asm) X' (by k_asm) T' (by show dp + 1 + dpn < _; omega) (by show un + 3 + unn < _; omega) ?_
  intro r news' h9 tk9 F9 N9 P9
  walk_at "mine"
  exact hret _ _ _ _ (by k_asm) (by k_asm) P9
theorem kid : ∀ (w : World) (me dme f : Addr) (nm x : PySem.Str) (t1 t2 t3 tx : Tok) (news : List (Addr × Obj)),
    (me, instObj 45 dme) ∈ news → (dme, methD w.params (.ref f) nm t1 t2 t3) ∈ news → nm.length ≤ 1000 → x.length ≤ 20 →
    ∀ (mean : ExcName → Option Value) (mg mb : PySem.Str → Option Value) (dp un : Nat) (gd : Option (List Code)) (cn : PySem.Str) (nms : List (PySem.Str × NameKind)) (ig ic : Bool) (mo : List (PySem.Str × Const)) (a : Addr) (ccd : Value) (cl : List (PySem.Str × Addr)) (outer : List Env) (A₀ : Around) (base h₀ : Heap) (L : Addr) (m : PySem.Str → Option Value) (s : Shared) (Q E : Value → Shared → Prop),
    Below A₀ base outer h₀ → Fr h₀ L s.heap m → (hd04.heap_39 w.params).In h₀ → News h₀ L s.heap news → Top topProg (looseW hd04.view_39 [PySem.Str.ofString "_Method"] ++ (recsOf hd04.view_39).map (fun x => x.name) ++ (litsOf hd04.view_39).map (fun x => x.1) ++ (clssOf hd04.view_39 (looseW hd04.view_39 [PySem.Str.ofString "_Method"])).map (fun x => x.name)) mean mg mb h₀ → dp + 6 < recursionLimit → un + 40 < cLine →
    (∀ z dz u1 u2 u3 h' tk', (∀ p ∈ news, p.1 < dz) → dz < z → Fr h₀ L h' m → News h₀ L h' ((z, instObj 45 dz) :: (dz, methD w.params (.ref f) (kidN nm x) u1 u2 u3) :: news) → Q (.ref z) { s with heap := h', toks := tk' }) →
    wpAny (model Challenge.rw_dn0306_04.prog w) (ktrTop dp un gd cn ⟨.function, nms, ig, ic, mo⟩ L a ccd cl outer) (call (.ref 35) [.ref me, .str x tx]) Q E s := by
  k_fill
  intro w me dme f nm x t1 t2 t3 tx news hme hdme hnm hx mean mg mb dp un gd cn nms ig ic mo a ccd cl outer A₀ base h₀ L m s Q E B F X N T hd hu hret
  have hk9 : (envX cn ⟨.function, nms, ig, ic, mo⟩ L a ccd cl).scope.kind = .function := rfl
  refine never ?_
  refine wpAny_call ?_
  k_dflt ktr_enter
  rename_i g' L' h' FG' F' N' B' X' T'
  walk_at "mine"
  rename News h₀ L _ _ => kN9
  rename Fr h₀ L _ _ => kF9
  exact hret _ _ _ _ _ _ _ (by assumption) (by assumption) kF9 kN9
end Mine

namespace Mine
def fnBody : Stmt → List Stmt
  | .FunctionDef _ _ b _ _ _ _ _ _ _ => b
  | _ => []
def fnScope : Stmt → Scope
  | .FunctionDef _ _ _ _ _ _ s _ _ _ => s
  | _ => { kind := .function, names := [], isGenerator := false, isCoroutine := false }
def lawDef4 : Stmt := (PySem.Challenge.pw_dn0306_04.main.body)[4]!
def law4 : List Stmt := fnBody lawDef4
def lamOf : Stmt → Arguments × Expr × Scope
  | .Assign _ (.Call _ [.Lambda p b sc _, _] _ _) _ => (p, b, sc)
  | _ => ({ posonlyargs := [], args := [], vararg := none, kwonlyargs := [], kw_defaults := [], kwarg := none, defaults := [] }, .Constant .none 0 ⟨0, 0, 0, 0⟩, { kind := .function, names := [], isGenerator := false, isCoroutine := false })
def lam4 : Arguments × Expr × Scope := lamOf law4[2]!
def cutOf (ns : List Int) : Nat := (1 + (ns.getD 0 0).fmod ((ns.length : Int) - 1)).toNat
abbrev lowN (nm : PySem.Str) : PySem.Str := kidN nm (PySem.Str.ofString "lower")
abbrev uppN (nm : PySem.Str) : PySem.Str := kidN (kidN nm (PySem.Str.ofString "upper")) (PySem.Str.ofString "half")
def callsOf : Nat → PySem.Str → List Int → List (PySem.Str × List Int)
  | 0, nm, ns => [(nm, ns)]
  | k + 1, nm, ns => (nm, ns) :: if ns.length < 2 then [] else callsOf k (lowN nm) (ns.take (cutOf ns)) ++ callsOf k (uppN nm) (ns.drop (cutOf ns))
inductive Log4 (n : List (Addr × Obj)) : List Value → List (PySem.Str × List Int) → Prop
  | nil : Log4 n [] []
  | cons {E C : Addr} {t : Tok} {cvs : List Value} {ec : Nat} {nm : PySem.Str} {ns : List Int} {vs : List Value} {cs : List (PySem.Str × List Int)} : (E, W.listOf #[.str nm t, .ref C, .bool true, .bool false] 0) ∈ n → (C, W.listOf cvs.toArray ec) ∈ n → IntsAre cvs ns → Log4 n vs cs → Log4 n (.ref E :: vs) ((nm, ns) :: cs)
def Served (log : Addr) (rest : List (Addr × Obj)) (logs : List Value) (cs : List (PySem.Str × List Int)) (ns : List Int) (r : Value) (n : List (Addr × Obj)) : Prop :=
  ∃ ext new el' R rv er ms, r = .ref R ∧ (∀ p ∈ (log, W.listOf (logs ++ new).toArray el') :: (ext ++ rest), p ∈ n) ∧ (∀ p ∈ ext, p.1 ≠ log) ∧ Log4 (ext ++ rest) new cs ∧ (R, W.listOf rv.toArray er) ∈ ext ++ rest ∧ IntsAre rv ms ∧ ms.Perm ns ∧ ms.Pairwise (· ≤ ·)
def ServeOk (w : World) (log f : Addr) (lamL : List (Addr × Obj)) (k : Nat) : Prop :=
  ∀ (rest : List (Addr × Obj)) (logs : List Value) (el : Nat) (nm : PySem.Str) (t : Tok) (D me dme : Addr) (t1 t2 t3 : Tok) (vl : Addr) (vals : List Value) (ev : Nat) (ns : List Int),
    (∀ p ∈ lamL, p ∈ rest) → (∀ p ∈ rest, p.1 ≠ log) → (D, tupO [.ref me, .ref vl]) ∈ rest → (me, instObj 45 dme) ∈ rest → (dme, methD w.params (.ref f) nm t1 t2 t3) ∈ rest → (vl, W.listOf vals.toArray ev) ∈ rest → IntsAre vals ns → 1 ≤ ns.length → ns.length ≤ k + 1 → ns.length ≤ 30 → logs.length + 2 * ns.length ≤ 200 → nm.length + 20 * k ≤ 900 →
    Calls w (6 * k + 20) (60 * k + 100) f [.str nm t, .ref D] ((log, W.listOf logs.toArray el) :: rest) (Served log rest logs (callsOf k nm ns) ns)
local macro_rules | `(tactic| walk_at "mine") => `(tactic| repeat' (first | (k_unfold; (try dsimp only)) | walk1 | (dsimp only; walk1) | (leave1; try dsimp only) | fail "no step"))
local macro_rules | `(tactic| k_mem) => `(tactic| (repeat (first | exact List.Mem.head _ | assumption | refine List.Mem.tail _ ?_)))
local macro_rules | `(tactic| k_room) => `(tactic| ktr_room)
local macro_rules | `(tactic| k_all) => `(tactic| assumption)
local macro_rules | `(tactic| walk_at "eval Name") => `(tactic| ((with_reducible show wpAny _ _ (eval (Expr.Name (Str.ofString "log") _) (envX _ _ _ _ _ _)) _ _ _); k_dflt (refine' nameX_F ?N ?c ?m ?d ?_ ?a ?b; (case a => rfl); (case b => rfl); (case N => k_asm); (case c => rfl); (case m => k_mem); (case d => assumption))))
local macro_rules | `(tactic| walk_at "call ref") => `(tactic| refine Halt.go ?_)
theorem lam_serve (w : World) (log f c clog : Addr) (oc olog : Obj) (q : PySem.Str) (pm ct : Value) (vs : Array Value) (tq : Tok) (hc : oc.data = .fields vs) (hc2 : vs[1]? = some (.str q tq)) (h1 : olog.data = .cell (some (.ref log))) (dpn unn : Nat)
    (rest : List (Addr × Obj)) (logs : Array Value) (el : Nat) (nm : PySem.Str) (t : Tok) (D : Addr) (Post : Value → List (Addr × Obj) → Prop) (hrest : ∀ p ∈ [(f, kla_obj (PySem.Str.ofString "<lambda>") q lam4.1 lam4.2.1 lam4.2.2 [(PySem.Str.ofString "log", clog)] pm c ct), (c, oc), (clog, olog)], p ∈ rest)
    (hS : Calls w dpn unn 56 [.ref log, .str nm t, .ref D] ((log, W.listOf logs el) :: rest) Post) : Calls w (dpn + 2) (unn + 20) f [.str nm t, .ref D] ((log, W.listOf logs el) :: rest) Post := by
  refine lit3 (x := lam4) (P := fun pp b sc => (∀ p ∈ [(f, kla_obj (PySem.Str.ofString "<lambda>") q pp b sc [(PySem.Str.ofString "log", clog)] pm c ct), (c, oc), (clog, olog)], p ∈ rest) → Calls w (dpn + 2) (unn + 20) f [.str nm t, .ref D] ((log, W.listOf logs el) :: rest) Post) _ _ _ rfl ?_ hrest
  clear hrest
  intro hrest
  unfold Calls
  k_fill
  intro mean mg mb dp un gd cn nms ig ic mo a ccd cl outer A₀ base h₀ L m s Q E B F X N T hd hu hret
  have m1 := List.mem_cons_of_mem (log, W.listOf logs el) (hrest _ (.head _))
  have m2 := List.mem_cons_of_mem (log, W.listOf logs el) (hrest _ (.tail _ (.head _)))
  have m3 := List.mem_cons_of_mem (log, W.listOf logs el) (hrest _ (.tail _ (.tail _ (.head _))))
  refine never ?_
  refine wpAny_call ?_
  kla_enter
  rename_i g' L' h' FG' F' N' B' X' T'
  walk_at "mine"
  show wpAny _ _ _ _ _ _
  refine hS mean mg mb _ _ _ _ _ _ _ _ _ _ _ _ _ _ _ _ _ _ _ _ B' (by k_asm) X' (by k_asm) T' (by show dp + 1 + dpn < _; omega) (by show un + 3 + unn < _; omega) ?_
  intro r news' h9 tk9 F9 N9 P9
  walk_at "mine"
  exact hret _ _ _ _ (by k_asm) (by k_asm) P9
end Mine

namespace Mine
theorem Calls.sub {w : World} {dpn unn : Nat} {y : Addr} {vs : List Value} {n₁ n₂ : List (Addr × Obj)} {Post : Value → List (Addr × Obj) → Prop} (h : Calls w dpn unn y vs n₂ Post) (s : ∀ p ∈ n₂, p ∈ n₁) : Calls w dpn unn y vs n₁ Post := by
  unfold Calls at *
  intro mean mg mb dp un gd cn nms ig ic mo a ccd cl outer A₀ base h₀ L m st Q E B F X N T hd hu hret
  exact h mean mg mb dp un gd cn nms ig ic mo a ccd cl outer A₀ base h₀ L m st Q E B F X (news_sub N s) T hd hu hret
theorem Calls.mono {w : World} {dpn unn dpn' unn' : Nat} {y : Addr} {vs : List Value} {n : List (Addr × Obj)} {Post Post' : Value → List (Addr × Obj) → Prop} (h : Calls w dpn unn y vs n Post) (hp : ∀ r n', Post r n' → Post' r n') (h1 : dpn ≤ dpn') (h2 : unn ≤ unn') : Calls w dpn' unn' y vs n Post' := by
  unfold Calls at *
  intro mean mg mb dp un gd cn nms ig ic mo a ccd cl outer A₀ base h₀ L m st Q E B F X N T hd hu hret
  exact h mean mg mb dp un gd cn nms ig ic mo a ccd cl outer A₀ base h₀ L m st Q E B F X N T (by omega) (by omega) fun r n' h' tk' F' N' P => hret r n' h' tk' F' N' (hp _ _ P)

theorem Log4.mono {n n' : List (Addr × Obj)} {vs : List Value} {cs : List (PySem.Str × List Int)} (h : Log4 n vs cs) (s : ∀ p ∈ n, p ∈ n') : Log4 n' vs cs := by
  induction h with
  | nil => exact .nil
  | cons a b c _ ih => exact .cons (s _ a) (s _ b) c ih
theorem Log4.append {n : List (Addr × Obj)} {vs vs' : List Value} {cs cs' : List (PySem.Str × List Int)} (h : Log4 n vs cs) (h' : Log4 n vs' cs') : Log4 n (vs ++ vs') (cs ++ cs') := by
  induction h with
  | nil => exact h'
  | cons a b c _ ih => exact .cons a b c ih
theorem Log4.length {n : List (Addr × Obj)} {vs : List Value} {cs : List (PySem.Str × List Int)} (h : Log4 n vs cs) : vs.length = cs.length := by
  induction h with
  | nil => rfl
  | cons a b c _ ih => simp [ih]
theorem kidN_len (nm x : PySem.Str) : (kidN nm x).length = nm.length + 1 + x.length := by
  unfold kidN
  simp only [Str.length_append]
  rw [show (PySem.Str.ofString ".").length = 1 by decide, show (PySem.Str.empty).length = 0 by decide]
  omega
theorem rec_call {w : World} {log f : Addr} {lamL : List (Addr × Obj)} {of : Obj} (hol : (f, of) ∈ lamL) (hcf : Callee of) {j : Nat} (ih : ServeOk w log f lamL j)
    (rest : List (Addr × Obj)) (logs : List Value) (el : Nat) (nm : PySem.Str) (z dz : Addr) (u1 u2 u3 : Tok) (sl : Addr) (vals : List Value) (ev : Nat) (ns : List Int)
    (hl : ∀ p ∈ lamL, p ∈ rest) (hne : ∀ p ∈ rest, p.1 ≠ log) (hz : (z, instObj 45 dz) ∈ rest) (hdz : (dz, methD w.params (.ref f) nm u1 u2 u3) ∈ rest) (hsl : (sl, W.listOf vals.toArray ev) ∈ rest) (hI : IntsAre vals ns) (h1 : 1 ≤ ns.length) (h2 : ns.length ≤ j + 1) (h3 : ns.length ≤ 30) (h4 : logs.length + 2 * ns.length ≤ 200) (h5 : nm.length + 20 * j ≤ 900) :
    Calls w (6 * j + 21) (60 * j + 110) z [.ref z, .ref sl] ((log, W.listOf logs.toArray el) :: rest) (Served log rest logs (callsOf j nm ns) ns) := by
  refine Calls.mono (calls_meth w (6 * j + 20) (60 * j + 100) z dz f of nm u1 u2 u3 [.ref z, .ref sl] ((log, W.listOf logs.toArray el) :: rest) _ (.tail _ hz) (.tail _ hdz) (.tail _ (hl _ hol)) hcf (Nat.le_refl _) fun D hD => ?_) (fun _ _ p => p) (by omega) (by omega)
  have hlD : D ≠ log := Nat.ne_of_gt (hD (log, W.listOf logs.toArray el) (.head _))
  refine Calls.mono (Calls.sub (ih ((D, tupO [.ref z, .ref sl]) :: rest) logs el nm u3 D z dz u1 u2 u3 sl vals ev ns (fun p hp => .tail _ (hl p hp)) ?_ (.head _) (.tail _ hz) (.tail _ hdz) (.tail _ hsl) hI h1 h2 h3 h4 h5) ?_) ?_ (Nat.le_refl _) (Nat.le_refl _)
  · intro p hp
    rcases List.mem_cons.mp hp with rfl | hp
    · exact hlD
    · exact hne p hp
  · intro p hp
    rcases List.mem_cons.mp hp with rfl | hp
    · exact .tail _ (.head _)
    rcases List.mem_cons.mp hp with rfl | hp
    · exact .head _
    · exact .tail _ (.tail _ hp)
  · rintro r n' ⟨ext, new, el', R, rv, er, ms, e1, e2, e3, e4, e5, e6, e7, e8⟩
    have ap : ext ++ (D, tupO [.ref z, .ref sl]) :: rest = (ext ++ [(D, tupO [.ref z, .ref sl])]) ++ rest := by simp
    rw [ap] at e2 e4 e5
    refine ⟨_, new, el', R, rv, er, ms, e1, e2, ?_, e4, e5, e6, e7, e8⟩
    intro p hp
    rcases List.mem_append.mp hp with hp | hp
    · exact e3 p hp
    · rw [List.mem_singleton.mp hp]; exact hlD
end Mine

namespace Mine
def serveDef : Stmt := (PySem.Challenge.pw_dn0306_04.main.body)[3]!
def serveB : List Stmt := fnBody serveDef
abbrev leI (a b : Int) : Bool := decide (a ≤ b)
structure MS where
  i : Nat
  j : Nat
  ti : Tok
  tj : Tok
  ov : List Value
  eo : Nat
  os : List Int
abbrev mF (M : PySem.Str → Option Value) (o : Addr) (x : MS) : PySem.Str → Option Value := fun y =>
  if y = PySem.Str.ofString "i" then some (.int x.i x.ti) else if y = PySem.Str.ofString "j" then some (.int x.j x.tj) else if y = PySem.Str.ofString "out" then some (.ref o) else M y
structure MJ (l r : List Int) (x : MS) : Prop where
  hi : x.i ≤ l.length
  hj : x.j ≤ r.length
  oints : IntsAre x.ov x.os
  len : x.os.length = x.i + x.j
  run : x.os ++ List.merge (l.drop x.i) (r.drop x.j) leI = List.merge l r leI
abbrev lrF (R : PySem.Str → Option Value) (ll lr : Addr) : PySem.Str → Option Value := fun y => if y = PySem.Str.ofString "right" then some (.ref lr) else if y = PySem.Str.ofString "left" then some (.ref ll) else R y
abbrev envS (L : Addr) : Env := envOf (PySem.Str.ofString "_law_serve") (fnScope serveDef) L 56 (.ref 55)
local macro_rules | `(tactic| walk_at "mine") => `(tactic| repeat' (first | (k_unfold; (try dsimp only)) | walk1 | (dsimp only; walk1) | (leave1; try dsimp only) | fail "no step"))
local macro_rules | `(tactic| k_mem) => `(tactic| (repeat (first | exact List.Mem.head _ | assumption | refine List.Mem.tail _ ?_)))
local macro_rules | `(tactic| k_room) => `(tactic| ktr_room)
local macro_rules | `(tactic| k_all) => `(tactic| assumption)
local macro_rules | `(tactic| walk_at "call builtin:list.append") => `(tactic| (k_dflt (refine' append_K ?k1 ?k2 ?k3 ?_ ?z; (case k1 => k_asm); (case k2 => k_asm); (case k3 => k_upd); (case z => (rw [sizeLine_eq]; (try simp only [List.size_toArray]); omega)); k_whole); intro h' F' N'))
local macro_rules | `(tactic| walk_at "call builtin:len") => `(tactic| (k_dflt (refine lenV (News.isList (by k_asm) (by k_mem)) (by omega) ?_); intro t9 k9 u9; (try dsimp only at u9)))
local macro_rules | `(tactic| walk_at "subscriptTail Name Name ref int") => `(tactic| (k_dflt (refine itemVN (News.isList (by k_asm) (by k_mem)) (by omega) (by assumption) ?_)))
local macro_rules | `(tactic| walk_at "subscriptTail Name Slice ref ref") => `(tactic| (k_dflt (refine' sliceFromV (s := ⟨_, _, _, _, _⟩) ?k1 ?k2 ?k3 ?k4 ?_ ?k5; (case k1 => k_asm); (case k2 => k_asm); (case k3 => exact News.isList (by k_asm) (by k_mem)); (case k4 => omega); (case k5 => omega)); intro D9 h9 F9 N9 l9; (try k_lt l9)))
local macro_rules | `(tactic| walk_at "binaryOp Add ref ref") => `(tactic| (k_dflt (refine' addV ?k1 ?k2 ?k3 ?k4 ?_ ?k5; (case k1 => k_asm); (case k2 => k_asm); (case k3 => exact News.isList (by k_asm) (by k_mem)); (case k4 => exact News.isList (by k_asm) (by k_mem)); (case k5 => (simp only [List.length_append, List.length_drop]; omega))); intro D9 h9 F9 N9 l9; (try k_lt l9)))
local macro_rules | `(tactic| walk_at "exec While") => `(tactic| refine Halt.go ?_)
theorem m_start {g h : Heap} {L o : Addr} {M : PySem.Str → Option Value} {ti tj : Tok} (F : Fr g L h (fun y => if y = PySem.Str.ofString "j" then some (.int 0 tj) else if y = PySem.Str.ofString "i" then some (.int 0 ti) else if y = PySem.Str.ofString "out" then some (.ref o) else M y)) : Fr g L h (mF M o ⟨0, 0, ti, tj, [], 0, []⟩) := by
  refine fr_eq F fun y => ?_
  by_cases h1 : y = PySem.Str.ofString "j"
  · subst h1; rfl
  by_cases h2 : y = PySem.Str.ofString "i"
  · subst h2; rfl
  simp only [mF, if_neg h1, if_neg h2]
theorem merge_end {l r os : List Int} {i j : Nat} (run : os ++ List.merge (l.drop i) (r.drop j) leI = List.merge l r leI) (h : ¬ i < l.length ∨ ¬ j < r.length) : os ++ l.drop i ++ r.drop j = List.merge l r leI := by
  rw [← run, List.append_assoc]
  congr 1
  rcases h with h | h
  · rw [List.drop_eq_nil_of_le (Nat.le_of_not_lt h)]; simp
  · rw [List.drop_eq_nil_of_le (as := r) (Nat.le_of_not_lt h)]; simp
theorem drop_at {l : List Int} {i : Nat} (h : i < l.length) : l.drop i = l[i] :: l.drop (i + 1) := List.drop_eq_getElem_cons h
theorem mj_right {l r : List Int} {i j : Nat} {ti tj tj' tb : Tok} {ov : List Value} {eo : Nat} {os : List Int} (hJ : MJ l r ⟨i, j, ti, tj, ov, eo, os⟩) (c1 : i < l.length) (c2 : j < r.length) (c3 : r[j] < l[i]) : MJ l r ⟨i, j + 1, ti, tj', ov ++ [.int r[j] tb], eo + 1, os ++ [r[j]]⟩ := by
  obtain ⟨hi, hj, hints, hlen, hrun⟩ := hJ
  dsimp only at hi hj hints hlen hrun
  refine ⟨hi, c2, hints.append (.cons _ _ .nil), by simp only [List.length_append, List.length_singleton]; omega, ?_⟩
  dsimp only
  rw [← hrun, drop_at c1, drop_at c2, List.cons_merge_cons, if_neg (by simp only [leI, decide_eq_true_eq]; omega), List.append_assoc]
  rfl
theorem mj_left {l r : List Int} {i j : Nat} {ti tj ti' ta : Tok} {ov : List Value} {eo : Nat} {os : List Int} (hJ : MJ l r ⟨i, j, ti, tj, ov, eo, os⟩) (c1 : i < l.length) (c2 : j < r.length) (c3 : ¬ r[j] < l[i]) : MJ l r ⟨i + 1, j, ti', tj, ov ++ [.int l[i] ta], eo + 1, os ++ [l[i]]⟩ := by
  obtain ⟨hi, hj, hints, hlen, hrun⟩ := hJ
  dsimp only at hi hj hints hlen hrun
  refine ⟨c1, hj, hints.append (.cons _ _ .nil), by simp only [List.length_append, List.length_singleton]; omega, ?_⟩
  dsimp only
  rw [← hrun, drop_at c1, drop_at c2, List.cons_merge_cons, if_pos (by simp only [leI, decide_eq_true_eq]; omega), List.append_assoc]
  rfl
theorem m_j {g h : Heap} {L o : Addr} {M : PySem.Str → Option Value} {i j eo eo' : Nat} {ti tj t : Tok} {ov ov' : List Value} {os os' : List Int} (F : Fr g L h (fun y => if y = PySem.Str.ofString "j" then some (.int ((j : Int) + 1) t) else mF M o ⟨i, j, ti, tj, ov, eo, os⟩ y)) : Fr g L h (mF M o ⟨i, j + 1, ti, t, ov', eo', os'⟩) := by
  refine fr_eq F fun y => ?_
  by_cases h1 : y = PySem.Str.ofString "j"
  · subst h1; rfl
  simp only [mF, if_neg h1]
theorem m_i {g h : Heap} {L o : Addr} {M : PySem.Str → Option Value} {i j eo eo' : Nat} {ti tj t : Tok} {ov ov' : List Value} {os os' : List Int} (F : Fr g L h (fun y => if y = PySem.Str.ofString "i" then some (.int ((i : Int) + 1) t) else mF M o ⟨i, j, ti, tj, ov, eo, os⟩ y)) : Fr g L h (mF M o ⟨i + 1, j, t, tj, ov', eo', os'⟩) := by
  refine fr_eq F fun y => ?_
  by_cases h1 : y = PySem.Str.ofString "i"
  · subst h1; rfl
  simp only [mF, if_neg h1]
theorem merge_tail : ∀ (w : World) (mean : ExcName → Option Value) (mg mb : PySem.Str → Option Value) (dp un : Nat) (gd : Option (List Code)) (cn : PySem.Str) (cs : Scope) (L a : Addr) (ccd : Value) (cl : List (PySem.Str × Addr)) (outer outer' : List Env) (A₀ : Around) (base g : Heap) (L' : Addr) (R : PySem.Str → Option Value) (ll lr : Addr) (lv rv : List Value) (l r : List Int) (e1 e2 : Nat) (news : List (Addr × Obj)) (s : Shared) (Q : Flow → Shared → Prop),
    Below A₀ base outer' g → (hd04.heap_39 w.params).In g → Top topProg (looseW hd04.view_39 [PySem.Str.ofString "_Method"] ++ (recsOf hd04.view_39).map (fun x => x.name) ++ (litsOf hd04.view_39).map (fun x => x.1) ++ (clssOf hd04.view_39 (looseW hd04.view_39 [PySem.Str.ofString "_Method"])).map (fun x => x.name)) mean mg mb g →
    Fr g L' s.heap (lrF R ll lr) → News g L' s.heap news → (ll, W.listOf lv.toArray e1) ∈ news → (lr, W.listOf rv.toArray e2) ∈ news → IntsAre lv l → IntsAre rv r → l.length ≤ 60 → r.length ≤ 60 → dp + 3 < recursionLimit → un + 20 < cLine →
    (∀ D vs e ext m' h' tk', Fr g L' h' m' → News g L' h' ((D, W.listOf vs.toArray e) :: (ext ++ news)) → (∀ p ∈ news, p.1 < D) → (∀ q ∈ ext, ∀ p ∈ news, p.1 < q.1) → IntsAre vs (List.merge l r leI) → Q (.ret (.ref D)) { s with heap := h', toks := tk' }) →
    wpAny (model Challenge.rw_dn0306_04.prog w) ((ktrTop dp un gd cn cs L a ccd cl outer).deeper (envS L')) (execs (serveB.drop 9) (envS L')) Q (fun _ _ => False) s := by
  k_fill
  intro w mean mg mb dp un gd cn cs L a ccd cl outer outer' A₀ base g L' R ll lr lv rv l r e1 e2 news s Q B X T F N hll hlr hI1 hI2 hl1 hl2 hd hu hret
  refine lit2 (x := fnScope serveDef) (y := serveB.drop 9) (P := fun scp bd => wpAny (model Challenge.rw_dn0306_04.prog w) ((ktrTop dp un gd cn cs L a ccd cl outer).deeper (envOf (PySem.Str.ofString "_law_serve") scp L' 56 (.ref 55))) (execs bd (envOf (PySem.Str.ofString "_law_serve") scp L' 56 (.ref 55))) Q (fun _ _ => False) s) ⟨_, _, _, _, _⟩ (_ :: _) rfl rfl ?_
  have n1 := hI1.length
  have n2 := hI2.length
  walk_at "mine"
  show wpAny _ _ _ _ _ _
  rename Fr g L' _ _ => kF
  rename News g L' _ _ => kN
  rename_i o _ lo _ _ _
  refine While_st0 (σ := MS) (mF (lrF R ll lr) o) (fun x => (o, W.listOf x.ov.toArray x.eo) :: news) (MJ l r) (fun x => (l.length - x.i) + (r.length - x.j)) ⟨0, 0, _, _, [], 0, []⟩ (m_start kF) kN ⟨Nat.zero_le _, Nat.zero_le _, .nil, rfl, rfl⟩ ?turn ?hE
  case hE => passes_own
  clear kF kN
  rintro ⟨i, j, ti, tj, ov, eo, os⟩ h₁ tk₁ hJ F₁ N₁ sz₁
  obtain ⟨hi, hj, hints, hlen, hrun⟩ := id hJ
  dsimp only at hi hj hints hlen hrun F₁ N₁
  have n3 := hints.length
  have fin : ∀ {D1 D2 D3 D4 : Addr} {h : Heap} {tk : Nat}, (¬ i < l.length ∨ ¬ j < r.length) → Fr g L' h (mF (lrF R ll lr) o ⟨i, j, ti, tj, ov, eo, os⟩) → News g L' h ((D4, W.listOf (ov ++ lv.drop i ++ rv.drop j).toArray 0) :: (D3, W.listOf (rv.drop j).toArray 0) :: (D2, W.listOf (ov ++ lv.drop i).toArray 0) :: (D1, W.listOf (lv.drop i).toArray 0) :: (o, W.listOf ov.toArray eo) :: news) →
      AllLt D1 news → AllLt D2 news → AllLt D3 news → AllLt D4 news → Q (.ret (.ref D4)) { s with heap := h, toks := tk } := by
    intro D1 D2 D3 D4 h tk hc F9 N9 a1 a2 a3 a4
    refine hret D4 _ 0 [(D3, W.listOf (rv.drop j).toArray 0), (D2, W.listOf (ov ++ lv.drop i).toArray 0), (D1, W.listOf (lv.drop i).toArray 0), (o, W.listOf ov.toArray eo)] _ _ _ F9 N9 (allLt_mem a4) ?_ ?_
    · intro q hq p hp
      rcases List.mem_cons.mp hq with rfl | hq
      · exact allLt_mem a3 p hp
      rcases List.mem_cons.mp hq with rfl | hq
      · exact allLt_mem a2 p hp
      rcases List.mem_cons.mp hq with rfl | hq
      · exact allLt_mem a1 p hp
      rw [List.mem_singleton.mp hq]
      exact lo p hp
    · rw [← merge_end hrun hc]
      exact (hints.append (hI1.drop i)).append (hI2.drop j)
  by_cases c1 : i < l.length
  · by_cases c2 : j < r.length
    · obtain ⟨ta, ga⟩ := hI1.get i l[i] (by simp [c1])
      obtain ⟨tb, gb⟩ := hI2.get j r[j] (by simp [c2])
      by_cases c3 : r[j] < l[i]
      · walk_at "mine"
        rename News g L' _ _ => kN9
        rename Fr g L' _ _ => kF9
        rw [List.push_toArray] at kN9
        exact StepSt.next (MS.mk i (j + 1) ti _ (ov ++ [.int r[j] tb]) (eo + 1) (os ++ [r[j]])) (m_j kF9) kN9 (mj_right hJ c1 c2 c3) (by dsimp only; omega)
      · walk_at "mine"
        rename News g L' _ _ => kN9
        rename Fr g L' _ _ => kF9
        rw [List.push_toArray] at kN9
        exact StepSt.next (MS.mk (i + 1) j _ tj (ov ++ [.int l[i] ta]) (eo + 1) (os ++ [l[i]])) (m_i kF9) kN9 (mj_left hJ c1 c2 c3) (by dsimp only; omega)
    · walk_at "mine"
      rename News g L' _ _ => kN9
      rename Fr g L' _ _ => kF9
      rename _ ∧ _ ∧ _ ∧ _ ∧ AllLt _ news => l4
      rename _ ∧ _ ∧ _ ∧ AllLt _ news => l3
      rename _ ∧ _ ∧ AllLt _ news => l2
      rename _ ∧ AllLt _ news => l1
      exact fin (.inr c2) kF9 kN9 l1.2 l2.2.2 l3.2.2.2 l4.2.2.2.2
  · walk_at "mine"
    rename News g L' _ _ => kN9
    rename Fr g L' _ _ => kF9
    rename _ ∧ _ ∧ _ ∧ _ ∧ AllLt _ news => l4
    rename _ ∧ _ ∧ _ ∧ AllLt _ news => l3
    rename _ ∧ _ ∧ AllLt _ news => l2
    rename _ ∧ AllLt _ news => l1
    exact fin (.inl c1) kF9 kN9 l1.2 l2.2.2 l3.2.2.2 l4.2.2.2.2
end Mine

namespace Mine
local macro_rules | `(tactic| walk_at "mine") => `(tactic| repeat' (first | (k_unfold; (try dsimp only)) | walk1 | (dsimp only; walk1) | (leave1; try dsimp only) | fail "no step"))
local macro_rules | `(tactic| k_mem) => `(tactic| (repeat (first | exact List.Mem.head _ | assumption | refine List.Mem.tail _ ?_)))
local macro_rules | `(tactic| k_room) => `(tactic| ktr_room)
local macro_rules | `(tactic| k_all) => `(tactic| assumption)
local macro_rules | `(tactic| walk_at "call builtin:len") => `(tactic| (k_dflt (refine lenV (News.isList (by k_asm) (by k_mem)) (by omega) ?_); intro t9 k9 u9; (try dsimp only at u9)))
local macro_rules | `(tactic| walk_at "subscriptTail Name Constant ref int") => `(tactic| (k_dflt (refine itemV (News.isList (by k_asm) (by k_mem)) (by omega) (by decide) (by assumption) ?_)))
local macro_rules | `(tactic| walk_at "subscriptTail Name Slice ref ref") => `(tactic| (k_dflt (first
  | (refine' sliceToV (s := ⟨_, _, _, _, _⟩) ?k1 ?k2 ?k3 ?k4 ?_ ?k5; (case k1 => k_asm); (case k2 => k_asm); (case k3 => exact News.isList (by k_asm) (by k_mem)); (case k4 => assumption); (case k5 => omega))
  | (refine' sliceFromV (s := ⟨_, _, _, _, _⟩) ?k1 ?k2 ?k3 ?k4 ?_ ?k5; (case k1 => k_asm); (case k2 => k_asm); (case k3 => exact News.isList (by k_asm) (by k_mem)); (case k4 => assumption); (case k5 => omega))); intro D9 h9 F9 N9 l9; (try k_lt l9)))
local macro_rules | `(tactic| walk_at "And") => `(tactic| ((with_reducible show Heap.get? _ _ = some _ ∧ _); k_dflt (refine ⟨News.get (by k_asm) (by k_mem), ?_⟩); try dsimp only [List.nil_append, List.cons_append]))
local macro_rules | `(tactic| walk_at "call ref") => `(tactic| refine Halt.go ?_)
local macro_rules | `(tactic| walk_at "callWith ref") => `(tactic| refine Halt.go ?_)
local macro_rules | `(tactic| walk_at "exec If") => `(tactic| refine Halt.go ?_)
theorem cut_facts {ns : List Int} {n : Nat} (hn : n = ns.length) (h : 2 ≤ ns.length) (h0 : 0 < ns.length) : (0 : Int) ≤ (1 : Int) + Int.fmod (ns[0]'h0) ((n : Int) - 1) ∧ ((1 : Int) + Int.fmod (ns[0]'h0) ((n : Int) - 1)).toNat = cutOf ns ∧ 1 ≤ cutOf ns ∧ cutOf ns + 1 ≤ ns.length := by
  subst hn
  have a1 : 0 ≤ ns[0].fmod ((ns.length : Int) - 1) := fm_lo (by omega)
  have a2 : ns[0].fmod ((ns.length : Int) - 1) < (ns.length : Int) - 1 := fm_hi (by omega)
  have e : ns.getD 0 0 = ns[0] := by simp [h0]
  unfold cutOf
  rw [e]
  exact ⟨by omega, rfl, by omega, by omega⟩
theorem callsOf_len : ∀ (k : Nat) (nm : PySem.Str) (ns : List Int), 1 ≤ ns.length → ns.length ≤ k + 1 → (callsOf k nm ns).length + 1 ≤ 2 * ns.length
  | 0, nm, ns, h1, h2 => by simp only [callsOf, List.length_singleton]; omega
  | k + 1, nm, ns, h1, h2 => by
    unfold callsOf
    split
    · simp only [List.length_singleton]; omega
    · rename_i hlt
      obtain ⟨_, _, c1, c2⟩ := cut_facts (ns := ns) rfl (by omega) (by omega)
      have a := callsOf_len k (lowN nm) (ns.take (cutOf ns)) (by rw [List.length_take]; omega) (by rw [List.length_take]; omega)
      have b := callsOf_len k (uppN nm) (ns.drop (cutOf ns)) (by rw [List.length_drop]; omega) (by rw [List.length_drop]; omega)
      rw [List.length_take] at a
      rw [List.length_drop] at b
      simp only [List.length_cons, List.length_append]
      omega
theorem swap2 {α : Type} {a b : α} {r : List α} : ∀ p ∈ b :: a :: r, p ∈ a :: b :: r := by
  intro p hp
  rcases List.mem_cons.mp hp with rfl | hp
  · exact .tail _ (.head _)
  rcases List.mem_cons.mp hp with rfl | hp
  · exact .head _
  exact .tail _ (.tail _ hp)
theorem merge_sorted {l r : List Int} (h1 : l.Pairwise (· ≤ ·)) (h2 : r.Pairwise (· ≤ ·)) : (List.merge l r leI).Pairwise (· ≤ ·) := by
  have key := List.pairwise_merge (le := leI) (fun a b c h1 h2 => by simp only [leI, decide_eq_true_eq] at *; omega) (fun a b => by simp only [leI, Bool.or_eq_true, decide_eq_true_eq]; omega) l r (h1.imp fun h => by simpa [leI] using h) (h2.imp fun h => by simpa [leI] using h)
  exact key.imp fun h => by simpa [leI] using h
theorem seq_next {M : Model} {A : Around} {t : Sem Flow} {E : Value → Shared → Prop} {s0 : Shared} {g : Heap} {L' : Addr} {Mf : PySem.Str → Option Value} {NN : List (Addr × Obj)} {Q : Flow → Shared → Prop} (kF : Fr g L' s0.heap Mf) (kN : News g L' s0.heap NN)
    (h1 : wpAny M A t (fun f s' => f = .next ∧ ∃ h' tk', s' = { s0 with heap := h', toks := tk' } ∧ Fr g L' h' Mf ∧ News g L' h' NN) E s0) (h2 : ∀ h' tk', Fr g L' h' Mf → News g L' h' NN → Q .next { s0 with heap := h', toks := tk' }) : wpAny M A t Q E s0 :=
  wpAny_mono h1 (fun f s' ⟨e, h', tk', e', F', N'⟩ => by subst e e'; exact h2 h' tk' F' N') fun _ _ x => x
theorem mid_tail : ∀ (w : World) (log f : Addr) (lamL : List (Addr × Obj)) (of : Obj) (j : Nat) (mean : ExcName → Option Value) (mg mb : PySem.Str → Option Value) (dp un : Nat) (gd : Option (List Code)) (cn : PySem.Str) (nms : List (PySem.Str × NameKind)) (ig ic : Bool) (mo : List (PySem.Str × Const)) (L a : Addr) (ccd : Value) (cl : List (PySem.Str × Addr)) (outer : List Env) (base g : Heap) (L' : Addr) (R : PySem.Str → Option Value) (zl dzl zu dzu vl : Addr) (nm : PySem.Str) (u1 u2 u3 v1 v2 v3 : Tok) (vals : List Value) (ev : Nat) (ns : List Int) (logs : List Value) (el : Nat) (rest : List (Addr × Obj)) (s : Shared) (Q : Flow → Shared → Prop),
    (f, of) ∈ lamL → Callee of → ServeOk w log f lamL j → (∀ p ∈ lamL, p ∈ rest) → (∀ p ∈ rest, p.1 ≠ log) → (zl, instObj 45 dzl) ∈ rest → (dzl, methD w.params (.ref f) (lowN nm) u1 u2 u3) ∈ rest → (zu, instObj 45 dzu) ∈ rest → (dzu, methD w.params (.ref f) (uppN nm) v1 v2 v3) ∈ rest → (vl, W.listOf vals.toArray ev) ∈ rest → IntsAre vals ns → 2 ≤ ns.length → ns.length ≤ j + 2 → ns.length ≤ 30 → logs.length + 2 * ns.length ≤ 201 → nm.length + 20 * j ≤ 880 →
    Below (ktrTop dp un gd cn ⟨.function, nms, ig, ic, mo⟩ L a ccd cl outer) base (envX cn ⟨.function, nms, ig, ic, mo⟩ L a ccd cl :: outer) g → (hd04.heap_39 w.params).In g → Top topProg (looseW hd04.view_39 [PySem.Str.ofString "_Method"] ++ (recsOf hd04.view_39).map (fun x => x.name) ++ (litsOf hd04.view_39).map (fun x => x.1) ++ (clssOf hd04.view_39 (looseW hd04.view_39 [PySem.Str.ofString "_Method"])).map (fun x => x.name)) mean mg mb g →
    Fr g L' s.heap (fun y => if y = PySem.Str.ofString "upper" then some (.ref zu) else if y = PySem.Str.ofString "lower" then some (.ref zl) else if y = PySem.Str.ofString "values" then some (.ref vl) else R y) → News g L' s.heap ((log, W.listOf logs.toArray el) :: rest) → dp + 1 + (6 * j + 22) < recursionLimit → un + 3 + (60 * j + 120) < cLine →
    (∀ r n' m' h' tk', Fr g L' h' m' → News g L' h' n' → Served log rest logs (callsOf j (lowN nm) (ns.take (cutOf ns)) ++ callsOf j (uppN nm) (ns.drop (cutOf ns))) ns r n' → Q (.ret r) { s with heap := h', toks := tk' }) →
    wpAny (model Challenge.rw_dn0306_04.prog w) ((ktrTop dp un gd cn ⟨.function, nms, ig, ic, mo⟩ L a ccd cl outer).deeper (envS L')) (execs (serveB.drop 5) (envS L')) Q (fun _ _ => False) s := by
  k_fill
  intro w log f lamL of j mean mg mb dp un gd cn nms ig ic mo L a ccd cl outer base g L' R zl dzl zu dzu vl nm u1 u2 u3 v1 v2 v3 vals ev ns logs el rest s Q hol hcf ih hlam hne hzl hdzl hzu hdzu hvl hI h2 hj h30 hlg hnm B X T F N hd hu hret
  refine lit2 (x := fnScope serveDef) (y := serveB.drop 5) (P := fun scp bd => wpAny (model Challenge.rw_dn0306_04.prog w) ((ktrTop dp un gd cn ⟨.function, nms, ig, ic, mo⟩ L a ccd cl outer).deeper (envOf (PySem.Str.ofString "_law_serve") scp L' 56 (.ref 55))) (execs bd (envOf (PySem.Str.ofString "_law_serve") scp L' 56 (.ref 55))) Q (fun _ _ => False) s) ⟨_, _, _, _, _⟩ (_ :: _) rfl rfl ?_
  have hvn := hI.length
  obtain ⟨t0, g0⟩ := hI.get 0 ns[0] (by simp)
  have g0' : vals[(0 : Int).toNat]? = some (.int ns[0] t0) := g0
  obtain ⟨p0, p1, p2, p3⟩ := cut_facts (ns := ns) hvn h2 (by omega)
  walk_at "mine"
  show wpAny _ _ _ _ _ _
  generalize 1 + ns[0].fmod ((vals.length : Int) - 1) = cI at *
  refine callWith_led (o := instObj 45 dzl) (.inl rfl) ?_
  walk_at "mine"
  show wpAny _ _ _ _ _ _
  rename News g L' _ _ => kN
  rename Fr g L' _ _ => kF
  rename_i D1 _ l9
  have hc := rec_call hol hcf ih ((D1, W.listOf (vals.take cI.toNat).toArray 0) :: rest) logs el (lowN nm) zl dzl u1 u2 u3 D1 _ 0 (ns.take (cutOf ns)) (fun p hp => .tail _ (hlam p hp)) ?ne1 (.tail _ hzl) (.tail _ hdzl) (.head _) (p1 ▸ hI.take _) (by rw [List.length_take]; omega) (by rw [List.length_take]; omega) (by rw [List.length_take]; omega) (by rw [List.length_take]; omega) (by rw [kidN_len, show (PySem.Str.ofString "lower").length = 5 by decide]; omega)
  case ne1 =>
    intro p hp
    rcases List.mem_cons.mp hp with rfl | hp
    · exact Nat.ne_of_gt l9.1
    · exact hne p hp
  unfold Calls at hc
  refine hc mean mg mb _ _ _ _ _ _ _ _ _ _ _ _ _ _ _ _ _ _ _ _ B kF X (news_sub kN swap2) T (by show dp + 1 + _ < _; omega) (by show un + 3 + _ < _; omega) ?_
  clear hc
  rintro r n1 h9 tk9 F9 N9 ⟨ext1, new1, el1, R1, rv1, er1, ms1, rfl, s2, s3, s4, s5, s6, s7, s8⟩
  replace N9 := news_sub N9 s2
  clear s2 kN kF
  have sub1 : ∀ p ∈ rest, p ∈ ext1 ++ (D1, W.listOf (vals.take cI.toNat).toArray 0) :: rest := fun p hp => List.mem_append_right _ (.tail _ hp)
  have hne1 : ∀ p ∈ ext1 ++ (D1, W.listOf (vals.take cI.toNat).toArray 0) :: rest, p.1 ≠ log := by
    intro p hp
    rcases List.mem_append.mp hp with hp | hp
    · exact s3 p hp
    rcases List.mem_cons.mp hp with rfl | hp
    · exact Nat.ne_of_gt l9.1
    · exact hne p hp
  generalize hr1 : ext1 ++ (D1, W.listOf (vals.take cI.toNat).toArray 0) :: rest = rest1 at *
  have hzu1 := sub1 _ hzu
  have hvl1 := sub1 _ hvl
  walk_at "mine"
  show wpAny _ _ _ _ _ _
  refine callWith_led (o := instObj 45 dzu) (.inl rfl) ?_
  walk_at "mine"
  show wpAny _ _ _ _ _ _
  rename News g L' _ _ => kN
  rename Fr g L' _ _ => kF
  rename_i D2 _ m9
  have ln1 : new1.length + 1 ≤ 2 * cutOf ns := by
    have := callsOf_len j (lowN nm) (ns.take (cutOf ns)) (by rw [List.length_take]; omega) (by rw [List.length_take]; omega)
    rw [List.length_take] at this
    rw [s4.length]
    omega
  have hc := rec_call hol hcf ih ((D2, W.listOf (vals.drop cI.toNat).toArray 0) :: rest1) (logs ++ new1) el1 (uppN nm) zu dzu v1 v2 v3 D2 _ 0 (ns.drop (cutOf ns)) (fun p hp => .tail _ (sub1 _ (hlam p hp))) ?ne2 (.tail _ hzu1) (.tail _ (sub1 _ hdzu)) (.head _) (p1 ▸ hI.drop _) (by rw [List.length_drop]; omega) (by rw [List.length_drop]; omega) (by rw [List.length_drop]; omega) (by rw [List.length_append, List.length_drop]; omega) (by rw [kidN_len, kidN_len, show (PySem.Str.ofString "upper").length = 5 by decide, show (PySem.Str.ofString "half").length = 4 by decide]; omega)
  case ne2 =>
    intro p hp
    rcases List.mem_cons.mp hp with rfl | hp
    · exact Nat.ne_of_gt m9.1
    · exact hne1 p hp
  unfold Calls at hc
  refine hc mean mg mb _ _ _ _ _ _ _ _ _ _ _ _ _ _ _ _ _ _ _ _ B kF X (news_sub kN swap2) T (by show dp + 1 + _ < _; omega) (by show un + 3 + _ < _; omega) ?_
  clear hc
  rintro r n2 h8 tk8 F8 N8 ⟨ext2, new2, el2, R2, rv2, er2, ms2, rfl, s2', s3', s4', s5', s6', s7', s8'⟩
  replace N8 := news_sub N8 s2'
  clear s2' kN kF
  have sub2 : ∀ p ∈ rest1, p ∈ ext2 ++ (D2, W.listOf (vals.drop cI.toNat).toArray 0) :: rest1 := fun p hp => List.mem_append_right _ (.tail _ hp)
  have hne2 : ∀ p ∈ ext2 ++ (D2, W.listOf (vals.drop cI.toNat).toArray 0) :: rest1, p.1 ≠ log := by
    intro p hp
    rcases List.mem_append.mp hp with hp | hp
    · exact s3' p hp
    rcases List.mem_cons.mp hp with rfl | hp
    · exact Nat.ne_of_gt m9.1
    · exact hne1 p hp
  generalize hr2 : ext2 ++ (D2, W.listOf (vals.drop cI.toNat).toArray 0) :: rest1 = rest2 at *
  have hR1 := sub2 _ s5
  walk_at "mine"
  show wpAny _ _ _ _ _ _
  rename News g L' _ _ => kN
  rename Fr g L' _ _ => kF
  refine seq_next kF kN ?_ ?_
  · refine wpAny_If ?_
    walk_at "mine"
    all_goals first | exact kF | exact kN
  · intro h7 tk7 F7 N7
    show wpAny _ _ _ _ _ _
    have nl1 := s7.length_eq
    have nl2 := s7'.length_eq
    rw [List.length_take] at nl1
    rw [List.length_drop] at nl2
    refine merge_tail w mean mg mb dp un gd cn ⟨.function, nms, ig, ic, mo⟩ L a ccd cl outer _ _ base g L' _ R1 R2 rv1 rv2 ms1 ms2 er1 er2 _ _ _ B X T F7 N7 (.tail _ hR1) (.tail _ s5') s6 s6' (by omega) (by omega) (by omega) (by omega) ?_
    intro D vs e ext m' h' tk' F6 N6 lD lext hv
    have key : ((D, W.listOf vs.toArray e) :: (ext ++ (ext2 ++ (D2, W.listOf (vals.drop cI.toNat).toArray 0) :: (ext1 ++ [(D1, W.listOf (vals.take cI.toNat).toArray 0)])))) ++ rest = (D, W.listOf vs.toArray e) :: (ext ++ rest2) := by rw [← hr2, ← hr1]; simp
    have sub3 : ∀ p ∈ rest2, p ∈ (D, W.listOf vs.toArray e) :: (ext ++ rest2) := fun p hp => .tail _ (List.mem_append_right _ hp)
    refine hret (.ref D) _ m' h' tk' F6 N6 ⟨(D, W.listOf vs.toArray e) :: (ext ++ (ext2 ++ (D2, W.listOf (vals.drop cI.toNat).toArray 0) :: (ext1 ++ [(D1, W.listOf (vals.take cI.toNat).toArray 0)]))), new1 ++ new2, el2, D, vs, e, _, rfl, ?_, ?_, ?_, ?_, hv, ?_, merge_sorted s8 s8'⟩
    · intro p hp
      rw [key] at hp
      rcases List.mem_cons.mp hp with rfl | hp
      · rw [← List.append_assoc]; exact .tail _ (List.mem_append_right _ (.head _))
      rcases List.mem_cons.mp hp with rfl | hp
      · exact .head _
      rcases List.mem_append.mp hp with hp | hp
      · exact .tail _ (List.mem_append_left _ hp)
      · exact .tail _ (List.mem_append_right _ (.tail _ hp))
    · intro p hp
      rcases List.mem_cons.mp hp with rfl | hp
      · exact Nat.ne_of_gt (lD (log, _) (.head _))
      rcases List.mem_append.mp hp with hp | hp
      · exact Nat.ne_of_gt (lext p hp (log, _) (.head _))
      rcases List.mem_append.mp hp with hp | hp
      · exact s3' p hp
      rcases List.mem_cons.mp hp with rfl | hp
      · exact Nat.ne_of_gt m9.1
      rcases List.mem_append.mp hp with hp | hp
      · exact s3 p hp
      rw [List.mem_singleton.mp hp]
      exact Nat.ne_of_gt l9.1
    · rw [key]
      exact ((s4.mono sub2).append s4').mono sub3
    · exact .head _
    · refine (List.merge_perm_append leI).trans ?_
      have := s7.append s7'
      rwa [List.take_append_drop] at this
end Mine

namespace Mine
theorem pack_serve {P : Params} {g h : Heap} {L log f E z3 dz3 C zu dzu z2 dz2 zl dzl : Addr} {nm : PySem.Str} {t u1 u2 u3 v1 v2 v3 : Tok} {o3 o4 o5 o6 : Obj} {vals : List Value} {ec e : Nat} {lg : Array Value} {rest : List (Addr × Obj)}
    (N : News g L h ((E, W.listOf #[.str nm t, .ref C, .bool true, .bool false] 0) :: (z3, o3) :: (dz3, o4) :: (C, W.listOf vals.toArray ec) :: (zu, instObj 45 dzu) :: (dzu, methD P (.ref f) (uppN nm) v1 v2 v3) :: (z2, o5) :: (dz2, o6) :: (zl, instObj 45 dzl) :: (dzl, methD P (.ref f) (lowN nm) u1 u2 u3) :: (log, W.listOf lg e) :: rest))
    (h1 : E ≠ log) (h2 : z3 ≠ log) (h3 : dz3 ≠ log) (h4 : C ≠ log) (h5 : zu ≠ log) (h6 : dzu ≠ log) (h7 : z2 ≠ log) (h8 : dz2 ≠ log) (h9 : zl ≠ log) (h10 : dzl ≠ log) :
    ∃ A, News g L h ((log, W.listOf lg e) :: (A ++ rest)) ∧ (∀ p ∈ A, p.1 ≠ log) ∧ (E, W.listOf #[.str nm t, .ref C, .bool true, .bool false] 0) ∈ A ++ rest ∧ (C, W.listOf vals.toArray ec) ∈ A ++ rest ∧ (zu, instObj 45 dzu) ∈ A ++ rest ∧ (dzu, methD P (.ref f) (uppN nm) v1 v2 v3) ∈ A ++ rest ∧ (zl, instObj 45 dzl) ∈ A ++ rest ∧ (dzl, methD P (.ref f) (lowN nm) u1 u2 u3) ∈ A ++ rest := by
  refine ⟨[(E, W.listOf #[.str nm t, .ref C, .bool true, .bool false] 0), (z3, o3), (dz3, o4), (C, W.listOf vals.toArray ec), (zu, instObj 45 dzu), (dzu, methD P (.ref f) (uppN nm) v1 v2 v3), (z2, o5), (dz2, o6), (zl, instObj 45 dzl), (dzl, methD P (.ref f) (lowN nm) u1 u2 u3)], ?_, ?_, .head _, .tail _ (.tail _ (.tail _ (.head _))), .tail _ (.tail _ (.tail _ (.tail _ (.head _)))), .tail _ (.tail _ (.tail _ (.tail _ (.tail _ (.head _))))), .tail _ (.tail _ (.tail _ (.tail _ (.tail _ (.tail _ (.tail _ (.tail _ (.head _)))))))), .tail _ (.tail _ (.tail _ (.tail _ (.tail _ (.tail _ (.tail _ (.tail _ (.tail _ (.head _))))))))) ⟩
  · refine news_sub N ?_
    intro p hp
    simp only [List.cons_append, List.nil_append, List.mem_cons] at hp ⊢
    rcases hp with h | h | h | h | h | h | h | h | h | h | h | h <;> simp [h]
  · intro p hp
    simp only [List.mem_cons, List.not_mem_nil, or_false] at hp
    rcases hp with h | h | h | h | h | h | h | h | h | h <;> subst h <;> assumption
theorem served_up {log : Addr} {rest A : List (Addr × Obj)} {logs : List Value} {E C : Addr} {t : Tok} {cvs : List Value} {ec : Nat} {nm : PySem.Str} {ns : List Int} {cs : List (PySem.Str × List Int)} {r : Value} {n : List (Addr × Obj)} (hA : ∀ p ∈ A, p.1 ≠ log) (hE : (E, W.listOf #[.str nm t, .ref C, .bool true, .bool false] 0) ∈ A ++ rest) (hC : (C, W.listOf cvs.toArray ec) ∈ A ++ rest) (hI : IntsAre cvs ns)
    (h : Served log (A ++ rest) (logs ++ [.ref E]) cs ns r n) : Served log rest logs ((nm, ns) :: cs) ns r n := by
  obtain ⟨ext, new, el', R, rv, er, ms, e1, e2, e3, e4, e5, e6, e7, e8⟩ := h
  have sub : ∀ p ∈ A ++ rest, p ∈ (ext ++ A) ++ rest := fun p hp => by rw [List.append_assoc]; exact List.mem_append_right _ hp
  rw [List.append_assoc] at e2
  rw [← List.append_assoc] at e2 e4 e5
  rw [← List.append_assoc] at e2
  refine ⟨ext ++ A, .ref E :: new, el', R, rv, er, ms, e1, ?_, ?_, ?_, e5, e6, e7, e8⟩
  · simpa using e2
  · intro p hp
    rcases List.mem_append.mp hp with hp | hp
    · exact e3 p hp
    · exact hA p hp
  · exact .cons (sub _ hE) (sub _ hC) hI e4
local macro_rules | `(tactic| walk_at "mine") => `(tactic| repeat' (first | (k_unfold; (try dsimp only)) | walk1 | (dsimp only; walk1) | (leave1; try dsimp only) | fail "no step"))
local macro_rules | `(tactic| k_mem) => `(tactic| (repeat (first | exact List.Mem.head _ | assumption | refine List.Mem.tail _ ?_)))
local macro_rules | `(tactic| k_room) => `(tactic| ktr_room)
local macro_rules | `(tactic| k_all) => `(tactic| assumption)
local macro_rules | `(tactic| walk_at "getMethod ref") => `(tactic| (k_here; k_dflt (refine' methH ?k1 ?k2 ?k3 ?k4 ?k5 ?_; (case k1 => k_asm); (case k2 => k_asm); (case k3 => k_inst); (case k4 => k_is); (case k5 => k_is); k_whole)))
local macro_rules | `(tactic| walk_at "getAttr ref") => `(tactic| (k_here; k_dflt (refine' getH_miss ?k1 ?k2 ?k3 ?k4 ?k5 ?k6 ?k7 ?k8 ?k9 ?k10 ?_; (case k1 => k_asm); (case k2 => k_asm); (case k3 => k_inst); (case k4 => k_is); (case k5 => k_is); (case k6 => k_is); (case k7 => k_get); (case k8 => decide); (case k9 => k_is); (case k10 => k_is); k_whole)))
local macro_rules | `(tactic| walk_at "call builtin:list.append") => `(tactic| (k_dflt (refine' append_K ?k1 ?k2 ?k3 ?_ ?z; (case k1 => k_asm); (case k2 => k_asm); (case k3 => k_upd); (case z => (rw [sizeLine_eq]; (try simp only [List.size_toArray]); omega)); k_whole); intro h' F' N'))
local macro_rules | `(tactic| walk_at "call builtin:len") => `(tactic| (k_dflt (refine lenV (News.isList (by k_asm) (by k_mem)) (by omega) ?_); intro t9 k9 u9; (try dsimp only at u9)))
local macro_rules | `(tactic| walk_at "call type:list") => `(tactic| (k_dflt (refine list_copyK (by k_asm) (by k_asm) (News.isList (by k_asm) (by k_mem)) ?_ (by rw [sizeLine_eq]; simp only [List.size_toArray]; omega)); intro D' c' h' F' N' l1; (try k_lt l1)))
local macro_rules | `(tactic| walk_at "call ref") => `(tactic| refine Halt.go ?_)
local macro_rules | `(tactic| walk_at "call ref") => `(tactic| (k_dflt (refine' kid _ _ _ _ _ _ _ _ _ _ _ ?m1 ?m2 ?n1 ?n2 _ _ _ _ _ _ _ _ _ _ _ _ _ _ _ _ _ _ _ _ _ _ _ ?B ?F ?X ?N ?T ?hd ?hu ?_; (case B => k_asm); (case F => k_asm); (case X => k_asm); (case N => k_asm); (case T => k_asm); (case m1 => k_mem); (case m2 => k_mem); (case n1 => (first | omega | (rw [kidN_len, show (PySem.Str.ofString "upper").length = 5 by decide]; omega))); (case n2 => decide); (case hd => ktr_room); (case hu => (dsimp only [Around.deeper]; omega))); intro z9 d9 u91 u92 u93 h' tk' l1 l2 F' N'; (try k_lt l1); (try k_lt2 l2)))
local macro_rules | `(tactic| walk_at "callWith ref") => `(tactic| refine Halt.go ?_)
local macro_rules | `(tactic| walk_at "exec If Compare cons nil") => `(tactic| refine Halt.go ?_)
local macro_rules | `(tactic| walk_at "exec While") => `(tactic| refine Halt.go ?_)
theorem serve_body {w : World} {log f : Addr} {lamL : List (Addr × Obj)} {of : Obj} (hol : (f, of) ∈ lamL) (hcf : Callee of) {k : Nat} (ih : ∀ j, j + 1 = k → ServeOk w log f lamL j)
    (rest : List (Addr × Obj)) (logs : List Value) (el : Nat) (nm : PySem.Str) (t : Tok) (D me dme : Addr) (t1 t2 t3 : Tok) (vl : Addr) (vals : List Value) (ev : Nat) (ns : List Int)
    (hl : ∀ p ∈ lamL, p ∈ rest) (hne : ∀ p ∈ rest, p.1 ≠ log) (hD : (D, tupO [.ref me, .ref vl]) ∈ rest) (hme : (me, instObj 45 dme) ∈ rest) (hdme : (dme, methD w.params (.ref f) nm t1 t2 t3) ∈ rest) (hvl : (vl, W.listOf vals.toArray ev) ∈ rest) (hI : IntsAre vals ns) (h1 : 1 ≤ ns.length) (h2 : ns.length ≤ k + 1) (h3 : ns.length ≤ 30) (h4 : logs.length + 2 * ns.length ≤ 200) (h5 : nm.length + 20 * k ≤ 900) :
    Calls w (6 * k + 18) (60 * k + 80) 56 [.ref log, .str nm t, .ref D] ((log, W.listOf logs.toArray el) :: rest) (Served log rest logs (callsOf k nm ns) ns) := by
  unfold Calls
  k_fill
  intro mean mg mb dp un gd cn nms ig ic mo a ccd cl outer A₀ base h₀ L m s Q E B F X N T hd hu hret
  have hk9 : (envX cn ⟨.function, nms, ig, ic, mo⟩ L a ccd cl).scope.kind = .function := rfl
  have hvn : vals.length = ns.length := hI.length
  refine never ?_
  refine wpAny_call ?_
  k_dflt ktr_enter
  rename_i g' L' h' FG' F' N' B' X' T'
  walk_at "mine"
  show wpAny _ _ _ _ _ _
  rename News g' L' _ _ => kN
  rename Fr g' L' _ _ => kF
  rw [List.push_toArray] at kN
  obtain ⟨AA, kN', hAne, mE, mC, mzu, mdzu, mzl, mdzl⟩ := pack_serve kN (by k_ne) (by k_ne) (by k_ne) (by k_ne) (by k_ne) (by k_ne) (by k_ne) (by k_ne) (by k_ne) (by k_ne)
  clear kN
  have kN := kN'
  clear kN'
  have mvl : (vl, W.listOf vals.toArray ev) ∈ AA ++ rest := List.mem_append_right _ hvl
  by_cases c2 : ns.length < 2
  · refine wpAny_If ?_
    walk_at "mine"
    rename News h₀ L _ _ => kN9
    rename Fr h₀ L _ _ => kF9
    have e9 : callsOf k nm ns = [(nm, ns)] := by
      cases k with
      | zero => rfl
      | succ k => show _ :: (if _ then _ else _) = _; rw [if_pos c2]
    rw [e9] at hret
    refine hret _ _ _ _ kF9 kN9 (served_up hAne mE mC hI ⟨[], [], el + 1, vl, vals, ev, ns, rfl, ?_, ?_, .nil, mvl, hI, .refl _, ?_⟩)
    · intro p hp
      simpa using hp
    · intro p hp; cases hp
    · match ns, h1, c2 with
      | [x], _, _ => simp
  · refine seq_next kF kN ?_ ?_
    · refine wpAny_If ?_
      walk_at "mine"
      all_goals first | exact kF | exact kN
    · intro h7 tk7 F7 N7
      show wpAny _ _ _ _ _ _
      obtain ⟨j, rfl⟩ : ∃ j, k = j + 1 := ⟨k - 1, by omega⟩
      have e9 : callsOf (j + 1) nm ns = (nm, ns) :: (callsOf j (lowN nm) (ns.take (cutOf ns)) ++ callsOf j (uppN nm) (ns.drop (cutOf ns))) := by
        show _ :: (if _ then _ else _) = _
        rw [if_neg c2]
      rw [e9] at hret
      refine never ?_
      refine mid_tail w log f lamL of j mean mg mb dp un gd cn nms ig ic mo L a ccd cl outer base g' L' _ _ _ _ _ vl nm _ _ _ _ _ _ vals ev ns _ _ (AA ++ rest) ⟨h7, _, _, tk7, _⟩ _ hol hcf (ih j rfl) (fun p hp => List.mem_append_right _ (hl p hp)) ?ne mzl mdzl mzu mdzu mvl hI (by omega) (by omega) (by omega) (by rw [List.length_append, List.length_singleton]; omega) (by omega) B' X' T' F7 N7 (by omega) (by omega) ?_
      case ne =>
        intro p hp
        rcases List.mem_append.mp hp with hp | hp
        · exact hAne p hp
        · exact hne p hp
      intro r n' m' h8 tk8 F8 N8 S8
      walk_at "mine"
      rename News h₀ L _ _ => kN9
      rename Fr h₀ L _ _ => kF9
      exact hret _ _ _ _ kF9 kN9 (served_up hAne mE mC hI S8)
end Mine

namespace Mine
theorem serve_all {w : World} {log f c clog : Addr} {oc olog : Obj} {q : PySem.Str} {pm ct : Value} {vs : Array Value} {tq : Tok} (hc : oc.data = .fields vs) (hc2 : vs[1]? = some (.str q tq)) (h1 : olog.data = .cell (some (.ref log))) :
    ∀ k, ServeOk w log f [(f, kla_obj (PySem.Str.ofString "<lambda>") q lam4.1 lam4.2.1 lam4.2.2 [(PySem.Str.ofString "log", clog)] pm c ct), (c, oc), (clog, olog)] k := by
  intro k
  induction k with
  | zero =>
    unfold ServeOk
    intro rest logs el nm t D me dme t1 t2 t3 vl vals ev ns hrest hlog hD hme hdme hvl hI hn1 hnk hn30 hlg hnm
    exact Calls.mono (lam_serve w log f c clog oc olog q pm ct vs tq hc hc2 h1 (6 * 0 + 18) (60 * 0 + 80) rest logs.toArray el nm t D _ hrest (serve_body (.head _) (.inr ⟨_, rfl⟩) (fun j hj => absurd hj (by omega)) rest logs el nm t D me dme t1 t2 t3 vl vals ev ns hrest hlog hD hme hdme hvl hI hn1 hnk hn30 hlg hnm)) (fun _ _ p => p) (by omega) (by omega)
  | succ k ih =>
    unfold ServeOk
    intro rest logs el nm t D me dme t1 t2 t3 vl vals ev ns hrest hlog hD hme hdme hvl hI hn1 hnk hn30 hlg hnm
    have ih' : ∀ j, j + 1 = k + 1 → ServeOk w log f [(f, kla_obj (PySem.Str.ofString "<lambda>") q lam4.1 lam4.2.1 lam4.2.2 [(PySem.Str.ofString "log", clog)] pm c ct), (c, oc), (clog, olog)] j := fun j hj => (Nat.succ.inj hj).symm ▸ ih
    exact Calls.mono (lam_serve w log f c clog oc olog q pm ct vs tq hc hc2 h1 (6 * (k + 1) + 18) (60 * (k + 1) + 80) rest logs.toArray el nm t D _ hrest (serve_body (.head _) (.inr ⟨_, rfl⟩) ih' rest logs el nm t D me dme t1 t2 t3 vl vals ev ns hrest hlog hD hme hdme hvl hI hn1 hnk hn30 hlg hnm)) (fun _ _ p => p) (by omega) (by omega)
theorem serve_all2 {w : World} {log f c clog : Addr} {oc olog : Obj} {q : PySem.Str} {pm ct : Value} {vs : Array Value} {tq : Tok} {p : Arguments} {b : Expr} {sc : Scope} (e : lam4 = (p, b, sc)) (hc : oc.data = .fields vs) (hc2 : vs[1]? = some (.str q tq)) (h1 : olog.data = .cell (some (.ref log))) (k : Nat) :
    ServeOk w log f [(f, kla_obj (PySem.Str.ofString "<lambda>") q p b sc [(PySem.Str.ofString "log", clog)] pm c ct), (c, oc), (clog, olog)] k := by
  have := serve_all (w := w) (log := log) (f := f) (c := c) (clog := clog) (oc := oc) (olog := olog) (q := q) (pm := pm) (ct := ct) hc hc2 h1 k
  rw [e] at this
  exact this
theorem callsOf_stable : ∀ (k : Nat) (nm : PySem.Str) (ns : List Int), 1 ≤ ns.length → ns.length ≤ k + 1 → callsOf (k + 1) nm ns = callsOf k nm ns
  | 0, nm, ns, h1, h2 => by
    show _ :: (if _ then _ else _) = [(nm, ns)]
    rw [if_pos (by omega)]
  | k + 1, nm, ns, h1, h2 => by
    by_cases hlt : ns.length < 2
    · show _ :: (if _ then _ else _) = _ :: (if _ then _ else _)
      rw [if_pos hlt, if_pos hlt]
    · obtain ⟨_, _, c1, c2⟩ := cut_facts (ns := ns) rfl (by omega) (by omega)
      show _ :: (if _ then _ else _) = _ :: (if _ then _ else _)
      rw [if_neg hlt, if_neg hlt, callsOf_stable k (lowN nm) (ns.take (cutOf ns)) (by rw [List.length_take]; omega) (by rw [List.length_take]; omega), callsOf_stable k (uppN nm) (ns.drop (cutOf ns)) (by rw [List.length_drop]; omega) (by rw [List.length_drop]; omega)]
def calls4 (nm : PySem.Str) (ns : List Int) : List (PySem.Str × List Int) := callsOf 30 nm ns
theorem calls_one {nm : PySem.Str} {ns : List Int} (h : ns.length < 2) : calls4 nm ns = [(nm, ns)] := by
  unfold calls4
  show _ :: (if _ then _ else _) = _
  rw [if_pos h]
theorem calls_two {nm : PySem.Str} {ns : List Int} (h : 2 ≤ ns.length) (h30 : ns.length ≤ 30) : calls4 nm ns = (nm, ns) :: (calls4 (lowN nm) (ns.take (cutOf ns)) ++ calls4 (uppN nm) (ns.drop (cutOf ns))) := by
  obtain ⟨_, _, c1, c2⟩ := cut_facts (ns := ns) rfl (by omega) (by omega)
  unfold calls4
  show _ :: (if _ then _ else _) = _
  have a := callsOf_stable 29 (lowN nm) (ns.take (cutOf ns)) (by rw [List.length_take]; omega) (by rw [List.length_take]; omega)
  have b := callsOf_stable 29 (uppN nm) (ns.drop (cutOf ns)) (by rw [List.length_drop]; omega) (by rw [List.length_drop]; omega)
  rw [if_neg (by omega), ← a, ← b]
theorem calls_len {nm : PySem.Str} {ns : List Int} (h : 1 ≤ ns.length) (h30 : ns.length ≤ 30) : (calls4 nm ns).length + 1 ≤ 2 * ns.length := callsOf_len 30 nm ns h (by omega)
theorem str_ext {x y : PySem.Str} (h : x.cps.toList = y.cps.toList) : x = y := by
  cases x; cases y
  congr 1
  exact Array.toList_inj.mp h
theorem low_eq (nm : PySem.Str) : nm ++ PySem.Str.ofString ".lower" = lowN nm := by
  refine str_ext ?_
  simp only [lowN, kidN, Str.cps_append, Array.toList_append]
  rw [show (PySem.Str.empty).cps.toList = [] from rfl, show (PySem.Str.ofString ".lower").cps.toList = (PySem.Str.ofString ".").cps.toList ++ (PySem.Str.ofString "lower").cps.toList by decide]
  simp
theorem upp_eq (nm : PySem.Str) : nm ++ PySem.Str.ofString ".upper.half" = uppN nm := by
  refine str_ext ?_
  simp only [uppN, kidN, Str.cps_append, Array.toList_append]
  rw [show (PySem.Str.empty).cps.toList = [] from rfl, show (PySem.Str.ofString ".upper.half").cps.toList = (PySem.Str.ofString ".").cps.toList ++ (PySem.Str.ofString "upper").cps.toList ++ (PySem.Str.ofString ".").cps.toList ++ (PySem.Str.ofString "half").cps.toList by decide]
  simp
structure It where
  A : Addr
  nm : PySem.Str
  t : Tok
  rl : Addr
  rv : List Value
  er : Nat
  ns : List Int
structure ItOk (n : List (Addr × Obj)) (it : It) : Prop where
  ent : (it.A, W.listOf #[.str it.nm it.t, .ref it.rl] 0) ∈ n
  row : (it.rl, W.listOf it.rv.toArray it.er) ∈ n
  nums : IntsAre it.rv it.ns
  one : 1 ≤ it.ns.length
  most : it.ns.length ≤ 30
  name : it.nm.length + 20 * it.ns.length ≤ 900
structure HS where
  nv : Option Value
  rw' : Option Value
  cu : Option Value
  st : List It
  cv : List Value
  eh : Nat
  ec : Nat
  dn : List (PySem.Str × List Int)
  ext : List (Addr × Obj)
abbrev refs (st : List It) : List Value := st.map fun it => .ref it.A
def stCalls (st : List It) : List (PySem.Str × List Int) := st.reverse.flatMap fun it => calls4 it.nm it.ns
structure HJ (rest : List (Addr × Obj)) (hp ca : Addr) (nm0 : PySem.Str) (ns0 : List Int) (y : HS) : Prop where
  items : ∀ it ∈ y.st, ItOk (y.ext ++ rest) it
  log : Log4 (y.ext ++ rest) y.cv y.dn
  run : y.dn ++ stCalls y.st = calls4 nm0 ns0
  off : ∀ p ∈ y.ext, p.1 ≠ hp ∧ p.1 ≠ ca
  few : y.st.length ≤ y.dn.length + 1
abbrev hF (M : PySem.Str → Option Value) (y : HS) : PySem.Str → Option Value := fun z => if z = PySem.Str.ofString "name" then y.nv else if z = PySem.Str.ofString "row" then y.rw' else if z = PySem.Str.ofString "cut" then y.cu else M z
abbrev hG (hp ca : Addr) (rest : List (Addr × Obj)) (y : HS) : List (Addr × Obj) := (hp, W.listOf (refs y.st).toArray y.eh) :: (ca, W.listOf y.cv.toArray y.ec) :: (y.ext ++ rest)
abbrev env4 (sc : Scope) (L fa : Addr) : Env := envOfC (PySem.Str.ofString "law") sc L fa (.ref 62)
abbrev hcF (R : PySem.Str → Option Value) (hp ca : Addr) : PySem.Str → Option Value := fun z => if z = PySem.Str.ofString "heap" then some (.ref hp) else if z = PySem.Str.ofString "calls" then some (.ref ca) else R z
theorem stCalls_snoc (st : List It) (it : It) : stCalls (st.concat it) = calls4 it.nm it.ns ++ stCalls st := by
  simp [stCalls, List.concat_eq_append]
theorem stCalls_two (st : List It) (u v : It) : stCalls (st ++ [u, v]) = calls4 v.nm v.ns ++ (calls4 u.nm u.ns ++ stCalls st) := by
  simp [stCalls]
theorem ItOk.mono {n n' : List (Addr × Obj)} {it : It} (h : ItOk n it) (s : ∀ p ∈ n, p ∈ n') : ItOk n' it := ⟨s _ h.ent, s _ h.row, h.nums, h.one, h.most, h.name⟩
theorem h_fr1 {g h : Heap} {L : Addr} {M : PySem.Str → Option Value} {y y' : HS} {a b : Option Value} (F : Fr g L h (fun z => if z = PySem.Str.ofString "row" then a else if z = PySem.Str.ofString "name" then b else hF M y z)) (h1 : y'.nv = b) (h2 : y'.rw' = a) (h3 : y'.cu = y.cu) : Fr g L h (hF M y') := by
  refine fr_eq F fun z => ?_
  by_cases e1 : z = PySem.Str.ofString "row"
  · subst e1; exact h2.symm
  by_cases e2 : z = PySem.Str.ofString "name"
  · subst e2; exact h1.symm
  simp only [hF, if_neg e1, if_neg e2, h3]
theorem h_fr2 {g h : Heap} {L : Addr} {M : PySem.Str → Option Value} {y y' : HS} {a b c : Option Value} (F : Fr g L h (fun z => if z = PySem.Str.ofString "cut" then c else if z = PySem.Str.ofString "row" then a else if z = PySem.Str.ofString "name" then b else hF M y z)) (h1 : y'.nv = b) (h2 : y'.rw' = a) (h3 : y'.cu = c) : Fr g L h (hF M y') := by
  refine fr_eq F fun z => ?_
  by_cases e0 : z = PySem.Str.ofString "cut"
  · subst e0; exact h3.symm
  by_cases e1 : z = PySem.Str.ofString "row"
  · subst e1; exact h2.symm
  by_cases e2 : z = PySem.Str.ofString "name"
  · subst e2; exact h1.symm
  simp only [hF, if_neg e0, if_neg e1, if_neg e2]
section
variable {rest : List (Addr × Obj)} {hp ca : Addr} {nm0 : PySem.Str} {ns0 : List Int} {nv rwv cu : Option Value} {st' : List It} {A rl : Addr} {nm : PySem.Str} {t : Tok} {rv : List Value} {er : Nat} {ns : List Int} {cv : List Value} {eh ec : Nat} {dn : List (PySem.Str × List Int)} {ext : List (Addr × Obj)}
theorem hj_one (hJ : HJ rest hp ca nm0 ns0 ⟨nv, rwv, cu, st'.concat ⟨A, nm, t, rl, rv, er, ns⟩, cv, eh, ec, dn, ext⟩) (c2 : ns.length < 2) {a b c : Option Value} {E : Addr} {t' : Tok} (e1 : E ≠ hp) (e2 : E ≠ ca) :
    HJ rest hp ca nm0 ns0 ⟨a, b, c, st', cv ++ [.ref E], eh + 1, ec + 1, dn ++ [(nm, ns)], (E, W.listOf #[.str nm t', .ref rl, .bool true, .bool false] 0) :: ext⟩ := by
  obtain ⟨h1, h2, h3, h4, h5⟩ := hJ
  dsimp only at h1 h2 h3 h4 h5
  have sub : ∀ p ∈ ext ++ rest, p ∈ ((E, W.listOf #[.str nm t', .ref rl, .bool true, .bool false] 0) :: ext) ++ rest := fun p hp => .tail _ hp
  have io := h1 ⟨A, nm, t, rl, rv, er, ns⟩ (by simp [List.concat_eq_append])
  refine ⟨fun it hit => (h1 it (by simp [List.concat_eq_append, hit])).mono sub, (h2.mono sub).append (.cons (.head _) (sub _ io.row) io.nums .nil), ?_, ?_, ?_⟩
  · rw [stCalls_snoc, calls_one c2] at h3
    dsimp only
    rw [List.append_assoc]
    exact h3
  · intro p hp
    rcases List.mem_cons.mp hp with rfl | hp
    · exact ⟨e1, e2⟩
    · exact h4 p hp
  · rw [List.concat_eq_append, List.length_append, List.length_singleton] at h5
    dsimp only
    rw [List.length_append, List.length_singleton]
    omega
theorem hj_two (hJ : HJ rest hp ca nm0 ns0 ⟨nv, rwv, cu, st'.concat ⟨A, nm, t, rl, rv, er, ns⟩, cv, eh, ec, dn, ext⟩) (c2 : 2 ≤ ns.length) {a b c : Option Value} {E U V DU DV : Addr} {t' tu tv : Tok} {n1 n2 k : Nat} (hk : k = cutOf ns) (e1 : E ≠ hp ∧ E ≠ ca) (e2 : U ≠ hp ∧ U ≠ ca) (e3 : V ≠ hp ∧ V ≠ ca) (e4 : DU ≠ hp ∧ DU ≠ ca) (e5 : DV ≠ hp ∧ DV ≠ ca) :
    HJ rest hp ca nm0 ns0 ⟨a, b, c, st' ++ [⟨U, uppN nm, tu, DU, rv.drop k, n1, ns.drop (cutOf ns)⟩, ⟨V, lowN nm, tv, DV, rv.take k, n2, ns.take (cutOf ns)⟩], cv ++ [.ref E], eh + 1 + 1 + 1, ec + 1, dn ++ [(nm, ns)],
      (V, W.listOf #[.str (lowN nm) tv, .ref DV] 0) :: (DV, W.listOf (rv.take k).toArray n2) :: (U, W.listOf #[.str (uppN nm) tu, .ref DU] 0) :: (DU, W.listOf (rv.drop k).toArray n1) :: (E, W.listOf #[.str nm t', .ref rl, .bool true, .bool false] 0) :: ext⟩ := by
  subst hk
  obtain ⟨h1, h2, h3, h4, h5⟩ := hJ
  dsimp only at h1 h2 h3 h4 h5
  have io := h1 ⟨A, nm, t, rl, rv, er, ns⟩ (by simp [List.concat_eq_append])
  obtain ⟨i1, i2, i3, i4, i5, i6⟩ := io
  dsimp only at i1 i2 i3 i4 i5 i6
  obtain ⟨_, _, p2, p3⟩ := cut_facts (ns := ns) rfl c2 (by omega)
  have sub : ∀ p ∈ ext ++ rest, p ∈ ((V, W.listOf #[.str (lowN nm) tv, .ref DV] 0) :: (DV, W.listOf (rv.take (cutOf ns)).toArray n2) :: (U, W.listOf #[.str (uppN nm) tu, .ref DU] 0) :: (DU, W.listOf (rv.drop (cutOf ns)).toArray n1) :: (E, W.listOf #[.str nm t', .ref rl, .bool true, .bool false] 0) :: ext) ++ rest := fun p hp => .tail _ (.tail _ (.tail _ (.tail _ (.tail _ hp))))
  refine ⟨?_, (h2.mono sub).append (.cons (.tail _ (.tail _ (.tail _ (.tail _ (.head _))))) (sub _ i2) i3 .nil), ?_, ?_, ?_⟩
  · intro it hit
    rcases List.mem_append.mp hit with hit | hit
    · exact (h1 it (by simp [List.concat_eq_append, hit])).mono sub
    rcases List.mem_cons.mp hit with rfl | hit
    · refine ⟨.tail _ (.tail _ (.head _)), .tail _ (.tail _ (.tail _ (.head _))), i3.drop _, ?_, ?_, ?_⟩
      · dsimp only; rw [List.length_drop]; omega
      · dsimp only; rw [List.length_drop]; omega
      · dsimp only; rw [List.length_drop, kidN_len, kidN_len, show (PySem.Str.ofString "upper").length = 5 by decide, show (PySem.Str.ofString "half").length = 4 by decide]; omega
    · rw [List.mem_singleton.mp hit]
      refine ⟨.head _, .tail _ (.head _), i3.take _, ?_, ?_, ?_⟩
      · dsimp only; rw [List.length_take]; omega
      · dsimp only; rw [List.length_take]; omega
      · dsimp only; rw [List.length_take, kidN_len, show (PySem.Str.ofString "lower").length = 5 by decide]; omega
  · rw [stCalls_snoc, calls_two c2 i5] at h3
    dsimp only
    rw [← h3, stCalls_two, List.append_assoc]
    dsimp only
    rw [List.cons_append, List.nil_append, List.cons_append, List.append_assoc]
  · intro p hp
    rcases List.mem_cons.mp hp with rfl | hp
    · exact e3
    rcases List.mem_cons.mp hp with rfl | hp
    · exact e5
    rcases List.mem_cons.mp hp with rfl | hp
    · exact e2
    rcases List.mem_cons.mp hp with rfl | hp
    · exact e4
    rcases List.mem_cons.mp hp with rfl | hp
    · exact e1
    · exact h4 p hp
  · rw [List.concat_eq_append, List.length_append, List.length_singleton] at h5
    dsimp only
    rw [List.length_append, List.length_append, List.length_singleton]
    simp only [List.length_cons, List.length_nil]
    omega
end
theorem popV {prog : Program} {w : World} {A : Around} {E : Value → Shared → Prop} {s : Shared} {h₀ : Heap} {L D : Addr} {m : PySem.Str → Option Value} {news news' : List (Addr × Obj)} {n : Nat} {vs : List Value} {x : Value} {Q : Value → Shared → Prop} (F : Fr h₀ L s.heap m) (N : News h₀ L s.heap news) (U : Upd D (W.listOf (vs ++ [x]).toArray n) (W.listOf vs.toArray (n + 1)) news news') (hz : vs.length ≤ 900)
    (h : ∀ h', Fr h₀ L h' m → News h₀ L h' news' → Q x { s with heap := h' }) : wpAny (model prog w) A (call (.builtin "list.pop") [.ref D]) Q E s :=
  kl_pop F N (p := vs) (y := x) (by simpa using kpa_last x vs) U (by rw [sizeLine_eq]; simp; omega) h
theorem truthV {prog : Program} {w : World} {A : Around} {E : Value → Shared → Prop} {s : Shared} {l : Addr} {vs : List Value} {x : Value} {Q : Bool → Shared → Prop} (hl : s.heap.IsList l (vs ++ [x]).toArray) (hb : vs.length ≤ 900) (h : ∀ k, s.toks ≤ k → Q true { s with toks := k }) : wpAny (model prog w) A (truthy (.ref l)) Q E s := by
  refine wpAny_truthy_list hl (by simp; omega) ?_
  rw [show (!(vs ++ [x]).toArray.isEmpty) = true by simp]
  exact h _ (by omega)
end Mine

namespace Mine
local macro_rules | `(tactic| walk_at "mine") => `(tactic| repeat' (first | (k_unfold; (try dsimp only)) | walk1 | (dsimp only; walk1) | (leave1; try dsimp only) | fail "no step"))
local macro_rules | `(tactic| k_mem) => `(tactic| (repeat (first | exact List.Mem.head _ | assumption | refine List.Mem.tail _ ?_)))
local macro_rules | `(tactic| k_all) => `(tactic| assumption)
local macro_rules | `(tactic| walk_at "call builtin:len") => `(tactic| (k_dflt (refine lenV (News.isList (by k_asm) (by k_mem)) (by omega) ?_); intro t9 k9 u9; (try dsimp only at u9)))
local macro_rules | `(tactic| walk_at "call builtin:list.append") => `(tactic| (k_dflt (refine' append_K ?k1 ?k2 ?k3 ?_ ?z; (case k1 => k_asm); (case k2 => k_asm); (case k3 => k_upd); (case z => (rw [sizeLine_eq]; (try simp only [List.size_toArray, List.length_map, Array.size_push]); omega)); k_whole); intro h' F' N'))
local macro_rules | `(tactic| walk_at "call builtin:list.pop") => `(tactic| (k_dflt (refine' popV ?k1 ?k2 ?k3 ?z ?_; (case k1 => k_asm); (case k2 => k_asm); (case k3 => k_upd); (case z => (simp only [List.length_map]; omega)); k_whole); intro h' F' N'))
local macro_rules | `(tactic| walk_at "subscriptTail Name Constant ref int") => `(tactic| (k_dflt (refine itemV (News.isList (by k_asm) (by k_mem)) (by omega) (by decide) (by assumption) ?_)))
local macro_rules | `(tactic| walk_at "subscriptTail Name Slice ref ref") => `(tactic| (k_dflt (first
  | (refine' sliceToV (s := ⟨_, _, _, _, _⟩) ?k1 ?k2 ?k3 ?k4 ?_ ?k5; (case k1 => k_asm); (case k2 => k_asm); (case k3 => exact News.isList (by k_asm) (by k_mem)); (case k4 => assumption); (case k5 => omega))
  | (refine' sliceFromV (s := ⟨_, _, _, _, _⟩) ?k1 ?k2 ?k3 ?k4 ?_ ?k5; (case k1 => k_asm); (case k2 => k_asm); (case k3 => exact News.isList (by k_asm) (by k_mem)); (case k4 => assumption); (case k5 => omega))); intro D9 h9 F9 N9 l9; (try k_lt l9)))
local macro_rules | `(tactic| walk_at "truthy ref") => `(tactic| (k_dflt (refine truthV (News.isList (by k_asm) (by k_mem)) (by simp only [List.length_map]; omega) ?_); intro k9 u9; (try dsimp only at u9)))
local macro_rules | `(tactic| walk_at "exec If") => `(tactic| refine Halt.go ?_)
theorem h_end1 {rest rr : List (Addr × Obj)} {hp ca : Addr} {nm0 : PySem.Str} {ns0 : List Int} {nv rwv cu : Option Value} {st' : List It} {A rl : Addr} {nm : PySem.Str} {t : Tok} {rv : List Value} {er : Nat} {ns : List Int} {cv : List Value} {eh ec : Nat} {dn : List (PySem.Str × List Int)} {ext : List (Addr × Obj)} {h₀ h : Heap} {L E : Addr} {M : PySem.Str → Option Value} {s : Shared} {Q : Flow → Shared → Prop} {tk : Nat}
    (hJ : HJ rest hp ca nm0 ns0 ⟨nv, rwv, cu, st'.concat ⟨A, nm, t, rl, rv, er, ns⟩, cv, eh, ec, dn, ext⟩) (c2 : ns.length < 2) (hrr : ext ++ rest = rr) (hdn : dn.length ≤ 60)
    (kF : Fr h₀ L h (fun z => if z = PySem.Str.ofString "row" then some (.ref rl) else if z = PySem.Str.ofString "name" then some (.str nm t) else hF M ⟨nv, rwv, cu, st'.concat ⟨A, nm, t, rl, rv, er, ns⟩, cv, eh, ec, dn, ext⟩ z))
    (kN : News h₀ L h ((E, W.listOf #[.str nm t, .ref rl, .bool true, .bool false] 0) :: (hp, W.listOf (refs st').toArray (eh + 1)) :: (ca, W.listOf (cv.toArray.push (.ref E)) (ec + 1)) :: rr)) (l1 : hp < E) (l2 : ca < E) :
    StepSt h₀ L (hF M) (hG hp ca rest) (HJ rest hp ca nm0 ns0) (fun y => 100 - y.dn.length) ⟨nv, rwv, cu, st'.concat ⟨A, nm, t, rl, rv, er, ns⟩, cv, eh, ec, dn, ext⟩ s Q .next { s with heap := h, toks := tk } := by
  subst hrr
  rw [List.push_toArray] at kN
  refine StepSt.next (HS.mk (some (.str nm t)) (some (.ref rl)) cu st' (cv ++ [.ref E]) (eh + 1) (ec + 1) (dn ++ [(nm, ns)]) ((E, W.listOf #[.str nm t, .ref rl, .bool true, .bool false] 0) :: ext)) (h_fr1 kF rfl rfl rfl) (news_sub kN ?_) (hj_one hJ c2 (Nat.ne_of_gt l1) (Nat.ne_of_gt l2)) ?_
  · intro p hp
    rcases List.mem_cons.mp hp with rfl | hp
    · exact .tail _ (.head _)
    rcases List.mem_cons.mp hp with rfl | hp
    · exact .tail _ (.tail _ (.head _))
    rcases List.mem_cons.mp hp with rfl | hp
    · exact .head _
    exact .tail _ (.tail _ (.tail _ hp))
  · dsimp only; rw [List.length_append, List.length_singleton]; omega
theorem h_end2 {rest rr : List (Addr × Obj)} {hp ca : Addr} {nm0 : PySem.Str} {ns0 : List Int} {nv rwv cu : Option Value} {st' : List It} {A rl : Addr} {nm : PySem.Str} {t : Tok} {rv : List Value} {er : Nat} {ns : List Int} {cv : List Value} {eh ec : Nat} {dn : List (PySem.Str × List Int)} {ext : List (Addr × Obj)} {h₀ h : Heap} {L E U V DU DV : Addr} {tu tv : Tok} {k : Nat} {cutv : Option Value} {M : PySem.Str → Option Value} {s : Shared} {Q : Flow → Shared → Prop} {tk : Nat}
    (hJ : HJ rest hp ca nm0 ns0 ⟨nv, rwv, cu, st'.concat ⟨A, nm, t, rl, rv, er, ns⟩, cv, eh, ec, dn, ext⟩) (c2 : 2 ≤ ns.length) (hk : k = cutOf ns) (hrr : ext ++ rest = rr) (hdn : dn.length ≤ 60)
    (kF : Fr h₀ L h (fun z => if z = PySem.Str.ofString "cut" then cutv else if z = PySem.Str.ofString "row" then some (.ref rl) else if z = PySem.Str.ofString "name" then some (.str nm t) else hF M ⟨nv, rwv, cu, st'.concat ⟨A, nm, t, rl, rv, er, ns⟩, cv, eh, ec, dn, ext⟩ z))
    (kN : News h₀ L h ((V, W.listOf #[.str (nm ++ PySem.Str.ofString ".lower") tv, .ref DV] 0) :: (DV, W.listOf (rv.take k).toArray 0) :: (U, W.listOf #[.str (nm ++ PySem.Str.ofString ".upper.half") tu, .ref DU] 0) :: (DU, W.listOf (rv.drop k).toArray 0) :: (E, W.listOf #[.str nm t, .ref rl, .bool true, .bool false] 0) ::
      (hp, W.listOf (((refs st').toArray.push (.ref U)).push (.ref V)) (eh + 1 + 1 + 1)) :: (ca, W.listOf (cv.toArray.push (.ref E)) (ec + 1)) :: rr)) (l1 : hp < E ∧ ca < E) (l2 : hp < DU ∧ ca < DU) (l3 : hp < U ∧ ca < U) (l4 : hp < DV ∧ ca < DV) (l5 : hp < V ∧ ca < V) :
    StepSt h₀ L (hF M) (hG hp ca rest) (HJ rest hp ca nm0 ns0) (fun y => 100 - y.dn.length) ⟨nv, rwv, cu, st'.concat ⟨A, nm, t, rl, rv, er, ns⟩, cv, eh, ec, dn, ext⟩ s Q .next { s with heap := h, toks := tk } := by
  subst hrr
  rw [List.push_toArray, List.push_toArray, List.push_toArray, low_eq, upp_eq] at kN
  have ne : ∀ {a : Addr}, hp < a ∧ ca < a → a ≠ hp ∧ a ≠ ca := fun h => ⟨Nat.ne_of_gt h.1, Nat.ne_of_gt h.2⟩
  have er : refs (st' ++ [⟨U, uppN nm, tu, DU, rv.drop k, 0, ns.drop (cutOf ns)⟩, ⟨V, lowN nm, tv, DV, rv.take k, 0, ns.take (cutOf ns)⟩]) = refs st' ++ [.ref U] ++ [.ref V] := by
    unfold refs
    rw [List.map_append, List.append_assoc]
    rfl
  refine StepSt.next (HS.mk (some (.str nm t)) (some (.ref rl)) cutv (st' ++ [⟨U, uppN nm, tu, DU, rv.drop k, 0, ns.drop (cutOf ns)⟩, ⟨V, lowN nm, tv, DV, rv.take k, 0, ns.take (cutOf ns)⟩]) (cv ++ [.ref E]) (eh + 1 + 1 + 1) (ec + 1) (dn ++ [(nm, ns)])
    ((V, W.listOf #[.str (lowN nm) tv, .ref DV] 0) :: (DV, W.listOf (rv.take k).toArray 0) :: (U, W.listOf #[.str (uppN nm) tu, .ref DU] 0) :: (DU, W.listOf (rv.drop k).toArray 0) :: (E, W.listOf #[.str nm t, .ref rl, .bool true, .bool false] 0) :: ext)) (h_fr2 kF rfl rfl rfl) (news_sub kN ?_) (hj_two hJ c2 hk (ne l1) (ne l3) (ne l5) (ne l2) (ne l4)) ?_
  · intro p hp
    dsimp only [hG] at hp
    rw [er] at hp
    rcases List.mem_cons.mp hp with rfl | hp
    · exact .tail _ (.tail _ (.tail _ (.tail _ (.tail _ (.head _)))))
    rcases List.mem_cons.mp hp with rfl | hp
    · exact .tail _ (.tail _ (.tail _ (.tail _ (.tail _ (.tail _ (.head _))))))
    rcases List.mem_cons.mp hp with rfl | hp
    · exact .head _
    rcases List.mem_cons.mp hp with rfl | hp
    · exact .tail _ (.head _)
    rcases List.mem_cons.mp hp with rfl | hp
    · exact .tail _ (.tail _ (.head _))
    rcases List.mem_cons.mp hp with rfl | hp
    · exact .tail _ (.tail _ (.tail _ (.head _)))
    rcases List.mem_cons.mp hp with rfl | hp
    · exact .tail _ (.tail _ (.tail _ (.tail _ (.head _))))
    exact .tail _ (.tail _ (.tail _ (.tail _ (.tail _ (.tail _ (.tail _ hp))))))
  · dsimp only; rw [List.length_append, List.length_singleton]; omega
theorem loop4 : ∀ (w : World) (mean : ExcName → Option Value) (mg mb : PySem.Str → Option Value) (base h₀ : Heap) (L fa hp ca : Addr) (R : PySem.Str → Option Value) (rest : List (Addr × Obj)) (nm0 : PySem.Str) (ns0 : List Int) (y0 : HS) (s : Shared) (Q : Flow → Shared → Prop),
    Below callerA base [] h₀ → (hd04.heap_39 w.params).In h₀ → Top topProg (looseW hd04.view_39 [PySem.Str.ofString "_Method"] ++ (recsOf hd04.view_39).map (fun x => x.name) ++ (litsOf hd04.view_39).map (fun x => x.1) ++ (clssOf hd04.view_39 (looseW hd04.view_39 [PySem.Str.ofString "_Method"])).map (fun x => x.name)) mean mg mb h₀ →
    Fr h₀ L s.heap (hF (hcF R hp ca) y0) → News h₀ L s.heap (hG hp ca rest y0) → HJ rest hp ca nm0 ns0 y0 → 1 ≤ ns0.length → ns0.length ≤ 30 → ca < hp → (∀ p ∈ rest, p.1 ≠ hp ∧ p.1 ≠ ca) →
    (∀ y h' tk', Fr h₀ L h' (hF (hcF R hp ca) y) → News h₀ L h' (hG hp ca rest y) → Log4 (y.ext ++ rest) y.cv (calls4 nm0 ns0) → Q .next { s with heap := h', toks := tk' }) →
    wpAny (model Challenge.rw_dn0306_04.prog w) (callerA.deeper (env4 (fnScope lawDef4) L fa)) (exec law4[6]! (env4 (fnScope lawDef4) L fa)) Q (fun _ _ => False) s := by
  k_fill
  intro w mean mg mb base h₀ L fa hp ca R rest nm0 ns0 y0 s Q B X T F N hJ0 hn1 hn30 hhc hne hret
  refine lit2 (x := fnScope lawDef4) (y := law4[6]!) (P := fun scp bd => wpAny (model Challenge.rw_dn0306_04.prog w) (callerA.deeper (env4 scp L fa)) (exec bd (env4 scp L fa)) Q (fun _ _ => False) s) ⟨_, _, _, _, _⟩ (.While _ _ _ _) rfl rfl ?_
  refine While_st0 (σ := HS) (hF (hcF R hp ca)) (hG hp ca rest) (HJ rest hp ca nm0 ns0) (fun y => 100 - y.dn.length) y0 F N hJ0 ?turn ?hE
  case hE => passes_own
  clear F N hJ0
  replace hhc := ltN hhc
  rintro ⟨nv, rwv, cu, st, cv, eh, ec, dn, ext⟩ h₁ tk₁ hJ F₁ N₁ sz₁
  have hdn : dn.length ≤ 60 := by
    have e := congrArg List.length hJ.run
    have := calls_len (nm := nm0) hn1 hn30
    dsimp only at e
    rw [List.length_append] at e
    omega
  have hcv : cv.length = dn.length := hJ.log.length
  have hst : st.length ≤ dn.length + 1 := hJ.few
  have hne1 : ∀ p ∈ ext ++ rest, p.1 ≠ hp := fun p hp => (List.mem_append.mp hp).elim (fun h => (hJ.off p h).1) fun h => (hne p h).1
  have hne2 : ∀ p ∈ ext ++ rest, p.1 ≠ ca := fun p hp => (List.mem_append.mp hp).elim (fun h => (hJ.off p h).2) fun h => (hne p h).2
  rcases List.eq_nil_or_concat st with rfl | ⟨st', it, rfl⟩
  · have hlog : Log4 (ext ++ rest) cv (calls4 nm0 ns0) := by
      have := hJ.run
      dsimp only [stCalls, List.reverse_nil, List.flatMap_nil] at this
      rw [show List.flatMap (fun it : It => calls4 it.nm it.ns) [] = [] from rfl, List.append_nil] at this
      rw [← this]
      exact hJ.log
    have F₂ := F₁
    have N₂ := N₁
    dsimp only [hG, refs, List.map_nil] at N₁ F₁
    walk_at "mine"
    exact hret _ _ _ F₂ N₂ hlog
  · have io := hJ.items it (by simp)
    obtain ⟨A, nm, t, rl, rv, er, ns⟩ := it
    obtain ⟨i1, i2, i3, i4, i5, i6⟩ := io
    dsimp only at i1 i2 i3 i4 i5 i6
    dsimp only [hG, refs] at N₁
    rw [List.concat_eq_append, List.map_append] at N₁
    rw [show List.map (fun it : It => Value.ref it.A) [⟨A, nm, t, rl, rv, er, ns⟩] = [Value.ref A] from rfl] at N₁
    rw [List.concat_eq_append, List.length_append, List.length_singleton] at hst
    generalize hrr : ext ++ rest = rr at *
    walk_at "mine"
    show wpAny _ _ _ _ _ _
    have hvn := i3.length
    by_cases c2 : 2 ≤ ns.length
    · obtain ⟨t0, g0⟩ := i3.get 0 ns[0] (by simp)
      have g0' : rv[(0 : Int).toNat]? = some (.int ns[0] t0) := g0
      obtain ⟨p0, p1, p2, p3⟩ := cut_facts (ns := ns) hvn c2 (by omega)
      refine wpAny_If ?_
      walk_at "mine"
      rename News h₀ L _ _ => kN
      rename Fr h₀ L _ _ => kF
      rename _ ∧ _ ∧ _ ∧ _ ∧ hp < _ ∧ ca < _ ∧ AllLt _ rr => m5
      rename _ ∧ _ ∧ _ ∧ hp < _ ∧ ca < _ ∧ AllLt _ rr => m4
      rename _ ∧ _ ∧ hp < _ ∧ ca < _ ∧ AllLt _ rr => m3
      rename _ ∧ hp < _ ∧ ca < _ ∧ AllLt _ rr => m2
      rename hp < _ ∧ ca < _ ∧ AllLt _ rr => m1
      exact h_end2 hJ c2 p1 hrr hdn kF kN ⟨m1.1, m1.2.1⟩ ⟨m2.2.1, m2.2.2.1⟩ ⟨m3.2.2.1, m3.2.2.2.1⟩ ⟨m4.2.2.2.1, m4.2.2.2.2.1⟩ ⟨m5.2.2.2.2.1, m5.2.2.2.2.2.1⟩
    · refine wpAny_If ?_
      walk_at "mine"
      rename News h₀ L _ _ => kN
      rename Fr h₀ L _ _ => kF
      rename hp < _ ∧ ca < _ ∧ AllLt _ rr => l1
      exact h_end1 hJ (by omega) hrr hdn kF kN l1.1 l1.2.1
end Mine

namespace Mine
def entD (c : PySem.Str × List Int) : PyData := .list [.str c.1, .list (c.2.map .int), .bool true, .bool false]
theorem Log4.reads {n : List (Addr × Obj)} {vs : List Value} {cs : List (PySem.Str × List Int)} {h : Heap} (N : ∀ p ∈ n, h.get? p.1 = some p.2) (hl : Log4 n vs cs) : ∃ as, ReadsAll h vs (cs.map entD) as := by
  induction hl with
  | nil => exact ⟨_, .nil⟩
  | @cons E C t cvs ec nm ns vs cs a b c _ ih =>
    obtain ⟨as, r⟩ := ih
    exact ⟨_, .cons (reads_list_at (N _ a) rfl rfl (.cons (.str nm t) (.cons (reads_list_at (N _ b) rfl rfl (c.carried.readsAll h)) (.cons (.bool _) (.cons (.bool _) .nil))))) r⟩
theorem ints_lay : ∀ (ns : List Int), PyData.canLayAll0 (ns.map .int) = true
  | [] => rfl
  | _ :: ns => by
    simp only [List.map_cons, PyData.canLayAll0, PyData.canLay0, ints_lay ns, Bool.and_true]
theorem ints_depth : ∀ (ns : List Int), PyData.depthAll (ns.map .int) ≤ 1
  | [] => by simp [PyData.depthAll]
  | _ :: ns => by
    have := ints_depth ns
    simp only [List.map_cons, PyData.depthAll, PyData.depth]; omega
theorem strOk_app {x y : PySem.Str} (h1 : PyData.strOk x = true) (h2 : PyData.strOk y = true) : PyData.strOk (x ++ y) = true := by
  unfold PyData.strOk at *
  rw [Str.cps_append, Array.all_append, h1, h2]; rfl
theorem kid_ok {nm x : PySem.Str} (h1 : PyData.strOk nm = true) (h2 : PyData.strOk x = true) : PyData.strOk (kidN nm x) = true :=
  strOk_app (strOk_app (strOk_app (by decide +kernel) h1) (by decide +kernel)) h2
theorem calls_ok : ∀ (k : Nat) (nm : PySem.Str) (ns : List Int), PyData.strOk nm = true → ∀ c ∈ callsOf k nm ns, PyData.strOk c.1 = true
  | 0, nm, ns, h, c, hc => by rw [List.mem_singleton.mp hc]; exact h
  | k + 1, nm, ns, h, c, hc => by
    unfold callsOf at hc
    rcases List.mem_cons.mp hc with rfl | hc
    · exact h
    split at hc
    · cases hc
    · rcases List.mem_append.mp hc with hc | hc
      · exact calls_ok k _ _ (kid_ok h (by decide +kernel)) c hc
      · exact calls_ok k _ _ (kid_ok (kid_ok h (by decide +kernel)) (by decide +kernel)) c hc
theorem ent_lay : ∀ {cs : List (PySem.Str × List Int)}, (∀ c ∈ cs, PyData.strOk c.1 = true) → PyData.canLayAll0 (cs.map entD) = true
  | [], _ => rfl
  | c :: cs, h => by
    have h1 := h c (.head _)
    have h2 := ent_lay (cs := cs) fun x hx => h x (.tail _ hx)
    simp only [List.map_cons, entD, PyData.canLayAll0, PyData.canLay0, h2, ints_lay, Bool.and_true]
    exact h1
theorem ent_depth : ∀ (cs : List (PySem.Str × List Int)), PyData.depthAll (cs.map entD) ≤ 8
  | [] => by simp [PyData.depthAll]
  | c :: cs => by
    have h1 := ent_depth cs
    have h2 := ints_depth c.2
    simp only [List.map_cons, entD, PyData.depthAll, PyData.depth]; omega
theorem ne_same {prog : Program} {w : World} {A : Around} {E : Value → Shared → Prop} {s : Shared} {a b : Value} {d : PyData} {as bs : List Addr} {Q : Value → Shared → Prop} (ra : Reads s.heap a d as) (rb : Reads s.heap b d bs) (h1 : d.canLay0 = true) (h2 : d.depth ≤ 64) (hu : A.units + 64 < cLine)
    (h : Q (.bool false) s) : wpAny (model prog w) A (compareOp .NotEq a b) Q E s := by
  have sh : SeqAt.shaped d = true := by unfold SeqAt.shaped; simp [h1, h2]
  refine ne_dataH ra rb sh sh hu ?_
  rw [SeqAt.eqv_refl d h1]
  exact h
theorem eq_same {prog : Program} {w : World} {A : Around} {E : Value → Shared → Prop} {s : Shared} {a b : Value} {d : PyData} {as bs : List Addr} {Q : Value → Shared → Prop} (ra : Reads s.heap a d as) (rb : Reads s.heap b d bs) (h1 : d.canLay0 = true) (h2 : d.depth ≤ 64) (hu : A.units + 64 < cLine)
    (h : Q (.bool true) s) : wpAny (model prog w) A (compareOp .Eq a b) Q E s := by
  have sh : SeqAt.shaped d = true := by unfold SeqAt.shaped; simp [h1, h2]
  refine eq_dataH ra rb sh sh hu ?_
  rw [SeqAt.eqv_refl d h1]
  exact h
theorem sorted_one {a b c : List Int} (h1 : a.Perm c) (h2 : b.Perm c) (s1 : a.Pairwise (· ≤ ·)) (s2 : b.Pairwise (· ≤ ·)) : a = b :=
  (h1.trans h2.symm).eq_of_pairwise (le := (· ≤ ·)) (fun _ _ _ _ h h' => Int.le_antisymm h h') s1 s2
local macro_rules | `(tactic| walk_at "mine") => `(tactic| repeat' (first | (k_unfold; (try dsimp only)) | walk1 | (dsimp only; walk1) | (leave1; try dsimp only) | fail "no step"))
local macro_rules | `(tactic| k_mem) => `(tactic| (repeat (first | exact List.Mem.head _ | assumption | refine List.Mem.tail _ ?_)))
local macro_rules | `(tactic| k_all) => `(tactic| assumption)
local macro_rules | `(tactic| walk_at "And") => `(tactic| ((with_reducible show Heap.get? _ _ = some _ ∧ _); k_dflt (refine ⟨News.get (by k_asm) (by k_mem), ?_⟩); try dsimp only [List.nil_append, List.cons_append]))
local macro_rules | `(tactic| walk_at "call ref") => `(tactic| refine Halt.go ?_)
local macro_rules | `(tactic| walk_at "callWith ref") => `(tactic| refine Halt.go ?_)
local macro_rules | `(tactic| walk_at "compareOp NotEq ref ref") => `(tactic| refine Halt.go ?_)
local macro_rules | `(tactic| walk_at "call builtin:sorted") => `(tactic| (k_dflt (refine kso_sorted (by k_asm) (by k_asm) (News.isList (by k_asm) (by k_mem)) (by assumption) (by omega) ?_); intro D9 vs9 ns9 c9 h9 F9 N9 l9 i9 e9 p9 o9 b9; (try k_lt l9)))
theorem start4 : ∀ (w : World) (log f : Addr) (lamL : List (Addr × Obj)) (of : Obj) (mean : ExcName → Option Value) (mg mb : PySem.Str → Option Value) (base h₀ : Heap) (L fa x d vl : Addr) (R : PySem.Str → Option Value) (t1 t2 t3 : Tok) (vals : List Value) (ev : Nat) (ns : List Int) (el : Nat) (rest : List (Addr × Obj)) (s : Shared) (Q : Flow → Shared → Prop),
    (f, of) ∈ lamL → Callee of → ServeOk w log f lamL 30 → (∀ p ∈ lamL, p ∈ rest) → (∀ p ∈ rest, p.1 ≠ log) → (x, instObj 45 d) ∈ rest → (d, methD w.params (.ref f) (PySem.Str.ofString "sort") t1 t2 t3) ∈ rest → (vl, W.listOf vals.toArray ev) ∈ rest → IntsAre vals ns → 1 ≤ ns.length → ns.length ≤ 30 →
    Below callerA base [] h₀ → (hd04.heap_39 w.params).In h₀ → Top topProg (looseW hd04.view_39 [PySem.Str.ofString "_Method"] ++ (recsOf hd04.view_39).map (fun x => x.name) ++ (litsOf hd04.view_39).map (fun x => x.1) ++ (clssOf hd04.view_39 (looseW hd04.view_39 [PySem.Str.ofString "_Method"])).map (fun x => x.name)) mean mg mb h₀ →
    Fr h₀ L s.heap (fun y => if y = PySem.Str.ofString "m" then some (.ref x) else if y = PySem.Str.ofString "values" then some (.ref vl) else R y) → News h₀ L s.heap ((log, W.listOf #[] el) :: rest) →
    (∀ rest' logs el' h' tk', Fr h₀ L h' (fun y => if y = PySem.Str.ofString "m" then some (.ref x) else if y = PySem.Str.ofString "values" then some (.ref vl) else R y) → News h₀ L h' ((log, W.listOf logs.toArray el') :: rest') → (∀ p ∈ rest, p ∈ rest') → (∀ p ∈ rest', p.1 ≠ log) → Log4 rest' logs (callsOf 30 (PySem.Str.ofString "sort") ns) → Q .next { s with heap := h', toks := tk' }) →
    wpAny (model Challenge.rw_dn0306_04.prog w) (callerA.deeper (env4 (fnScope lawDef4) L fa)) (exec law4[3]! (env4 (fnScope lawDef4) L fa)) Q (fun _ _ => False) s := by
  k_fill
  intro w log f lamL of mean mg mb base h₀ L fa x d vl R t1 t2 t3 vals ev ns el rest s Q hol hcf ih hlam hne hx hd hvl hI h1 h30 B X T F N hret
  refine lit2 (x := fnScope lawDef4) (y := law4[3]!) (P := fun scp bd => wpAny (model Challenge.rw_dn0306_04.prog w) (callerA.deeper (env4 scp L fa)) (exec bd (env4 scp L fa)) Q (fun _ _ => False) s) ⟨_, _, _, _, _⟩ (.If _ _ _ _) rfl rfl ?_
  refine wpAny_If ?_
  walk_at "mine"
  show wpAny _ _ _ _ _ _
  refine callWith_led (o := instObj 45 d) (.inl rfl) ?_
  walk_at "mine"
  show wpAny _ _ _ _ _ _
  rename News h₀ L _ _ => kN
  rename Fr h₀ L _ _ => kF
  have hc := rec_call hol hcf ih rest [] el (PySem.Str.ofString "sort") x d t1 t2 t3 vl vals ev ns hlam hne hx hd hvl hI h1 (by omega) h30 (by simp only [List.length_nil]; omega) (by rw [show (PySem.Str.ofString "sort").length = 4 by decide]; omega)
  unfold Calls at hc
  refine hc mean mg mb _ _ _ _ _ _ _ _ _ _ _ _ _ _ _ _ _ _ _ _ B kF X kN T (by decide) (by decide) ?_
  clear hc
  rintro r n1 h9 tk9 F9 N9 ⟨ext1, new1, el1, R1, rv1, er1, ms1, rfl, s2, s3, s4, s5, s6, s7, s8⟩
  replace N9 := news_sub N9 s2
  clear s2 kN kF
  have sub1 : ∀ p ∈ rest, p ∈ ext1 ++ rest := fun p hp => List.mem_append_right _ hp
  have hne1 : ∀ p ∈ ext1 ++ rest, p.1 ≠ log := by
    intro p hp
    rcases List.mem_append.mp hp with hp | hp
    · exact s3 p hp
    · exact hne p hp
  generalize hr1 : ext1 ++ rest = rest1 at *
  have hvl1 := sub1 _ hvl
  walk_at "mine"
  show wpAny _ _ _ _ _ _
  rename News h₀ L _ _ => kN
  rename Fr h₀ L _ _ => kF
  rename_i D9 vs9 ns9 c9 h9' i9 e9 p9 o9 b9 l9
  obtain rfl := sorted_one s7 p9 s8 o9
  refine ne_same (d := .list (ms1.map .int)) (reads_list_at (kN (R1, W.listOf rv1.toArray er1) (.tail _ (.tail _ s5))).1 rfl rfl (s6.carried.readsAll _)) (reads_list_at (kN (D9, W.listOf vs9.toArray c9) (.head _)).1 rfl rfl (i9.carried.readsAll _)) (ints_lay _) ?dep (by ke_room) ?_
  case dep =>
    have := ints_depth ms1
    simp only [PyData.depth]; omega
  walk_at "mine"
  exact hret rest1 new1 el1 _ _ kF (news_sub kN fun p hp => .tail _ hp) sub1 hne1 s4
end Mine

namespace Mine
theorem pack4 {g h : Heap} {L : Addr} {a1 a2 a3 a4 x : Addr × Obj} {bs : List (Addr × Obj)} (N : News g L h (a1 :: a2 :: a3 :: a4 :: x :: bs)) : News g L h (x :: ([a1, a2, a3, a4] ++ bs)) := by
  refine news_sub N ?_
  intro p hp
  simp only [List.cons_append, List.nil_append, List.mem_cons] at hp ⊢
  rcases hp with h | h | h | h | h | h <;> simp [h]
theorem start4b {w : World} {mean : ExcName → Option Value} {mg mb : PySem.Str → Option Value} {base h₀ : Heap} {L fa log f x d vl c D1 l1 tb : Addr} {oc o1 o2 olog otb : Obj} {R : PySem.Str → Option Value} {t1 t2 t3 : Tok} {vals : List Value} {ev : Nat} {ns : List Int} {q : PySem.Str} {pm ct : Value} {vs : Array Value} {tq : Tok} {p : Arguments} {b : Expr} {sc : Scope} {s : Shared} {Q : Flow → Shared → Prop}
    (e : lam4 = (p, b, sc)) (hc : oc.data = .fields vs) (hc2 : vs[1]? = some (.str q tq)) (hd : olog.data = .cell (some (.ref log))) (hI : IntsAre vals ns) (h1 : 1 ≤ ns.length) (h30 : ns.length ≤ 30)
    (k1 : tb < L) (k2 : L + 1 < l1) (k3 : l1 < D1) (k4 : D1 < vl) (k5 : vl < log) (k6 : log < c) (k7 : c < f) (k8 : f < d) (k9 : d < x)
    (B : Below callerA base [] h₀) (X : (hd04.heap_39 w.params).In h₀) (T : Top topProg (looseW hd04.view_39 [PySem.Str.ofString "_Method"] ++ (recsOf hd04.view_39).map (fun x => x.name) ++ (litsOf hd04.view_39).map (fun x => x.1) ++ (clssOf hd04.view_39 (looseW hd04.view_39 [PySem.Str.ofString "_Method"])).map (fun x => x.name)) mean mg mb h₀)
    (F : Fr h₀ L s.heap (fun y => if y = PySem.Str.ofString "m" then some (.ref x) else if y = PySem.Str.ofString "values" then some (.ref vl) else R y))
    (N : News h₀ L s.heap [(x, instObj 45 d), (d, methD w.params (.ref f) (PySem.Str.ofString "sort") t1 t2 t3), (f, kla_obj (PySem.Str.ofString "<lambda>") q p b sc [(PySem.Str.ofString "log", L + 1)] pm c ct), (c, oc), (log, W.listOf #[] 0), (vl, W.listOf vals.toArray ev), (D1, o1), (l1, o2), (L + 1, olog), (tb, otb)])
    (hret : ∀ rest' logs el' h' tk', Fr h₀ L h' (fun y => if y = PySem.Str.ofString "m" then some (.ref x) else if y = PySem.Str.ofString "values" then some (.ref vl) else R y) → News h₀ L h' ((log, W.listOf logs.toArray el') :: rest') → (vl, W.listOf vals.toArray ev) ∈ rest' → (L + 1, olog) ∈ rest' → (tb, otb) ∈ rest' → (∀ p ∈ rest', p.1 ≠ log) → Log4 rest' logs (calls4 (PySem.Str.ofString "sort") ns) → Q .next { s with heap := h', toks := tk' }) :
    wpAny (model Challenge.rw_dn0306_04.prog w) (callerA.deeper (env4 (fnScope lawDef4) L fa)) (exec law4[3]! (env4 (fnScope lawDef4) L fa)) Q (fun _ _ => False) s := by
  have e2 := ltN k2
  replace k1 := ltN k1; replace k3 := ltN k3; replace k4 := ltN k4; replace k5 := ltN k5; replace k6 := ltN k6; replace k7 := ltN k7; replace k8 := ltN k8; replace k9 := ltN k9
  refine start4 w log f [(f, kla_obj (PySem.Str.ofString "<lambda>") q p b sc [(PySem.Str.ofString "log", L + 1)] pm c ct), (c, oc), (L + 1, olog)] (kla_obj (PySem.Str.ofString "<lambda>") q p b sc [(PySem.Str.ofString "log", L + 1)] pm c ct) mean mg mb base h₀ L fa x d vl R t1 t2 t3 vals ev ns 0 _ s Q (.head _) (.inr ⟨_, rfl⟩) (serve_all2 e hc hc2 hd 30) ?lam ?ne (.head _) (.tail _ (.head _)) (.tail _ (.tail _ (.tail _ (.tail _ (.head _))))) hI h1 h30 B X T F (pack4 N) ?_
  case lam =>
    intro r hr
    simp only [List.mem_cons, List.not_mem_nil, or_false] at hr
    rcases hr with rfl | rfl | rfl
    · exact .tail _ (.tail _ (.head _))
    · exact .tail _ (.tail _ (.tail _ (.head _)))
    · exact .tail _ (.tail _ (.tail _ (.tail _ (.tail _ (.tail _ (.tail _ (.head _)))))))
  case ne =>
    intro r hr
    simp only [List.cons_append, List.nil_append, List.mem_cons, List.not_mem_nil, or_false] at hr
    rcases hr with h | h | h | h | h | h | h | h | h <;> subst h <;> dsimp only <;> (intro e; subst e; omega)
  intro rest' logs el' h' tk' F' N' sub ne' hl
  exact hret rest' logs el' h' tk' F' N' (sub _ (.tail _ (.tail _ (.tail _ (.tail _ (.head _)))))) (sub _ (.tail _ (.tail _ (.tail _ (.tail _ (.tail _ (.tail _ (.tail _ (.head _))))))))) (sub _ (.tail _ (.tail _ (.tail _ (.tail _ (.tail _ (.tail _ (.tail _ (.tail _ (.head _)))))))))) ne' hl
theorem h_start {g h : Heap} {L hp ca : Addr} {M : PySem.Str → Option Value} {y : HS} (F : Fr g L h (fun z => if z = PySem.Str.ofString "heap" then some (.ref hp) else if z = PySem.Str.ofString "calls" then some (.ref ca) else M z)) (h1 : y.nv = M (PySem.Str.ofString "name")) (h2 : y.rw' = M (PySem.Str.ofString "row")) (h3 : y.cu = M (PySem.Str.ofString "cut")) : Fr g L h (hF (hcF M hp ca) y) := by
  refine fr_eq F fun z => ?_
  by_cases e1 : z = PySem.Str.ofString "name"
  · subst e1; exact h1.symm
  by_cases e2 : z = PySem.Str.ofString "row"
  · subst e2; exact h2.symm
  by_cases e3 : z = PySem.Str.ofString "cut"
  · subst e3; exact h3.symm
  simp only [hF, hcF, if_neg e1, if_neg e2, if_neg e3]
theorem calls4_ok {nm : PySem.Str} {ns : List Int} (h : PyData.strOk nm = true) : ∀ c ∈ calls4 nm ns, PyData.strOk c.1 = true := calls_ok 30 nm ns h
theorem sort_ok : PyData.strOk (PySem.Str.ofString "sort") = true := by decide +kernel
theorem heap4 {w : World} {mean : ExcName → Option Value} {mg mb : PySem.Str → Option Value} {base h₀ : Heap} {L fa log vl hp ca A : Addr} {M : PySem.Str → Option Value} {t : Tok} {vals logs : List Value} {ev el : Nat} {ns : List Int} {rest' : List (Addr × Obj)} {s : Shared} {Q : Flow → Shared → Prop}
    (B : Below callerA base [] h₀) (X : (hd04.heap_39 w.params).In h₀) (T : Top topProg (looseW hd04.view_39 [PySem.Str.ofString "_Method"] ++ (recsOf hd04.view_39).map (fun x => x.name) ++ (litsOf hd04.view_39).map (fun x => x.1) ++ (clssOf hd04.view_39 (looseW hd04.view_39 [PySem.Str.ofString "_Method"])).map (fun x => x.name)) mean mg mb h₀)
    (kF : Fr h₀ L s.heap (fun z => if z = PySem.Str.ofString "heap" then some (.ref hp) else if z = PySem.Str.ofString "calls" then some (.ref ca) else M z))
    (kN : News h₀ L s.heap ((hp, W.listOf #[.ref A] 0) :: (A, W.listOf #[.str (PySem.Str.ofString "sort") t, .ref vl] 0) :: (ca, W.listOf #[] 0) :: (log, W.listOf logs.toArray el) :: rest'))
    (mvl : (vl, W.listOf vals.toArray ev) ∈ rest') (hI : IntsAre vals ns) (n1 : 1 ≤ ns.length) (n2 : ns.length ≤ 30) (a1 : log < ca ∧ AllLt ca rest') (a2 : ca < A ∧ log < A ∧ AllLt A rest') (a3 : A < hp ∧ ca < hp ∧ log < hp ∧ AllLt hp rest')
    (hret : ∀ y NN cv ec h' tk', Fr h₀ L h' (hF (hcF M hp ca) y) → News h₀ L h' NN → (log, W.listOf logs.toArray el) ∈ NN → (ca, W.listOf cv.toArray ec) ∈ NN → (∀ p ∈ rest', p ∈ NN) → Log4 NN cv (calls4 (PySem.Str.ofString "sort") ns) → Q .next { s with heap := h', toks := tk' }) :
    wpAny (model Challenge.rw_dn0306_04.prog w) (callerA.deeper (env4 (fnScope lawDef4) L fa)) (exec law4[6]! (env4 (fnScope lawDef4) L fa)) Q (fun _ _ => False) s := by
  refine loop4 w mean mg mb base h₀ L fa hp ca M ((log, W.listOf logs.toArray el) :: rest') (PySem.Str.ofString "sort") ns ⟨M (PySem.Str.ofString "name"), M (PySem.Str.ofString "row"), M (PySem.Str.ofString "cut"), [⟨A, PySem.Str.ofString "sort", t, vl, vals, ev, ns⟩], [], 0, 0, [], [(A, W.listOf #[.str (PySem.Str.ofString "sort") t, .ref vl] 0)]⟩ s Q B X T (h_start kF rfl rfl rfl) (news_sub kN ?_) ⟨?_, .nil, ?_, ?_, ?_⟩ n1 n2 a3.2.1 ?_ ?_
  · intro p hp
    rcases List.mem_cons.mp hp with rfl | hp
    · exact .head _
    rcases List.mem_cons.mp hp with rfl | hp
    · exact .tail _ (.tail _ (.head _))
    rcases List.mem_cons.mp hp with rfl | hp
    · exact .tail _ (.head _)
    exact .tail _ (.tail _ (.tail _ hp))
  · intro it hit
    rw [List.mem_singleton.mp hit]
    refine ⟨.head _, .tail _ (.tail _ mvl), hI, n1, n2, ?_⟩
    dsimp only
    rw [show (PySem.Str.ofString "sort").length = 4 by decide]
    omega
  · show [] ++ stCalls [_] = _
    simp only [stCalls, List.reverse_singleton, List.flatMap_singleton, List.nil_append]
  · intro p hp
    rw [List.mem_singleton.mp hp]
    exact ⟨Nat.ne_of_lt a3.1, Nat.ne_of_gt a2.1⟩
  · exact Nat.le_refl _
  · intro p hp
    rcases List.mem_cons.mp hp with rfl | hp
    · exact ⟨Nat.ne_of_lt a3.2.2.1, Nat.ne_of_lt a1.1⟩
    · exact ⟨Nat.ne_of_lt (allLt_mem a3.2.2.2 p hp), Nat.ne_of_lt (allLt_mem a1.2 p hp)⟩
  intro y h' tk' F' N' hl
  exact hret y _ y.cv y.ec h' tk' F' N' (.tail _ (.tail _ (List.mem_append_right _ (.head _)))) (.tail _ (.head _)) (fun p hp => .tail _ (.tail _ (List.mem_append_right _ (.tail _ hp)))) (hl.mono fun p hp => .tail _ (.tail _ hp))
local macro_rules | `(tactic| walk_at "mine") => `(tactic| repeat' (first | (k_unfold; (try dsimp only)) | walk1 | (dsimp only; walk1) | (leave1; try dsimp only) | fail "no step"))
local macro_rules | `(tactic| k_mem) => `(tactic| (repeat (first | exact List.Mem.head _ | assumption | refine List.Mem.tail _ ?_)))
local macro_rules | `(tactic| k_all) => `(tactic| assumption)
local macro_rules | `(tactic| walk_at "eval Name") => `(tactic| ((with_reducible show wpAny _ _ (eval (Expr.Name (Str.ofString "log") _) _) _ _ _); k_dflt (refine' nameX_C ?N ?c ?m ?d ?_ ?a ?b; (case a => rfl); (case b => rfl); (case N => k_asm); (case c => rfl); (case m => k_mem); (case d => assumption))))
local macro_rules | `(tactic| walk_at "compareOp Eq ref ref") => `(tactic| refine Halt.go ?_)
theorem end4 : ∀ (w : World) (mean : ExcName → Option Value) (mg mb : PySem.Str → Option Value) (base h₀ : Heap) (L fa log hp ca : Addr) (olog : Obj) (R : PySem.Str → Option Value) (y : HS) (logs cv : List Value) (el ec : Nat) (cs : List (PySem.Str × List Int)) (NN : List (Addr × Obj)) (s : Shared) (Q : Flow → Shared → Prop),
    Below callerA base [] h₀ → (hd04.heap_39 w.params).In h₀ → Top topProg (looseW hd04.view_39 [PySem.Str.ofString "_Method"] ++ (recsOf hd04.view_39).map (fun x => x.name) ++ (litsOf hd04.view_39).map (fun x => x.1) ++ (clssOf hd04.view_39 (looseW hd04.view_39 [PySem.Str.ofString "_Method"])).map (fun x => x.name)) mean mg mb h₀ →
    Fr h₀ L s.heap (hF (hcF R hp ca) y) → News h₀ L s.heap NN → (log, W.listOf logs.toArray el) ∈ NN → (ca, W.listOf cv.toArray ec) ∈ NN → (L + 1, olog) ∈ NN → olog.data = .cell (some (.ref log)) → Log4 NN logs cs → Log4 NN cv cs → (∀ c ∈ cs, PyData.strOk c.1 = true) →
    (∀ tk', Q (.ret (.bool true)) { s with toks := tk' }) →
    wpAny (model Challenge.rw_dn0306_04.prog w) (callerA.deeper (env4 (fnScope lawDef4) L fa)) (exec law4[7]! (env4 (fnScope lawDef4) L fa)) Q (fun _ _ => False) s := by
  k_fill
  intro w mean mg mb base h₀ L fa log hp ca olog R y logs cv el ec cs NN s Q B X T F N hlog hca hcl hd hl1 hl2 hok hret
  refine lit2 (x := fnScope lawDef4) (y := law4[7]!) (P := fun scp bd => wpAny (model Challenge.rw_dn0306_04.prog w) (callerA.deeper (env4 scp L fa)) (exec bd (env4 scp L fa)) Q (fun _ _ => False) s) ⟨_, _, _, _, _⟩ (.Return _ _) rfl rfl ?_
  walk_at "mine"
  show wpAny _ _ _ _ _ _
  rename News h₀ L _ _ => kN
  obtain ⟨as, r1⟩ := hl1.reads (fun p hp => (kN p hp).1)
  obtain ⟨bs, r2⟩ := hl2.reads (fun p hp => (kN p hp).1)
  refine eq_same (d := .list (cs.map entD)) (reads_list_at (kN _ hlog).1 rfl rfl r1) (reads_list_at (kN _ hca).1 rfl rfl r2) (ent_lay hok) ?dep (by ke_room) ?_
  case dep =>
    have := ent_depth cs
    simp only [PyData.depth]; omega
  walk_at "mine"
  exact hret _
end Mine

namespace Mine
local macro_rules | `(tactic| walk_at "exec If Compare cons nil") => `(tactic| refine Halt.go ?_)
local macro_rules | `(tactic| walk_at "exec While") => `(tactic| refine Halt.go ?_)
local macro_rules | `(tactic| walk_at "exec Return some") => `(tactic| refine Halt.go ?_)
local macro_rules | `(tactic| k_all) => `(tactic| assumption)
local macro_rules | `(tactic| walk_at "mine") => `(tactic| repeat' (first | (k_unfold; (try dsimp only)) | walk1 | (dsimp only; walk1) | (leave1; try dsimp only) | fail "no step"))
theorem law_holds : PySem.Challenge.rw_dn0306_04.Holds := hd04 (by
  k_go0
  refine never ?_
  (all_goals try k_fold)
  walk_at "mine"
  show wpAny _ _ _ _ _ _
  rename Fr _ _ _ _ => kF
  rename News _ _ _ _ => kN
  refine' start4b ?lamE ?lamC ?lamD ?lamF ?hI ?n1 ?n2 ?k1 ?k2 ?k3 ?k4 ?k5 ?k6 ?k7 ?k8 ?k9 (by k_asm) (by k_asm) (by k_asm) kF kN ?_
  case lamE => exact rfl
  case lamC => assumption
  case lamD => assumption
  case lamF => assumption
  case hI => assumption
  case k1 => assumption
  case k2 => exact And.left (by assumption)
  case k3 => exact And.left (by assumption)
  case k4 => exact And.left (by assumption)
  case k5 => exact And.left (by assumption)
  case k6 => exact And.left (by assumption)
  case k7 => assumption
  case k8 => exact And.left (by assumption)
  case k9 => assumption
  case n1 => rw [List.length_append]; simp only [List.length_cons, List.length_nil]; omega
  case n2 => rw [List.length_append, List.length_take]; simp only [List.length_cons, List.length_nil]; omega
  intro rest' logs el' h' tk' F2 N2 mvl mcl mtb ne2 hl2
  clear kN kF
  walk_at "mine"
  show wpAny _ _ _ _ _ _
  rename Fr _ _ _ _ => kF
  rename News _ _ _ _ => kN
  refine' heap4 (by k_asm) (by k_asm) (by k_asm) kF kN mvl ?hI2 ?nn1 ?nn2 ?a1 ?a2 ?a3 ?_
  case hI2 => assumption
  case nn1 => rw [List.length_append]; simp only [List.length_cons, List.length_nil]; omega
  case nn2 => rw [List.length_append, List.length_take]; simp only [List.length_cons, List.length_nil]; omega
  case a1 => assumption
  case a2 => assumption
  case a3 => assumption
  clear kF kN
  intro y NN cv ec h3 tk3 F3 N3 m1 m2 m3 hl3
  walk_at "mine"
  show wpAny _ _ _ _ _ _
  refine end4 _ _ _ _ _ _ _ _ _ _ _ _ _ _ _ _ _ _ _ _ _ _ (by k_asm) (by k_asm) (by k_asm) F3 N3 m1 m2 (m3 _ mcl) (by assumption) (hl2.mono m3) hl3 (calls4_ok sort_ok) ?_
  intro tk4
  walk1
  · k_steps
  · exact ⟨GrownAt.of N3 (m3 _ mtb), trivial⟩)
end Mine

theorem PySem.Challenge.cw_dn0306_04_holds : PySem.Challenge.rw_dn0306_04.Holds := by
  exact Mine.law_holds
