import PyProof.Rows.All
import Wide.All
import OpenK.AllK
import Wide.FinOn
import PySem.Challenge.RW_dn0306_01
open PySem PySem.W PyProof.Rows
set_option Elab.async false
set_option maxRecDepth 100000
set_option maxHeartbeats 8000000
namespace Mine
/-- what a run never takes back: the count of tokens and of objects -/
def Up (s s' : Shared) : Prop := s.toks ≤ s'.toks ∧ s.heap.objs.size ≤ s'.heap.objs.size
theorem Up.refl (s : Shared) : Up s s := ⟨Nat.le_refl _, Nat.le_refl _⟩
theorem Up.trans {a b c : Shared} (h : Up a b) (k : Up b c) : Up a c := ⟨Nat.le_trans h.1 k.1, Nat.le_trans h.2 k.2⟩
theorem size_update (h : Heap) (a : Addr) (f : Obj → Obj) : (h.update a f).objs.size = h.objs.size := by
  cases h; simp [Heap.update]
theorem size_push (h : Heap) (o : Obj) : (h.push o).objs.size = h.objs.size + 1 := by
  cases h; simp [Heap.push]
theorem runs_up {M : Model} {Γ : Ctx} {p : Pos} {t : Sem Fin} {fs : List Frame} {s : Shared} {e : End} {s' : Shared} (r : Runs M Γ p t fs s e s') : Up s s' := by
  induction r with
  | done => exact Up.refl _
  | raise => exact Up.refl _
  | yield => exact Up.refl _
  | again _ _ ih => exact ih
  | rule _ ih => exact ih
  | «at» _ ih => exact ih
  | load _ _ ih => exact ih
  | update _ _ ih => exact ⟨ih.1, by have := ih.2; rw [size_update] at this; exact this⟩
  | loadIfAlive _ ih => exact ih
  | point _ ih => exact ih
  | alloc _ ih => exact ⟨ih.1, by have := ih.2; rw [size_push] at this; omega⟩
  | fresh _ ih => exact ⟨Nat.le_trans (Nat.le_succ _) ih.1, ih.2⟩
  | ask _ ih => exact ih
  | choose _ _ ih => exact ih
  | os _ ih => exact ih
  | handled _ ih => exact ih
  | genState _ _ ih => exact ih
  | stack _ ih => exact ih
  | thread _ ih => exact ih
  | newGen _ ih => exact ih
  | call _ _ i1 i2 => exact Up.trans i1 i2
  | callSusp _ ih => exact ih
  | resumeFresh _ _ _ _ i1 i2 => exact Up.trans i1 i2
  | resumeSuspended _ _ _ _ i1 i2 => exact Up.trans i1 i2
  | resumeJustStarted _ _ _ ih => exact ih
  | resumeThrowFresh _ _ ih => exact ih
  | resumeRunning _ _ ih => exact ih
  | resumeFinished _ _ ih => exact ih
  | segRet _ _ i1 i2 => exact Up.trans i1 i2
  | segGen _ _ i1 i2 => exact Up.trans i1 i2
  | segSuspOut _ _ ih => exact ih
  | segSuspGen _ _ _ _ i1 i2 => exact Up.trans i1 i2
theorem wakes_up {M : Model} {Γ : Ctx} {p : Pos} {g : Nat} {r : Resume} {s : Shared} {res : GenResult} {s' : Shared} (h : Wakes M Γ p g r s res s') : Up s s' := by
  unfold Wakes at h
  split at h
  · exact h.elim
  · split at h
    · obtain ⟨e, s₁, h1, _, _, rfl⟩ := h; have u := runs_up h1; exact ⟨u.1, u.2⟩
    · obtain ⟨_, rfl⟩ := h; exact Up.refl _
    · obtain ⟨_, rfl⟩ := h; exact Up.refl _
  · obtain ⟨e, s₁, h1, _, _, rfl⟩ := h; have u := runs_up h1; exact ⟨u.1, u.2⟩
  · obtain ⟨_, rfl⟩ := h; exact Up.refl _
  · obtain ⟨_, rfl⟩ := h; exact Up.refl _
theorem wp_up {α : Type} {M : Model} {Γ : Ctx} {t : Sem α} : ∀ {Q : α → Pos → Shared → Prop} {E : Value → Pos → Shared → Prop} {p : Pos} {s s₀ : Shared}, Up s₀ s →
    Sem.wp M Γ t (fun a p' s' => Up s₀ s' → Q a p' s') (fun e p' s' => Up s₀ s' → E e p' s') p s → Sem.wp M Γ t Q E p s := by
  induction t with
  | pure a => intro Q E p s s₀ u h; exact h u
  | raise e => intro Q E p s s₀ u h; exact h u
  | update a part f k ih =>
    intro Q E p s s₀ u h
    rw [Sem.wp_update] at h ⊢
    exact ⟨h.1, ih () (Up.trans u ⟨Nat.le_refl _, by show _ ≤ (s.heap.update a f).objs.size; rw [size_update]; exact Nat.le_refl _⟩) h.2⟩
  | alloc o k ih =>
    intro Q E p s s₀ u h
    rw [Sem.wp_alloc] at h ⊢
    exact ih _ (Up.trans u ⟨Nat.le_refl _, by show _ ≤ (s.heap.push o).objs.size; rw [size_push]; exact Nat.le_succ _⟩) h
  | fresh k ih =>
    intro Q E p s s₀ u h
    rw [Sem.wp_fresh] at h ⊢
    exact ih _ (Up.trans u ⟨Nat.le_succ _, Nat.le_refl _⟩) h
  | load a part k ih => intro Q E p s s₀ u h; rw [Sem.wp_load] at h ⊢; obtain ⟨o, h1, h2⟩ := h; exact ⟨o, h1, ih o u h2⟩
  | choose src n k ih => intro Q E p s s₀ u h; rw [Sem.wp_choose] at h ⊢; exact ⟨h.1, ih _ (Up.trans u (Up.refl _)) h.2⟩
  | genState g k ih => intro Q E p s s₀ u h; rw [Sem.wp_genState] at h ⊢; obtain ⟨o, h1, h2⟩ := h; exact ⟨o, h1, ih _ u h2⟩
  | call c hh g l k ih =>
    intro Q E p s s₀ u h
    rw [Sem.wp_call] at h ⊢
    obtain ⟨r, s', h1, h2⟩ := h
    exact ⟨r, s', h1, ih r (Up.trans u (runs_up h1)) h2⟩
  | resume g r l k ih =>
    intro Q E p s s₀ u h
    rw [Sem.wp_resume] at h ⊢
    obtain ⟨r, s', h1, h2⟩ := h
    exact ⟨r, s', h1, ih r (Up.trans u (wakes_up h1)) h2⟩
  | rule tag k ih => intro Q E p s s₀ u h; rw [Sem.wp_rule] at h ⊢; exact ih _ u h
  | «at» q k ih => intro Q E p s s₀ u h; rw [Sem.wp_at] at h ⊢; exact ih _ u h
  | loadIfAlive q k ih => intro Q E p s s₀ u h; rw [Sem.wp_loadIfAlive] at h ⊢; exact ih _ u h
  | point q k ih => intro Q E p s s₀ u h; rw [Sem.wp_point] at h ⊢; exact ih _ u h
  | ask k ih => intro Q E p s s₀ u h; rw [Sem.wp_ask] at h ⊢; exact ih _ u h
  | os q l k ih => intro Q E p s s₀ u h; rw [Sem.wp_os] at h ⊢; exact ih _ (Up.trans u (Up.refl _)) h
  | handled q k ih => intro Q E p s s₀ u h; rw [Sem.wp_handled] at h ⊢; exact ih _ u h
  | newGen q k ih => intro Q E p s s₀ u h; rw [Sem.wp_newGen] at h ⊢; exact ih _ (Up.trans u (Up.refl _)) h
  | stack k ih => intro Q E p s s₀ u h; rw [Sem.wp_stack] at h ⊢; exact ih _ u h
  | thread k ih => intro Q E p s s₀ u h; rw [Sem.wp_thread] at h ⊢; exact ih _ u h
  | unsupported => intro Q E p s s₀ u h; rw [Sem.wp_unsupported] at h; exact h.elim
  | finish => intro Q E p s s₀ u h; rw [Sem.wp_finish] at h; exact h.elim
  | register => intro Q E p s s₀ u h; rw [Sem.wp_register] at h; exact h.elim
  | yield => intro Q E p s s₀ u h; rw [Sem.wp_yield] at h; exact h.elim
  | fork => intro Q E p s s₀ u h; rw [Sem.wp_fork] at h; exact h.elim
  | await => intro Q E p s s₀ u h; rw [Sem.wp_await] at h; exact h.elim
/-- behind any tree the counts have not fallen -/
theorem any_up {α : Type} {M : Model} {A : Around} {t : Sem α} {Q : α → Shared → Prop} {E : Value → Shared → Prop} {s : Shared}
    (h : wpAny M A t (fun a s' => Up s s' → Q a s') (fun e s' => Up s s' → E e s') s) : wpAny M A t Q E s :=
  fun Γ p hΓ => wp_up (Up.refl s) (h Γ p hΓ)
end Mine

namespace Mine
/-- a mark at which the walk stands still -/
def Halt (P : Prop) : Prop := P
theorem Halt.go {P : Prop} (h : Halt P) : P := h
theorem genToks {α : Type} {M : Model} {A : Around} {t : Sem α} {Q : α → Shared → Prop} {E : Value → Shared → Prop} {hp : Heap} {g : Array GenState} {d : Drawn} {a b : Nat} {os : OsState}
    (h : ∀ k, 0 < k → wpAny M A t Q E ⟨hp, g, d, k, os⟩) (hpos : 0 < a + b) : wpAny M A t Q E ⟨hp, g, d, a + b, os⟩ := h _ hpos
end Mine

namespace Mine
/-! the plain law of escape, over lists of code points -/
def ampL : List Nat := [38, 97, 109, 112, 59]
def ltL : List Nat := [38, 108, 116, 59]
def gtL : List Nat := [38, 103, 116, 59]
def mkL (c : Nat) : List Nat := if c = 38 then ampL else if c = 60 then ltL else if c = 62 then gtL else [c]
def escL (l : List Nat) : List Nat := l.flatMap mkL
def repL (c : Nat) (z : List Nat) (l : List Nat) : List Nat := l.flatMap fun k => if k = c then z else [k]
theorem escL_of (l : List Nat) : repL 62 gtL (repL 60 ltL (repL 38 ampL l)) = escL l := by
  unfold repL escL
  rw [List.flatMap_assoc, List.flatMap_assoc]
  congr 1
  funext k
  unfold mkL
  by_cases h1 : k = 38
  · subst h1; decide
  · by_cases h2 : k = 60
    · subst h2; decide
    · by_cases h3 : k = 62
      · subst h3; decide
      · simp [h1, h2, h3]
/-- the piece at the head of a text -/
def pieceL (l : List Nat) : List Nat :=
  if ampL.isPrefixOf l then ampL else if ltL.isPrefixOf l then ltL else if gtL.isPrefixOf l then gtL else l.take 1
def sgnL (p : List Nat) : List Nat := if p = ampL then [38] else if p = ltL then [60] else if p = gtL then [62] else p
def mrkL (p : List Nat) : List Nat := if p = ampL ∨ p = ltL ∨ p = gtL then p else if p = [38] then ampL else if p = [60] then ltL else if p = [62] then gtL else p
theorem pieceL_pos (c : Nat) (r : List Nat) : 1 ≤ (pieceL (c :: r)).length := by
  unfold pieceL
  (repeat' split) <;> simp [ampL, ltL, gtL]
def rdF : Nat → List Nat → List Nat × List Nat
  | 0, _ => ([], [])
  | _ + 1, [] => ([], [])
  | n + 1, c :: r => let p := pieceL (c :: r); let q := rdF n ((c :: r).drop p.length); (sgnL p ++ q.1, mrkL p ++ q.2)
def rdL (l : List Nat) : List Nat × List Nat := rdF l.length l
theorem rdF_more : ∀ (n m : Nat) (l : List Nat), l.length ≤ n → l.length ≤ m → rdF n l = rdF m l
  | 0, m, l, h, _ => by
    obtain rfl : l = [] := List.length_eq_zero_iff.mp (Nat.le_zero.mp h)
    cases m <;> rfl
  | n + 1, 0, l, _, h => by
    obtain rfl : l = [] := List.length_eq_zero_iff.mp (Nat.le_zero.mp h)
    rfl
  | n + 1, m + 1, [], _, _ => rfl
  | n + 1, m + 1, c :: r, h1, h2 => by
    have hp := pieceL_pos c r
    have hd : ((c :: r).drop (pieceL (c :: r)).length).length ≤ r.length := by rw [List.length_drop, List.length_cons]; omega
    rw [List.length_cons] at h1 h2
    show (sgnL _ ++ (rdF n _).1, mrkL _ ++ (rdF n _).2) = (sgnL _ ++ (rdF m _).1, mrkL _ ++ (rdF m _).2)
    rw [rdF_more n m _ (by omega) (by omega)]
theorem rdL_nil : rdL [] = ([], []) := rfl
theorem rdL_cons (c : Nat) (r : List Nat) : rdL (c :: r) = (sgnL (pieceL (c :: r)) ++ (rdL ((c :: r).drop (pieceL (c :: r)).length)).1, mrkL (pieceL (c :: r)) ++ (rdL ((c :: r).drop (pieceL (c :: r)).length)).2) := by
  have hp := pieceL_pos c r
  have hd : ((c :: r).drop (pieceL (c :: r)).length).length ≤ r.length := by rw [List.length_drop, List.length_cons]; omega
  show (sgnL _ ++ (rdF r.length _).1, mrkL _ ++ (rdF r.length _).2) = _
  unfold rdL
  rw [rdF_more r.length _ _ hd (Nat.le_refl _)]
theorem escL_nil : escL [] = [] := rfl
theorem escL_cons (c : Nat) (r : List Nat) : escL (c :: r) = mkL c ++ escL r := rfl
theorem escL_append (a b : List Nat) : escL (a ++ b) = escL a ++ escL b := by unfold escL; rw [List.flatMap_append]
/-- the shape of a head piece -/
theorem pieceL_cases (c : Nat) (r : List Nat) : pieceL (c :: r) = ampL ∨ pieceL (c :: r) = ltL ∨ pieceL (c :: r) = gtL ∨ pieceL (c :: r) = [c] := by
  unfold pieceL
  (repeat' split) <;> simp
theorem esc_sgn (c : Nat) (r : List Nat) : escL (sgnL (pieceL (c :: r))) = mrkL (pieceL (c :: r)) := by
  rcases pieceL_cases c r with h | h | h | h <;> rw [h]
  · decide
  · decide
  · decide
  · have e1 : ([c] : List Nat) ≠ ampL := by simp [ampL]
    have e2 : ([c] : List Nat) ≠ ltL := by simp [ltL]
    have e3 : ([c] : List Nat) ≠ gtL := by simp [gtL]
    simp only [sgnL, mrkL, e1, e2, e3, if_false, or_self, List.cons.injEq, and_true]
    show mkL c ++ [] = _
    rw [List.append_nil]
    unfold mkL
    rfl
theorem esc_read : ∀ l : List Nat, escL (rdL l).1 = (rdL l).2
  | [] => rfl
  | c :: r => by
    have hp := pieceL_pos c r
    have ih := esc_read ((c :: r).drop (pieceL (c :: r)).length)
    rw [rdL_cons]
    show escL (_ ++ _) = _ ++ _
    rw [escL_append, ih, esc_sgn]
termination_by l => l.length
decreasing_by rw [List.length_drop, List.length_cons]; omega
theorem piece_esc (c : Nat) (r : List Nat) : pieceL (mkL c ++ r) = mkL c := by
  unfold mkL
  by_cases h1 : c = 38
  · subst h1; simp [pieceL, ampL]
  · by_cases h2 : c = 60
    · subst h2; simp [pieceL, ampL, ltL]
    · by_cases h3 : c = 62
      · subst h3; simp [pieceL, ampL, ltL, gtL]
      · have : 38 ≠ c := fun e => h1 e.symm
        simp [h1, h2, h3, this, pieceL, ampL, ltL, gtL]
theorem sgn_mk (c : Nat) : sgnL (mkL c) = [c] := by
  unfold mkL
  by_cases h1 : c = 38
  · subst h1; decide
  · by_cases h2 : c = 60
    · subst h2; decide
    · by_cases h3 : c = 62
      · subst h3; decide
      · simp [h1, h2, h3, sgnL, ampL, ltL, gtL]
theorem mrk_mk (c : Nat) : mrkL (mkL c) = mkL c := by
  unfold mkL
  by_cases h1 : c = 38
  · subst h1; decide
  · by_cases h2 : c = 60
    · subst h2; decide
    · by_cases h3 : c = 62
      · subst h3; decide
      · simp [h1, h2, h3, mrkL, ampL, ltL, gtL]
theorem read_esc : ∀ l : List Nat, rdL (escL l) = (l, escL l)
  | [] => rfl
  | c :: r => by
    have ih := read_esc r
    rw [escL_cons]
    obtain ⟨d, q, hq⟩ : ∃ d q, mkL c = d :: q := by
      unfold mkL
      split
      · exact ⟨_, _, rfl⟩
      · split
        · exact ⟨_, _, rfl⟩
        · split <;> exact ⟨_, _, rfl⟩
    have e : mkL c ++ escL r = d :: (q ++ escL r) := by rw [hq]; rfl
    have hp : pieceL (d :: (q ++ escL r)) = mkL c := by rw [← e]; exact piece_esc c _
    have hd : (d :: (q ++ escL r)).drop (mkL c).length = escL r := by rw [← e, List.drop_left]
    rw [e, rdL_cons, hp, hd, ih, sgn_mk, mrk_mk, ← e]
    rfl
/-- lengths -/
theorem mkL_len (c : Nat) : 1 ≤ (mkL c).length ∧ (mkL c).length ≤ 5 := by
  unfold mkL
  (repeat' split) <;> simp [ampL, ltL, gtL]
theorem escL_len : ∀ l : List Nat, (escL l).length ≤ 5 * l.length
  | [] => by simp [escL]
  | c :: r => by
    have ih := escL_len r
    have h := mkL_len c
    rw [escL_cons, List.length_append, List.length_cons]; omega
end Mine

namespace Mine
theorem repL_free (c : Nat) (z : List Nat) : ∀ l : List Nat, c ∉ l → repL c z l = l
  | [], _ => rfl
  | k :: r, h => by
    have h1 : ¬ k = c := fun e => h (e ▸ List.mem_cons_self ..)
    have ih := repL_free c z r fun m => h (List.mem_cons_of_mem _ m)
    unfold repL at ih ⊢
    rw [List.flatMap_cons, ih, if_neg h1]; rfl
theorem repL_append (c : Nat) (z a b : List Nat) : repL c z (a ++ b) = repL c z a ++ repL c z b := by unfold repL; rw [List.flatMap_append]
theorem repL_join (c : Nat) (z : PySem.Str) : ∀ parts : List PySem.Str, (∀ p ∈ parts, c ∉ p.cps.toList) →
    repL c z.cps.toList (Str.join ⟨#[c]⟩ parts).cps.toList = (Str.join z parts).cps.toList
  | [], _ => rfl
  | [p], h => repL_free c _ _ (h p (List.mem_singleton.mpr rfl))
  | p :: q :: r, h => by
    have ih := repL_join c z (q :: r) fun a ha => h a (List.mem_cons_of_mem _ ha)
    show repL c z.cps.toList (p ++ ⟨#[c]⟩ ++ Str.join ⟨#[c]⟩ (q :: r)).cps.toList = (p ++ z ++ Str.join z (q :: r)).cps.toList
    simp only [Str.cps_append, Array.toList_append]
    rw [repL_append, repL_append, ih, repL_free c _ _ (h p (List.mem_cons_self ..))]
    have : repL c z.cps.toList [c] = z.cps.toList := by simp [repL]
    show p.cps.toList ++ repL c z.cps.toList [c] ++ _ = _
    rw [this]
theorem replace_flat (x z : PySem.Str) (c : Nat) : (Txt.replace x ⟨#[c]⟩ z).cps.toList = repL c z.cps.toList x.cps.toList := by
  rw [StrLaws.replace_one, ← repL_join c z _ (StrLaws.split_free x c), StrLaws.join_split]
/-- a text by its code points -/
def tx (l : List Nat) : PySem.Str := ⟨l.toArray⟩
theorem tx_cps (x : PySem.Str) : tx x.cps.toList = x := by cases x; simp [tx]
theorem tx_inj {a b : List Nat} (h : tx a = tx b) : a = b := by
  have := congrArg (fun x : PySem.Str => x.cps.toList) h
  simpa [tx] using this
theorem tx_len (l : List Nat) : (tx l).length = l.length := by simp [tx, PySem.Str.length]
theorem replace_tx (l : List Nat) (c : Nat) (z y : PySem.Str) (hy : y = ⟨#[c]⟩) : Txt.replace (tx l) y z = tx (repL c z.cps.toList l) := by
  subst hy
  rw [← tx_cps (Txt.replace (tx l) ⟨#[c]⟩ z), replace_flat]
  simp [tx]
theorem tx_ext {x y : PySem.Str} (h : x.cps.toList = y.cps.toList) : x = y := by rw [← tx_cps x, ← tx_cps y, h]
end Mine

namespace Mine
theorem cps_tx (l : List Nat) : (tx l).cps.toList = l := by simp [tx]
theorem item_tx {x : List Nat} {k : Nat} (h : k < x.length) : Txt.item (tx x) (k : Int) = tx ((x.drop k).take 1) := by
  have hd : (x.drop k).take 1 = [x[k]] := by
    rw [List.drop_eq_getElem_cons h]; rfl
  rw [hd]
  refine (item_meets (x := tx x) (i := (k : Int)) (by omega) (n := x[k]) ?_)
  simp [tx, h]
open Builtin Builtin.Str in
theorem slice_beyond_hi (len : Nat) {i j : Int} (h : (len : Int) ≤ j) : strSliceIndices (some i) (some j) 1 len = strSliceIndices (some i) (some (len : Int)) 1 len := by
  have a1 : ¬ j < 0 := by omega
  have a2 : ¬ ((len : Int) < 0) := by omega
  have e1 : max (0 : Int) (min j (len : Int)) = len := by omega
  have e2 : max (0 : Int) (min (len : Int) (len : Int)) = len := by omega
  simp [strSliceIndices, a1, a2, e1, e2]
theorem slice_tx {x : List Nat} {k : Nat} {j : Int} (n : Nat) (h : k ≤ x.length) (hj : j = (k : Int) + (n : Int)) : Txt.slice (tx x) (some (k : Int)) (some j) = tx ((x.drop k).take n) := by
  subst hj
  by_cases hb : k + n ≤ x.length
  · have := slice_closesL (x := tx x) (i := (k : Int)) (j := (k : Int) + (n : Int)) (by omega) (by omega) (by rw [tx_len]; omega)
    rw [eq_of_beq this]
    simp only [cps_tx, Int.toNat_natCast, show ((k : Int) + (n : Int) - (k : Int)).toNat = n by omega]
    rfl
  · have e : Txt.slice (tx x) (some (k : Int)) (some ((k : Int) + (n : Int))) = Txt.slice (tx x) (some (k : Int)) (some ((tx x).length : Int)) := by
      show StrLaws.sliceText _ _ _ = StrLaws.sliceText _ _ _
      unfold StrLaws.sliceText
      rw [slice_beyond_hi (tx x).length (by rw [tx_len]; omega)]
    rw [e]
    have := slice_closesL (x := tx x) (i := (k : Int)) (j := ((tx x).length : Int)) (by omega) (by rw [tx_len]; omega) (Int.le_refl _)
    rw [eq_of_beq this]
    have h1 : (((tx x).length : Int) - (k : Int)).toNat = x.length - k := by rw [tx_len]; omega
    simp only [cps_tx, Int.toNat_natCast, h1]
    have h2 : (x.drop k).take (x.length - k) = (x.drop k).take n := by
      rw [List.take_of_length_le (by rw [List.length_drop]; omega), List.take_of_length_le (by rw [List.length_drop]; omega)]
    rw [h2]; rfl
theorem join_nil (texts : List PySem.Str) : (Str.join ⟨#[]⟩ texts).cps.toList = (texts.map (·.cps.toList)).flatten := by
  induction texts with
  | nil => rfl
  | cons p r ih =>
    cases r with
    | nil => simp [Str.join]
    | cons q r =>
      show (p ++ ⟨#[]⟩ ++ Str.join ⟨#[]⟩ (q :: r)).cps.toList = _
      simp only [Str.cps_append, Array.toList_append]
      rw [ih]; simp
theorem join_tx (texts : List PySem.Str) : Txt.join (PySem.Str.ofString "") texts = tx (texts.map (·.cps.toList)).flatten := by
  show Builtin.Str.glued _ _ = _
  rw [StrLaws.glued_eq_join, show PySem.Str.ofString "" = ⟨#[]⟩ by decide]
  apply tx_ext
  rw [join_nil, cps_tx]
/-- the piece behind the first i marks of three -/
def pAt (l : List Nat) : Nat → List Nat
  | 0 => l.take 1
  | 1 => if l.take 5 = ampL then ampL else l.take 1
  | 2 => if l.take 4 = ltL then ltL else if l.take 5 = ampL then ampL else l.take 1
  | _ => if l.take 4 = gtL then gtL else if l.take 4 = ltL then ltL else if l.take 5 = ampL then ampL else l.take 1
theorem pre_iff (p l : List Nat) : (p.isPrefixOf l = true) ↔ l.take p.length = p := by
  rw [List.isPrefixOf_iff_prefix]
  constructor
  · rintro ⟨r, rfl⟩; simp
  · intro h; rw [← h]; exact List.take_prefix _ _
theorem pieceL_eq (l : List Nat) : pieceL l = if l.take 5 = ampL then ampL else if l.take 4 = ltL then ltL else if l.take 4 = gtL then gtL else l.take 1 := by
  unfold pieceL
  have e1 := pre_iff ampL l
  have e2 := pre_iff ltL l
  have e3 := pre_iff gtL l
  have f1 : ampL.length = 5 := rfl
  have f2 : ltL.length = 4 := rfl
  have f3 : gtL.length = 4 := rfl
  rw [f1] at e1; rw [f2] at e2; rw [f3] at e3
  simp only [e1, e2, e3]
theorem take_second {l : List Nat} {n : Nat} {p : List Nat} (h : l.take (n + 2) = p) : l.take 2 = p.take 2 := by
  rw [← h, List.take_take]; congr 1
theorem pAt_three (l : List Nat) : pAt l 3 = pieceL l := by
  rw [pieceL_eq]
  show (if l.take 4 = gtL then gtL else if l.take 4 = ltL then ltL else if l.take 5 = ampL then ampL else l.take 1) = _
  by_cases h1 : l.take 5 = ampL
  · have a := take_second (n := 3) h1
    have h2 : l.take 4 ≠ ltL := fun h => by have b := take_second (n := 2) h; rw [a] at b; exact absurd b (by decide)
    have h3 : l.take 4 ≠ gtL := fun h => by have b := take_second (n := 2) h; rw [a] at b; exact absurd b (by decide)
    simp [h1, h2, h3]
  · by_cases h2 : l.take 4 = ltL
    · have a := take_second (n := 2) h2
      have h3 : l.take 4 ≠ gtL := fun h => by have b := take_second (n := 2) h; rw [a] at b; exact absurd b (by decide)
      rw [if_neg h3, if_pos h2, if_neg h1, if_pos h2]
    · rw [if_neg h1, if_neg h2, if_neg h1, if_neg h2]
theorem pieceL_plain {l : List Nat} (h : l.take 1 ≠ [38]) : pieceL l = l.take 1 := by
  have key : ∀ {n : Nat} {p : List Nat}, l.take (n + 1) = p → p.take 1 = [38] → False := fun {n p} h1 h2 => by
    have : l.take 1 = p.take 1 := by rw [← h1, List.take_take]; congr 1
    exact h (this.trans h2)
  rw [pieceL_eq, if_neg fun e => key (n := 4) e (by decide), if_neg fun e => key (n := 3) e (by decide), if_neg fun e => key (n := 3) e (by decide)]
end Mine

namespace Mine
def flat (l : List (PySem.Str × Tok)) : List Nat := (l.map (·.1.cps.toList)).flatten
theorem flat_snoc (l : List (PySem.Str × Tok)) (p : List Nat) (t : Tok) : flat (l ++ [(tx p, t)]) = flat l ++ p := by simp [flat, cps_tx]
structure RdSt where
  k : Nat
  tk : Tok
  u1 : Option Value
  u2 : Option Value
  ms : List (PySem.Str × Tok)
  ds : List (PySem.Str × Tok)
  e1 : Nat
  e2 : Nat
structure RdJ (x : List Nat) (σ : RdSt) : Prop where
  hk : σ.k ≤ x.length
  h1 : σ.ms.length ≤ σ.k
  h2 : σ.ds.length ≤ σ.k
  w1 : (flat σ.ms).length ≤ σ.k
  w2 : (flat σ.ds).length ≤ 5 * σ.k
  r1 : flat σ.ms ++ (rdL (x.drop σ.k)).1 = (rdL x).1
  r2 : flat σ.ds ++ (rdL (x.drop σ.k)).2 = (rdL x).2
theorem sgnL_len (c : Nat) (r : List Nat) : (sgnL (pieceL (c :: r))).length = 1 ∧ (mrkL (pieceL (c :: r))).length ≤ 5 := by
  rcases pieceL_cases c r with h | h | h | h <;> rw [h]
  · decide
  · decide
  · decide
  · have e1 : ([c] : List Nat) ≠ ampL := by simp [ampL]
    have e2 : ([c] : List Nat) ≠ ltL := by simp [ltL]
    have e3 : ([c] : List Nat) ≠ gtL := by simp [gtL]
    simp only [sgnL, mrkL, e1, e2, e3, if_false, or_self]
    refine ⟨rfl, ?_⟩
    (repeat' split) <;> simp [ampL, ltL, gtL]
theorem pieceL_le (c : Nat) (r : List Nat) : (pieceL (c :: r)).length ≤ (c :: r).length := by
  rw [pieceL_eq]
  have key : ∀ {n : Nat} {p : List Nat}, (c :: r).take n = p → p.length ≤ (c :: r).length := fun {n p} h => by rw [← h, List.length_take]; exact Nat.min_le_right _ _
  split
  · rename_i h; exact key h
  · split
    · rename_i h; exact key h
    · split
      · rename_i h; exact key h
      · exact key rfl
theorem rdJ_next {x : List Nat} {k : Nat} {tk tk' t1 t2 : Tok} {u1 u2 v1 v2 : Option Value} {ms ds : List (PySem.Str × Tok)} {e1 e2 f1 f2 : Nat} (J : RdJ x ⟨k, tk, u1, u2, ms, ds, e1, e2⟩) (hk : k < x.length) {a b : PySem.Str}
    (ha : a = tx (sgnL (pieceL (x.drop k)))) (hb : b = tx (mrkL (pieceL (x.drop k)))) :
    RdJ x ⟨k + (pieceL (x.drop k)).length, tk', v1, v2, ms ++ [(a, t1)], ds ++ [(b, t2)], f1, f2⟩ ∧ x.length - (k + (pieceL (x.drop k)).length) < x.length - k := by
  obtain ⟨jk, j1, j2, w1, w2, r1, r2⟩ := J
  dsimp only at jk j1 j2 w1 w2 r1 r2
  subst ha hb
  obtain ⟨c, r, hx⟩ : ∃ c r, x.drop k = c :: r := ⟨x[k], x.drop (k + 1), List.drop_eq_getElem_cons hk⟩
  have hl : (c :: r).length = x.length - k := by rw [← hx, List.length_drop]
  have p1 := pieceL_pos c r
  have p2 := pieceL_le c r
  have p3 := sgnL_len c r
  have p4 := rdL_cons c r
  rw [← hx] at p1 p2 p3 p4
  have hl' : (x.drop k).length = x.length - k := List.length_drop
  refine ⟨⟨?_, ?_, ?_, ?_, ?_, ?_, ?_⟩, by omega⟩
  · show k + (pieceL (x.drop k)).length ≤ x.length; omega
  · show (ms ++ [_]).length ≤ _; rw [List.length_append, List.length_singleton]; show ms.length + 1 ≤ k + (pieceL (x.drop k)).length; omega
  · show (ds ++ [_]).length ≤ _; rw [List.length_append, List.length_singleton]; show ds.length + 1 ≤ k + (pieceL (x.drop k)).length; omega
  · show (flat (ms ++ [_])).length ≤ k + (pieceL (x.drop k)).length; rw [flat_snoc, List.length_append, p3.1]; omega
  · show (flat (ds ++ [_])).length ≤ 5 * (k + (pieceL (x.drop k)).length); rw [flat_snoc, List.length_append]; have := p3.2; omega
  · show flat (ms ++ [_]) ++ (rdL (x.drop (k + _))).1 = _
    rw [flat_snoc, ← r1, p4, List.drop_drop, List.append_assoc]
  · show flat (ds ++ [_]) ++ (rdL (x.drop (k + _))).2 = _
    rw [flat_snoc, ← r2, p4, List.drop_drop, List.append_assoc]
theorem ofs_amp : PySem.Str.ofString "&amp;" = tx ampL := by decide
theorem ofs_lt : PySem.Str.ofString "&lt;" = tx ltL := by decide
theorem ofs_gt : PySem.Str.ofString "&gt;" = tx gtL := by decide
theorem ofs_1 : PySem.Str.ofString "&" = tx [38] := by decide
theorem ofs_2 : PySem.Str.ofString "<" = tx [60] := by decide
theorem ofs_3 : PySem.Str.ofString ">" = tx [62] := by decide
/-- what is appended, by the piece -/
theorem sg_amp {p : List Nat} (h : tx p = PySem.Str.ofString "&amp;") : PySem.Str.ofString "&" = tx (sgnL p) ∧ tx p = tx (mrkL p) := by rw [ofs_amp] at h; rw [tx_inj h]; decide
theorem sg_lt {p : List Nat} (h : tx p = PySem.Str.ofString "&lt;") : PySem.Str.ofString "<" = tx (sgnL p) ∧ tx p = tx (mrkL p) := by rw [ofs_lt] at h; rw [tx_inj h]; decide
theorem sg_gt {p : List Nat} (h : tx p = PySem.Str.ofString "&gt;") : PySem.Str.ofString ">" = tx (sgnL p) ∧ tx p = tx (mrkL p) := by rw [ofs_gt] at h; rw [tx_inj h]; decide
theorem mk_1 {p : List Nat} (h : tx p = PySem.Str.ofString "&") : tx p = tx (sgnL p) ∧ PySem.Str.ofString "&amp;" = tx (mrkL p) := by rw [ofs_1] at h; rw [tx_inj h]; decide
theorem mk_2 {p : List Nat} (h : tx p = PySem.Str.ofString "<") : tx p = tx (sgnL p) ∧ PySem.Str.ofString "&lt;" = tx (mrkL p) := by rw [ofs_2] at h; rw [tx_inj h]; decide
theorem mk_3 {p : List Nat} (h : tx p = PySem.Str.ofString ">") : tx p = tx (sgnL p) ∧ PySem.Str.ofString "&gt;" = tx (mrkL p) := by rw [ofs_3] at h; rw [tx_inj h]; decide
theorem sg_no {p : List Nat} (h1 : p ≠ ampL) (h2 : p ≠ ltL) (h3 : p ≠ gtL) (h4 : p ≠ [38]) (h5 : p ≠ [60]) (h6 : p ≠ [62]) : tx p = tx (sgnL p) ∧ tx p = tx (mrkL p) := by
  simp [sgnL, mrkL, h1, h2, h3, h4, h5, h6]
end Mine

namespace Mine
theorem never {α : Type} {M : Model} {A : Around} {t : Sem α} {Q : α → Shared → Prop} {E : Value → Shared → Prop} {s : Shared} (h : wpAny M A t Q (fun _ _ => False) s) : wpAny M A t Q E s :=
  wpAny_mono h (fun _ _ x => x) fun _ _ x => x.elim
theorem fr_eq {h₀ h : Heap} {L : Addr} {m m' : PySem.Str → Option Value} (F : Fr h₀ L h m) (e : ∀ y, m y = m' y) : Fr h₀ L h m' := (funext e : m = m') ▸ F
theorem news_sub {h₀ h : Heap} {L : Addr} {n n' : List (Addr × Obj)} (N : News h₀ L h n) (e : ∀ p ∈ n', p ∈ n) : News h₀ L h n' := fun p hp => N p (e p hp)

/-- the end of a turn of a while loop whose state is told by a σ -/
def StepSt {σ : Type} (h₀ : Heap) (L : Addr) (fm : σ → PySem.Str → Option Value) (lg : σ → List (Addr × Obj)) (J : σ → Prop) (μ : σ → Nat) (x : σ) (s : Shared) (Q : Flow → Shared → Prop) (f : Flow) (s₃ : Shared) : Prop :=
  match f with
  | .next | .cont => ∃ y h' tk, s₃ = { s with heap := h', toks := tk } ∧ Fr h₀ L h' (fm y) ∧ News h₀ L h' (lg y) ∧ J y ∧ μ y < μ x
  | .brk => Q .next s₃
  | .ret v => Q (.ret v) s₃
theorem StepSt.next {σ : Type} {h₀ : Heap} {L : Addr} {fm : σ → PySem.Str → Option Value} {lg : σ → List (Addr × Obj)} {J : σ → Prop} {μ : σ → Nat} {x : σ} {s : Shared} {Q : Flow → Shared → Prop} (y : σ) {h' : Heap} {tk : Nat}
    (F : Fr h₀ L h' (fm y)) (N : News h₀ L h' (lg y)) (hJ : J y) (hm : μ y < μ x) : StepSt h₀ L fm lg J μ x s Q .next { s with heap := h', toks := tk } := ⟨y, h', tk, rfl, F, N, hJ, hm⟩

theorem While_st {σ : Type} {prog : Program} {w : World} {A : Around} {E : Value → Shared → Prop} {Q : Flow → Shared → Prop} {s : Shared} {env : Env} {h₀ : Heap} {L : Addr} {test : Expr} {body : List Stmt} {pos : Pos}
    (fm : σ → PySem.Str → Option Value) (lg : σ → List (Addr × Obj)) (J : σ → Prop) (μ : σ → Nat) (x₀ : σ)
    (hpos : 0 < s.toks) (F : Fr h₀ L s.heap (fm x₀)) (N : News h₀ L s.heap (lg x₀)) (hJ : J x₀)
    (turn : ∀ x h₁ tk₁, 0 < tk₁ → J x → Fr h₀ L h₁ (fm x) → News h₀ L h₁ (lg x) → s.heap.objs.size ≤ h₁.objs.size →
      wpAny (model prog w) A (isTrue test env (eval test env)) (fun b s₂ =>
        if b = true then wpAny (model prog w) A (execs body env) (StepSt h₀ L fm lg J μ x s Q) E s₂ else Q .next s₂) E { s with heap := h₁, toks := tk₁ })
    (hE : PassesOwn (model prog w) A env E := by passes_own) :
    wpAny (model prog w) A (exec (.While test body [] pos) env) Q E s := by
  refine wpAny_While (codeAny_whileLoop (fun n s' => ∃ x h₁ tk₁, s' = { s with heap := h₁, toks := tk₁ } ∧ 0 < tk₁ ∧ J x ∧ Fr h₀ L h₁ (fm x) ∧ News h₀ L h₁ (lg x) ∧ s.heap.objs.size ≤ h₁.objs.size ∧ μ x = n) ?_ (μ x₀) ⟨x₀, s.heap, s.toks, rfl, hpos, hJ, F, N, Nat.le_refl _, rfl⟩)
  rintro n s' ⟨x, h₁, tk₁, rfl, p₁, J₁, F₁, N₁, z₁, rfl⟩
  refine any_up (wpAny_mono (turn x h₁ tk₁ p₁ J₁ F₁ N₁ z₁) (fun b s₂ h₂ up => ?_) fun e s₂ h₂ up => hE e s₂ h₂)
  cases b with
  | false =>
    simp only [Bool.false_eq_true, if_false] at h₂ ⊢
    exact wpAny_execs_nil h₂
  | true =>
    simp only [if_true] at h₂ ⊢
    refine any_up (wpAny_mono h₂ (fun f s₃ h₃ up₃ => ?_) fun e s₂ h₂ up => hE e s₂ h₂)
    have up' := up.trans up₃
    have key : (∃ y h' tk, s₃ = { s with heap := h', toks := tk } ∧ Fr h₀ L h' (fm y) ∧ News h₀ L h' (lg y) ∧ J y ∧ μ y < μ x) →
        ∃ m, m < μ x ∧ ∃ x h₁ tk₁, s₃ = { s with heap := h₁, toks := tk₁ } ∧ 0 < tk₁ ∧ J x ∧ Fr h₀ L h₁ (fm x) ∧ News h₀ L h₁ (lg x) ∧ s.heap.objs.size ≤ h₁.objs.size ∧ μ x = m := by
      rintro ⟨y, h', tk, rfl, F₂, N₂, J₂, hm⟩
      have u1 : tk₁ ≤ tk := up'.1
      have u2 : h₁.objs.size ≤ h'.objs.size := up'.2
      exact ⟨μ y, hm, y, h', tk, rfl, by omega, J₂, F₂, N₂, by omega, rfl⟩
    cases f with
    | next => exact key h₃
    | cont => exact key h₃
    | brk => exact h₃
    | ret v => exact h₃
end Mine

namespace Mine
/-- the end of a turn of a for loop whose state is told by a σ -/
def ForSt {σ : Type} (h₀ : Heap) (L : Addr) (fm : σ → PySem.Str → Option Value) (lg : σ → List (Addr × Obj)) (own : List (Addr × Obj)) (J : σ → Prop) (s : Shared) (Q : Flow → Shared → Prop) (f : Flow) (s₃ : Shared) : Prop :=
  match f with
  | .next | .cont => ∃ y h' tk, s₃ = { s with heap := h', toks := tk } ∧ Fr h₀ L h' (fm y) ∧ News h₀ L h' (lg y ++ own) ∧ J y
  | .brk => Q .next s₃
  | .ret v => Q (.ret v) s₃
theorem ForSt.next {σ : Type} {h₀ : Heap} {L : Addr} {fm : σ → PySem.Str → Option Value} {lg : σ → List (Addr × Obj)} {own : List (Addr × Obj)} {J : σ → Prop} {s : Shared} {Q : Flow → Shared → Prop} (y : σ) {h' : Heap} {tk : Nat}
    (F : Fr h₀ L h' (fm y)) (N : News h₀ L h' (lg y ++ own)) (hJ : J y) : ForSt h₀ L fm lg own J s Q .next { s with heap := h', toks := tk } := ⟨y, h', tk, rfl, F, N, hJ⟩
abbrev forR (M : Model) (A : Around) (env : Env) (Q : Flow → Shared → Prop) (E : Value → Shared → Prop) : Result → Shared → Prop := fun r s' => match r with | .ok f => Q f s' | .error e => cameBackBy M A env E e s'

theorem forLoop_st {σ : Type} {prog : Program} {w : World} {A : Around} {E : Value → Shared → Prop} {Q : Flow → Shared → Prop} {s : Shared} {env : Env} {h₀ : Heap} {x : PySem.Str} {px : Pos} {body : List Stmt} {I : Addr} {fp wr : List Addr} {n : Nat} {P : Nat → Value → Prop} {St : Nat → Heap → Prop}
    (fm : σ → PySem.Str → Option Value) (lg : σ → List (Addr × Obj)) (J : Nat → σ → Prop) (x₀ : σ)
    (W : Walks prog w A I fp wr n P St) (hx : env.kindOf x = some .local) (hp : (env.scope.kind == .class || (env.scope.kind == .module && env.locals != env.globals)) = false)
    (hLf : env.locals ∉ fp) (hwr : ∀ b ∈ wr, h₀.get? b = none) (hoff : ∀ i y, J i y → ∀ p ∈ lg y, p.1 ∉ wr)
    (hst : St 0 s.heap) (hpos : 0 < s.toks) (F : Fr h₀ env.locals s.heap (fm x₀)) (N : News h₀ env.locals s.heap (lg x₀)) (h0 : J 0 x₀)
    (turn : ∀ i v y h tk own, 0 < tk → i < n → P i v → J i y → (∀ p ∈ own, p.1 ∈ fp) → Fr h₀ env.locals h (fun z => if z = x then some v else fm y z) → News h₀ env.locals h (lg y ++ own) → s.heap.objs.size ≤ h.objs.size →
      wpAny (model prog w) A (execs body env) (ForSt h₀ env.locals fm lg own (J (i + 1)) s Q) E { s with heap := h, toks := tk })
    (done : ∀ y h tk, 0 < tk → J n y → Fr h₀ env.locals h (fm y) → News h₀ env.locals h (lg y) → s.heap.objs.size ≤ h.objs.size → Q .next { s with heap := h, toks := tk })
    (hE : PassesOwn (model prog w) A env E := by passes_own) :
    codeAny (model prog w) A (.forLoop (.Name x px) (.ref I) body [] env) (forR (model prog w) A env Q E) s := by
  have hLw : env.locals ∉ wr := fun h => hLf (W.sub _ h)
  have old : ∀ b o, h₀.get? b = some o → b ∉ wr := fun b o e hb => by rw [hwr b hb] at e; cases e
  refine codeAny_forLoop
    (fun k s' => ∃ y h' tk i, s' = { s with heap := h', toks := tk } ∧ 0 < tk ∧ s.heap.objs.size ≤ h'.objs.size ∧ St i h' ∧ Fr h₀ env.locals h' (fm y) ∧ News h₀ env.locals h' (lg y) ∧ J i y ∧ i ≤ n ∧ k = n + 1 - i) ?_ (n + 1)
    ⟨x₀, s.heap, s.toks, 0, rfl, hpos, Nat.le_refl _, hst, F, N, h0, Nat.zero_le _, rfl⟩
  rintro k s' ⟨y, h', tk, i, rfl, ptk, sz, hst', F', N', hJ, hi, rfl⟩
  have next : ∀ h₁ : Heap, (∀ b o, b ∉ wr → h'.get? b = some o → h₁.get? b = some o) → Fr h₀ env.locals h₁ (fm y) ∧ News h₀ env.locals h₁ (lg y) := fun h₁ hk₁ =>
    ⟨⟨F'.ns.at' fun o e => hk₁ _ o hLw e, fun b o e => hk₁ b o (old b o e) (F'.keep b o e), F'.above⟩, fun p hp => ⟨hk₁ _ _ (hoff i y hJ p hp) (N' p hp).1, (N' p hp).2⟩⟩
  by_cases hlt : i < n
  · refine any_up (W.item i _ _ _ hlt hst' fun v h₁ tk₁ hP hst₁ hk₁ up => ?_)
    obtain ⟨F₁, N₁⟩ := next h₁ hk₁
    refine wpAny_assign_Name (any_up (wpAny_storeName_local hx F₁.ns (fun h₂ hn₂ hs₂ up₂ => ?_) hp))
    have F₂ := F₁.set hn₂ hs₂
    have u1 : tk ≤ tk₁ := up.1
    have u2 : h'.objs.size ≤ h₁.objs.size := up.2
    have u3 : h₁.objs.size ≤ h₂.objs.size := up₂.2
    have Nown : News h₀ env.locals h₂ (ownOf h₀ fp h₂) := news_ownOf hLf
    refine any_up (wpAny_mono (turn i v y h₂ (tk₁ + 1) (ownOf h₀ fp h₂) (by omega) hlt hP hJ ownOf_sub F₂ ((N₁.set hs₂).append Nown) (by omega)) (fun f s₃ h₃ up₃ => ?_) fun e s₂ h₂ _ => hE e s₂ h₂)
    have key : (∃ y h' tk, s₃ = { s with heap := h', toks := tk } ∧ Fr h₀ env.locals h' (fm y) ∧ News h₀ env.locals h' (lg y ++ ownOf h₀ fp h₂) ∧ J (i + 1) y) →
        ∃ m, m < n + 1 - i ∧ ∃ y h' tk i, s₃ = { s with heap := h', toks := tk } ∧ 0 < tk ∧ s.heap.objs.size ≤ h'.objs.size ∧ St i h' ∧ Fr h₀ env.locals h' (fm y) ∧ News h₀ env.locals h' (lg y) ∧ J i y ∧ i ≤ n ∧ m = n + 1 - i := by
      rintro ⟨y', h₃', tk₃, rfl, F₃, N₃, hJ₃⟩
      have v1 : tk₁ + 1 ≤ tk₃ := up₃.1
      have v2 : h₂.objs.size ≤ h₃'.objs.size := up₃.2
      refine ⟨n + 1 - (i + 1), by omega, y', h₃', tk₃, i + 1, rfl, by omega, by omega, ?_, F₃, fun p hp => N₃ p (List.mem_append_left _ hp), hJ₃, hlt, rfl⟩
      refine W.frame _ _ _ hst₁ fun b hb o e => ?_
      have e₂ : h₂.get? b = some o := (hs₂.2 b fun q => hLf (q ▸ hb)).trans e
      cases hn : h₀.get? b with
      | some o₀ =>
        have : o₀ = o := by have := F₂.keep b o₀ hn; rw [e₂] at this; exact (Option.some.inj this).symm
        exact this ▸ F₃.keep b o₀ hn
      | none => exact (N₃ _ (List.mem_append_right _ (mem_ownOf hb hn e₂))).1
    cases f with
    | next => exact key h₃
    | cont => exact key h₃
    | brk => exact h₃
    | ret v => exact h₃
  · have hin : i = n := by omega
    subst hin
    refine any_up (W.done _ _ _ hst' fun h₁ tk₁ hk₁ up => wpAny_execs_nil ?_)
    obtain ⟨F₁, N₁⟩ := next h₁ hk₁
    have u1 : tk ≤ tk₁ := up.1
    have u2 : h'.objs.size ≤ h₁.objs.size := up.2
    exact done y h₁ tk₁ (by omega) hJ F₁ N₁ (by omega)

section
variable {σ : Type} {prog : Program} {w : World} {A : Around} {E : Value → Shared → Prop} {Q : Flow → Shared → Prop} {s : Shared} {env : Env} {h₀ : Heap} {x : PySem.Str} {px : Pos} {body : List Stmt}

/-- over a list of the heap's, standing in the ledger at every turn -/
theorem iterList_st {l : Addr} {vs : List Value} (fm : σ → PySem.Str → Option Value) (lg : σ → List (Addr × Obj)) (J : Nat → σ → Prop) (x₀ : σ)
    (hl : s.heap.IsList l vs.toArray) (hh : A.handled = none) (hx : env.kindOf x = some .local) (hp : (env.scope.kind == .class || (env.scope.kind == .module && env.locals != env.globals)) = false)
    (hloc : l ≠ env.locals) (hpos : 0 < s.toks) (F : Fr h₀ env.locals s.heap (fm x₀)) (N : News h₀ env.locals s.heap (lg x₀)) (h0 : J 0 x₀)
    (hoff : ∀ i y, J i y → ∀ p ∈ lg y, p.1 ≠ s.heap.objs.size)
    (turn : ∀ i v y h tk own, 0 < tk → vs[i]? = some v → J i y → (∀ p ∈ own, p.1 = s.heap.objs.size ∨ p.1 = l) → Fr h₀ env.locals h (fun z => if z = x then some v else fm y z) → News h₀ env.locals h (lg y ++ own) → s.heap.objs.size < h.objs.size →
      wpAny (model prog w) A (execs body env) (ForSt h₀ env.locals fm lg own (J (i + 1)) s Q) E { s with heap := h, toks := tk })
    (done : ∀ y h tk, 0 < tk → J vs.length y → Fr h₀ env.locals h (fm y) → News h₀ env.locals h (lg y) → s.heap.objs.size < h.objs.size → Q .next { s with heap := h, toks := tk })
    (hE : PassesOwn (model prog w) A env E := by passes_own) :
    wpAny (model prog w) A (pyIter (.ref l)) (fun it s₂ => codeAny (model prog w) A (.forLoop (.Name x px) it body [] env) (forR (model prog w) A env Q E) s₂) E s := by
  obtain ⟨ol, hol, hlr⟩ := id hl
  have hlt : l < s.heap.objs.size := Heap.lt_size hol
  have hne : l ≠ s.heap.objs.size := Nat.ne_of_lt hlt
  refine wpAny_pyIter_list hl ?_
  have W := Walks.list (prog := prog) (w := w) hh s.heap.objs.size l hne vs.toArray
  rw [List.size_toArray] at W
  refine forLoop_st fm lg J x₀ W hx hp ?_ ?_ ?_ ⟨⟨_, Heap.get?_push_size _ rfl, rfl, rfl⟩, hl.at fun o e => Heap.get?_push_of_some _ e⟩ hpos (F.push _) (fun p hp => ⟨Heap.get?_push_of_some _ (N p hp).1, (N p hp).2⟩) h0 ?_ ?_ hE
  · intro hm
    rcases List.mem_cons.mp hm with e | hm
    · exact absurd F.ns.lt (e ▸ Nat.lt_irrefl _)
    · exact hloc (List.mem_singleton.mp hm).symm
  · intro b hb
    rw [List.mem_singleton.mp hb]
    exact next_is_new F
  · intro i y hJ p hp hI
    exact hoff i y hJ p hp (List.mem_singleton.mp hI)
  · intro i v y h tk own p1 hi hP hJ ho F₁ N₁ sz
    exact turn i v y h tk own p1 (by simpa using hP) hJ (fun p hp => by rcases List.mem_cons.mp (ho p hp) with e | e; exact .inl e; exact .inr (List.mem_singleton.mp e)) F₁ N₁ (by have : (s.heap.push _).objs.size ≤ h.objs.size := sz; rw [size_push] at this; omega)
  · intro y h tk p1 hJ F₁ N₁ sz
    exact done y h tk p1 hJ F₁ N₁ (by have : (s.heap.push _).objs.size ≤ h.objs.size := sz; rw [size_push] at this; omega)
end
end Mine

namespace Mine
section
variable {σ : Type} {prog : Program} {w : World} {A : Around} {E : Value → Shared → Prop} {Q : Flow → Shared → Prop} {s : Shared} {env : Env} {h₀ : Heap} {x : PySem.Str} {px : Pos} {body : List Stmt}
/-- over the keys of a dict of texts -/
theorem iterKeys_st {d : Addr} {D : List (PyData × PyData)} (fm : σ → PySem.Str → Option Value) (lg : σ → List (Addr × Obj)) (J : Nat → σ → Prop) (x₀ : σ)
    (T : StrTab prog w s.heap d D) (hh : A.handled = none) (hx : env.kindOf x = some .local) (hp : (env.scope.kind == .class || (env.scope.kind == .module && env.locals != env.globals)) = false)
    (hloc : d ≠ env.locals) (hpos : 0 < s.toks) (F : Fr h₀ env.locals s.heap (fm x₀)) (N : News h₀ env.locals s.heap (lg x₀)) (h0 : J 0 x₀)
    (hoff : ∀ i y, J i y → ∀ p ∈ lg y, p.1 ≠ s.heap.objs.size)
    (turn : ∀ i k dv t y h tk own, 0 < tk → D[i]? = some (.str k, dv) → J i y → (∀ p ∈ own, p.1 = s.heap.objs.size ∨ p.1 = d) → Fr h₀ env.locals h (fun z => if z = x then some (.str k t) else fm y z) → News h₀ env.locals h (lg y ++ own) → s.heap.objs.size < h.objs.size →
      wpAny (model prog w) A (execs body env) (ForSt h₀ env.locals fm lg own (J (i + 1)) s Q) E { s with heap := h, toks := tk })
    (done : ∀ y h tk, 0 < tk → J D.length y → Fr h₀ env.locals h (fm y) → News h₀ env.locals h (lg y) → s.heap.objs.size < h.objs.size → Q .next { s with heap := h, toks := tk })
    (hE : PassesOwn (model prog w) A env E := by passes_own) :
    wpAny (model prog w) A (pyIter (.ref d)) (fun it s₂ => codeAny (model prog w) A (.forLoop (.Name x px) it body [] env) (forR (model prog w) A env Q E) s₂) E s := by
  obtain ⟨lo, kvs, hdo, hf⟩ := id T
  obtain ⟨ep, hat⟩ := hdo.dictAt
  have hne : d ≠ s.heap.objs.size := Nat.ne_of_lt hat.lt_size
  refine wpAny_pyIter_dict lo hat ?_
  have W := Walks.dictKeys (prog := prog) (w := w) (knd := PySem.strKind prog w) hh s.heap.objs.size d hne kvs ep
  have hlen : kvs.length = D.length := hf.length.symm
  rw [hlen] at W
  refine forLoop_st fm lg J x₀ W hx hp ?_ ?_ ?_ ⟨⟨_, Heap.get?_push_size _ rfl, rfl, by rw [hlen]; rfl⟩, hat.push _⟩ hpos (F.push _) (fun p hp => ⟨Heap.get?_push_of_some _ (N p hp).1, (N p hp).2⟩) h0 ?_ ?_ hE
  · intro hm
    rcases List.mem_cons.mp hm with e | hm
    · exact absurd F.ns.lt (e ▸ Nat.lt_irrefl _)
    · exact hloc (List.mem_singleton.mp hm).symm
  · intro b hb
    rw [List.mem_singleton.mp hb]
    exact next_is_new F
  · intro i y hJ p hp hI
    exact hoff i y hJ p hp (List.mem_singleton.mp hI)
  · rintro i v y h tk own p1 hi ⟨k, xv, hx', hkey⟩ hJ ho F₁ N₁ sz
    obtain ⟨dv, hD, _⟩ := hf.at hx'
    obtain ⟨t, rfl⟩ := Value.isStrOf_shape hkey
    exact turn i k dv t y h tk own p1 hD hJ (fun p hp => by rcases List.mem_cons.mp (ho p hp) with e | e; exact .inl e; exact .inr (List.mem_singleton.mp e)) F₁ N₁ (by have : (s.heap.push _).objs.size ≤ h.objs.size := sz; rw [size_push] at this; omega)
  · intro y h tk p1 hJ F₁ N₁ sz
    exact done y h tk p1 hJ F₁ N₁ (by have : (s.heap.push _).objs.size ≤ h.objs.size := sz; rw [size_push] at this; omega)
/-- over a range by ones from nought -/
theorem iterRange_st {r : Addr} {n : Nat} {t₀ u₀ v₀ : Tok} (fm : σ → PySem.Str → Option Value) (lg : σ → List (Addr × Obj)) (J : Nat → σ → Prop) (x₀ : σ)
    (hr : IsRange s.heap r 0 n 1 t₀ u₀ v₀) (hsmall : Builtin.Range.small 0 n 1 = true) (hn : Builtin.Range.rangeSize 0 n 1 = (n : Int)) (hh : A.handled = none) (hx : env.kindOf x = some .local) (hp : (env.scope.kind == .class || (env.scope.kind == .module && env.locals != env.globals)) = false)
    (hpos : 0 < s.toks) (F : Fr h₀ env.locals s.heap (fm x₀)) (N : News h₀ env.locals s.heap (lg x₀)) (h0 : J 0 x₀)
    (hoff : ∀ i y, J i y → ∀ p ∈ lg y, p.1 ≠ s.heap.objs.size)
    (turn : ∀ (i : Nat) t y h tk own, 0 < tk → i < n → J i y → (∀ p ∈ own, p.1 = s.heap.objs.size) → Fr h₀ env.locals h (fun z => if z = x then some (.int i t) else fm y z) → News h₀ env.locals h (lg y ++ own) → s.heap.objs.size < h.objs.size →
      wpAny (model prog w) A (execs body env) (ForSt h₀ env.locals fm lg own (J (i + 1)) s Q) E { s with heap := h, toks := tk })
    (done : ∀ y h tk, 0 < tk → J n y → Fr h₀ env.locals h (fm y) → News h₀ env.locals h (lg y) → s.heap.objs.size < h.objs.size → Q .next { s with heap := h, toks := tk })
    (hE : PassesOwn (model prog w) A env E := by passes_own) :
    wpAny (model prog w) A (pyIter (.ref r)) (fun it s₂ => codeAny (model prog w) A (.forLoop (.Name x px) it body [] env) (forR (model prog w) A env Q E) s₂) E s := by
  refine wpAny_pyIter_range hr hsmall ?_
  have W := Walks.range (prog := prog) (w := w) hh s.heap.objs.size 0 1 n
  refine forLoop_st fm lg J x₀ W hx hp ?_ ?_ ?_ (by show IsRangeIter _ _ _ _ _; rw [hn]; simpa using Heap.get?_push_size _ rfl) hpos (F.push _) (fun p hp => ⟨Heap.get?_push_of_some _ (N p hp).1, (N p hp).2⟩) h0 ?_ ?_ hE
  · intro hm
    exact absurd F.ns.lt ((List.mem_singleton.mp hm) ▸ Nat.lt_irrefl _)
  · intro b hb
    rw [List.mem_singleton.mp hb]
    exact next_is_new F
  · intro i y hJ p hp hI
    exact hoff i y hJ p hp (List.mem_singleton.mp hI)
  · rintro i v y h tk own p1 hi ⟨t, rfl⟩ hJ ho F₁ N₁ sz
    have e : (0 : Int) + (i : Int) * 1 = (i : Int) := by omega
    rw [e] at F₁
    exact turn i t y h tk own p1 hi hJ (fun p hp => List.mem_singleton.mp (ho p hp)) F₁ N₁ (by have : (s.heap.push _).objs.size ≤ h.objs.size := sz; rw [size_push] at this; omega)
  · intro y h tk p1 hJ F₁ N₁ sz
    exact done y h tk p1 hJ F₁ N₁ (by have : (s.heap.push _).objs.size ≤ h.objs.size := sz; rw [size_push] at this; omega)
end
end Mine

namespace Mine
open_top hd01 for PySem.Challenge.rw_dn0306_01
end Mine

namespace Mine
theorem repL_len (c : Nat) (z : List Nat) (hz : 1 ≤ z.length) : ∀ l : List Nat, (repL c z l).length ≤ z.length * l.length
  | [] => by simp [repL]
  | k :: r => by
    have ih := repL_len c z hz r
    have e : repL c z (k :: r) = (if k = c then z else [k]) ++ repL c z r := rfl
    rw [e, List.length_append, List.length_cons, Nat.mul_add, Nat.mul_one]
    split
    · omega
    · simp only [List.length_cons, List.length_nil]; omega
theorem replT {prog : Program} {w : World} {A : Around} {E : Value → Shared → Prop} {s : Shared} {l : List Nat} {y z : PySem.Str} {t u v : Tok} {Q : Value → Shared → Prop} (c : Nat) (zl : List Nat)
    (hy : y = ⟨#[c]⟩) (hz : z.cps.toList = zl) (hu : u ≠ 0) (hv : v ≠ 0) (huv : u ≠ v) (hyz : (y == z) = false) (hl : l.length ≤ 100000) (h1 : 1 ≤ zl.length) (h2 : zl.length ≤ 14)
    (hq : ∀ t' k, s.toks ≤ k → (repL c zl l).length ≤ zl.length * l.length → Q (.str (tx (repL c zl l)) t') { s with toks := k }) :
    wpAny (model prog w) A (call (.builtin "str.replace") [.str (tx l) t, .str y u, .str z v]) Q E s := by
  refine any_up (SC.replaceW hu hv huv hyz (by rw [tx_len]; omega) (by rw [show z.length = z.cps.toList.length by simp [PySem.Str.length], hz]; exact h2) fun t' k up => ?_)
  rw [replace_tx l c z y hy, hz]
  exact hq t' k up.1 (repL_len c zl h1 l)
local macro_rules | `(tactic| walk_at "execs cons") => `(tactic| (refine genToks ?_ (by omega); intro k9 p9))
local macro_rules | `(tactic| walk_at "call builtin:str.replace") => `(tactic| (first
  | refine replT 38 ampL (by decide) (by decide) (by show @Ne Nat _ _; omega) (by show @Ne Nat _ _; omega) (by show @Ne Nat _ _; omega) (by decide) (by omega) (by decide) (by decide) ?_
  | refine replT 60 ltL (by decide) (by decide) (by show @Ne Nat _ _; omega) (by show @Ne Nat _ _; omega) (by show @Ne Nat _ _; omega) (by decide) (by omega) (by decide) (by decide) ?_
  | refine replT 62 gtL (by decide) (by decide) (by show @Ne Nat _ _; omega) (by show @Ne Nat _ _; omega) (by show @Ne Nat _ _; omega) (by decide) (by omega) (by decide) (by decide) ?_); (intro t9 k9 u9 q9; dsimp only at u9; (replace q9 : _ ≤ 5 * _ := Nat.le_trans q9 (Nat.mul_le_mul_right _ (by decide)))))

theorem escape_call : ∀ (w : World) (mean : ExcName → Option Value) (mg mb : PySem.Str → Option Value) (dp un : Nat) (gd : Option (List Code)) (cn : PySem.Str) (cs : Scope) (a : Addr) (ccd : Value) (cl : List (PySem.Str × Addr)) (outer : List Env) (A₀ : Around) (base h₀ : Heap) (L : Addr) (m : PySem.Str → Option Value) (news : List (Addr × Obj)) (s : Shared) (x : List Nat) (t : Tok)
    (Q E : Value → Shared → Prop),
    Below A₀ base outer h₀ → Fr h₀ L s.heap m → (hd01.heap_39 w.params).In h₀ → News h₀ L s.heap news → Top hd01.view_39 (looseW hd01.view_39 []) mean mg mb h₀ → cs.kind = .function → x.length ≤ 1000 → 0 < s.toks → dp + 1 < recursionLimit → un + 8 * 1 < cLine →
    (∀ tk h' tk', 0 < tk' → Fr h₀ L h' m → News h₀ L h' news → Q (.str (tx (escL x)) tk) { s with heap := h', toks := tk' }) →
    wpAny (model Challenge.rw_dn0306_01.prog w) (ktrTop dp un gd cn cs L a ccd cl outer) (call (.ref 21) [.str (tx x) t]) Q E s := by
  k_fill
  intro w mean mg mb dp un gd cn cs a ccd cl outer A₀ base h₀ L m news s x t Q E B F X N T hk hx hpos hd hu hret
  refine any_up ?_
  refine wpAny_call ?_
  k_dflt ktr_enter
  k_steps
  rw [escL_of]
  exact hret _ _ _ (by omega) (by k_asm) (by k_asm)
end Mine

namespace Mine
local macro_rules | `(tactic| walk_at "execs cons") => `(tactic| (refine genToks ?_ (by omega); intro k9 p9))
local macro_rules | `(tactic| walk_at "execs nil") => `(tactic| (refine genToks ?_ (by omega); intro k9 p9))
local macro_rules | `(tactic| walk_at "exec While Compare cons nil") => `(tactic| refine Halt.go ?_)
local macro_rules | `(tactic| walk_at "exec For Name Name cons nil") => `(tactic| refine Halt.go ?_)
local macro_rules | `(tactic| walk_at "exec If Compare cons nil") => `(tactic| refine Halt.go ?_)
local macro_rules | `(tactic| walk_at "pyIter ref") => `(tactic| refine Halt.go ?_)
local macro_rules | `(tactic| walk_at "mine") => `(tactic| repeat' (first | (k_unfold; (try dsimp only)) | walk1 | (dsimp only; walk1) | (leave1; try dsimp only) | fail "no step"))
abbrev pairObj (a b : Value) : Obj := { cls := .type "tuple", data := .seq #[a, b] }
abbrev rdF' (M : PySem.Str → Option Value) (σ : RdSt) : PySem.Str → Option Value := fun y => if y = PySem.Str.ofString "piece" then σ.u1 else if y = PySem.Str.ofString "mark" then σ.u2 else if y = PySem.Str.ofString "k" then some (.int σ.k σ.tk) else M y
abbrev rdG (ld lm : Addr) (rest : List (Addr × Obj)) (σ : RdSt) : List (Addr × Obj) := (ld, W.listOf (strValues σ.ds).toArray σ.e2) :: (lm, W.listOf (strValues σ.ms).toArray σ.e1) :: rest
theorem lenT {prog : Program} {w : World} {A : Around} {E : Value → Shared → Prop} {s : Shared} {l : List Nat} {t : Tok} {Q : Value → Shared → Prop} (hl : l.length ≤ 100000)
    (h : Q (.int (l.length : Nat) (s.toks + 1)) { s with toks := s.toks + 1 + 1 }) : wpAny (model prog w) A (call (.builtin "len") [.str (tx l) t]) Q E s :=
  P.len_str (by rw [tx_len]; omega) (by rw [tx_len]; exact h)
local macro_rules | `(tactic| walk_at "call builtin:len") => `(tactic| ((with_reducible show wpAny _ _ (call (Value.builtin "len") [Value.str (tx _) _]) _ _ _); (refine lenT (by omega) ?_)))
theorem appT {prog : Program} {w : World} {A : Around} {E : Value → Shared → Prop} {s : Shared} {h₀ : Heap} {L D : Addr} {m : PySem.Str → Option Value} {news news' : List (Addr × Obj)} {ms : List (PySem.Str × Tok)} {e : Nat} {x : PySem.Str} {t : Tok} {Q : Value → Shared → Prop}
    (F : Fr h₀ L s.heap m) (N : News h₀ L s.heap news) (U : Upd D (W.listOf (strValues ms).toArray e) (W.listOf (strValues (ms ++ [(x, t)])).toArray (e + 1)) news news')
    (h : ∀ h', Fr h₀ L h' m → News h₀ L h' news' → Q .none { s with heap := h' }) (hsz : ms.length ≤ 100000) : wpAny (model prog w) A (call (.builtin "list.append") [.ref D, .str x t]) Q E s := by
  have e' : (strValues (ms ++ [(x, t)])).toArray = (strValues ms).toArray.push (.str x t) := by simp [strValues]
  rw [e'] at U
  exact append_K F N U h (by simp only [List.size_toArray, strValues, List.length_map]; rw [sizeLine_eq]; omega)
local macro_rules | `(tactic| k_all) => `(tactic| assumption)
local macro_rules | `(tactic| walk_at "call builtin:list.append") => `(tactic| (k_dflt (refine' appT ?k1 ?k2 ?k3 ?_ ?z; (case k1 => k_asm); (case k2 => k_asm); (case k3 => k_upd); (case z => omega); k_whole); intro h' F' N'))
theorem rd_k {g h : Heap} {L : Addr} {M : PySem.Str → Option Value} {k k' : Nat} {i : Int} {tk tk' : Tok} {u1 u2 : Option Value} {ms ds ms' ds' : List (PySem.Str × Tok)} {e1 e2 e1' e2' : Nat}
    (F : Fr g L h (fun y => if y = PySem.Str.ofString "k" then some (.int i tk') else rdF' M ⟨k, tk, u1, u2, ms, ds, e1, e2⟩ y)) (hi : i = (k' : Int)) : Fr g L h (rdF' M ⟨k', tk', u1, u2, ms', ds', e1', e2'⟩) := by
  subst hi
  refine fr_eq F fun y => ?_
  by_cases h1 : y = PySem.Str.ofString "k"
  · subst h1; rfl
  · simp only [rdF', if_neg h1]
theorem look3 {y a b c : PySem.Str} {d e f : PyData} : (Spec.lookup (PyData.str y) [(PyData.str a, d), (PyData.str b, e), (PyData.str c, f)]).isSome = decide (y = a ∨ y = b ∨ y = c) := by
  simp only [Spec.lookup, PyProof.V.same_str]
  by_cases h1 : a = y
  · simp [h1]
  · by_cases h2 : b = y
    · simp [h1, h2]
    · by_cases h3 : c = y
      · simp [h1, h2, h3]
      · have k1 : ¬ y = a := fun e => h1 e.symm
        have k2 : ¬ y = b := fun e => h2 e.symm
        have k3 : ¬ y = c := fun e => h3 e.symm
        simp [h1, h2, h3, k1, k2, k3]
theorem look_in {y a b c : PySem.Str} {d e f : PyData} (h : (Spec.lookup (PyData.str y) [(PyData.str a, d), (PyData.str b, e), (PyData.str c, f)]).isSome = true) (h1 : ¬ y = a) (h2 : ¬ y = b) (h3 : ¬ y = c) : False := by
  rw [look3] at h; simp [h1, h2, h3] at h
theorem look_out {y a b c : PySem.Str} {d e f : PyData} (h : (Spec.lookup (PyData.str y) [(PyData.str a, d), (PyData.str b, e), (PyData.str c, f)]).isSome = false) : ¬ y = a ∧ ¬ y = b ∧ ¬ y = c := by
  rw [look3] at h; simpa using h
theorem sg_out {p : List Nat} {d1 d2 d3 d4 d5 d6 : PyData}
    (h : (Spec.lookup (PyData.str (tx p)) [(PyData.str (PySem.Str.ofString "&amp;"), d1), (PyData.str (PySem.Str.ofString "&lt;"), d2), (PyData.str (PySem.Str.ofString "&gt;"), d3)]).isSome = false)
    (h' : (Spec.lookup (PyData.str (tx p)) [(PyData.str (PySem.Str.ofString "&"), d4), (PyData.str (PySem.Str.ofString "<"), d5), (PyData.str (PySem.Str.ofString ">"), d6)]).isSome = false) : tx p = tx (sgnL p) ∧ tx p = tx (mrkL p) := by
  obtain ⟨a1, a2, a3⟩ := look_out h
  obtain ⟨b1, b2, b3⟩ := look_out h'
  rw [ofs_amp] at a1; rw [ofs_lt] at a2; rw [ofs_gt] at a3; rw [ofs_1] at b1; rw [ofs_2] at b2; rw [ofs_3] at b3
  exact sg_no (fun e => a1 (by rw [e])) (fun e => a2 (by rw [e])) (fun e => a3 (by rw [e])) (fun e => b1 (by rw [e])) (fun e => b2 (by rw [e])) (fun e => b3 (by rw [e]))
theorem slice_yes {x l : List Nat} {k : Nat} {j : Int} {m : PySem.Str} (n : Nat) (hk : k ≤ x.length) (h : (Txt.slice (tx x) (some (k : Int)) (some j) == m) = true) (hm : m = tx l) (hj : j = (k : Int) + (n : Int) := by rfl) : (x.drop k).take n = l := by
  rw [slice_tx n hk hj, hm] at h
  exact tx_inj (eq_of_beq h)
theorem slice_no {x l : List Nat} {k : Nat} {j : Int} {m : PySem.Str} (n : Nat) (hk : k ≤ x.length) (h : (Txt.slice (tx x) (some (k : Int)) (some j) == m) = false) (hm : m = tx l) (hj : j = (k : Int) + (n : Int) := by rfl) : ¬ (x.drop k).take n = l := by
  rw [slice_tx n hk hj, hm] at h
  intro e
  rw [e] at h
  simp at h
theorem lt_of_all {d : Nat} : ∀ {l : List (Addr × Obj)}, AllLt d l → ∀ p ∈ l, p.1 < d
  | [], _, _, hp => nomatch hp
  | q :: r, h, p, hp => by
    rcases List.mem_cons.mp hp with rfl | hp
    · exact h.1
    · exact lt_of_all h.2 p hp
theorem flat_sum (ms : List (PySem.Str × Tok)) : ((ms.map (·.1)).map (·.length)).sum = (flat ms).length := by
  induction ms with
  | nil => rfl
  | cons p r ih =>
    simp only [List.map_cons, List.sum_cons, ih, flat, List.flatten_cons, List.length_append]
    simp [PySem.Str.length]
theorem joinT {prog : Program} {w : World} {A : Around} {E : Value → Shared → Prop} {s : Shared} {D : Addr} {ms : List (PySem.Str × Tok)} {t : Tok} {Q : Value → Shared → Prop} (hl : s.heap.IsList D (strValues ms).toArray) (hw : (flat ms).length ≤ 100000)
    (hq : ∀ t' k, s.toks ≤ k → Q (.str (tx (flat ms)) t') { s with toks := k }) : wpAny (model prog w) A (call (.builtin "str.join") [.str (PySem.Str.ofString "") t, .ref D]) Q E s := by
  refine any_up (SC.join hl rfl (joinOk_of ?_) fun t' k up => ?_)
  · rw [flat_sum, show (PySem.Str.ofString "").length = 0 by decide]; omega
  · rw [join_tx]
    have e : ((ms.map (·.1)).map (·.cps.toList)).flatten = flat ms := by rw [List.map_map]; rfl
    rw [e]
    exact hq t' k up.1
local macro_rules | `(tactic| walk_at "call builtin:str.join") => `(tactic| (refine joinT (News.isList (by k_asm) (by k_mem)) (by omega) ?_; intro t9 k9 u9; dsimp only at u9))
abbrev rdM (ld lm dm ds : Addr) (x : List Nat) (t : Tok) : PySem.Str → Option Value := fun y =>
  if y = PySem.Str.ofString "mended" then some (.ref ld) else if y = PySem.Str.ofString "meant" then some (.ref lm) else if y = PySem.Str.ofString "marks" then some (.ref dm)
  else if y = PySem.Str.ofString "signs" then some (.ref ds) else if y = PySem.Str.ofString "t" then some (.str (tx x) t) else none
theorem rd_start {g h : Heap} {L ld lm dm ds : Addr} {x : List Nat} {t : Tok} {R : PySem.Str → Option Value} {tk : Tok}
    (F : Fr g L h (fun y => if y = PySem.Str.ofString "k" then some (.int 0 tk) else if y = PySem.Str.ofString "mended" then some (.ref ld) else if y = PySem.Str.ofString "meant" then some (.ref lm) else if y = PySem.Str.ofString "marks" then some (.ref dm)
      else if y = PySem.Str.ofString "signs" then some (.ref ds) else R y)) (hR : ∀ y, R y = if y = PySem.Str.ofString "t" then some (.str (tx x) t) else none) :
    Fr g L h (rdF' (rdM ld lm dm ds x t) ⟨0, tk, none, none, [], [], 0, 0⟩) := by
  refine fr_eq F fun y => ?_
  by_cases h1 : y = PySem.Str.ofString "piece"
  · subst h1; exact hR _
  by_cases h2 : y = PySem.Str.ofString "mark"
  · subst h2; exact hR _
  simp only [rdF', rdM, if_neg h1, if_neg h2, hR]
  rfl
theorem rd_piece {g h : Heap} {L : Addr} {M : PySem.Str → Option Value} {k : Nat} {tk : Tok} {u1 u2 v : Option Value} {ms ds : List (PySem.Str × Tok)} {e1 e2 : Nat}
    (F : Fr g L h (fun y => if y = PySem.Str.ofString "piece" then v else rdF' M ⟨k, tk, u1, u2, ms, ds, e1, e2⟩ y)) : Fr g L h (rdF' M ⟨k, tk, v, u2, ms, ds, e1, e2⟩) := by
  refine fr_eq F fun y => ?_
  by_cases h1 : y = PySem.Str.ofString "piece"
  · subst h1; rfl
  · simp only [rdF', if_neg h1]
theorem rd_mark {g h : Heap} {L : Addr} {M : PySem.Str → Option Value} {k : Nat} {tk : Tok} {u1 u2 v : Option Value} {ms ds : List (PySem.Str × Tok)} {e1 e2 : Nat}
    (F : Fr g L h (fun y => if y = PySem.Str.ofString "mark" then v else rdF' M ⟨k, tk, u1, u2, ms, ds, e1, e2⟩ y)) : Fr g L h (rdF' M ⟨k, tk, u1, v, ms, ds, e1, e2⟩) := by
  refine fr_eq F fun y => ?_
  by_cases h1 : y = PySem.Str.ofString "mark"
  · subst h1; rfl
  · simp only [rdF', if_neg h1]
def RdCut (g : Heap) (L : Addr) (M : PySem.Str → Option Value) (lg : List (Addr × Obj)) (k : Nat) (tk : Tok) (ms ds : List (PySem.Str × Tok)) (e1 e2 : Nat) (p : List Nat) (s : Shared) (f : Flow) (s' : Shared) : Prop :=
  f = .next ∧ ∃ t u2 h' tk', s' = { s with heap := h', toks := tk' } ∧ 0 < tk' ∧ Fr g L h' (rdF' M ⟨k, tk, some (.str (tx p) t), u2, ms, ds, e1, e2⟩) ∧ News g L h' lg
theorem RdCut.intro {g h' : Heap} {L : Addr} {M : PySem.Str → Option Value} {lg : List (Addr × Obj)} {k : Nat} {tk t : Tok} {u2 : Option Value} {ms ds : List (PySem.Str × Tok)} {e1 e2 tk' : Nat} {p : List Nat} {s : Shared}
    (h0 : 0 < tk') (F : Fr g L h' (rdF' M ⟨k, tk, some (.str (tx p) t), u2, ms, ds, e1, e2⟩)) (N : News g L h' lg) : RdCut g L M lg k tk ms ds e1 e2 p s .next { s with heap := h', toks := tk' } := ⟨rfl, t, u2, h', tk', rfl, h0, F, N⟩
theorem read_call : ∀ (w : World) (mean : ExcName → Option Value) (mg mb : PySem.Str → Option Value) (dp un : Nat) (gd : Option (List Code)) (cn : PySem.Str) (cs : Scope) (a : Addr) (ccd : Value) (cl : List (PySem.Str × Addr)) (outer : List Env) (A₀ : Around) (base h₀ : Heap) (L : Addr) (m : PySem.Str → Option Value) (news : List (Addr × Obj)) (s : Shared) (x : List Nat) (t : Tok)
    (Q E : Value → Shared → Prop),
    Below A₀ base outer h₀ → Fr h₀ L s.heap m → (hd01.heap_39 w.params).In h₀ → News h₀ L s.heap news → Top hd01.view_39 (looseW hd01.view_39 []) mean mg mb h₀ → cs.kind = .function → x.length ≤ 5000 → 0 < s.toks → dp + 1 < recursionLimit → un + 8 * 1 < cLine →
    (∀ r t1 t2 h' tk', 0 < tk' → Fr h₀ L h' m → News h₀ L h' ((r, pairObj (.str (tx (rdL x).1) t1) (.str (tx (rdL x).2) t2)) :: news) → (∀ p ∈ news, p.1 < r) → Q (.ref r) { s with heap := h', toks := tk' }) →
    wpAny (model Challenge.rw_dn0306_01.prog w) (ktrTop dp un gd cn cs L a ccd cl outer) (call (.ref 28) [.str (tx x) t]) Q E s := by
  k_fill
  intro w mean mg mb dp un gd cn cs a ccd cl outer A₀ base h₀ L m news s x t Q E B F X N T hk hx hpos hd hu hret
  refine any_up ?_
  refine wpAny_call ?_
  k_dflt ktr_enter
  refine never ?_
  walk_at "mine"
  rename_i g' L' hh0 FG' B' X' T' kk0 pp0 hh1 o1 nl1 lo1 hd1 hf1 ap1 hh2 kk1 pp1 hh3 o2 lo2 hd2 hf2 ap2 nl2 hh4 kk2 pp2 lm hh5 nl3 hh6 kk3 pp3 ld hh7 nl4 hh8 kk4 pp4 hh9 F9 N9 kk5 pp5
  have F9' := rd_start (x := x) (t := t) F9 (fun y => by
    show List.lookup y [(PySem.Str.ofString "t", Value.str (tx x) t)] = _
    by_cases h1 : y = PySem.Str.ofString "t"
    · subst h1; rfl
    · rw [if_neg h1]; simp only [List.lookup]; rw [show (y == PySem.Str.ofString "t") = false from beq_eq_false_iff_ne.mpr h1])
  clear F9
  have nd0 : ∀ p ∈ news, p.1 ≠ ld := fun p hp => Nat.ne_of_lt (lt_of_all nl4.2.2.2 p hp)
  have nm0 : ∀ p ∈ news, p.1 ≠ lm := fun p hp => Nat.ne_of_lt (lt_of_all nl3.2.2 p hp)
  generalize hh2.objs.size = dm at *
  generalize hh0.objs.size = dsg at *
  refine While_st (σ := RdSt) (rdF' _) (rdG ld lm _) (RdJ x) (fun σ => x.length - σ.k) ⟨0, _, none, none, [], [], 0, 0⟩ (by assumption) F9' N9 ?j ?turn ?hE
  case hE => passes_own
  case j => exact ⟨Nat.zero_le _, Nat.le_refl _, Nat.le_refl _, Nat.le_refl _, Nat.le_refl _, rfl, rfl⟩
  rintro ⟨k, tk, u1, u2, ms, ds, e1, e2⟩ h₁ tk₁ pos₁ J₁ F₁ N₁ sz₁
  clear N9 F9'
  have hX : (tx x).length = x.length := tx_len x
  have hms : ms.length ≤ k := J₁.h1
  have hds : ds.length ≤ k := J₁.h2
  have hkx : k ≤ x.length := J₁.hk
  dsimp only [rdF', rdG] at F₁ N₁
  walk_at "mine"
  · -- a turn
    refine wpAny_mono (Q := RdCut g' L' (rdM ld lm dm dsg x t) (rdG ld lm ((dm, o2) :: (dsg, o1) :: news) ⟨k, tk, none, none, ms, ds, e1, e2⟩) k tk ms ds e1 e2 (pieceL (x.drop k)) s) ?ifs ?cont (fun _ _ h => h)
    case ifs =>
      have hkl : k < x.length := by dsimp only at *; omega
      have hit := item_tx (x := x) hkl
      simp only [hit] at *
      refine wpAny_If ?_
      walk_at "mine"
      · rename_i heq kk9 pp9
        rename Fr _ _ _ _ => F2
        rename News _ _ _ _ => N2
        refine wpAny_For ?_ (by intro _; rfl)
        walk_at "mine"
        refine iterKeys_st (σ := List Nat × Tok × Option Value) (fun y => rdF' (rdM ld lm dm dsg x t) ⟨k, tk, some (.str (tx y.1) y.2.1), y.2.2, ms, ds, e1, e2⟩) (fun _ => rdG ld lm ((dm, o2) :: (dsg, o1) :: news) ⟨k, tk, none, none, ms, ds, e1, e2⟩)
          (fun i y => y.1 = pAt (x.drop k) i) (_, _, _) (D := strData _) (TabAt.ofNews N2 (by k_mem) lo1 hd1 hf1) rfl rfl rfl (N2 (dsg, o1) (by k_mem)).2.1 (by assumption) (rd_piece F2) N2 rfl (fun i y _ p hp => Nat.ne_of_lt (Heap.lt_size (N2 p hp).1)) ?turn2 ?done2 ?hE2
        case hE2 => passes_own
        case turn2 =>
          rintro i key dv t0 ⟨p, tp, u⟩ h tkk own q1 hD hJ ho F3 N3 sz3
          dsimp only at hJ F3 N3 ⊢
          replace F3 := rd_mark F3
          dsimp only [rdG, List.cons_append] at N3
          rcases i with _ | _ | _ | i
          · obtain ⟨⟨⟩, ⟨⟩⟩ : key = PySem.Str.ofString "&amp;" ∧ True := ⟨by cases hD; rfl, trivial⟩
            refine wpAny_execs_cons ?_
            refine wpAny_If ?_
            walk_at "mine"
            · have h9 := slice_yes 5 hkx (by assumption) ofs_amp
              rename Fr _ _ _ _ => F4
              rw [ofs_amp] at F4
              exact ForSt.next (ampL, _, _) (rd_piece F4) (by k_asm) (by simp [pAt, h9])
            · have h9 := slice_no 5 hkx (by assumption) ofs_amp
              rename Fr _ _ _ _ => F4
              exact ForSt.next (p, _, _) F4 (by k_asm) (by rw [hJ]; simp [pAt, h9])
          · obtain ⟨⟨⟩, ⟨⟩⟩ : key = PySem.Str.ofString "&lt;" ∧ True := ⟨by cases hD; rfl, trivial⟩
            refine wpAny_execs_cons ?_
            refine wpAny_If ?_
            walk_at "mine"
            · have h9 := slice_yes 4 hkx (by assumption) ofs_lt
              rename Fr _ _ _ _ => F4
              rw [ofs_lt] at F4
              exact ForSt.next (ltL, _, _) (rd_piece F4) (by k_asm) (by simp [pAt, h9])
            · have h9 := slice_no 4 hkx (by assumption) ofs_lt
              rename Fr _ _ _ _ => F4
              exact ForSt.next (p, _, _) F4 (by k_asm) (by rw [hJ]; simp [pAt, h9])
          · obtain ⟨⟨⟩, ⟨⟩⟩ : key = PySem.Str.ofString "&gt;" ∧ True := ⟨by cases hD; rfl, trivial⟩
            refine wpAny_execs_cons ?_
            refine wpAny_If ?_
            walk_at "mine"
            · have h9 := slice_yes 4 hkx (by assumption) ofs_gt
              rename Fr _ _ _ _ => F4
              rw [ofs_gt] at F4
              exact ForSt.next (gtL, _, _) (rd_piece F4) (by k_asm) (by simp [pAt, h9])
            · have h9 := slice_no 4 hkx (by assumption) ofs_gt
              rename Fr _ _ _ _ => F4
              exact ForSt.next (p, _, _) F4 (by k_asm) (by rw [hJ]; simp [pAt, h9])
          · exact absurd hD (by simp [strData])
        case done2 =>
          rintro ⟨p, tp, u⟩ h tkk q1 hJ F3 N3 sz3
          have e3 : p = pieceL (x.drop k) := hJ.trans (pAt_three _)
          subst e3
          walk_at "mine"
          exact RdCut.intro (by assumption) (by k_asm) (by k_asm)
      · rename_i hne kk9 pp9
        rename Fr _ _ _ _ => F2
        rename News _ _ _ _ => N2
        have hpc : pieceL (x.drop k) = (x.drop k).take 1 := pieceL_plain fun e => by rw [e, ← ofs_1] at hne; simp at hne
        rw [hpc]
        exact RdCut.intro pp9 (rd_piece F2) N2
    case cont =>
      rintro f s' ⟨rfl, t', u2', h', tk', rfl, pos', F', N'⟩
      dsimp only [rdF', rdG] at F' N' ⊢
      have hpl : (tx (pieceL (x.drop k))).length = (pieceL (x.drop k)).length := tx_len _
      have hkl : k < x.length := by dsimp only at *; omega
      have hpb : (pieceL (x.drop k)).length ≤ 5000 := by
        have e0 := List.drop_eq_getElem_cons hkl
        have q1 := pieceL_le x[k] (x.drop (k + 1))
        rw [← e0, List.length_drop] at q1
        omega
      walk_at "mine"
      all_goals first
        | exact absurd (by assumption) (look_in (by assumption) (by assumption) (by assumption))
        | exact look_in (by assumption) (by assumption) (by assumption) (by assumption)
        | (obtain ⟨sa, sb⟩ : _ ∧ _ := by first | exact sg_amp (by assumption) | exact sg_lt (by assumption) | exact sg_gt (by assumption) | exact mk_1 (by assumption) | exact mk_2 (by assumption) | exact mk_3 (by assumption) | exact sg_out (by assumption) (by assumption)
           obtain ⟨jn, jm⟩ := rdJ_next J₁ (by omega) sa sb
           exact StepSt.next _ (rd_k (by k_asm) (Int.natCast_add _ _).symm) (by k_asm) jn jm)
  · have w1 := J₁.w1
    have w2 := J₁.w2
    dsimp only at w1 w2
    have hke : k = x.length := by dsimp only at *; omega
    have r1 := J₁.r1
    have r2 := J₁.r2
    dsimp only at r1 r2
    have hdr : x.drop k = [] := by rw [hke, List.drop_length]
    rw [hdr, rdL_nil, List.append_nil] at r1 r2
    walk_at "mine"
    rename News h₀ L _ _ => kN
    rename ld < _ ∧ _ => l1
    rw [r1, r2] at kN
    exact hret _ _ _ _ _ (by omega) (by k_asm) (news_sub kN fun p hp => by rcases List.mem_cons.mp hp with rfl | hp; exact .head _; exact .tail _ (.tail _ (.tail _ (.tail _ (.tail _ hp))))) (lt_of_all l1.2.2.2.2)
end Mine

namespace Mine
theorem pick_upto (vs : List Value) {y : Int} (h : 0 ≤ y) : slicePick vs.toArray none (some y) none = (vs.take y.toNat).toArray := by
  have e : sliceBounds none (some y) none vs.toArray.size = (((0 : Nat) : Int), ((min y.toNat vs.toArray.size : Nat) : Int), 1) := by
    simp only [sliceBounds, Option.getD_none, show (1 : Int) > 0 by decide, if_true, if_neg (show ¬ (y < 0) by omega)]
    congr 1
    congr 1
    omega
  rw [kmk_pick_nat _ e]
  show ((vs.drop 0).take (min y.toNat vs.toArray.size - 0)).toArray = _
  rw [List.drop_zero, Nat.sub_zero, List.size_toArray, kmk_take_min]
theorem pick_from (vs : List Value) {x : Int} (h : 0 ≤ x) : slicePick vs.toArray (some x) none none = (vs.drop x.toNat).toArray := by
  have e : sliceBounds (some x) none none vs.toArray.size = (((min x.toNat vs.toArray.size : Nat) : Int), ((vs.toArray.size : Nat) : Int), 1) := by
    simp only [sliceBounds, Option.getD_none, show (1 : Int) > 0 by decide, if_true, if_neg (show ¬ (x < 0) by omega)]
    congr 1
    omega
  rw [kmk_pick_nat _ e]
  show ((vs.drop (min x.toNat vs.toArray.size)).take (vs.toArray.size - min x.toNat vs.toArray.size)).toArray = _
  rw [List.size_toArray, kmk_drop_min, List.take_of_length_le (by rw [List.length_drop]; omega)]
section
variable {prog : Program} {w : World} {A : Around} {E : Value → Shared → Prop} {s : Shared} {h₀ : Heap} {L l : Addr} {m : PySem.Str → Option Value} {news : List (Addr × Obj)} {value slice : PySem.Expr} {ms : List (PySem.Str × Tok)} {i : Int} {t : Tok} {Q : Value → Shared → Prop}
theorem sliceTo (F : Fr h₀ L s.heap m) (N : News h₀ L s.heap news) (hl : s.heap.IsList l (strValues ms).toArray) (h0 : 0 ≤ i)
    (h : ∀ D h', Fr h₀ L h' m → News h₀ L h' ((D, W.listOf (strValues (ms.take i.toNat)).toArray 0) :: news) → (∀ p ∈ news, p.1 < D) → Q (.ref D) { s with heap := h' }) (hz : ms.length ≤ 100000)
    (hs : subscripted slice false (.ref l) (.ref s.heap.objs.size) = operate [.ref s.heap.objs.size, .ref l] (getItem (.ref l) (.ref s.heap.objs.size)) := by with_unfolding_all rfl) (ht : ∀ r, letTemporaryGo value (.ref l) r = pure () := by intro _; with_unfolding_all rfl) :
    wpAny (model prog w) A (subscriptTail value slice (.ref l) (.ref s.heap.objs.size)) Q E { s with heap := s.heap.push { cls := .type "slice", data := .fields #[.none, .int i t, .none] } } := by
  refine kmk_slice F N hl .none (.int i t) (fun D h' F' N' l1 => h D h' F' ?_ l1) hs ht (by simp only [List.size_toArray, strValues, List.length_map]; rw [sizeLine_eq]; omega)
  rw [pick_upto _ h0] at N'
  rw [show strValues (ms.take i.toNat) = (strValues ms).take i.toNat by simp [strValues]]
  exact N'
theorem sliceFrom (F : Fr h₀ L s.heap m) (N : News h₀ L s.heap news) (hl : s.heap.IsList l (strValues ms).toArray) (h0 : 0 ≤ i)
    (h : ∀ D h', Fr h₀ L h' m → News h₀ L h' ((D, W.listOf (strValues (ms.drop i.toNat)).toArray 0) :: news) → (∀ p ∈ news, p.1 < D) → Q (.ref D) { s with heap := h' }) (hz : ms.length ≤ 100000)
    (hs : subscripted slice false (.ref l) (.ref s.heap.objs.size) = operate [.ref s.heap.objs.size, .ref l] (getItem (.ref l) (.ref s.heap.objs.size)) := by with_unfolding_all rfl) (ht : ∀ r, letTemporaryGo value (.ref l) r = pure () := by intro _; with_unfolding_all rfl) :
    wpAny (model prog w) A (subscriptTail value slice (.ref l) (.ref s.heap.objs.size)) Q E { s with heap := s.heap.push { cls := .type "slice", data := .fields #[.int i t, .none, .none] } } := by
  refine kmk_slice F N hl (.int i t) .none (fun D h' F' N' l1 => h D h' F' ?_ l1) hs ht (by simp only [List.size_toArray, strValues, List.length_map]; rw [sizeLine_eq]; omega)
  rw [pick_from _ h0] at N'
  rw [show strValues (ms.drop i.toNat) = (strValues ms).drop i.toNat by simp [strValues]]
  exact N'
theorem lenRow {D : Addr} (hl : s.heap.IsList D (strValues ms).toArray) (hb : ms.length ≤ 100000) (h : ∀ t k, s.toks ≤ k → Q (.int (ms.length : Nat) t) { s with toks := k }) : wpAny (model prog w) A (call (.builtin "len") [.ref D]) Q E s := by
  refine Calls.call_len_list hl (by simp only [List.size_toArray, strValues, List.length_map]; omega) ?_
  have e : (strValues ms).toArray.size = ms.length := by simp [strValues]
  rw [e]
  exact h _ _ (by omega)
theorem flat_take (ms : List (PySem.Str × Tok)) (n : Nat) : (flat (ms.take n)).length ≤ (flat ms).length := by
  have : flat ms = flat (ms.take n) ++ flat (ms.drop n) := by
    unfold flat
    rw [← List.flatten_append, ← List.map_append, List.take_append_drop]
  rw [this, List.length_append]; omega
theorem flat_drop (ms : List (PySem.Str × Tok)) (n : Nat) : (flat (ms.drop n)).length ≤ (flat ms).length := by
  have : flat ms = flat (ms.take n) ++ flat (ms.drop n) := by
    unfold flat
    rw [← List.flatten_append, ← List.map_append, List.take_append_drop]
  rw [this, List.length_append]; omega
theorem escape_tx {mean : ExcName → Option Value} {mg mb : PySem.Str → Option Value} {dp un : Nat} {gd : Option (List Code)} {cn : PySem.Str} {cs : Scope} {a : Addr} {ccd : Value} {cl : List (PySem.Str × Addr)} {outer : List Env} {A₀ : Around} {base : Heap} {y : List Nat} {t : Tok}
    (B : Below A₀ base outer h₀) (F : Fr h₀ L s.heap m) (X : (hd01.heap_39 w.params).In h₀) (N : News h₀ L s.heap news) (T : Top hd01.view_39 (looseW hd01.view_39 []) mean mg mb h₀) (hk : cs.kind = .function) (hy : y.length ≤ 1000) (hpos : 0 < s.toks) (hd : dp + 1 < recursionLimit) (hu : un + 8 * 1 < cLine)
    (hret : ∀ tk h' tk', 0 < tk' → Fr h₀ L h' m → News h₀ L h' news → Q (.str (tx (escL y)) tk) { s with heap := h', toks := tk' }) :
    wpAny (model Challenge.rw_dn0306_01.prog w) (ktrTop dp un gd cn cs L a ccd cl outer) (call (.ref 21) [.str (tx y) t]) Q E s :=
  escape_call w mean mg mb dp un gd cn cs a ccd cl outer A₀ base h₀ L m news s y t Q E B F X N T hk hy hpos hd hu hret
theorem read_tx {mean : ExcName → Option Value} {mg mb : PySem.Str → Option Value} {dp un : Nat} {gd : Option (List Code)} {cn : PySem.Str} {cs : Scope} {a : Addr} {ccd : Value} {cl : List (PySem.Str × Addr)} {outer : List Env} {A₀ : Around} {base : Heap} {y : List Nat} {t : Tok}
    (B : Below A₀ base outer h₀) (F : Fr h₀ L s.heap m) (X : (hd01.heap_39 w.params).In h₀) (N : News h₀ L s.heap news) (T : Top hd01.view_39 (looseW hd01.view_39 []) mean mg mb h₀) (hk : cs.kind = .function) (hy : y.length ≤ 5000) (hpos : 0 < s.toks) (hd : dp + 1 < recursionLimit) (hu : un + 8 * 1 < cLine)
    (hret : ∀ r t1 t2 h' tk', 0 < tk' → Fr h₀ L h' m → News h₀ L h' ((r, pairObj (.str (tx (rdL y).1) t1) (.str (tx (rdL y).2) t2)) :: news) → (∀ p ∈ news, p.1 < r) → Q (.ref r) { s with heap := h', toks := tk' }) :
    wpAny (model Challenge.rw_dn0306_01.prog w) (ktrTop dp un gd cn cs L a ccd cl outer) (call (.ref 28) [.str (tx y) t]) Q E s :=
  read_call w mean mg mb dp un gd cn cs a ccd cl outer A₀ base h₀ L m news s y t Q E B F X N T hk hy hpos hd hu hret
theorem rdL_len : ∀ l : List Nat, (rdL l).1.length ≤ l.length
  | [] => Nat.le_refl _
  | c :: r => by
    have hp := pieceL_pos c r
    have h1 := pieceL_le c r
    have ih := rdL_len ((c :: r).drop (pieceL (c :: r)).length)
    rw [rdL_cons]
    show (_ ++ _ : List Nat).length ≤ _
    rw [List.length_append, (sgnL_len c r).1]
    rw [List.length_drop] at ih
    omega
termination_by l => l.length
decreasing_by rw [List.length_drop, List.length_cons]; omega
theorem escape_str {mean : ExcName → Option Value} {mg mb : PySem.Str → Option Value} {dp un : Nat} {gd : Option (List Code)} {cn : PySem.Str} {cs : Scope} {a : Addr} {ccd : Value} {cl : List (PySem.Str × Addr)} {outer : List Env} {A₀ : Around} {base : Heap} {y : PySem.Str} {t : Tok}
    (B : Below A₀ base outer h₀) (F : Fr h₀ L s.heap m) (X : (hd01.heap_39 w.params).In h₀) (N : News h₀ L s.heap news) (T : Top hd01.view_39 (looseW hd01.view_39 []) mean mg mb h₀) (hk : cs.kind = .function) (hy : y.length ≤ 1000) (hpos : 0 < s.toks) (hd : dp + 1 < recursionLimit) (hu : un + 8 * 1 < cLine)
    (hret : ∀ tk h' tk', 0 < tk' → Fr h₀ L h' m → News h₀ L h' news → Q (.str (tx (escL y.cps.toList)) tk) { s with heap := h', toks := tk' }) :
    wpAny (model Challenge.rw_dn0306_01.prog w) (ktrTop dp un gd cn cs L a ccd cl outer) (call (.ref 21) [.str y t]) Q E s := by
  rw [← tx_cps y]
  refine escape_call w mean mg mb dp un gd cn cs a ccd cl outer A₀ base h₀ L m news s y.cps.toList t Q E B F X N T hk (by simpa [PySem.Str.length] using hy) hpos hd hu ?_
  exact hret
theorem read_str {mean : ExcName → Option Value} {mg mb : PySem.Str → Option Value} {dp un : Nat} {gd : Option (List Code)} {cn : PySem.Str} {cs : Scope} {a : Addr} {ccd : Value} {cl : List (PySem.Str × Addr)} {outer : List Env} {A₀ : Around} {base : Heap} {y : PySem.Str} {t : Tok}
    (B : Below A₀ base outer h₀) (F : Fr h₀ L s.heap m) (X : (hd01.heap_39 w.params).In h₀) (N : News h₀ L s.heap news) (T : Top hd01.view_39 (looseW hd01.view_39 []) mean mg mb h₀) (hk : cs.kind = .function) (hy : y.length ≤ 5000) (hpos : 0 < s.toks) (hd : dp + 1 < recursionLimit) (hu : un + 8 * 1 < cLine)
    (hret : ∀ r t1 t2 h' tk', 0 < tk' → Fr h₀ L h' m → News h₀ L h' ((r, pairObj (.str (tx (rdL y.cps.toList).1) t1) (.str (tx (rdL y.cps.toList).2) t2)) :: news) → (∀ p ∈ news, p.1 < r) → Q (.ref r) { s with heap := h', toks := tk' }) :
    wpAny (model Challenge.rw_dn0306_01.prog w) (ktrTop dp un gd cn cs L a ccd cl outer) (call (.ref 28) [.str y t]) Q E s := by
  rw [← tx_cps y]
  refine read_call w mean mg mb dp un gd cn cs a ccd cl outer A₀ base h₀ L m news s y.cps.toList t Q E B F X N T hk (by simpa [PySem.Str.length] using hy) hpos hd hu ?_
  exact hret
end
end Mine

namespace Mine
def okS (x : PySem.Str) : Prop := PyData.strOk x = true
theorem okS_tx {l : List Nat} : okS (tx l) ↔ ∀ c ∈ l, c < 0x110000 := by
  unfold okS PyData.strOk tx
  rw [Array.all_eq_true']
  simp
theorem okS_cps {x : PySem.Str} : okS x ↔ ∀ c ∈ x.cps.toList, c < 0x110000 := by
  rw [← okS_tx, tx_cps]
theorem okS_append {x y : PySem.Str} (h1 : okS x) (h2 : okS y) : okS (x ++ y) := by
  rw [okS_cps] at h1 h2 ⊢
  intro c hc
  rw [Str.cps_append, Array.toList_append] at hc
  rcases List.mem_append.mp hc with h | h
  · exact h1 c h
  · exact h2 c h
theorem okS_flat {ms : List (PySem.Str × Tok)} (h : ∀ p ∈ ms, okS p.1) : okS (tx (flat ms)) := by
  rw [okS_tx]
  intro c hc
  obtain ⟨l, hl, hc⟩ := List.mem_flatten.mp hc
  obtain ⟨p, hp, rfl⟩ := List.mem_map.mp hl
  exact okS_cps.mp (h p hp) c hc
theorem okS_esc {x : PySem.Str} (h : okS x) : okS (tx (escL x.cps.toList)) := by
  rw [okS_tx]
  rw [okS_cps] at h
  intro c hc
  obtain ⟨k, hk, hc⟩ := List.mem_flatMap.mp hc
  unfold mkL at hc
  have key : ∀ l : List Nat, (l.all (· < 0x110000)) = true → c ∈ l → c < 0x110000 := fun l hl hm => by simpa using List.all_eq_true.mp hl c hm
  split at hc
  · exact key ampL (by decide) hc
  · split at hc
    · exact key ltL (by decide) hc
    · split at hc
      · exact key gtL (by decide) hc
      · rw [List.mem_singleton.mp hc]; exact h k hk
theorem itemAny {prog : Program} {w : World} {A : Around} {E : Value → Shared → Prop} {s : Shared} {value slice : Expr} {l : Addr} {vs : List Value} {k : Int} {u : Tok} {Q : Value → Shared → Prop} (b N : Nat)
    (hl : s.heap.IsList l vs.toArray) (hN : vs.length = N) (h0 : 0 ≤ k) (hk : k < (N : Int)) (hb : N ≤ 1000) (hall : ∀ v ∈ vs, ∃ p t, v = .str p t ∧ p.length ≤ b ∧ okS p)
    (h : ∀ p t, p.length ≤ b → okS p → Q (.str p t) s)
    (hs : subscripted slice false (.ref l) (.int k u) = operate [.ref l, .int k u] (getItem (.ref l) (.int k u)) := by with_unfolding_all rfl) :
    wpAny (model prog w) A (subscriptTail value slice (.ref l) (.int k u)) Q E s := by
  subst hN
  have hlt : k.toNat < vs.length := by omega
  have hx : vs[k.toNat]? = some vs[k.toNat] := by simp [hlt]
  obtain ⟨p, t, e, hp, hp2⟩ := hall vs[k.toNat] (List.getElem_mem hlt)
  refine tail_any hl.typeIs slot_list_getitem.lookup (wpAny_getItem_list hl h0 (by omega) (x := .str p t) (by rw [List.getElem?_toArray, hx, e]) (h p t hp hp2)) hs
structure LwSt where
  f : PySem.Str
  tf : Tok
  ux : Option Value
  row : List (PySem.Str × Tok)
  e : Nat
abbrev lwM (lr ld lw lp sc : Addr) : PySem.Str → Option Value := fun y =>
  if y = PySem.Str.ofString "row" then some (.ref lr) else if y = PySem.Str.ofString "drawn" then some (.ref ld) else if y = PySem.Str.ofString "whole" then some (.ref lw) else if y = PySem.Str.ofString "pieces" then some (.ref lp)
  else if y = PySem.Str.ofString "script" then some (.ref sc) else none
abbrev lwF (M : PySem.Str → Option Value) (σ : LwSt) : PySem.Str → Option Value := fun y =>
  if y = PySem.Str.ofString "x" then σ.ux else if y = PySem.Str.ofString "first" then some (.str σ.f σ.tf) else M y
theorem lw_start {g h : Heap} {L lr ld lw lp sc : Addr} {R : PySem.Str → Option Value} {f : PySem.Str} {tf : Tok} {row : List (PySem.Str × Tok)} {e : Nat}
    (F : Fr g L h (fun y => if y = PySem.Str.ofString "row" then some (.ref lr) else if y = PySem.Str.ofString "first" then some (.str f tf) else if y = PySem.Str.ofString "drawn" then some (.ref ld) else if y = PySem.Str.ofString "whole" then some (.ref lw)
      else if y = PySem.Str.ofString "pieces" then some (.ref lp) else R y)) (hR : ∀ y, R y = if y = PySem.Str.ofString "script" then some (.ref sc) else none) :
    Fr g L h (lwF (lwM lr ld lw lp sc) ⟨f, tf, none, row, e⟩) := by
  refine fr_eq F fun y => ?_
  by_cases h1 : y = PySem.Str.ofString "x"
  · subst h1; exact hR _
  by_cases h2 : y = PySem.Str.ofString "first"
  · subst h2; rfl
  simp only [lwF, lwM, if_neg h1, if_neg h2, hR]
structure LwJ (i : Nat) (σ : LwSt) : Prop where
  hi : i ≤ 16
  hf : σ.f.length ≤ 30 + 6 * i
  hr : σ.row.length = 3 + i
  hw : (flat σ.row).length ≤ 6 + 6 * i
  o1 : okS σ.f
  o2 : ∀ p ∈ σ.row, okS p.1
theorem ints_get {vs : List Value} {ns : List Int} (h : IntsAre vs ns) {i : Nat} {v : Value} (hv : vs[i]? = some v) : ∃ n t, v = .int n t ∧ i < ns.length := by
  have hl : i < vs.length := by
    rcases Nat.lt_or_ge i vs.length with h1 | h1
    · exact h1
    · rw [List.getElem?_eq_none h1] at hv; cases hv
  have hn : i < ns.length := by rw [← h.length]; exact hl
  obtain ⟨t, ht⟩ := h.get i ns[i] (by simp [hn])
  rw [ht] at hv
  exact ⟨_, _, (Option.some.inj hv).symm, hn⟩
local macro_rules | `(tactic| walk_at "execs cons") => `(tactic| (refine genToks ?_ (by omega); intro k9 p9))
local macro_rules | `(tactic| walk_at "execs nil") => `(tactic| (refine genToks ?_ (by omega); intro k9 p9))
local macro_rules | `(tactic| walk_at "execs cons") => `(tactic| ((with_reducible show wpAny _ _ _ _ _ (Shared.mk _ _ _ (Shared.toks _) _)); dsimp only))
local macro_rules | `(tactic| walk_at "execs nil") => `(tactic| ((with_reducible show wpAny _ _ _ _ _ (Shared.mk _ _ _ (Shared.toks _) _)); dsimp only))
local macro_rules | `(tactic| walk_at "exec For Name Name cons nil") => `(tactic| refine Halt.go ?_)
theorem flat_snoc' (l : List (PySem.Str × Tok)) (p : PySem.Str) (t : Tok) : (flat (l ++ [(p, t)])).length = (flat l).length + p.length := by simp [flat, PySem.Str.length]
theorem joinB {prog : Program} {w : World} {A : Around} {E : Value → Shared → Prop} {s : Shared} {D : Addr} {ms : List (PySem.Str × Tok)} {t : Tok} {Q : Value → Shared → Prop} (b : Nat) (hl : s.heap.IsList D (strValues ms).toArray) (hw : (flat ms).length ≤ b) (hb : b ≤ 100000) (hok : ∀ p ∈ ms, okS p.1)
    (hq : ∀ y t' k, PySem.Str.length y ≤ b → okS y → s.toks ≤ k → Q (.str y t') { s with toks := k }) : wpAny (model prog w) A (call (.builtin "str.join") [.str (PySem.Str.ofString "") t, .ref D]) Q E s :=
  joinT hl (by omega) fun t' k u => hq _ t' k (by rw [tx_len]; exact hw) (okS_flat hok) u
theorem addB {prog : Program} {w : World} {A : Around} {E : Value → Shared → Prop} {s : Shared} {x y : PySem.Str} {t u : Tok} {Q : Value → Shared → Prop} (b : Nat) (hw : x.length + y.length ≤ b) (hb : b ≤ 100000) (o1 : okS x) (o2 : okS y)
    (hq : ∀ z t' k, PySem.Str.length z ≤ b → okS z → s.toks ≤ k → Q (.str z t') { s with toks := k }) : wpAny (model prog w) A (binaryOp .Add (.str x t) (.str y u)) Q E s :=
  any_up (SBL.add (fun t' k g up => hq _ t' k (Nat.le_trans g.2 hw) (okS_append o1 o2) up.1) (by rw [sizeLine_eq]; omega))
abbrev ltF (M : PySem.Str → Option Value) (σ : Option Value × Option Value × Option Value × Option Value) : PySem.Str → Option Value := fun y =>
  if y = PySem.Str.ofString "t" then σ.1 else if y = PySem.Str.ofString "written" then σ.2.1 else if y = PySem.Str.ofString "meant" then σ.2.2.1 else if y = PySem.Str.ofString "mended" then σ.2.2.2 else M y
theorem lt_start {g h : Heap} {L : Addr} {M : PySem.Str → Option Value} (F : Fr g L h M) : Fr g L h (ltF M (M (PySem.Str.ofString "t"), M (PySem.Str.ofString "written"), M (PySem.Str.ofString "meant"), M (PySem.Str.ofString "mended"))) := by
  refine fr_eq F fun y => ?_
  by_cases h1 : y = PySem.Str.ofString "t"
  · subst h1; rfl
  by_cases h2 : y = PySem.Str.ofString "written"
  · subst h2; rfl
  by_cases h3 : y = PySem.Str.ofString "meant"
  · subst h3; rfl
  by_cases h4 : y = PySem.Str.ofString "mended"
  · subst h4; rfl
  simp only [ltF, if_neg h1, if_neg h2, if_neg h3, if_neg h4]
theorem nePair {prog : Program} {w : World} {A : Around} {E : Value → Shared → Prop} {s : Shared} {r d : Addr} {x y : PySem.Str} {t1 t2 t3 t4 : Tok} {o1 o2 : Obj} {n1 n2 : Nat} {Q : Value → Shared → Prop}
    (h1 : s.heap.get? r = some o1) (c1 : o1.cls = .type "tuple") (d1 : o1.data = .seq #[.str x t1, .str y t2] n1) (h2 : s.heap.get? d = some o2) (c2 : o2.cls = .type "tuple") (d2 : o2.data = .seq #[.str x t3, .str y t4] n2)
    (ox : okS x) (oy : okS y) (hu : A.units + 64 < cLine) (h : Q (.bool false) s) : wpAny (model prog w) A (compareOp .NotEq (.ref r) (.ref d)) Q E s := by
  have sh : SeqAt.shaped (.tuple [.str x, .str y]) = true := by
    unfold okS at ox oy
    simp [SeqAt.shaped, PyData.canLay0, PyData.canLayAll0, PyData.depth, PyData.depthAll, ox, oy]
  refine ne_dataH (reads_tuple_at h1 c1 d1 (.cons (.str x t1) (.cons (.str y t2) .nil))) (reads_tuple_at h2 c2 d2 (.cons (.str x t3) (.cons (.str y t4) .nil))) sh sh hu ?_
  simpa [PyData.eqv, PyData.eqvAll] using h
theorem lt_end {g h : Heap} {L : Addr} {M : PySem.Str → Option Value} {σ : Option Value × Option Value × Option Value × Option Value} {a b c d : Option Value}
    (F : Fr g L h (fun y => if y = PySem.Str.ofString "mended" then d else if y = PySem.Str.ofString "meant" then c else if y = PySem.Str.ofString "written" then b else if y = PySem.Str.ofString "t" then a else ltF M σ y)) : Fr g L h (ltF M (a, b, c, d)) := by
  refine fr_eq F fun y => ?_
  by_cases h1 : y = PySem.Str.ofString "t"
  · subst h1; rfl
  by_cases h2 : y = PySem.Str.ofString "written"
  · subst h2; rfl
  by_cases h3 : y = PySem.Str.ofString "meant"
  · subst h3; rfl
  by_cases h4 : y = PySem.Str.ofString "mended"
  · subst h4; rfl
  simp only [ltF, if_neg h1, if_neg h2, if_neg h3, if_neg h4]
theorem fm_lo {n m : Int} (h : 0 < m) : 0 ≤ n.fmod m := by rw [Int.fmod_eq_emod_of_nonneg _ (by omega)]; exact Int.emod_nonneg _ (by omega)
theorem fm_hi {n m : Int} (h : 0 < m) : n.fmod m < m := by rw [Int.fmod_eq_emod_of_nonneg _ (by omega)]; exact Int.emod_lt_of_pos _ h
theorem lw_first {g h : Heap} {L : Addr} {M : PySem.Str → Option Value} {σ : LwSt} {v : Option Value} {f : PySem.Str} {tf : Tok} {row : List (PySem.Str × Tok)} {e : Nat}
    (F : Fr g L h (fun y => if y = PySem.Str.ofString "first" then some (.str f tf) else if y = PySem.Str.ofString "x" then v else lwF M σ y)) : Fr g L h (lwF M ⟨f, tf, v, row, e⟩) := by
  refine fr_eq F fun y => ?_
  by_cases h1 : y = PySem.Str.ofString "first"
  · subst h1; rfl
  by_cases h2 : y = PySem.Str.ofString "x"
  · subst h2; rfl
  simp only [lwF, if_neg h1, if_neg h2]
local macro_rules | `(tactic| k_all) => `(tactic| assumption)
local macro_rules | `(tactic| walk_at "call builtin:list.append") => `(tactic| (k_dflt (refine' appT ?k1 ?k2 ?k3 ?_ ?z; (case k1 => k_asm); (case k2 => k_asm); (case k3 => k_upd); (case z => omega); k_whole); intro h' F' N'))
local macro_rules | `(tactic| walk_at "subscriptTail Name BinOp ref int") => `(tactic| (k_dflt ((first | refine itemAny 6 21 (News.isList (by k_asm) (by k_mem)) rfl (fm_lo (m := 21) (by decide)) (fm_hi (m := 21) (by decide)) (by decide) ?hall ?_ | refine itemAny 6 10 (News.isList (by k_asm) (by k_mem)) rfl (fm_lo (m := 10) (by decide)) (fm_hi (m := 10) (by decide)) (by decide) ?hall ?_); (case hall => (repeat (first | exact List.forall_mem_nil _ | (refine List.forall_mem_cons.mpr ⟨⟨_, _, rfl, by decide, (by decide +kernel : PyData.strOk _ = true)⟩, ?_⟩))))); intro q9 tq9 hq9 oq9))
local macro_rules | `(tactic| walk_at "subscriptTail List cons BinOp ref int") => `(tactic| (k_dflt (refine itemAny 6 4 (News.isList (by k_asm) (by k_mem)) rfl (fm_lo (m := 4) (by decide)) (fm_hi (m := 4) (by decide)) (by decide) ?hall ?_; (case hall => (repeat (first | exact List.forall_mem_nil _ | (refine List.forall_mem_cons.mpr ⟨⟨_, _, rfl, by decide, (by decide +kernel : PyData.strOk _ = true)⟩, ?_⟩))))); intro q9 tq9 hq9 oq9))
local macro_rules | `(tactic| walk_at "call builtin:len") => `(tactic| (k_dflt (refine lenRow (News.isList (by k_asm) (by k_mem)) (by omega) ?_); intro t9 k9 u9; dsimp only at u9))
local macro_rules | `(tactic| walk_at "subscriptTail Name Slice ref ref") => `(tactic| (k_dflt (first
  | (refine' sliceTo (s := ⟨_, _, _, _, _⟩) ?k1 ?k2 ?k3 ?k4 ?_ ?k5; (case k1 => k_asm); (case k2 => k_asm); (case k3 => exact News.isList (by k_asm) (by k_mem)); (case k4 => exact fm_lo (by omega)); (case k5 => omega))
  | (refine' sliceFrom (s := ⟨_, _, _, _, _⟩) ?k1 ?k2 ?k3 ?k4 ?_ ?k5; (case k1 => k_asm); (case k2 => k_asm); (case k3 => exact News.isList (by k_asm) (by k_mem)); (case k4 => exact fm_lo (by omega)); (case k5 => omega))); intro D9 h9 F9 N9 l9; (try k_lt l9)))
local macro_rules | `(tactic| walk_at "call builtin:str.join") => `(tactic| (k_dflt (refine joinB 150 (News.isList (by k_asm) (by k_mem)) ?z (by decide) ?o ?_; (case o => first | exact fun p hp => (by assumption : ∀ p ∈ _, okS p.1) p (List.mem_of_mem_take hp) | exact fun p hp => (by assumption : ∀ p ∈ _, okS p.1) p (List.mem_of_mem_drop hp)); (case z => first | exact Nat.le_trans (flat_take _ _) (by omega) | exact Nat.le_trans (flat_drop _ _) (by omega))); intro y9 t9 k9 hy9 oy9 u9; dsimp only at u9))
local macro_rules | `(tactic| walk_at "binaryOp Add str str") => `(tactic| (k_dflt (first | refine addB 160 (by omega) (by decide) (by assumption) (by assumption) ?_ | refine addB 310 (by omega) (by decide) (by assumption) (by assumption) ?_); intro y9 t9 k9 hy9 oy9 u9; dsimp only at u9))
local macro_rules | `(tactic| walk_at "exec If Compare cons nil") => `(tactic| refine Halt.go ?_)
local macro_rules | `(tactic| walk_at "call ref") => `(tactic| refine Halt.go ?_)
local macro_rules | `(tactic| walk_at "call ref") => `(tactic| (k_dflt (first
  | (refine' escape_tx ?B ?F ?X ?N ?T ?hk ?hy ?hp ?hd ?hu ?_; (case B => k_asm); (case F => k_asm); (case X => k_asm); (case N => k_asm); (case T => k_asm); (case hk => exact rfl); (case hy => first | omega | decide); (case hp => (try dsimp only); omega); (case hd => decide); (case hu => decide); intro tk9 h9 ks9 p9 F9 N9)
  | (refine' escape_str ?B ?F ?X ?N ?T ?hk ?hy ?hp ?hd ?hu ?_; (case B => k_asm); (case F => k_asm); (case X => k_asm); (case N => k_asm); (case T => k_asm); (case hk => exact rfl); (case hy => first | omega | decide); (case hp => (try dsimp only); omega); (case hd => decide); (case hu => decide); intro tk9 h9 ks9 p9 F9 N9)
  | (refine' read_tx ?B ?F ?X ?N ?T ?hk ?hy ?hp ?hd ?hu ?_; (case B => k_asm); (case F => k_asm); (case X => k_asm); (case N => k_asm); (case T => k_asm); (case hk => exact rfl); (case hy => first | omega | decide); (case hp => (try dsimp only); omega); (case hd => decide); (case hu => decide); intro r9 t19 t29 h9 ks9 p9 F9 N9 l9; (try k_lt l9); (try simp only [read_esc, tx_cps] at N9))
  | (refine' read_str ?B ?F ?X ?N ?T ?hk ?hy ?hp ?hd ?hu ?_; (case B => k_asm); (case F => k_asm); (case X => k_asm); (case N => k_asm); (case T => k_asm); (case hk => exact rfl); (case hy => first | omega | decide); (case hp => (try dsimp only); omega); (case hd => decide); (case hu => decide); intro r9 t19 t29 h9 ks9 p9 F9 N9 l9; (try k_lt l9); (try simp only [read_esc, tx_cps] at N9)))))
local macro_rules | `(tactic| walk_at "compareOp NotEq ref ref") => `(tactic| k_dflt (refine nePair (News.get (by k_asm) (by k_mem)) rfl rfl (News.get (by k_asm) (by k_mem)) rfl rfl (by assumption) (by assumption) (by ke_room) ?_))
local macro_rules | `(tactic| walk_at "inplaceOp Add str str") => `(tactic| (k_dflt (refine any_up (SBL.iadd ?_ (by rw [sizeLine_eq]; dsimp only; omega))); intro t9 k9 g9 u9; (replace u9 := u9.1); dsimp only at u9))
local macro_rules | `(tactic| walk_at "exec For Name List cons nil") => `(tactic| refine Halt.go ?_)
local macro_rules | `(tactic| walk_at "pyIter ref") => `(tactic| refine Halt.go ?_)
local macro_rules | `(tactic| walk_at "mine") => `(tactic| repeat' (first | (k_unfold; (try dsimp only)) | walk1 | (dsimp only; walk1) | (leave1; try dsimp only) | fail "no step"))
theorem law_holds : PySem.Challenge.rw_dn0306_01.Holds := hd01 (by
  k_go0
  refine never ?_
  (all_goals try k_fold)
  walk_at "mine"
  rename_i lp hh1 htt hh2 kk2 pp2 lw hh4 nl1 hh5 kk3 pp3 ld ws hh6 hI hC hLn nl2 hh7 kk4 pp4 hh8 kk5 pp5 lr hh9 nl3 hh10 F9 N9 kk6 pp6
  have hR : ∀ (v : Value) (y : PySem.Str), List.lookup y [(PySem.Str.ofString "script", v)] = if y = PySem.Str.ofString "script" then some v else none := fun v y => by
    by_cases h1 : y = PySem.Str.ofString "script"
    · subst h1; rfl
    · rw [if_neg h1]; simp only [List.lookup]; rw [show (y == PySem.Str.ofString "script") = false from beq_eq_false_iff_ne.mpr h1]
  refine wpAny_For ?_ (by intro _; rfl)
  walk_at "mine"
  refine iterList_st (σ := LwSt) (lwF (lwM lr ld lw lp _)) (fun σ => (lr, W.listOf (strValues σ.row).toArray σ.e) :: _) LwJ ⟨_, _, none, [(_, _), (_, _), (_, _)], 0⟩ (News.isList N9 (by k_mem)) rfl rfl rfl (N9 (ld, _) (by k_mem)).2.1 (by assumption) (lw_start F9 (hR _)) N9 ?j ?off ?turn ?done ?hE
  case hE => passes_own
  case j => exact ⟨by omega, (by decide : (PySem.Str.ofString "&amp;lt;&#38;&quot;\"'").length ≤ 30), rfl, (by decide : 6 ≤ 6), (by decide +kernel : PyData.strOk (PySem.Str.ofString "&amp;lt;&#38;&quot;\"'") = true), List.forall_mem_cons.mpr ⟨(by decide +kernel : PyData.strOk (PySem.Str.ofString "x") = true), List.forall_mem_cons.mpr ⟨(by decide +kernel : PyData.strOk (PySem.Str.ofString "&lt;") = true), List.forall_mem_cons.mpr ⟨(by decide +kernel : PyData.strOk (PySem.Str.ofString "'") = true), List.forall_mem_nil _⟩⟩⟩⟩
  case off =>
    rintro i y - p hp
    rcases List.mem_cons.mp hp with rfl | hp
    · exact Nat.ne_of_lt (Heap.lt_size (N9 _ (.head _)).1)
    · exact Nat.ne_of_lt (Heap.lt_size (N9 p (.tail _ hp)).1)
  case done =>
    rintro ⟨f, tf, ux, row, e⟩ h tk pos ⟨ji, jf, jr, jw, jo1, jo2⟩ F1 N1 sz1
    dsimp only at ji jf jr jw jo1 jo2 N1 ⊢
    walk_at "mine"
    refine wpAny_If ?_
    walk_at "mine"
    refine wpAny_For ?_ (by intro _; rfl)
    walk_at "mine"
    rename_i y2 ty2 ky2 hy2 oy2 hk2 h8 F8 N8 tk7 p7 tk6 h6 tk5 p5 k5 pk5 l5 h5 F5 N5 nl5
    refine iterList_st (σ := Option Value × Option Value × Option Value × Option Value) (fun σ => ltF _ σ) (fun σ => _) (fun _ _ => True) (none, none, none, none) (News.isList N5 (by k_mem)) rfl rfl rfl (N5 (l5, _) (by k_mem)).2.1 (by assumption) (lt_start F5) N5 trivial ?off2 ?turn2 ?done2 ?hE2
    case hE2 => passes_own
    case off2 =>
      rintro i y - p hp
      exact Nat.ne_of_lt (Heap.lt_size (N5 p hp).1)
    case done2 =>
      rintro ⟨u1, u2, u3, u4⟩ h2 tk2 pos2 - F2 N2 sz2
      k_steps
    rintro i v ⟨u1, u2, u3, u4⟩ h2 tk2 own2 pos2 hv2 - ho2 F2 N2 sz2
    obtain ⟨tt, tok, rfl, htl, hto⟩ : ∃ tt tok, v = .str tt tok ∧ PySem.Str.length tt ≤ 310 ∧ okS tt := by
      rcases i with _ | _ | i
      · exact ⟨f, tf, (Option.some.inj hv2).symm, by omega, jo1⟩
      · exact ⟨y2, ty2, (Option.some.inj hv2).symm, hy2, oy2⟩
      · exact absurd hv2 (by simp)
    dsimp only [List.cons_append, List.nil_append] at N2 ⊢
    have hl1 : tt.cps.toList.length ≤ 310 := by simpa [PySem.Str.length] using htl
    have hl2 := escL_len tt.cps.toList
    have hl3 := rdL_len tt.cps.toList
    have oe := okS_esc hto
    walk_at "mine"
    refine wpAny_If ?_
    walk_at "mine"
    refine wpAny_If ?_
    walk_at "mine"
    · rename (_ != _) = true => hbad
      rw [esc_read] at hbad
      simp at hbad
    · rename Fr _ _ _ _ => F3
      rename News _ _ _ _ => N3
      exact ForSt.next (_, _, _, _) (lt_end F3) (news_sub N3 fun p hp => .tail _ (.tail _ (.tail _ hp))) trivial
  rintro i v ⟨f, tf, ux, row, e⟩ h tk own pos hv ⟨ji, jf, jr, jw, jo1, jo2⟩ ho F1 N1 sz1
  obtain ⟨n, tn, rfl, hin⟩ := ints_get hI hv
  dsimp only [List.cons_append, List.nil_append] at ji jf jr jw jo1 jo2 N1 ⊢
  have hi16 : i < 16 := by rw [List.length_take] at hin; omega
  have nown : ∀ p ∈ own, p.1 ≠ lr := fun p hp e => by
    rcases ho p hp with h1 | h1
    · exact absurd (Heap.lt_size (N9 _ (.head _)).1) (by rw [← e, h1]; exact Nat.lt_irrefl _)
    · rw [e] at h1; exact absurd nl3.1 (by rw [h1]; exact Nat.lt_irrefl _)
  walk_at "mine"
  refine ForSt.next ⟨_, _, _, row ++ [(_, _)], e + 1⟩ (lw_first (row := []) (e := 0) (by k_asm)) (by k_asm) ⟨by omega, ?_, ?_, ?_, ?_, ?_⟩
  · show (_ ++ _ : PySem.Str).length ≤ _; rw [Str.length_append]; dsimp only; omega
  · show (row ++ [_]).length = _; rw [List.length_append, List.length_singleton]; omega
  · show (flat (row ++ [_])).length ≤ _; rw [flat_snoc']; omega
  · exact okS_append jo1 (by assumption)
  · intro p hp
    rcases List.mem_append.mp hp with h1 | h1
    · exact jo2 p h1
    · rw [List.mem_singleton.mp h1]; assumption)
end Mine

theorem PySem.Challenge.cw_dn0306_01_holds : PySem.Challenge.rw_dn0306_01.Holds := by
  exact Mine.law_holds
