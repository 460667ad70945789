import PyProof.Rows.All
import PyProof.Reaches
import PyProof.Comp
import PyProof.AttrMiss
import PyProof.TupleIter
import PyProof.ForAny
import PyProof.CompUse
import PyProof.ListOps
import PyProof.EnumMake
import PyProof.EqKinds
import PyProof.WalksMore
import PyProof.RangeFor
import PyProof.GenObj
import PyProof.IsInstance
import PyProof.IsInstanceH
import PyProof.IsiNone
import PyProof.ListNew
import PyProof.SliceMore
import Open.Head
import Open.Line
import Open.Seg
import Open.Tree
import Wide.All
import PySem.Challenge.RW_eu0022_01
set_option Elab.async false
set_option maxRecDepth 100000
namespace Mine
open PySem

/-- a yield inside a `yield from` of a generator that nothing watches: loud in name alone -/
def okLoud (s : Shared) (t : Thread) : Bool :=
  match t.cur, t.code, splitAtGen t.stack with
  | .yield _ true _ _, .builtin "proto.yield_from" ⟨.ref a :: _, _⟩, some (frames, _, _) =>
    !frames.any Frame.guarded && (s.heap.get? a).any (fun o => o.genNumber?.isSome)
  | _, _, _ => false

theorem okLoud_spec {s : Shared} {t : Thread} (h : okLoud s t = true) : ∃ v l k code pos stack a as kw frames b rest o n,
    t = ⟨.yield v true l k, code, pos, stack⟩ ∧ code = .builtin "proto.yield_from" ⟨.ref a :: as, kw⟩ ∧ splitAtGen stack = some (frames, b, rest) ∧
    frames.any Frame.guarded = false ∧ s.heap.get? a = some o ∧ o.genNumber? = some n := by
  unfold okLoud at h
  split at h
  · rename_i e1 e2 e3
    obtain ⟨cur, code, pos, stack⟩ := t
    simp only at e1 e2 e3
    simp only [Bool.and_eq_true, Bool.not_eq_true', Option.any_eq_true] at h
    obtain ⟨h1, o, h2, h3⟩ := h
    obtain ⟨n, h3⟩ := Option.isSome_iff_exists.mp h3
    exact ⟨_, _, _, _, _, _, _, _, _, _, _, _, _, _, by rw [e1], e2, e3, h1, h2, h3⟩
  · cases h

theorem okLoud_of {s : Shared} {v : Value} {l : List Value} {k : Resume → Sem Fin} {pos : Pos} {stack : List Frame} {a : Addr} {as : List Value} {kw : List (Str × Value)}
    {frames : List Frame} {b : Nat × (GenResult → Sem Fin) × Code × Pos} {rest : List Frame} {o : Obj} {n : Nat}
    (h1 : splitAtGen stack = some (frames, b, rest)) (h2 : frames.any Frame.guarded = false) (h3 : s.heap.get? a = some o) (h4 : o.genNumber? = some n) :
    okLoud s ⟨.yield v true l k, .builtin "proto.yield_from" ⟨.ref a :: as, kw⟩, pos, stack⟩ = true := by
  unfold okLoud
  simp [h1, h2, h3, h4]

theorem okLoud_forget {s σ : Shared} {t τ : Thread} (hs : σ.forget = s.forget) (ht : τ.forget = t.forget) (h : okLoud s t = true) : okLoud σ τ = true := by
  obtain ⟨v, l, k, code, pos, stack, a, as, kw, frames, b, rest, o, n, rfl, rfl, h1, h2, h3, h4⟩ := okLoud_spec h
  obtain ⟨cur', code', pos', stack'⟩ := τ
  simp only [Thread.forget, Thread.mk.injEq] at ht
  obtain ⟨rfl, rfl, rfl, e⟩ := ht
  have q := congrArg splitAtGen e
  rw [splitAtGen_forgetAll, splitAtGen_forgetAll, h1] at q
  cases hx : splitAtGen stack' with
  | none => rw [hx] at q; cases q
  | some x =>
    obtain ⟨f', b', r'⟩ := x
    rw [hx] at q
    simp only [Option.map_some, Option.some.injEq, Prod.mk.injEq] at q
    refine okLoud_of hx ?_ (by rw [(Shared.forget_eq hs).1]; exact h3) h4
    rw [← any_guarded_forgetAll f', q.1, any_guarded_forgetAll]; exact h2

section
variable (den : Code → Sem Fin) (prog : Program) (w : World)

theorem lifeStep_okLoud (others : List Value) (s : Shared) (t : Thread) (h : okLoud s t = true) (hz : s.asleep) :
    lifeStep den prog w others s t = step den prog w s t := by
  obtain ⟨v, l, k, code, pos, stack, a, as, kw, frames, b, rest, o, n, rfl, rfl, h1, h2, h3, h4⟩ := okLoud_spec h
  obtain ⟨hr, hc⟩ := hz
  have hsp : Thread.special ⟨.yield v true l k, .builtin "proto.yield_from" ⟨.ref a :: as, kw⟩, pos, stack⟩ = true := by
    simp [Thread.special, Thread.yieldsInsideHandler]
  have hsh : closingShows s frames (.builtin "proto.yield_from" ⟨.ref a :: as, kw⟩) true = false := by
    simp [closingShows, h2, delegateShows, h3, h4, hr]
  simp only [lifeStep, hsp, if_true, collectorTurn?, h1, hsh, Bool.false_and, Bool.false_eq_true, if_false, Thread.atItsEnd, stepCounting, hc]

theorem sstep_okLoud (s : Shared) (t : Thread) (h : okLoud s t = true) (hz : s.asleep) :
    sstep den prog w (.single s t) = (step den prog w s t).lift := by
  have hl := fun others => lifeStep_okLoud den prog w others s t h hz
  obtain ⟨v, l, k, code, pos, stack, a, as, kw, frames, b, rest, o, n, rfl, rfl, h1', h2', h3, h4⟩ := okLoud_spec h
  have h1 : (Config.single s ⟨.yield v true l k, .builtin "proto.yield_from" ⟨.ref a :: as, kw⟩, pos, stack⟩).collect? w.params = none := by
    simp [Config.collect?, Config.single, (nothing_to_collect _ _ _ s _ hz.1).1]
  have h2 : (Config.single s ⟨.yield v true l k, .builtin "proto.yield_from" ⟨.ref a :: as, kw⟩, pos, stack⟩).collectable = [] := by
    simp [Config.collectable, Config.single, (nothing_to_collect w.params _ _ s _ hz.1).2]
  have hm : ∀ pr, (Config.single s ⟨.yield v true l k, .builtin "proto.yield_from" ⟨.ref a :: as, kw⟩, pos, stack⟩).moves pr = [.run 0] := by
    intro pr
    simp [Config.moves, Config.single, movesFrom, Thread.moves]
  have hp : (Config.single s ⟨.yield v true l k, .builtin "proto.yield_from" ⟨.ref a :: as, kw⟩, pos, stack⟩).pick w = .ok (.run 0, .single s ⟨.yield v true l k, .builtin "proto.yield_from" ⟨.ref a :: as, kw⟩, pos, stack⟩) := by
    simp only [Config.pick, h1, h2, Config.pickThread, hm]
    cases w.params.lifetimes <;> simp
  simp only [sstep, hp, Config.move]
  simp only [Config.run, Config.single]
  simp [hl, others_single, frozenBadly, ThreadState.insideWrite, Thread.finalizes]
  split <;> simp_all [Step.lift, Config.single]
end

section
variable (M : Model)
def stepJ (s : Shared) (t : Thread) : Step := if t.loud && !okLoud s t then .halt (.stuck "proof:not-calm") s else stepK M.den M.prog M.w s t

theorem stepJ_of_go {s s' : Shared} {t t' : Thread} (h : M.step s t = .go s' t') : stepJ M s t = .go s' t' := by
  unfold Model.step stepI at h
  unfold stepJ
  cases hl : t.loud with
  | true => rw [hl] at h; cases h
  | false => rw [hl] at h; simpa using h

inductive CJ : Shared → Thread → Shared → Thread → Prop
  | refl {s t} : CJ s t s t
  | step {s t s₁ t₁ s' t'} : stepJ M s t = .go s₁ t₁ → CJ s₁ t₁ s' t' → CJ s t s' t'

variable {M}
theorem CJ.trans {s t s₁ t₁ s' t'} (h : CJ M s t s₁ t₁) (h' : CJ M s₁ t₁ s' t') : CJ M s t s' t' := by
  induction h with
  | refl => exact h'
  | step hs _ ih => exact .step hs (ih h')
theorem CJ.go {s t s₁ t₁ s' t'} (h : M.step s t = .go s₁ t₁) (h' : CJ M s₁ t₁ s' t') : CJ M s t s' t' := .step (stepJ_of_go M h) h'
theorem CJ.of_comes {s t s' t'} (h : Comes M s t s' t') : CJ M s t s' t' := by
  obtain ⟨n, hn⟩ := h
  induction n generalizing s t with
  | zero =>
    have e : Run.running s t = .running s' t' := hn
    injection e with e1 e2
    subst e1 e2
    exact .refl
  | succ n ih =>
    rw [runN_succ] at hn
    cases hs : M.step s t with
    | go s₂ t₂ => simp only [hs] at hn; exact .go hs (ih hn)
    | halt o s₂ => simp only [hs] at hn; cases hn

/-- one step of the proof's machine is one step of the real one -/
theorem stepJ_real {s s₁ σ : Shared} {t t₁ τ : Thread} (h : stepJ M s t = .go s₁ t₁) (hs : σ.forget = s.forget) (ht : τ.forget = t.forget) (hz : σ.asleep) :
    ∃ σ₁ τ₁, sstep M.den M.prog M.w (.single σ τ) = .go (.single σ₁ τ₁) ∧ σ₁.forget = s₁.forget ∧ τ₁.forget = t₁.forget ∧ σ₁.asleep ∧ step M.den M.prog M.w σ τ = .go σ₁ τ₁ := by
  have hk : stepK M.den M.prog M.w s t = .go s₁ t₁ := by
    unfold stepJ at h
    split at h
    · cases h
    · exact h
  have e := (stepK_forget M.den M.prog M.w s t).trans (step_same M.den M.prog M.w hs.symm ht.symm)
  rw [hk] at e
  cases hst : step M.den M.prog M.w σ τ with
  | halt o σ' => rw [hst] at e; simp [Step.forget] at e
  | go σ₁ τ₁ =>
    rw [hst] at e
    simp only [Step.forget, Step.go.injEq] at e
    refine ⟨σ₁, τ₁, ?_, e.1.symm, e.2.symm, Shared.asleep_of_life (step_life M.den M.prog M.w σ σ₁ τ τ₁ hst) hz, rfl⟩
    cases hl : t.loud with
    | true =>
      have ho : okLoud s t = true := by
        unfold stepJ at h
        rw [hl] at h
        cases hq : okLoud s t with
        | true => rfl
        | false => rw [hq] at h; cases h
      rw [sstep_okLoud M.den M.prog M.w σ τ (okLoud_forget hs ht ho) hz, hst]; rfl
    | false =>
      have hc : t.calm = true := by
        rw [Thread.calm_eq, hl]
        cases hr : t.refused with
        | false => rfl
        | true =>
          obtain ⟨what, e'⟩ := stepK_refused M.den M.prog M.w (s := s) hr
          rw [e'] at hk; cases hk
      have hc' : τ.calm = true := by rw [← Thread.calm_forget, ht, Thread.calm_forget]; exact hc
      rcases sstep_single M.den M.prog M.w σ τ hc' hz with q | q
      · rw [q, hst]; rfl
      · rw [hst] at q; cases q

theorem CJ.real {s s' : Shared} {t t' : Thread} (h : CJ M s t s' t') : ∀ {σ : Shared} {τ : Thread}, σ.forget = s.forget → τ.forget = t.forget → σ.asleep →
    ∃ n σ' τ', schedN M.den M.prog M.w n (.single σ τ) = .running (.single σ' τ') ∧ σ'.forget = s'.forget ∧ τ'.forget = t'.forget ∧ σ'.asleep ∧ σ'.heap.life = σ.heap.life := by
  induction h with
  | refl => intro σ τ hs ht hz; exact ⟨0, σ, τ, rfl, hs, ht, hz, rfl⟩
  | step h1 _ ih =>
    intro σ τ hs ht hz
    obtain ⟨σ₁, τ₁, e, a, b, c, d⟩ := stepJ_real h1 hs ht hz
    obtain ⟨n, σ', τ', e', a', b', c', d'⟩ := ih a b c
    exact ⟨n + 1, σ', τ', by simp only [schedN, e]; exact e', a', b', c', d'.trans (step_life M.den M.prog M.w σ σ₁ τ τ₁ d)⟩

theorem sched_snoc {den : Code → Sem Fin} {prog : Program} {w : World} {n : Nat} {c c' : Config} {o : Outcome} {s : Shared} (h : schedN den prog w n c = .running c') (h' : sstep den prog w c' = .halt o s) :
    schedN den prog w (n + 1) c = .halted o s := by
  induction n generalizing c with
  | zero =>
    have e : SRun.running c = .running c' := h
    injection e with e
    subst e
    simp only [schedN, h']
  | succ n ih =>
    simp only [schedN] at h
    show (match sstep den prog w c with | .go c' => schedN den prog w (n + 1) c' | .halt o s => .halted o s) = _
    cases hs : sstep den prog w c with
    | go c₂ => rw [hs] at h; exact ih h
    | halt o₂ s₂ => rw [hs] at h; cases h

theorem CJ.halts {s s' : Shared} {t : Thread} {r : Result} {c : Code} {p : Pos} (h : CJ M s t s' ⟨leafOf r, c, p, []⟩) (hl : leftWithCleanup s'.gens = false) (hz : s.asleep) :
    ∃ n σ', schedN M.den M.prog M.w n (.single s t) = .halted (outcomeOf r) σ' ∧ σ'.forget = s'.forget ∧ σ'.heap.life = s.heap.life := by
  obtain ⟨n, σ', τ', e, a, b, c', d⟩ := h.real rfl rfl hz
  obtain ⟨cur, code, pos, stack⟩ := τ'
  simp only [Thread.forget, Thread.mk.injEq] at b
  obtain ⟨rfl, rfl, rfl, e4⟩ := b
  have hst : stack = [] := by cases stack with | nil => rfl | cons x xs => cases e4
  subst hst
  have hl' : leftWithCleanup σ'.gens = false := by rw [leftWithCleanup_of_forget_eq a]; exact hl
  have hcalm : Thread.calm ⟨leafOf r, code, pos, []⟩ = true := by
    cases r <;> rfl
  have hstep : PySem.step M.den M.prog M.w σ' ⟨leafOf r, code, pos, []⟩ = .halt (outcomeOf r) σ' := by
    obtain ⟨heap, gens, drawn, toks, os⟩ := σ'
    have hl'' : leftWithCleanup gens = false := hl'
    cases r <;> simp [leafOf, PySem.step, finish, outcomeOf, hl'']
  refine ⟨n + 1, σ', sched_snoc e ?_, a, d⟩
  rcases sstep_single M.den M.prog M.w σ' _ hcalm c' with q | q
  · rw [q, hstep]; rfl
  · rw [hstep] at q; cases r <;> cases q
end
end Mine

namespace Mine
open PySem
open Sem (wp)

section
variable {α β : Type} {M : Model} {A : Around} {E : Value → Shared → Prop} {s : Shared}

theorem wp_cj {Γ : Ctx} {st : List Frame} (hf : Γ.Fits st) (K : α → Sem Fin) (H : Value → Sem Fin) (gd : Bool → Bool) (lv : List Value → List Value) (t : Sem α) :
    ∀ (Q : α → Pos → Shared → Prop) (E : Value → Pos → Shared → Prop) (p : Pos) (s : Shared), wp M Γ t Q E p s →
      ∃ s' p', (∃ a, CJ M s ⟨t.wrap K H gd lv, Γ.code, p, st⟩ s' ⟨K a, Γ.code, p', st⟩ ∧ Q a p' s') ∨ (∃ e, CJ M s ⟨t.wrap K H gd lv, Γ.code, p, st⟩ s' ⟨H e, Γ.code, p', st⟩ ∧ E e p' s') := by
  have up : ∀ {s s₁ : Shared} {t t₁ : Sem Fin} {p p₁ : Pos} {Q : α → Pos → Shared → Prop} {E : Value → Pos → Shared → Prop}, CJ M s ⟨t, Γ.code, p, st⟩ s₁ ⟨t₁, Γ.code, p₁, st⟩ →
      (∃ s' p', (∃ a, CJ M s₁ ⟨t₁, Γ.code, p₁, st⟩ s' ⟨K a, Γ.code, p', st⟩ ∧ Q a p' s') ∨ (∃ e, CJ M s₁ ⟨t₁, Γ.code, p₁, st⟩ s' ⟨H e, Γ.code, p', st⟩ ∧ E e p' s')) →
      ∃ s' p', (∃ a, CJ M s ⟨t, Γ.code, p, st⟩ s' ⟨K a, Γ.code, p', st⟩ ∧ Q a p' s') ∨ (∃ e, CJ M s ⟨t, Γ.code, p, st⟩ s' ⟨H e, Γ.code, p', st⟩ ∧ E e p' s') := by
    rintro s s₁ t t₁ p p₁ Q E h ⟨s', p', h'⟩
    refine ⟨s', p', ?_⟩
    rcases h' with ⟨a, x, y⟩ | ⟨e, x, y⟩
    · exact .inl ⟨a, h.trans x, y⟩
    · exact .inr ⟨e, h.trans x, y⟩
  induction t with
  | pure a => intro Q E p s h; exact ⟨s, p, .inl ⟨a, .refl, h⟩⟩
  | raise e => intro Q E p s h; exact ⟨s, p, .inr ⟨e, .refl, h⟩⟩
  | unsupported _ => intro Q E p s h; exact h.elim
  | finish _ => intro Q E p s h; exact h.elim
  | rule tag k ih => intro Q E p s h; exact up (.go (step_rule ..) .refl) (ih () Q E p s h)
  | «at» p₀ k ih => intro Q E p s h; exact up (.go (step_at ..) .refl) (ih () Q E p₀ s h)
  | load a part k ih => intro Q E p s h; obtain ⟨o, ho, h⟩ := h; exact up (.go (step_load _ _ _ _ _ _ _ ho) .refl) (ih o Q E p s h)
  | update a part f k ih => intro Q E p s h; obtain ⟨ha, h⟩ := h; exact up (.go (step_update _ _ _ _ _ _ _ _ ha) .refl) (ih () Q E p _ h)
  | loadIfAlive a k ih => intro Q E p s h; exact up (.go (step_loadIfAlive ..) .refl) (ih _ Q E p s h)
  | point l k ih => intro Q E p s h; exact up (.go (step_point ..) .refl) (ih () Q E p s h)
  | register a k _ => intro Q E p s h; exact h.elim
  | alloc o k ih => intro Q E p s h; exact up (.go (step_alloc ..) .refl) (ih _ Q E p _ h)
  | fresh k ih => intro Q E p s h; exact up (.go (step_fresh ..) .refl) (ih _ Q E p _ h)
  | ask k ih => intro Q E p s h; exact up (.go (step_ask ..) .refl) (ih _ Q E p s h)
  | choose src n k ih => intro Q E p s h; obtain ⟨hn, h⟩ := h; exact up (.go (step_choose _ _ _ _ _ _ _ hn) .refl) (ih _ Q E p _ h)
  | os q l k ih => intro Q E p s h; exact up (.go (step_os ..) .refl) (ih _ Q E p _ h)
  | call c h₀ g l k ih =>
    intro Q E p s h
    obtain ⟨r, s₁, hr, h⟩ := h
    obtain ⟨t', c', p', pre', hc₁, hx⟩ := (runs_reach hr _ (hf.enter c (fun r => (k r).wrap K H gd lv) h₀ (gd g) (lv l) p [])).comes
    obtain ⟨rfl, rfl⟩ := hx
    exact up (.go (step_call ..) ((CJ.of_comes hc₁).trans (.go (step_leaf_ret ..) .refl))) (ih r Q E p s₁ h)
  | handled own k ih =>
    intro Q E p s h
    refine up (.go (s₁ := s) (t₁ := ⟨_, Γ.code, p, st⟩) ?_ .refl) (ih _ Q E p s h)
    show M.step s ⟨.handled own fun x => (k x).wrap K H gd lv, Γ.code, p, st⟩ = _
    rw [step_handled]
    cases own
    · rw [hf.handled]; rfl
    · rw [hf.own]; rfl
  | genState g k ih => intro Q E p s h; obtain ⟨x, hg, h⟩ := h; exact up (.go (step_genState _ _ _ _ _ _ hg) .refl) (ih _ Q E p s h)
  | newGen c k ih => intro Q E p s h; exact up (.go (step_newGen ..) .refl) (ih _ Q E p _ h)
  | resume g r l k ih =>
    intro Q E p s h
    obtain ⟨res, s₁, hw, h⟩ := h
    exact up (.of_comes (wakes_comes hf (lv l) (fun x => (k x).wrap K H gd lv) hw)) (ih res Q E p s₁ h)
  | yield v g l k _ => intro Q E p s h; exact h.elim
  | stack k ih =>
    intro Q E p s h
    exact up (.go (by rw [hf.below]; exact step_stack ..) .refl) (ih _ Q E p s h)
  | fork c k _ => intro Q E p s h; exact h.elim
  | thread k ih => intro Q E p s h; exact up (.go (step_thread ..) .refl) (ih _ Q E p s h)
  | await a f d l k _ => intro Q E p s h; exact h.elim

/-- a tree run on the machine of my own, inside any tree around it -/
def wpJ {α : Type} (M : Model) (A : Around) (t : Sem α) (Q : α → Shared → Prop) (E : Value → Shared → Prop) (s : Shared) : Prop :=
  ∀ (Γ : Ctx) (st : List Frame) (p : Pos), Γ.Fits st → Γ.In A → ∀ (K : α → Sem Fin) (H : Value → Sem Fin) (gd : Bool → Bool) (lv : List Value → List Value),
    ∃ s' p', (∃ a, CJ M s ⟨t.wrap K H gd lv, Γ.code, p, st⟩ s' ⟨K a, Γ.code, p', st⟩ ∧ Q a s') ∨ (∃ e, CJ M s ⟨t.wrap K H gd lv, Γ.code, p, st⟩ s' ⟨H e, Γ.code, p', st⟩ ∧ E e s')

def codeJ (M : Model) (A : Around) (c : Code) (R : Result → Shared → Prop) (s : Shared) : Prop :=
  ∀ (Γ : Ctx) (st : List Frame) (p : Pos), Γ.code = c → Γ.Fits st → Γ.Below A → ∃ r s' c' p', CJ M s ⟨M.den c, c, p, st⟩ s' ⟨leafOf r, c', p', st⟩ ∧ R r s'

theorem wpJ_of_any {t : Sem α} {Q : α → Shared → Prop} (h : wpAny M A t Q E s) : wpJ M A t Q E s :=
  fun Γ st p hf hi K H gd lv => wp_cj hf K H gd lv t (fun a _ s' => Q a s') (fun e _ s' => E e s') p s (h Γ p hi)

theorem codeJ_of_any {c : Code} {R : Result → Shared → Prop} (h : codeAny M A c R s) : codeJ M A c R s := by
  rintro Γ st p rfl hf hb
  obtain ⟨r, s', hr, hR⟩ := h Γ p rfl hb
  obtain ⟨t', c', p', pre', hc, hx⟩ := (runs_reach hr st hf).comes
  obtain ⟨rfl, rfl⟩ := hx
  exact ⟨r, s', c', p', .of_comes hc, hR⟩

theorem wpJ_mono {t : Sem α} {Q Q' : α → Shared → Prop} {E' : Value → Shared → Prop} (h : wpJ M A t Q E s) (hQ : ∀ a s, Q a s → Q' a s) (hE : ∀ e s, E e s → E' e s) : wpJ M A t Q' E' s := by
  intro Γ st p hf hi K H gd lv
  obtain ⟨s', p', h⟩ := h Γ st p hf hi K H gd lv
  refine ⟨s', p', ?_⟩
  rcases h with ⟨a, x, y⟩ | ⟨e, x, y⟩
  · exact .inl ⟨a, x, hQ _ _ y⟩
  · exact .inr ⟨e, x, hE _ _ y⟩

theorem codeJ_mono {c : Code} {R R' : Result → Shared → Prop} (h : codeJ M A c R s) (hR : ∀ r s, R r s → R' r s) : codeJ M A c R' s := by
  intro Γ st p hc hf hb
  obtain ⟨r, s', c', p', x, y⟩ := h Γ st p hc hf hb
  exact ⟨r, s', c', p', x, hR _ _ y⟩

theorem wpJ_pure {a : α} {Q : α → Shared → Prop} (h : Q a s) : wpJ M A (pure a) Q E s := fun _ _ p _ _ _ _ _ _ => ⟨s, p, .inl ⟨a, .refl, h⟩⟩
theorem wpJ_raise {e : Value} {Q : α → Shared → Prop} (h : E e s) : wpJ M A (Sem.raise e : Sem α) Q E s := fun _ _ p _ _ _ _ _ _ => ⟨s, p, .inr ⟨e, .refl, h⟩⟩
theorem wpJ_throw {e : Value} {Q : α → Shared → Prop} (h : E e s) : wpJ M A (throw e : Sem α) Q E s := wpJ_raise h

theorem wpJ_wrap {m : Sem α} {K' : α → Sem β} {H' : Value → Sem β} {gd' : Bool → Bool} {lv' : List Value → List Value} {Q : β → Shared → Prop}
    (h : wpJ M A m (fun a s' => wpJ M A (K' a) Q E s') (fun e s' => wpJ M A (H' e) Q E s') s) : wpJ M A (m.wrap K' H' gd' lv') Q E s := by
  intro Γ st p hf hi K H gd lv
  rw [Sem.wrap_wrap]
  obtain ⟨s₁, p₁, h⟩ := h Γ st p hf hi (fun a => (K' a).wrap K H gd lv) (fun e => (H' e).wrap K H gd lv) (fun g => gd (gd' g)) (fun l => lv (lv' l))
  rcases h with ⟨a, x, y⟩ | ⟨e, x, y⟩
  all_goals
    obtain ⟨s', p', z⟩ := y Γ st p₁ hf hi K H gd lv
    refine ⟨s', p', ?_⟩
    rcases z with ⟨a', x', y'⟩ | ⟨e', x', y'⟩
    · exact .inl ⟨a', x.trans x', y'⟩
    · exact .inr ⟨e', x.trans x', y'⟩

theorem wpJ_bind {m : Sem α} {f : α → Sem β} {Q : β → Shared → Prop} (h : wpJ M A m (fun a s' => wpJ M A (f a) Q E s') E s) : wpJ M A (m >>= f) Q E s := by
  rw [Sem.bind_eq_wrap']
  exact wpJ_wrap (wpJ_mono h (fun _ _ x => x) fun _ _ x => wpJ_raise x)
theorem wpJ_bindA {m : Sem α} {f : α → Sem β} {Q : β → Shared → Prop} (h : wpAny M A m (fun a s' => wpJ M A (f a) Q E s') E s) : wpJ M A (m >>= f) Q E s := wpJ_bind (wpJ_of_any h)
theorem wpJ_map {m : Sem α} {f : α → β} {Q : β → Shared → Prop} (h : wpJ M A m (fun a s' => Q (f a) s') E s) : wpJ M A (f <$> m) Q E s := by
  show wpJ M A (m >>= fun a => pure (f a)) Q E s
  exact wpJ_bind (wpJ_mono h (fun _ _ x => wpJ_pure x) fun _ _ x => x)
theorem wpJ_tryCatch {m : Sem α} {k : Value → Sem α} {Q : α → Shared → Prop} (h : wpJ M A m Q (fun e s' => wpJ M A (k e) Q E s') s) : wpJ M A (tryCatch m k) Q E s := by
  show wpJ M A (m.tryCatch k) Q E s
  rw [Sem.tryCatch_eq_wrap]
  exact wpJ_wrap (wpJ_mono h (fun _ _ x => wpJ_pure x) fun _ _ x => x)
theorem wpJ_onRaise {m : Sem α} {k : Value → Sem Unit} {Q : α → Shared → Prop} (h : wpJ M A m Q (fun e s' => wpJ M A (k e) (fun _ s'' => E e s'') E s') s) : wpJ M A (m.onRaise k) Q E s := by
  rw [Sem.onRaise_eq_wrap]
  refine wpJ_wrap (wpJ_mono h (fun _ _ x => wpJ_pure x) fun e _ x => ?_)
  show wpJ M A (k e >>= fun _ => .raise e) Q E _
  exact wpJ_bind (wpJ_mono x (fun _ _ y => wpJ_raise y) fun _ _ y => y)
theorem wpJ_attempt {m : Sem α} {Q : Except Value α → Shared → Prop} (h : wpJ M A m (fun a => Q (.ok a)) (fun e => Q (.error e)) s) : wpJ M A m.attempt Q E s := by
  unfold Sem.attempt
  rw [Sem.tryCatch_eq_wrap]
  refine wpJ_wrap ?_
  show wpJ M A (m >>= fun a => pure (Except.ok a)) _ _ s
  exact wpJ_bind (wpJ_mono h (fun _ _ x => wpJ_pure (wpJ_pure x)) fun _ _ x => wpJ_pure x)
theorem wpJ_keep {vs : List Value} {m : Sem α} {Q : α → Shared → Prop} (h : wpJ M A m Q E s) : wpJ M A (m.keep vs) Q E s := by
  rw [Sem.keep_eq_wrap]
  exact wpJ_wrap (wpJ_mono h (fun _ _ x => wpJ_pure x) fun _ _ x => wpJ_raise x)
theorem wpJ_holding {vs : List Value} {m : Sem α} {Q : α → Shared → Prop} (h : wpJ M A m Q E s) : wpJ M A (holding vs m) Q E s := by
  rw [holding_eq_keep]; exact wpJ_keep h

theorem wpJ_callNode {c : Code} {hd : Option Value} {g : Bool} {l : List Value} {k : Result → Sem α} {Q : α → Shared → Prop}
    (h : codeJ M (A.mark hd) c (fun r s' => wpJ M A (k r) Q E s') s) (hnb : hd ≠ some byPass := by intro x; cases x) : wpJ M A (.call c hd g l k) Q E s := by
  intro Γ st p hf hi K H gd lv
  obtain ⟨r, s₁, c', p', x, y⟩ := h (Γ.enter c hd p) (.ret (fun r => (k r).wrap K H gd lv) hd (gd g) (lv l) Γ.code p [] :: st) p rfl (hf.enter c _ hd _ _ p []) (hi.enter c hd p hnb)
  obtain ⟨s', p'', z⟩ := y Γ st p hf hi K H gd lv
  have x' : CJ M s ⟨(Sem.call c hd g l k).wrap K H gd lv, Γ.code, p, st⟩ s₁ ⟨(k r).wrap K H gd lv, Γ.code, p, st⟩ :=
    .go (step_call ..) (x.trans (.go (step_leaf_ret ..) .refl))
  refine ⟨s', p'', ?_⟩
  rcases z with ⟨a', x'', y'⟩ | ⟨e', x'', y'⟩
  · exact .inl ⟨a', x'.trans x'', y'⟩
  · exact .inr ⟨e', x'.trans x'', y'⟩

theorem wpJ_run {c : Code} {h : Option Value} {Q : Flow → Shared → Prop} (hc : codeJ M (A.mark h) c (fun r s' => match r with | .ok f => Q f s' | .error e => E e s') s)
    (hnb : h ≠ some byPass := by intro x; cases x) : wpJ M A (run c h) Q E s := by
  refine wpJ_callNode (codeJ_mono hc fun r s' x => ?_) hnb
  cases r with
  | ok f => exact wpJ_pure x
  | error e => exact wpJ_raise x
theorem wpJ_runValue {c : Code} {Q : Value → Shared → Prop} (hc : codeJ M A c (fun r s' => match r with | .ok (.ret v) => Q v s' | .ok _ => False | .error e => E e s') s) : wpJ M A (runValue c) Q E s := by
  unfold runValue
  refine wpJ_bind (wpJ_run (codeJ_mono hc fun r s' x => ?_))
  match r, x with
  | .ok (.ret v), x => exact wpJ_pure x
  | .error e, x => exact x
theorem wpJ_call {f : Value} {pos : List Value} {kw : List (Str × Value)} {Q : Value → Shared → Prop}
    (hc : codeJ M A (.call f ⟨pos, kw⟩) (fun r s' => match r with | .ok (.ret v) => Q v s' | .ok _ => False | .error e => E e s') s) : wpJ M A (call f pos kw) Q E s := wpJ_runValue hc

theorem wrap_id (t : Sem Fin) : t.wrap .pure .raise id id = t := by rw [← Sem.bind_eq_wrap]; exact Sem.bind_pure t

theorem codeJ_of_tree {c : Code} {R : Result → Shared → Prop}
    (h : wpJ M (A.under c) (M.den c) (fun fin s' => match fin with | .done f => R (.ok f) s' | .again c' => c'.quiet = true ∧ codeJ M A c' R s') (fun e s' => R (.error e) s') s) : codeJ M A c R s := by
  rintro Γ st p rfl hf hb
  obtain ⟨s₁, p₁, h⟩ := h Γ st p hf hb.in .pure .raise id id
  rw [wrap_id] at h
  rcases h with ⟨fin, x, y⟩ | ⟨e, x, y⟩
  · cases fin with
    | done f => exact ⟨.ok f, s₁, _, p₁, x, y⟩
    | again c' =>
      obtain ⟨r, s', c'', p', z, hR⟩ := y.2 (Γ.goto c') st p₁ rfl (hf.goto c') (hb.goto c')
      exact ⟨r, s', c'', p', x.trans (.go (step_again _ _ _ _ _ _ y.1) z), hR⟩
  · exact ⟨.error e, s₁, _, p₁, x, y⟩

/-- how a generator's turn may end -/
def EndOk (e : End) (s : Shared) : Prop :=
  match e with
  | .ret _ => True
  | .susp _ g _ _ c _ fs => fs.any Frame.guarded = false ∧ (g = false ∨ ∃ a as kw o n, c = .builtin "proto.yield_from" ⟨.ref a :: as, kw⟩ ∧ s.heap.get? a = some o ∧ o.genNumber? = some n)

def SegJ (M : Model) (A : Around) (c : Code) (t : Sem Fin) (fs : List Frame) (s : Shared) (P : End → Shared → Prop) : Prop :=
  ∀ (Γ : Ctx) (st : List Frame) (p : Pos), Γ.code = c → Γ.Fits st → Γ.Woken A → ∃ e s' t' c' p' pre', CJ M s ⟨t, c, p, fs ++ st⟩ s' ⟨t', c', p', pre' ++ st⟩ ∧ Exits e t' c' p' pre' ∧ EndOk e s' ∧ P e s'

theorem SegJ.mono {c : Code} {t : Sem Fin} {fs : List Frame} {P P' : End → Shared → Prop} (h : SegJ M A c t fs s P) (hP : ∀ e s', P e s' → P' e s') : SegJ M A c t fs s P' := by
  intro Γ st p hc hf hw
  obtain ⟨e, s', t', c', p', pre', a, b, d, f⟩ := h Γ st p hc hf hw
  exact ⟨e, s', t', c', p', pre', a, b, d, hP _ _ f⟩

theorem stepJ_exit {e₁ : End} {t' : Sem Fin} {c' : Code} {p' : Pos} {pre' : List Frame} (s₁ : Shared) (g : Nat) (k : GenResult → Sem Fin) (l : List Value) (c : Code) (p : Pos) (st : List Frame)
    (hx : Exits e₁ t' c' p' pre') (ho : EndOk e₁ s₁) : stepJ M s₁ ⟨t', c', p', pre' ++ .gen g k l c p :: st⟩ = .go (s₁.setGen g e₁.genState) ⟨k e₁.result, c, p, st⟩ := by
  cases e₁ with
  | ret r => obtain ⟨rfl, rfl⟩ := hx; exact stepJ_of_go M (step_leaf_gen ..)
  | susp v g₀ l₀ k₀ c₀ p₀ fs =>
    obtain ⟨rfl, rfl, rfl, rfl, hfs⟩ := hx
    have hsp : splitAtGen (pre' ++ .gen g k l c p :: st) = some (pre', (g, k, c, p), st) := by rw [splitAtGen_append_none _ hfs, splitAtGen_gen]; simp
    have hk : stepK M.den M.prog M.w s₁ ⟨.yield v g₀ l₀ k₀, c', p', pre' ++ .gen g k l c p :: st⟩ = .go (s₁.setGen g (End.susp v g₀ l₀ k₀ c' p' pre').genState) ⟨k (End.susp v g₀ l₀ k₀ c' p' pre').result, c, p, st⟩ := by
      simp only [PySem.stepK, PySem.step, hsp]; rfl
    unfold stepJ
    rcases ho with ⟨hg, rfl | ⟨a, as, kw, o, n, rfl, h3, h4⟩⟩
    · have hl : Thread.loud ⟨.yield v false l₀ k₀, c', p', pre' ++ .gen g k l c p :: st⟩ = false := by rw [Thread.loud_yield _ _ _ _ _ _ hsp, hg]; rfl
      rw [hl]; simpa using hk
    · cases g₀ with
      | false =>
        have hl : Thread.loud ⟨.yield v false l₀ k₀, .builtin "proto.yield_from" ⟨.ref a :: as, kw⟩, p', pre' ++ .gen g k l c p :: st⟩ = false := by rw [Thread.loud_yield _ _ _ _ _ _ hsp, hg]; rfl
        rw [hl]; simpa using hk
      | true =>
        rw [okLoud_of hsp hg h3 h4]
        simpa using hk

theorem wpJ_resume {g : Nat} {gs : GenState} {r : Resume} {l : List Value} {k : GenResult → Sem α} {Q : α → Shared → Prop} {c₀ : Code} {t₀ : Sem Fin} {fs₀ : List Frame} {P : End → Shared → Prop}
    (hg : s.gens[g]? = some gs) (hgs : (gs = .fresh c₀ ∧ r = .send .none ∧ t₀ = M.den c₀ ∧ fs₀ = []) ∨ (∃ k₀ l₀ p₀ cl, gs = .suspended k₀ l₀ c₀ p₀ fs₀ cl ∧ t₀ = k₀ r))
    (hs : SegJ M A c₀ t₀ fs₀ (s.setGen g .running) P) (hk : ∀ e s₁, P e s₁ → wpJ M A (k e.result) Q E (s₁.setGen g e.genState)) : wpJ M A (.resume g r l k) Q E s := by
  intro Γ st p hf hi K H gd lv
  have main : ∀ p₁, CJ M s ⟨(Sem.resume g r l k).wrap K H gd lv, Γ.code, p, st⟩ (s.setGen g .running) ⟨t₀, c₀, p₁, fs₀ ++ .gen g (fun x => (k x).wrap K H gd lv) (lv l) Γ.code p :: st⟩ →
      ∃ s' p', (∃ a, CJ M s ⟨(Sem.resume g r l k).wrap K H gd lv, Γ.code, p, st⟩ s' ⟨K a, Γ.code, p', st⟩ ∧ Q a s') ∨ (∃ e, CJ M s ⟨(Sem.resume g r l k).wrap K H gd lv, Γ.code, p, st⟩ s' ⟨H e, Γ.code, p', st⟩ ∧ E e s') := by
    intro p₁ h₁
    obtain ⟨e, s₁, t', c', p', pre', x, hx, ho, hP⟩ := hs (Γ.wake c₀ p) (.gen g (fun x => (k x).wrap K H gd lv) (lv l) Γ.code p :: st) p₁ rfl (hf.wake c₀ g _ _ p) (hi.wake c₀ p)
    have x' := h₁.trans (x.trans (.step (stepJ_exit s₁ g _ _ _ _ _ hx ho) .refl))
    obtain ⟨s', p'', z⟩ := hk e s₁ hP Γ st p hf hi K H gd lv
    refine ⟨s', p'', ?_⟩
    rcases z with ⟨a', x'', y'⟩ | ⟨e', x'', y'⟩
    · exact .inl ⟨a', x'.trans x'', y'⟩
    · exact .inr ⟨e', x'.trans x'', y'⟩
  rcases hgs with ⟨rfl, rfl, rfl, rfl⟩ | ⟨k₀, l₀, p₀, cl, rfl, rfl⟩
  · exact main p (.go (step_resume_fresh _ _ _ _ _ _ _ hg) .refl)
  · exact main p₀ (.go (step_resume_suspended _ _ _ _ _ _ _ _ hg) .refl)

variable {c : Code} {fs : List Frame} {P : End → Shared → Prop}
theorem segJ_wrap {m : Sem α} {K : α → Sem Fin} {H : Value → Sem Fin} {gd : Bool → Bool} {lv : List Value → List Value}
    (h : wpJ M (A.over c fs) m (fun a s' => SegJ M A c (K a) fs s' P) (fun x s' => SegJ M A c (H x) fs s' P) s) : SegJ M A c (m.wrap K H gd lv) fs s P := by
  rintro Γ st p rfl hf hw
  obtain ⟨s₁, p₁, h⟩ := h (Γ.over fs) (fs ++ st) p (hf.over fs) (hw.over fs) K H gd lv
  rcases h with ⟨a, x, y⟩ | ⟨a, x, y⟩
  all_goals
    obtain ⟨e, s', t', c', p', pre', x', hx, ho, hP⟩ := y Γ st p₁ rfl hf hw
    exact ⟨e, s', t', c', p', pre', CJ.trans x x', hx, ho, hP⟩
theorem segJ_bind {m : Sem α} {K : α → Sem Fin} (h : wpJ M (A.over c fs) m (fun a s' => SegJ M A c (K a) fs s' P) (fun x s' => SegJ M A c (.raise x) fs s' P) s) : SegJ M A c (m >>= K) fs s P := by
  rw [Sem.bind_eq_wrap']; exact segJ_wrap h
theorem segJ_at {p' : Pos} {k : Unit → Sem Fin} (h : SegJ M A c (k ()) fs s P) : SegJ M A c (.at p' k) fs s P :=
  segJ_wrap (m := standAt p') (K := k) (H := .raise) (gd := id) (lv := id) (wpJ_of_any (wpAny_standAt h))
theorem segJ_point {l : List Value} {k : Unit → Sem Fin} (h : SegJ M A c (k ()) fs s P) : SegJ M A c (.point l k) fs s P :=
  segJ_wrap (m := point) (K := k) (H := .raise) (gd := id) (lv := fun _ => l) (wpJ_of_any (wpAny_point h))
theorem segJ_call {c' : Code} {hd : Option Value} {g : Bool} {l : List Value} {k : Result → Sem Fin} (h : ∀ p, SegJ M A c' (M.den c') (.ret k hd g l c p [] :: fs) s P) : SegJ M A c (.call c' hd g l k) fs s P := by
  rintro Γ st p rfl hf hw
  obtain ⟨e, s', t', c'', p', pre', x', hx, ho, hP⟩ := h p (Γ.goto c') st p rfl (hf.goto c') (hw.goto c')
  exact ⟨e, s', t', c'', p', pre', .go (step_call ..) x', hx, ho, hP⟩
theorem segJ_leaf {k : Result → Sem Fin} {hd : Option Value} {g : Bool} {l : List Value} {c₁ : Code} {p₁ : Pos} {kp : List Value} (r : Result) (h : SegJ M A c₁ (k r) fs s P) : SegJ M A c (leafOf r) (.ret k hd g l c₁ p₁ kp :: fs) s P := by
  rintro Γ st p rfl hf hw
  obtain ⟨e, s', t', c'', p', pre', x', hx, ho, hP⟩ := h (Γ.goto c₁) st p₁ rfl (hf.goto c₁) (hw.goto c₁)
  exact ⟨e, s', t', c'', p', pre', .go (step_leaf_ret ..) x', hx, ho, hP⟩
theorem segJ_again {c' : Code} (hq : c'.quiet = true) (h : SegJ M A c' (M.den c') fs s P) : SegJ M A c (.pure (.again c')) fs s P := by
  rintro Γ st p rfl hf hw
  obtain ⟨e, s', t', c'', p', pre', x', hx, ho, hP⟩ := h (Γ.goto c') st p rfl (hf.goto c') (hw.goto c')
  exact ⟨e, s', t', c'', p', pre', .go (step_again _ _ _ _ _ _ hq) x', hx, ho, hP⟩
theorem segJ_end (r : Result) (h : P (.ret r) s) : SegJ M A c (leafOf r) [] s P := by
  rintro Γ st p rfl _ _
  exact ⟨.ret r, s, leafOf r, Γ.code, p, [], .refl, ⟨rfl, rfl⟩, trivial, h⟩
theorem segJ_yield {v : Value} {g : Bool} {l : List Value} {k : Resume → Sem Fin} (hfs : splitAtGen fs = none) (ho : ∀ p, EndOk (.susp v g l k c p fs) s) (h : ∀ p, P (.susp v g l k c p fs) s) : SegJ M A c (.yield v g l k) fs s P := by
  rintro Γ st p rfl _ _
  exact ⟨.susp v g l k Γ.code p fs, s, _, Γ.code, p, fs, .refl, ⟨rfl, rfl, rfl, rfl, hfs⟩, ho p, h p⟩
end
end Mine

namespace Mine
open PySem

/-- the heap holds all that it held; nothing else that counts has turned -/
structure Grow (s s' : Shared) : Prop where
  heap : ∀ b o, s.heap.get? b = some o → s'.heap.get? b = some o
  gens : s'.gens = s.gens
  os : s'.os = s.os
theorem Grow.refl (s : Shared) : Grow s s := ⟨fun _ _ e => e, rfl, rfl⟩
theorem Grow.trans {s s₁ s₂ : Shared} (a : Grow s s₁) (b : Grow s₁ s₂) : Grow s s₂ := ⟨fun x o e => b.heap x o (a.heap x o e), b.gens.trans a.gens, b.os.trans a.os⟩
theorem Grow.toks (s : Shared) (n : Nat) : Grow s { s with toks := n } := ⟨fun _ _ e => e, rfl, rfl⟩
theorem Grow.alloc (s : Shared) (o : Obj) (n : Nat) : Grow s { s with heap := s.heap.push o, toks := n } := ⟨fun _ _ e => Heap.get?_push_of_some _ e, rfl, rfl⟩
theorem Grow.heapTo {s : Shared} {h : Heap} {n : Nat} (k : ∀ b o, s.heap.get? b = some o → h.get? b = some o) : Grow s { s with heap := h, toks := n } := ⟨k, rfl, rfl⟩

theorem kind_hasattr : builtinKind "hasattr" = none := by decide +kernel
theorem plain_hasattr : plainId "hasattr" = true := by decide +kernel
theorem entry_hasattr : entryFor table "hasattr" = some Builtin.«hasattr» := entryFor_of_fast (by kernel_rfl)
theorem args_hasattr (a b : Value) : argsOk "hasattr" ⟨[a, b], []⟩ := by unfold argsOk; kernel_rfl

theorem lk_none_iter : typeLookup (.type "NoneType") "__iter__" = pure none := by rw [typeLookup_type, builtinLookup_eq_fast]; kernel_rfl
theorem lk_int_iter : typeLookup (.type "int") "__iter__" = pure none := by rw [typeLookup_type, builtinLookup_eq_fast]; kernel_rfl
theorem sub_str_str : isSubtype (.type "str") (.type "str") = pure true := by rw [isSubtype_type]; kernel_rfl
theorem meta_str : typeOf (.type "str") = pure (.type "type") := by kernel_rfl
theorem lk_wd_get : Slot "wrapper_descriptor" "__get__" "wrapper_descriptor.__get__" :=
  .of (owner := "wrapper_descriptor") (n := "__get__") (by rw [typeLookup_type, builtinLookup_eq_fast]; kernel_rfl) (by decide +kernel) (by decide +kernel) (by decide +kernel)
    (by first | exact .inl (by decide +kernel) | exact .inr (by decide +kernel)) (by rw [isSubtype_type]; kernel_rfl)
theorem lk_wd_set : typeLookup (.type "wrapper_descriptor") "__set__" = pure none := by rw [typeLookup_type, builtinLookup_eq_fast]; kernel_rfl
theorem lk_wd_del : typeLookup (.type "wrapper_descriptor") "__delete__" = pure none := by rw [typeLookup_type, builtinLookup_eq_fast]; kernel_rfl
theorem entry_wd_get : entryFor table "wrapper_descriptor.__get__" = some Builtin.«wrapper_descriptor.__get__» := entryFor_of_fast (by kernel_rfl)
theorem args_wd_get (a b c : Value) : argsOk "wrapper_descriptor.__get__" ⟨[a, b, c], []⟩ := by unfold argsOk; kernel_rfl

-- list
theorem lk_list_iter : typeLookup (.type "list") "__iter__" = pure (some (.builtin "list.__iter__")) := by rw [typeLookup_type, builtinLookup_eq_fast]; kernel_rfl
theorem typeOf_list_iter : typeOf (.builtin "list.__iter__") = pure (.type "wrapper_descriptor") := by show builtinType _ = _; rw [builtinType_eq_fast]; kernel_rfl
theorem list_ga_none : typeLookup (.type "list") "__getattr__" = pure none := by rw [typeLookup_type, builtinLookup_eq_fast]; kernel_rfl
theorem sub_list_str : isSubtype (.type "list") (.type "str") = pure false := by rw [isSubtype_type]; kernel_rfl
theorem sub_list_module : isSubtype (.type "list") (.type "module") = pure false := by rw [isSubtype_type]; kernel_rfl
theorem ne_list_str : (Value.type "list" == Value.type "str") = false := by decide +kernel
theorem sub_list_owner : isSubtype (.type "list") (.type (".".intercalate ("list.__iter__".cutAt '.').dropLast)) = pure true := by
  have e0 : "list.__iter__".cutAt '.' = ["list", "__iter__"] := by first | rfl | decide +kernel
  have e1 : ".".intercalate (["list", "__iter__"] : List String).dropLast = "list" := by decide +kernel
  rw [e0, e1, isSubtype_type]; kernel_rfl
section
variable {prog : Program} {w : World} {A : Around} {E : Value → Shared → Prop} {h : Heap} {g : Array GenState} {d : Drawn} {t : Nat} {os : OsState} {a : Addr} {o : Obj}

set_option maxHeartbeats 2000000 in
theorem get_wd_list {R : Result → Shared → Prop} (hx : h.get? a = some o) (hc : o.cls = .type "list") (hq : ∀ x s', Grow ⟨h, g, d, t, os⟩ s' → R (.ok (.ret (.ref x))) s') :
    codeAny (model prog w) A (.call (.builtin "wrapper_descriptor.__get__") ⟨[.builtin "list.__iter__", .ref a, .type "list"], []⟩) R ⟨h, g, d, t, os⟩ := by
  have hT : (⟨h, g, d, t, os⟩ : Shared).TypeIs (.ref a) "list" := ⟨_, hx, hc⟩
  have hT5 : (⟨h, g, d, t, os⟩ : Shared).TypeIs (.builtin "list.__iter__") "wrapper_descriptor" := typeOf_list_iter
  have f8 := sub_list_owner
  refine codeAny_call_builtin lk_wd_get.plain entry_wd_get (lk_wd_get.check _ _ _ _ _ _ _ _ hT5 (args_wd_get _ _ _) ?_)
  unfold Builtin.«wrapper_descriptor.__get__»
  repeat (any_goals (first | assumption | wp_step))
  first
    | exact hq _ _ (Grow.alloc _ _ _)
    | (refine wpAny_bind (wpAny_newObj_type ?_ (by size_fits)); exact wpAny_pure (hq _ _ (Grow.alloc _ _ _)))

set_option maxHeartbeats 4000000 in
theorem entry_list {u : Tok} {its : Array Value} {n : Nat} {sl : Array (Option Value)} {Q : Fin → Shared → Prop} (hx : h.get? a = some ⟨.type "list", none, .seq its n, sl⟩) (hq : ∀ x s', Grow ⟨h, g, d, t, os⟩ s' → Q (.done (.ret (.ref x))) s') :
    wpAny (model prog w) A (Builtin.«object.__getattribute__» ⟨[.ref a, .str "__iter__" u], []⟩) Q E ⟨h, g, d, t, os⟩ := by
  have hT : (⟨h, g, d, t, os⟩ : Shared).TypeIs (.ref a) "list" := ⟨_, hx, rfl⟩
  have hT5 : (⟨h, g, d, t, os⟩ : Shared).TypeIs (.builtin "list.__iter__") "wrapper_descriptor" := typeOf_list_iter
  have f4 := lk_list_iter
  have f5 := lk_wd_get.lookup
  have f6 := lk_wd_set
  have f7 := lk_wd_del
  unfold Builtin.«object.__getattribute__»
  repeat (any_goals (first | assumption | wp_step))
  refine get_wd_list hx rfl fun v s' G => ?_
  repeat (any_goals (first | assumption | wp_step))
  exact hq _ _ G

set_option maxHeartbeats 4000000 in
theorem ga_list {u : Tok} {its : Array Value} {n : Nat} {sl : Array (Option Value)} {Q : Value → Shared → Prop} (hx : h.get? a = some ⟨.type "list", none, .seq its n, sl⟩) (hq : ∀ x s', Grow ⟨h, g, d, t, os⟩ s' → Q (.ref x) s') :
    wpAny (model prog w) A (getAttrBy (.ref a) (.str "__iter__" u) false) Q E ⟨h, g, d, t, os⟩ := by
  have hT : (⟨h, g, d, t, os⟩ : Shared).TypeIs (.ref a) "list" := ⟨_, hx, rfl⟩
  have f2 := F.slot_list_getattribute.lookup
  have f3 := F.slot_list_getattribute.bind (.ref a)
  have f8 := list_ga_none
  repeat (any_goals (first | assumption | wp_step))
  refine codeAny_call_builtin F.slot_list_getattribute.plain F.entry_list_ga (F.slot_list_getattribute.check _ _ _ _ _ _ _ _ hT (F.args_list_getattribute_2 _ _) (entry_list hx fun v s' G => ?_))
  repeat (any_goals (first | assumption | wp_step))
  exact hq _ _ G

set_option maxHeartbeats 4000000 in
theorem hasattr_list {u : Tok} {its : Array Value} {n : Nat} {sl : Array (Option Value)} {s : Shared} {Q : Value → Shared → Prop} (hx : s.heap.get? a = some ⟨.type "list", none, .seq its n, sl⟩) (hq : ∀ s', Grow s s' → Q (.bool true) s') :
    wpAny (model prog w) A (call (.builtin "hasattr") [.ref a, .str "__iter__" u]) Q E s := by
  obtain ⟨h, g, d, t, os⟩ := s
  refine Calls.call_function_entry kind_hasattr plain_hasattr entry_hasattr (args_hasattr _ _) ?_
  have hT : (⟨h, g, d, t, os⟩ : Shared).TypeIs (.ref a) "list" := ⟨_, hx, rfl⟩
  have f1 := lk_list_iter
  have f2 := F.slot_list_getattribute.lookup
  have f3 := sub_list_module
  have f4 := sub_str_str
  have f5 : (⟨h, g, d, t, os⟩ : Shared).TypeIs (.str "__iter__" u) "str" := rfl
  unfold Builtin.«hasattr»
  repeat (any_goals (first | assumption | (with_reducible refine ga_list hx fun x s' G => ?_) | wp_step))
  exact ⟨_, rfl, hq _ (by assumption)⟩

theorem lk_list_class : typeLookup (.type "list") "__class__" = pure (some (.builtin "object.__class__")) := by rw [typeLookup_type, builtinLookup_eq_fast]; kernel_rfl
theorem sub_list_class_owner : isSubtype (.type "list") (.type (".".intercalate ("object.__class__".cutAt '.').dropLast)) = pure true := by
  rw [F.owner_object_class, isSubtype_type]; kernel_rfl

set_option maxHeartbeats 4000000 in
theorem class_get_list {R : Result → Shared → Prop} (hx : h.get? a = some o) (hc : o.cls = .type "list") (hq : R (.ok (.ret (.type "list"))) ⟨h, g, d, t, os⟩) :
    codeAny (model prog w) A (.call (.builtin "getset_descriptor.__get__") ⟨[.builtin "object.__class__", .ref a, .type "list"], []⟩) R ⟨h, g, d, t, os⟩ := by
  have hT : (⟨h, g, d, t, os⟩ : Shared).TypeIs (.ref a) "list" := ⟨_, hx, hc⟩
  have hT5 : (⟨h, g, d, t, os⟩ : Shared).TypeIs (.builtin "object.__class__") "getset_descriptor" := F.typeOf_object_class
  have f8 := sub_list_class_owner
  refine codeAny_call_builtin F.slot_gs_get.plain F.entry_gs_get (F.slot_gs_get.check _ _ _ _ _ _ _ _ hT5 (F.args_gs_get _ _ _) ?_)
  repeat (any_goals (first | assumption | wp_step))
  refine ⟨Code.quiet_builtin _ (by decide +kernel), codeAny_builtin F.entry_object_class ?_⟩
  repeat (any_goals (first | assumption | wp_step))

set_option maxHeartbeats 4000000 in
theorem class_entry_list {tk : Tok} {its : Array Value} {n : Nat} {sl : Array (Option Value)} {Q : Fin → Shared → Prop} (hx : h.get? a = some ⟨.type "list", none, .seq its n, sl⟩) (hq : Q (.done (.ret (.type "list"))) ⟨h, g, d, t, os⟩) :
    wpAny (model prog w) A (Builtin.«object.__getattribute__» ⟨[.ref a, .str "__class__" tk], []⟩) Q E ⟨h, g, d, t, os⟩ := by
  have hT : (⟨h, g, d, t, os⟩ : Shared).TypeIs (.ref a) "list" := ⟨_, hx, rfl⟩
  have hT5 : (⟨h, g, d, t, os⟩ : Shared).TypeIs (.builtin "object.__class__") "getset_descriptor" := F.typeOf_object_class
  have f4 := lk_list_class
  have f5 := F.typeOf_object_class
  have f6 := F.slot_gs_get.lookup
  have f7 := F.slot_gs_set.lookup
  unfold Builtin.«object.__getattribute__»
  repeat (any_goals (first | assumption | wp_step))
  refine class_get_list hx rfl ?_
  repeat (any_goals (first | assumption | wp_step))

set_option maxHeartbeats 4000000 in
theorem class_by_list {tk : Tok} {its : Array Value} {n : Nat} {sl : Array (Option Value)} {Q : Value → Shared → Prop} (hx : h.get? a = some ⟨.type "list", none, .seq its n, sl⟩) (hq : Q (.type "list") ⟨h, g, d, t, os⟩) : wpAny (model prog w) A (getAttrBy (.ref a) (.str "__class__" tk) false) Q E ⟨h, g, d, t, os⟩ := by
  have hT : (⟨h, g, d, t, os⟩ : Shared).TypeIs (.ref a) "list" := ⟨_, hx, rfl⟩
  have f2 := F.slot_list_getattribute.lookup
  have f3 := F.slot_list_getattribute.bind (.ref a)
  repeat (any_goals (first | assumption | wp_step))
  refine codeAny_call_builtin F.slot_list_getattribute.plain F.entry_list_ga (F.slot_list_getattribute.check _ _ _ _ _ _ _ _ hT (F.args_list_getattribute_2 _ _) (class_entry_list hx ?_))
  repeat (any_goals (first | assumption | wp_step))

set_option maxHeartbeats 4000000 in
theorem isi_nested_list {dep : Int} {tk : Tok} {its : Array Value} {n : Nat} {sl : Array (Option Value)} {Q : Fin → Shared → Prop} (hx : h.get? a = some ⟨.type "list", none, .seq its n, sl⟩) (hq : Q (.done (.ret (.bool false))) ⟨h, g, d, t + 1, os⟩) :
    wpAny (model prog w) A (Builtin.«isinstance.nested» ⟨[.ref a, .type "str", .int dep tk], []⟩) Q E ⟨h, g, d, t, os⟩ := by
  have hT : (⟨h, g, d, t, os⟩ : Shared).TypeIs (.ref a) "list" := ⟨_, hx, rfl⟩
  have hne := ne_list_str
  have hty := meta_str
  have hsub := sub_list_str
  unfold Builtin.«isinstance.nested»
  repeat (any_goals (first | assumption | with_reducible apply class_by_list hx | wp_step))

theorem isi_list {its : Array Value} {n : Nat} {sl : Array (Option Value)} {s : Shared} {Q : Value → Shared → Prop} (hx : s.heap.get? a = some ⟨.type "list", none, .seq its n, sl⟩) (hq : ∀ s', Grow s s' → Q (.bool false) s') :
    wpAny (model prog w) A (call (.builtin "isinstance") [.ref a, .type "str"]) Q E s := by
  obtain ⟨h, g, d, t, os⟩ := s
  refine call_isinstance (S := fun _ R s => (∃ sl', s.heap.get? a = some ⟨.type "list", none, .seq its n, sl'⟩) ∧ R (.ok (.ret (.bool false))) { s with toks := s.toks + 1 }) (fun _ _ _ _ s hs => ?_) ⟨⟨_, hx⟩, hq _ (Grow.toks _ _)⟩
  obtain ⟨h, g, d, t, os⟩ := s
  obtain ⟨⟨sl', hx⟩, hq⟩ := hs
  exact isinstance_outer (isi_nested_list hx hq) (by intro e; cases e)
end

-- tuple
theorem lk_tuple_iter : typeLookup (.type "tuple") "__iter__" = pure (some (.builtin "tuple.__iter__")) := by rw [typeLookup_type, builtinLookup_eq_fast]; kernel_rfl
theorem typeOf_tuple_iter : typeOf (.builtin "tuple.__iter__") = pure (.type "wrapper_descriptor") := by show builtinType _ = _; rw [builtinType_eq_fast]; kernel_rfl
theorem tuple_ga_none : typeLookup (.type "tuple") "__getattr__" = pure none := by rw [typeLookup_type, builtinLookup_eq_fast]; kernel_rfl
theorem sub_tuple_str : isSubtype (.type "tuple") (.type "str") = pure false := by rw [isSubtype_type]; kernel_rfl
theorem sub_tuple_module : isSubtype (.type "tuple") (.type "module") = pure false := by rw [isSubtype_type]; kernel_rfl
theorem ne_tuple_str : (Value.type "tuple" == Value.type "str") = false := by decide +kernel
theorem sub_tuple_owner : isSubtype (.type "tuple") (.type (".".intercalate ("tuple.__iter__".cutAt '.').dropLast)) = pure true := by
  have e0 : "tuple.__iter__".cutAt '.' = ["tuple", "__iter__"] := by first | rfl | decide +kernel
  have e1 : ".".intercalate (["tuple", "__iter__"] : List String).dropLast = "tuple" := by decide +kernel
  rw [e0, e1, isSubtype_type]; kernel_rfl
section
variable {prog : Program} {w : World} {A : Around} {E : Value → Shared → Prop} {h : Heap} {g : Array GenState} {d : Drawn} {t : Nat} {os : OsState} {a : Addr} {o : Obj}

set_option maxHeartbeats 2000000 in
theorem get_wd_tuple {R : Result → Shared → Prop} (hx : h.get? a = some o) (hc : o.cls = .type "tuple") (hq : ∀ x s', Grow ⟨h, g, d, t, os⟩ s' → R (.ok (.ret (.ref x))) s') :
    codeAny (model prog w) A (.call (.builtin "wrapper_descriptor.__get__") ⟨[.builtin "tuple.__iter__", .ref a, .type "tuple"], []⟩) R ⟨h, g, d, t, os⟩ := by
  have hT : (⟨h, g, d, t, os⟩ : Shared).TypeIs (.ref a) "tuple" := ⟨_, hx, hc⟩
  have hT5 : (⟨h, g, d, t, os⟩ : Shared).TypeIs (.builtin "tuple.__iter__") "wrapper_descriptor" := typeOf_tuple_iter
  have f8 := sub_tuple_owner
  refine codeAny_call_builtin lk_wd_get.plain entry_wd_get (lk_wd_get.check _ _ _ _ _ _ _ _ hT5 (args_wd_get _ _ _) ?_)
  unfold Builtin.«wrapper_descriptor.__get__»
  repeat (any_goals (first | assumption | wp_step))
  first
    | exact hq _ _ (Grow.alloc _ _ _)
    | (refine wpAny_bind (wpAny_newObj_type ?_ (by size_fits)); exact wpAny_pure (hq _ _ (Grow.alloc _ _ _)))

set_option maxHeartbeats 4000000 in
theorem entry_tuple {u : Tok} {its : Array Value} {n : Nat} {sl : Array (Option Value)} {Q : Fin → Shared → Prop} (hx : h.get? a = some ⟨.type "tuple", none, .seq its n, sl⟩) (hq : ∀ x s', Grow ⟨h, g, d, t, os⟩ s' → Q (.done (.ret (.ref x))) s') :
    wpAny (model prog w) A (Builtin.«object.__getattribute__» ⟨[.ref a, .str "__iter__" u], []⟩) Q E ⟨h, g, d, t, os⟩ := by
  have hT : (⟨h, g, d, t, os⟩ : Shared).TypeIs (.ref a) "tuple" := ⟨_, hx, rfl⟩
  have hT5 : (⟨h, g, d, t, os⟩ : Shared).TypeIs (.builtin "tuple.__iter__") "wrapper_descriptor" := typeOf_tuple_iter
  have f4 := lk_tuple_iter
  have f5 := lk_wd_get.lookup
  have f6 := lk_wd_set
  have f7 := lk_wd_del
  unfold Builtin.«object.__getattribute__»
  repeat (any_goals (first | assumption | wp_step))
  refine get_wd_tuple hx rfl fun v s' G => ?_
  repeat (any_goals (first | assumption | wp_step))
  exact hq _ _ G

set_option maxHeartbeats 4000000 in
theorem ga_tuple {u : Tok} {its : Array Value} {n : Nat} {sl : Array (Option Value)} {Q : Value → Shared → Prop} (hx : h.get? a = some ⟨.type "tuple", none, .seq its n, sl⟩) (hq : ∀ x s', Grow ⟨h, g, d, t, os⟩ s' → Q (.ref x) s') :
    wpAny (model prog w) A (getAttrBy (.ref a) (.str "__iter__" u) false) Q E ⟨h, g, d, t, os⟩ := by
  have hT : (⟨h, g, d, t, os⟩ : Shared).TypeIs (.ref a) "tuple" := ⟨_, hx, rfl⟩
  have f2 := F.slot_tuple_getattribute.lookup
  have f3 := F.slot_tuple_getattribute.bind (.ref a)
  have f8 := tuple_ga_none
  repeat (any_goals (first | assumption | wp_step))
  refine codeAny_call_builtin F.slot_tuple_getattribute.plain F.entry_tuple_ga (F.slot_tuple_getattribute.check _ _ _ _ _ _ _ _ hT (F.args_tuple_getattribute_2 _ _) (entry_tuple hx fun v s' G => ?_))
  repeat (any_goals (first | assumption | wp_step))
  exact hq _ _ G

set_option maxHeartbeats 4000000 in
theorem hasattr_tuple {u : Tok} {its : Array Value} {n : Nat} {sl : Array (Option Value)} {s : Shared} {Q : Value → Shared → Prop} (hx : s.heap.get? a = some ⟨.type "tuple", none, .seq its n, sl⟩) (hq : ∀ s', Grow s s' → Q (.bool true) s') :
    wpAny (model prog w) A (call (.builtin "hasattr") [.ref a, .str "__iter__" u]) Q E s := by
  obtain ⟨h, g, d, t, os⟩ := s
  refine Calls.call_function_entry kind_hasattr plain_hasattr entry_hasattr (args_hasattr _ _) ?_
  have hT : (⟨h, g, d, t, os⟩ : Shared).TypeIs (.ref a) "tuple" := ⟨_, hx, rfl⟩
  have f1 := lk_tuple_iter
  have f2 := F.slot_tuple_getattribute.lookup
  have f3 := sub_tuple_module
  have f4 := sub_str_str
  have f5 : (⟨h, g, d, t, os⟩ : Shared).TypeIs (.str "__iter__" u) "str" := rfl
  unfold Builtin.«hasattr»
  repeat (any_goals (first | assumption | (with_reducible refine ga_tuple hx fun x s' G => ?_) | wp_step))
  exact ⟨_, rfl, hq _ (by assumption)⟩

theorem lk_tuple_class : typeLookup (.type "tuple") "__class__" = pure (some (.builtin "object.__class__")) := by rw [typeLookup_type, builtinLookup_eq_fast]; kernel_rfl
theorem sub_tuple_class_owner : isSubtype (.type "tuple") (.type (".".intercalate ("object.__class__".cutAt '.').dropLast)) = pure true := by
  rw [F.owner_object_class, isSubtype_type]; kernel_rfl

set_option maxHeartbeats 4000000 in
theorem class_get_tuple {R : Result → Shared → Prop} (hx : h.get? a = some o) (hc : o.cls = .type "tuple") (hq : R (.ok (.ret (.type "tuple"))) ⟨h, g, d, t, os⟩) :
    codeAny (model prog w) A (.call (.builtin "getset_descriptor.__get__") ⟨[.builtin "object.__class__", .ref a, .type "tuple"], []⟩) R ⟨h, g, d, t, os⟩ := by
  have hT : (⟨h, g, d, t, os⟩ : Shared).TypeIs (.ref a) "tuple" := ⟨_, hx, hc⟩
  have hT5 : (⟨h, g, d, t, os⟩ : Shared).TypeIs (.builtin "object.__class__") "getset_descriptor" := F.typeOf_object_class
  have f8 := sub_tuple_class_owner
  refine codeAny_call_builtin F.slot_gs_get.plain F.entry_gs_get (F.slot_gs_get.check _ _ _ _ _ _ _ _ hT5 (F.args_gs_get _ _ _) ?_)
  repeat (any_goals (first | assumption | wp_step))
  refine ⟨Code.quiet_builtin _ (by decide +kernel), codeAny_builtin F.entry_object_class ?_⟩
  repeat (any_goals (first | assumption | wp_step))

set_option maxHeartbeats 4000000 in
theorem class_entry_tuple {tk : Tok} {its : Array Value} {n : Nat} {sl : Array (Option Value)} {Q : Fin → Shared → Prop} (hx : h.get? a = some ⟨.type "tuple", none, .seq its n, sl⟩) (hq : Q (.done (.ret (.type "tuple"))) ⟨h, g, d, t, os⟩) :
    wpAny (model prog w) A (Builtin.«object.__getattribute__» ⟨[.ref a, .str "__class__" tk], []⟩) Q E ⟨h, g, d, t, os⟩ := by
  have hT : (⟨h, g, d, t, os⟩ : Shared).TypeIs (.ref a) "tuple" := ⟨_, hx, rfl⟩
  have hT5 : (⟨h, g, d, t, os⟩ : Shared).TypeIs (.builtin "object.__class__") "getset_descriptor" := F.typeOf_object_class
  have f4 := lk_tuple_class
  have f5 := F.typeOf_object_class
  have f6 := F.slot_gs_get.lookup
  have f7 := F.slot_gs_set.lookup
  unfold Builtin.«object.__getattribute__»
  repeat (any_goals (first | assumption | wp_step))
  refine class_get_tuple hx rfl ?_
  repeat (any_goals (first | assumption | wp_step))

set_option maxHeartbeats 4000000 in
theorem class_by_tuple {tk : Tok} {its : Array Value} {n : Nat} {sl : Array (Option Value)} {Q : Value → Shared → Prop} (hx : h.get? a = some ⟨.type "tuple", none, .seq its n, sl⟩) (hq : Q (.type "tuple") ⟨h, g, d, t, os⟩) : wpAny (model prog w) A (getAttrBy (.ref a) (.str "__class__" tk) false) Q E ⟨h, g, d, t, os⟩ := by
  have hT : (⟨h, g, d, t, os⟩ : Shared).TypeIs (.ref a) "tuple" := ⟨_, hx, rfl⟩
  have f2 := F.slot_tuple_getattribute.lookup
  have f3 := F.slot_tuple_getattribute.bind (.ref a)
  repeat (any_goals (first | assumption | wp_step))
  refine codeAny_call_builtin F.slot_tuple_getattribute.plain F.entry_tuple_ga (F.slot_tuple_getattribute.check _ _ _ _ _ _ _ _ hT (F.args_tuple_getattribute_2 _ _) (class_entry_tuple hx ?_))
  repeat (any_goals (first | assumption | wp_step))

set_option maxHeartbeats 4000000 in
theorem isi_nested_tuple {dep : Int} {tk : Tok} {its : Array Value} {n : Nat} {sl : Array (Option Value)} {Q : Fin → Shared → Prop} (hx : h.get? a = some ⟨.type "tuple", none, .seq its n, sl⟩) (hq : Q (.done (.ret (.bool false))) ⟨h, g, d, t + 1, os⟩) :
    wpAny (model prog w) A (Builtin.«isinstance.nested» ⟨[.ref a, .type "str", .int dep tk], []⟩) Q E ⟨h, g, d, t, os⟩ := by
  have hT : (⟨h, g, d, t, os⟩ : Shared).TypeIs (.ref a) "tuple" := ⟨_, hx, rfl⟩
  have hne := ne_tuple_str
  have hty := meta_str
  have hsub := sub_tuple_str
  unfold Builtin.«isinstance.nested»
  repeat (any_goals (first | assumption | with_reducible apply class_by_tuple hx | wp_step))

theorem isi_tuple {its : Array Value} {n : Nat} {sl : Array (Option Value)} {s : Shared} {Q : Value → Shared → Prop} (hx : s.heap.get? a = some ⟨.type "tuple", none, .seq its n, sl⟩) (hq : ∀ s', Grow s s' → Q (.bool false) s') :
    wpAny (model prog w) A (call (.builtin "isinstance") [.ref a, .type "str"]) Q E s := by
  obtain ⟨h, g, d, t, os⟩ := s
  refine call_isinstance (S := fun _ R s => (∃ sl', s.heap.get? a = some ⟨.type "tuple", none, .seq its n, sl'⟩) ∧ R (.ok (.ret (.bool false))) { s with toks := s.toks + 1 }) (fun _ _ _ _ s hs => ?_) ⟨⟨_, hx⟩, hq _ (Grow.toks _ _)⟩
  obtain ⟨h, g, d, t, os⟩ := s
  obtain ⟨⟨sl', hx⟩, hq⟩ := hs
  exact isinstance_outer (isi_nested_tuple hx hq) (by intro e; cases e)
end

-- list_iterator
theorem lk_list_iterator_iter : typeLookup (.type "list_iterator") "__iter__" = pure (some (.builtin "list_iterator.__iter__")) := by rw [typeLookup_type, builtinLookup_eq_fast]; kernel_rfl
theorem typeOf_list_iterator_iter : typeOf (.builtin "list_iterator.__iter__") = pure (.type "wrapper_descriptor") := by show builtinType _ = _; rw [builtinType_eq_fast]; kernel_rfl
theorem list_iterator_ga_none : typeLookup (.type "list_iterator") "__getattr__" = pure none := by rw [typeLookup_type, builtinLookup_eq_fast]; kernel_rfl
theorem sub_list_iterator_str : isSubtype (.type "list_iterator") (.type "str") = pure false := by rw [isSubtype_type]; kernel_rfl
theorem sub_list_iterator_module : isSubtype (.type "list_iterator") (.type "module") = pure false := by rw [isSubtype_type]; kernel_rfl
theorem ne_list_iterator_str : (Value.type "list_iterator" == Value.type "str") = false := by decide +kernel
theorem sub_list_iterator_owner : isSubtype (.type "list_iterator") (.type (".".intercalate ("list_iterator.__iter__".cutAt '.').dropLast)) = pure true := by
  have e0 : "list_iterator.__iter__".cutAt '.' = ["list_iterator", "__iter__"] := by first | rfl | decide +kernel
  have e1 : ".".intercalate (["list_iterator", "__iter__"] : List String).dropLast = "list_iterator" := by decide +kernel
  rw [e0, e1, isSubtype_type]; kernel_rfl
theorem slot_list_iterator_ga : Slot "list_iterator" "__getattribute__" "object.__getattribute__" :=
  .of (owner := "object") (n := "__getattribute__") (by rw [typeLookup_type, builtinLookup_eq_fast]; kernel_rfl) (by decide +kernel) (by decide +kernel) (by decide +kernel)
    (by first | exact .inl (by decide +kernel) | exact .inr (by decide +kernel)) (by rw [isSubtype_type]; kernel_rfl)
section
variable {prog : Program} {w : World} {A : Around} {E : Value → Shared → Prop} {h : Heap} {g : Array GenState} {d : Drawn} {t : Nat} {os : OsState} {a : Addr} {o : Obj}

set_option maxHeartbeats 2000000 in
theorem get_wd_list_iterator {R : Result → Shared → Prop} (hx : h.get? a = some o) (hc : o.cls = .type "list_iterator") (hq : ∀ x s', Grow ⟨h, g, d, t, os⟩ s' → R (.ok (.ret (.ref x))) s') :
    codeAny (model prog w) A (.call (.builtin "wrapper_descriptor.__get__") ⟨[.builtin "list_iterator.__iter__", .ref a, .type "list_iterator"], []⟩) R ⟨h, g, d, t, os⟩ := by
  have hT : (⟨h, g, d, t, os⟩ : Shared).TypeIs (.ref a) "list_iterator" := ⟨_, hx, hc⟩
  have hT5 : (⟨h, g, d, t, os⟩ : Shared).TypeIs (.builtin "list_iterator.__iter__") "wrapper_descriptor" := typeOf_list_iterator_iter
  have f8 := sub_list_iterator_owner
  refine codeAny_call_builtin lk_wd_get.plain entry_wd_get (lk_wd_get.check _ _ _ _ _ _ _ _ hT5 (args_wd_get _ _ _) ?_)
  unfold Builtin.«wrapper_descriptor.__get__»
  repeat (any_goals (first | assumption | wp_step))
  first
    | exact hq _ _ (Grow.alloc _ _ _)
    | (refine wpAny_bind (wpAny_newObj_type ?_ (by size_fits)); exact wpAny_pure (hq _ _ (Grow.alloc _ _ _)))

set_option maxHeartbeats 4000000 in
theorem entry_list_iterator {u : Tok} {vs : Array Value} {sl : Array (Option Value)} {Q : Fin → Shared → Prop} (hx : h.get? a = some ⟨.type "list_iterator", none, .fields vs, sl⟩) (hq : ∀ x s', Grow ⟨h, g, d, t, os⟩ s' → Q (.done (.ret (.ref x))) s') :
    wpAny (model prog w) A (Builtin.«object.__getattribute__» ⟨[.ref a, .str "__iter__" u], []⟩) Q E ⟨h, g, d, t, os⟩ := by
  have hT : (⟨h, g, d, t, os⟩ : Shared).TypeIs (.ref a) "list_iterator" := ⟨_, hx, rfl⟩
  have hT5 : (⟨h, g, d, t, os⟩ : Shared).TypeIs (.builtin "list_iterator.__iter__") "wrapper_descriptor" := typeOf_list_iterator_iter
  have f4 := lk_list_iterator_iter
  have f5 := lk_wd_get.lookup
  have f6 := lk_wd_set
  have f7 := lk_wd_del
  unfold Builtin.«object.__getattribute__»
  repeat (any_goals (first | assumption | wp_step))
  refine get_wd_list_iterator hx rfl fun v s' G => ?_
  repeat (any_goals (first | assumption | wp_step))
  exact hq _ _ G

set_option maxHeartbeats 4000000 in
theorem ga_list_iterator {u : Tok} {vs : Array Value} {sl : Array (Option Value)} {Q : Value → Shared → Prop} (hx : h.get? a = some ⟨.type "list_iterator", none, .fields vs, sl⟩) (hq : ∀ x s', Grow ⟨h, g, d, t, os⟩ s' → Q (.ref x) s') :
    wpAny (model prog w) A (getAttrBy (.ref a) (.str "__iter__" u) false) Q E ⟨h, g, d, t, os⟩ := by
  have hT : (⟨h, g, d, t, os⟩ : Shared).TypeIs (.ref a) "list_iterator" := ⟨_, hx, rfl⟩
  have f2 := slot_list_iterator_ga.lookup
  have f3 := slot_list_iterator_ga.bind (.ref a)
  have f8 := list_iterator_ga_none
  repeat (any_goals (first | assumption | wp_step))
  refine codeAny_call_builtin slot_list_iterator_ga.plain F.entry_object_getattribute (slot_list_iterator_ga.check _ _ _ _ _ _ _ _ hT (F.args_object_getattribute_2 _ _) (entry_list_iterator hx fun v s' G => ?_))
  repeat (any_goals (first | assumption | wp_step))
  exact hq _ _ G

set_option maxHeartbeats 4000000 in
theorem hasattr_list_iterator {u : Tok} {vs : Array Value} {sl : Array (Option Value)} {s : Shared} {Q : Value → Shared → Prop} (hx : s.heap.get? a = some ⟨.type "list_iterator", none, .fields vs, sl⟩) (hq : ∀ s', Grow s s' → Q (.bool true) s') :
    wpAny (model prog w) A (call (.builtin "hasattr") [.ref a, .str "__iter__" u]) Q E s := by
  obtain ⟨h, g, d, t, os⟩ := s
  refine Calls.call_function_entry kind_hasattr plain_hasattr entry_hasattr (args_hasattr _ _) ?_
  have hT : (⟨h, g, d, t, os⟩ : Shared).TypeIs (.ref a) "list_iterator" := ⟨_, hx, rfl⟩
  have f1 := lk_list_iterator_iter
  have f2 := slot_list_iterator_ga.lookup
  have f3 := sub_list_iterator_module
  have f4 := sub_str_str
  have f5 : (⟨h, g, d, t, os⟩ : Shared).TypeIs (.str "__iter__" u) "str" := rfl
  unfold Builtin.«hasattr»
  repeat (any_goals (first | assumption | (with_reducible refine ga_list_iterator hx fun x s' G => ?_) | wp_step))
  exact ⟨_, rfl, hq _ (by assumption)⟩

theorem lk_list_iterator_class : typeLookup (.type "list_iterator") "__class__" = pure (some (.builtin "object.__class__")) := by rw [typeLookup_type, builtinLookup_eq_fast]; kernel_rfl
theorem sub_list_iterator_class_owner : isSubtype (.type "list_iterator") (.type (".".intercalate ("object.__class__".cutAt '.').dropLast)) = pure true := by
  rw [F.owner_object_class, isSubtype_type]; kernel_rfl

set_option maxHeartbeats 4000000 in
theorem class_get_list_iterator {R : Result → Shared → Prop} (hx : h.get? a = some o) (hc : o.cls = .type "list_iterator") (hq : R (.ok (.ret (.type "list_iterator"))) ⟨h, g, d, t, os⟩) :
    codeAny (model prog w) A (.call (.builtin "getset_descriptor.__get__") ⟨[.builtin "object.__class__", .ref a, .type "list_iterator"], []⟩) R ⟨h, g, d, t, os⟩ := by
  have hT : (⟨h, g, d, t, os⟩ : Shared).TypeIs (.ref a) "list_iterator" := ⟨_, hx, hc⟩
  have hT5 : (⟨h, g, d, t, os⟩ : Shared).TypeIs (.builtin "object.__class__") "getset_descriptor" := F.typeOf_object_class
  have f8 := sub_list_iterator_class_owner
  refine codeAny_call_builtin F.slot_gs_get.plain F.entry_gs_get (F.slot_gs_get.check _ _ _ _ _ _ _ _ hT5 (F.args_gs_get _ _ _) ?_)
  repeat (any_goals (first | assumption | wp_step))
  refine ⟨Code.quiet_builtin _ (by decide +kernel), codeAny_builtin F.entry_object_class ?_⟩
  repeat (any_goals (first | assumption | wp_step))

set_option maxHeartbeats 4000000 in
theorem class_entry_list_iterator {tk : Tok} {vs : Array Value} {sl : Array (Option Value)} {Q : Fin → Shared → Prop} (hx : h.get? a = some ⟨.type "list_iterator", none, .fields vs, sl⟩) (hq : Q (.done (.ret (.type "list_iterator"))) ⟨h, g, d, t, os⟩) :
    wpAny (model prog w) A (Builtin.«object.__getattribute__» ⟨[.ref a, .str "__class__" tk], []⟩) Q E ⟨h, g, d, t, os⟩ := by
  have hT : (⟨h, g, d, t, os⟩ : Shared).TypeIs (.ref a) "list_iterator" := ⟨_, hx, rfl⟩
  have hT5 : (⟨h, g, d, t, os⟩ : Shared).TypeIs (.builtin "object.__class__") "getset_descriptor" := F.typeOf_object_class
  have f4 := lk_list_iterator_class
  have f5 := F.typeOf_object_class
  have f6 := F.slot_gs_get.lookup
  have f7 := F.slot_gs_set.lookup
  unfold Builtin.«object.__getattribute__»
  repeat (any_goals (first | assumption | wp_step))
  refine class_get_list_iterator hx rfl ?_
  repeat (any_goals (first | assumption | wp_step))

set_option maxHeartbeats 4000000 in
theorem class_by_list_iterator {tk : Tok} {vs : Array Value} {sl : Array (Option Value)} {Q : Value → Shared → Prop} (hx : h.get? a = some ⟨.type "list_iterator", none, .fields vs, sl⟩) (hq : Q (.type "list_iterator") ⟨h, g, d, t, os⟩) : wpAny (model prog w) A (getAttrBy (.ref a) (.str "__class__" tk) false) Q E ⟨h, g, d, t, os⟩ := by
  have hT : (⟨h, g, d, t, os⟩ : Shared).TypeIs (.ref a) "list_iterator" := ⟨_, hx, rfl⟩
  have f2 := slot_list_iterator_ga.lookup
  have f3 := slot_list_iterator_ga.bind (.ref a)
  repeat (any_goals (first | assumption | wp_step))
  refine codeAny_call_builtin slot_list_iterator_ga.plain F.entry_object_getattribute (slot_list_iterator_ga.check _ _ _ _ _ _ _ _ hT (F.args_object_getattribute_2 _ _) (class_entry_list_iterator hx ?_))
  repeat (any_goals (first | assumption | wp_step))

set_option maxHeartbeats 4000000 in
theorem isi_nested_list_iterator {dep : Int} {tk : Tok} {vs : Array Value} {sl : Array (Option Value)} {Q : Fin → Shared → Prop} (hx : h.get? a = some ⟨.type "list_iterator", none, .fields vs, sl⟩) (hq : Q (.done (.ret (.bool false))) ⟨h, g, d, t + 1, os⟩) :
    wpAny (model prog w) A (Builtin.«isinstance.nested» ⟨[.ref a, .type "str", .int dep tk], []⟩) Q E ⟨h, g, d, t, os⟩ := by
  have hT : (⟨h, g, d, t, os⟩ : Shared).TypeIs (.ref a) "list_iterator" := ⟨_, hx, rfl⟩
  have hne := ne_list_iterator_str
  have hty := meta_str
  have hsub := sub_list_iterator_str
  unfold Builtin.«isinstance.nested»
  repeat (any_goals (first | assumption | with_reducible apply class_by_list_iterator hx | wp_step))

theorem isi_list_iterator {vs : Array Value} {sl : Array (Option Value)} {s : Shared} {Q : Value → Shared → Prop} (hx : s.heap.get? a = some ⟨.type "list_iterator", none, .fields vs, sl⟩) (hq : ∀ s', Grow s s' → Q (.bool false) s') :
    wpAny (model prog w) A (call (.builtin "isinstance") [.ref a, .type "str"]) Q E s := by
  obtain ⟨h, g, d, t, os⟩ := s
  refine call_isinstance (S := fun _ R s => (∃ sl', s.heap.get? a = some ⟨.type "list_iterator", none, .fields vs, sl'⟩) ∧ R (.ok (.ret (.bool false))) { s with toks := s.toks + 1 }) (fun _ _ _ _ s hs => ?_) ⟨⟨_, hx⟩, hq _ (Grow.toks _ _)⟩
  obtain ⟨h, g, d, t, os⟩ := s
  obtain ⟨⟨sl', hx⟩, hq⟩ := hs
  exact isinstance_outer (isi_nested_list_iterator hx hq) (by intro e; cases e)
end

-- tuple_iterator
theorem lk_tuple_iterator_iter : typeLookup (.type "tuple_iterator") "__iter__" = pure (some (.builtin "tuple_iterator.__iter__")) := by rw [typeLookup_type, builtinLookup_eq_fast]; kernel_rfl
theorem typeOf_tuple_iterator_iter : typeOf (.builtin "tuple_iterator.__iter__") = pure (.type "wrapper_descriptor") := by show builtinType _ = _; rw [builtinType_eq_fast]; kernel_rfl
theorem tuple_iterator_ga_none : typeLookup (.type "tuple_iterator") "__getattr__" = pure none := by rw [typeLookup_type, builtinLookup_eq_fast]; kernel_rfl
theorem sub_tuple_iterator_str : isSubtype (.type "tuple_iterator") (.type "str") = pure false := by rw [isSubtype_type]; kernel_rfl
theorem sub_tuple_iterator_module : isSubtype (.type "tuple_iterator") (.type "module") = pure false := by rw [isSubtype_type]; kernel_rfl
theorem ne_tuple_iterator_str : (Value.type "tuple_iterator" == Value.type "str") = false := by decide +kernel
theorem sub_tuple_iterator_owner : isSubtype (.type "tuple_iterator") (.type (".".intercalate ("tuple_iterator.__iter__".cutAt '.').dropLast)) = pure true := by
  have e0 : "tuple_iterator.__iter__".cutAt '.' = ["tuple_iterator", "__iter__"] := by first | rfl | decide +kernel
  have e1 : ".".intercalate (["tuple_iterator", "__iter__"] : List String).dropLast = "tuple_iterator" := by decide +kernel
  rw [e0, e1, isSubtype_type]; kernel_rfl
theorem slot_tuple_iterator_ga : Slot "tuple_iterator" "__getattribute__" "object.__getattribute__" :=
  .of (owner := "object") (n := "__getattribute__") (by rw [typeLookup_type, builtinLookup_eq_fast]; kernel_rfl) (by decide +kernel) (by decide +kernel) (by decide +kernel)
    (by first | exact .inl (by decide +kernel) | exact .inr (by decide +kernel)) (by rw [isSubtype_type]; kernel_rfl)
section
variable {prog : Program} {w : World} {A : Around} {E : Value → Shared → Prop} {h : Heap} {g : Array GenState} {d : Drawn} {t : Nat} {os : OsState} {a : Addr} {o : Obj}

set_option maxHeartbeats 2000000 in
theorem get_wd_tuple_iterator {R : Result → Shared → Prop} (hx : h.get? a = some o) (hc : o.cls = .type "tuple_iterator") (hq : ∀ x s', Grow ⟨h, g, d, t, os⟩ s' → R (.ok (.ret (.ref x))) s') :
    codeAny (model prog w) A (.call (.builtin "wrapper_descriptor.__get__") ⟨[.builtin "tuple_iterator.__iter__", .ref a, .type "tuple_iterator"], []⟩) R ⟨h, g, d, t, os⟩ := by
  have hT : (⟨h, g, d, t, os⟩ : Shared).TypeIs (.ref a) "tuple_iterator" := ⟨_, hx, hc⟩
  have hT5 : (⟨h, g, d, t, os⟩ : Shared).TypeIs (.builtin "tuple_iterator.__iter__") "wrapper_descriptor" := typeOf_tuple_iterator_iter
  have f8 := sub_tuple_iterator_owner
  refine codeAny_call_builtin lk_wd_get.plain entry_wd_get (lk_wd_get.check _ _ _ _ _ _ _ _ hT5 (args_wd_get _ _ _) ?_)
  unfold Builtin.«wrapper_descriptor.__get__»
  repeat (any_goals (first | assumption | wp_step))
  first
    | exact hq _ _ (Grow.alloc _ _ _)
    | (refine wpAny_bind (wpAny_newObj_type ?_ (by size_fits)); exact wpAny_pure (hq _ _ (Grow.alloc _ _ _)))

set_option maxHeartbeats 4000000 in
theorem entry_tuple_iterator {u : Tok} {vs : Array Value} {sl : Array (Option Value)} {Q : Fin → Shared → Prop} (hx : h.get? a = some ⟨.type "tuple_iterator", none, .fields vs, sl⟩) (hq : ∀ x s', Grow ⟨h, g, d, t, os⟩ s' → Q (.done (.ret (.ref x))) s') :
    wpAny (model prog w) A (Builtin.«object.__getattribute__» ⟨[.ref a, .str "__iter__" u], []⟩) Q E ⟨h, g, d, t, os⟩ := by
  have hT : (⟨h, g, d, t, os⟩ : Shared).TypeIs (.ref a) "tuple_iterator" := ⟨_, hx, rfl⟩
  have hT5 : (⟨h, g, d, t, os⟩ : Shared).TypeIs (.builtin "tuple_iterator.__iter__") "wrapper_descriptor" := typeOf_tuple_iterator_iter
  have f4 := lk_tuple_iterator_iter
  have f5 := lk_wd_get.lookup
  have f6 := lk_wd_set
  have f7 := lk_wd_del
  unfold Builtin.«object.__getattribute__»
  repeat (any_goals (first | assumption | wp_step))
  refine get_wd_tuple_iterator hx rfl fun v s' G => ?_
  repeat (any_goals (first | assumption | wp_step))
  exact hq _ _ G

set_option maxHeartbeats 4000000 in
theorem ga_tuple_iterator {u : Tok} {vs : Array Value} {sl : Array (Option Value)} {Q : Value → Shared → Prop} (hx : h.get? a = some ⟨.type "tuple_iterator", none, .fields vs, sl⟩) (hq : ∀ x s', Grow ⟨h, g, d, t, os⟩ s' → Q (.ref x) s') :
    wpAny (model prog w) A (getAttrBy (.ref a) (.str "__iter__" u) false) Q E ⟨h, g, d, t, os⟩ := by
  have hT : (⟨h, g, d, t, os⟩ : Shared).TypeIs (.ref a) "tuple_iterator" := ⟨_, hx, rfl⟩
  have f2 := slot_tuple_iterator_ga.lookup
  have f3 := slot_tuple_iterator_ga.bind (.ref a)
  have f8 := tuple_iterator_ga_none
  repeat (any_goals (first | assumption | wp_step))
  refine codeAny_call_builtin slot_tuple_iterator_ga.plain F.entry_object_getattribute (slot_tuple_iterator_ga.check _ _ _ _ _ _ _ _ hT (F.args_object_getattribute_2 _ _) (entry_tuple_iterator hx fun v s' G => ?_))
  repeat (any_goals (first | assumption | wp_step))
  exact hq _ _ G

set_option maxHeartbeats 4000000 in
theorem hasattr_tuple_iterator {u : Tok} {vs : Array Value} {sl : Array (Option Value)} {s : Shared} {Q : Value → Shared → Prop} (hx : s.heap.get? a = some ⟨.type "tuple_iterator", none, .fields vs, sl⟩) (hq : ∀ s', Grow s s' → Q (.bool true) s') :
    wpAny (model prog w) A (call (.builtin "hasattr") [.ref a, .str "__iter__" u]) Q E s := by
  obtain ⟨h, g, d, t, os⟩ := s
  refine Calls.call_function_entry kind_hasattr plain_hasattr entry_hasattr (args_hasattr _ _) ?_
  have hT : (⟨h, g, d, t, os⟩ : Shared).TypeIs (.ref a) "tuple_iterator" := ⟨_, hx, rfl⟩
  have f1 := lk_tuple_iterator_iter
  have f2 := slot_tuple_iterator_ga.lookup
  have f3 := sub_tuple_iterator_module
  have f4 := sub_str_str
  have f5 : (⟨h, g, d, t, os⟩ : Shared).TypeIs (.str "__iter__" u) "str" := rfl
  unfold Builtin.«hasattr»
  repeat (any_goals (first | assumption | (with_reducible refine ga_tuple_iterator hx fun x s' G => ?_) | wp_step))
  exact ⟨_, rfl, hq _ (by assumption)⟩

theorem lk_tuple_iterator_class : typeLookup (.type "tuple_iterator") "__class__" = pure (some (.builtin "object.__class__")) := by rw [typeLookup_type, builtinLookup_eq_fast]; kernel_rfl
theorem sub_tuple_iterator_class_owner : isSubtype (.type "tuple_iterator") (.type (".".intercalate ("object.__class__".cutAt '.').dropLast)) = pure true := by
  rw [F.owner_object_class, isSubtype_type]; kernel_rfl

set_option maxHeartbeats 4000000 in
theorem class_get_tuple_iterator {R : Result → Shared → Prop} (hx : h.get? a = some o) (hc : o.cls = .type "tuple_iterator") (hq : R (.ok (.ret (.type "tuple_iterator"))) ⟨h, g, d, t, os⟩) :
    codeAny (model prog w) A (.call (.builtin "getset_descriptor.__get__") ⟨[.builtin "object.__class__", .ref a, .type "tuple_iterator"], []⟩) R ⟨h, g, d, t, os⟩ := by
  have hT : (⟨h, g, d, t, os⟩ : Shared).TypeIs (.ref a) "tuple_iterator" := ⟨_, hx, hc⟩
  have hT5 : (⟨h, g, d, t, os⟩ : Shared).TypeIs (.builtin "object.__class__") "getset_descriptor" := F.typeOf_object_class
  have f8 := sub_tuple_iterator_class_owner
  refine codeAny_call_builtin F.slot_gs_get.plain F.entry_gs_get (F.slot_gs_get.check _ _ _ _ _ _ _ _ hT5 (F.args_gs_get _ _ _) ?_)
  repeat (any_goals (first | assumption | wp_step))
  refine ⟨Code.quiet_builtin _ (by decide +kernel), codeAny_builtin F.entry_object_class ?_⟩
  repeat (any_goals (first | assumption | wp_step))

set_option maxHeartbeats 4000000 in
theorem class_entry_tuple_iterator {tk : Tok} {vs : Array Value} {sl : Array (Option Value)} {Q : Fin → Shared → Prop} (hx : h.get? a = some ⟨.type "tuple_iterator", none, .fields vs, sl⟩) (hq : Q (.done (.ret (.type "tuple_iterator"))) ⟨h, g, d, t, os⟩) :
    wpAny (model prog w) A (Builtin.«object.__getattribute__» ⟨[.ref a, .str "__class__" tk], []⟩) Q E ⟨h, g, d, t, os⟩ := by
  have hT : (⟨h, g, d, t, os⟩ : Shared).TypeIs (.ref a) "tuple_iterator" := ⟨_, hx, rfl⟩
  have hT5 : (⟨h, g, d, t, os⟩ : Shared).TypeIs (.builtin "object.__class__") "getset_descriptor" := F.typeOf_object_class
  have f4 := lk_tuple_iterator_class
  have f5 := F.typeOf_object_class
  have f6 := F.slot_gs_get.lookup
  have f7 := F.slot_gs_set.lookup
  unfold Builtin.«object.__getattribute__»
  repeat (any_goals (first | assumption | wp_step))
  refine class_get_tuple_iterator hx rfl ?_
  repeat (any_goals (first | assumption | wp_step))

set_option maxHeartbeats 4000000 in
theorem class_by_tuple_iterator {tk : Tok} {vs : Array Value} {sl : Array (Option Value)} {Q : Value → Shared → Prop} (hx : h.get? a = some ⟨.type "tuple_iterator", none, .fields vs, sl⟩) (hq : Q (.type "tuple_iterator") ⟨h, g, d, t, os⟩) : wpAny (model prog w) A (getAttrBy (.ref a) (.str "__class__" tk) false) Q E ⟨h, g, d, t, os⟩ := by
  have hT : (⟨h, g, d, t, os⟩ : Shared).TypeIs (.ref a) "tuple_iterator" := ⟨_, hx, rfl⟩
  have f2 := slot_tuple_iterator_ga.lookup
  have f3 := slot_tuple_iterator_ga.bind (.ref a)
  repeat (any_goals (first | assumption | wp_step))
  refine codeAny_call_builtin slot_tuple_iterator_ga.plain F.entry_object_getattribute (slot_tuple_iterator_ga.check _ _ _ _ _ _ _ _ hT (F.args_object_getattribute_2 _ _) (class_entry_tuple_iterator hx ?_))
  repeat (any_goals (first | assumption | wp_step))

set_option maxHeartbeats 4000000 in
theorem isi_nested_tuple_iterator {dep : Int} {tk : Tok} {vs : Array Value} {sl : Array (Option Value)} {Q : Fin → Shared → Prop} (hx : h.get? a = some ⟨.type "tuple_iterator", none, .fields vs, sl⟩) (hq : Q (.done (.ret (.bool false))) ⟨h, g, d, t + 1, os⟩) :
    wpAny (model prog w) A (Builtin.«isinstance.nested» ⟨[.ref a, .type "str", .int dep tk], []⟩) Q E ⟨h, g, d, t, os⟩ := by
  have hT : (⟨h, g, d, t, os⟩ : Shared).TypeIs (.ref a) "tuple_iterator" := ⟨_, hx, rfl⟩
  have hne := ne_tuple_iterator_str
  have hty := meta_str
  have hsub := sub_tuple_iterator_str
  unfold Builtin.«isinstance.nested»
  repeat (any_goals (first | assumption | with_reducible apply class_by_tuple_iterator hx | wp_step))

theorem isi_tuple_iterator {vs : Array Value} {sl : Array (Option Value)} {s : Shared} {Q : Value → Shared → Prop} (hx : s.heap.get? a = some ⟨.type "tuple_iterator", none, .fields vs, sl⟩) (hq : ∀ s', Grow s s' → Q (.bool false) s') :
    wpAny (model prog w) A (call (.builtin "isinstance") [.ref a, .type "str"]) Q E s := by
  obtain ⟨h, g, d, t, os⟩ := s
  refine call_isinstance (S := fun _ R s => (∃ sl', s.heap.get? a = some ⟨.type "tuple_iterator", none, .fields vs, sl'⟩) ∧ R (.ok (.ret (.bool false))) { s with toks := s.toks + 1 }) (fun _ _ _ _ s hs => ?_) ⟨⟨_, hx⟩, hq _ (Grow.toks _ _)⟩
  obtain ⟨h, g, d, t, os⟩ := s
  obtain ⟨⟨sl', hx⟩, hq⟩ := hs
  exact isinstance_outer (isi_nested_tuple_iterator hx hq) (by intro e; cases e)
end

-- generator
theorem lk_generator_iter : typeLookup (.type "generator") "__iter__" = pure (some (.builtin "generator.__iter__")) := by rw [typeLookup_type, builtinLookup_eq_fast]; kernel_rfl
theorem typeOf_generator_iter : typeOf (.builtin "generator.__iter__") = pure (.type "wrapper_descriptor") := by show builtinType _ = _; rw [builtinType_eq_fast]; kernel_rfl
theorem generator_ga_none : typeLookup (.type "generator") "__getattr__" = pure none := by rw [typeLookup_type, builtinLookup_eq_fast]; kernel_rfl
theorem sub_generator_str : isSubtype (.type "generator") (.type "str") = pure false := by rw [isSubtype_type]; kernel_rfl
theorem sub_generator_module : isSubtype (.type "generator") (.type "module") = pure false := by rw [isSubtype_type]; kernel_rfl
theorem ne_generator_str : (Value.type "generator" == Value.type "str") = false := by decide +kernel
theorem sub_generator_owner : isSubtype (.type "generator") (.type (".".intercalate ("generator.__iter__".cutAt '.').dropLast)) = pure true := by
  have e0 : "generator.__iter__".cutAt '.' = ["generator", "__iter__"] := by first | rfl | decide +kernel
  have e1 : ".".intercalate (["generator", "__iter__"] : List String).dropLast = "generator" := by decide +kernel
  rw [e0, e1, isSubtype_type]; kernel_rfl
theorem slot_generator_ga : Slot "generator" "__getattribute__" "object.__getattribute__" :=
  .of (owner := "object") (n := "__getattribute__") (by rw [typeLookup_type, builtinLookup_eq_fast]; kernel_rfl) (by decide +kernel) (by decide +kernel) (by decide +kernel)
    (by first | exact .inl (by decide +kernel) | exact .inr (by decide +kernel)) (by rw [isSubtype_type]; kernel_rfl)
section
variable {prog : Program} {w : World} {A : Around} {E : Value → Shared → Prop} {h : Heap} {g : Array GenState} {d : Drawn} {t : Nat} {os : OsState} {a : Addr} {o : Obj}

set_option maxHeartbeats 2000000 in
theorem get_wd_generator {R : Result → Shared → Prop} (hx : h.get? a = some o) (hc : o.cls = .type "generator") (hq : ∀ x s', Grow ⟨h, g, d, t, os⟩ s' → R (.ok (.ret (.ref x))) s') :
    codeAny (model prog w) A (.call (.builtin "wrapper_descriptor.__get__") ⟨[.builtin "generator.__iter__", .ref a, .type "generator"], []⟩) R ⟨h, g, d, t, os⟩ := by
  have hT : (⟨h, g, d, t, os⟩ : Shared).TypeIs (.ref a) "generator" := ⟨_, hx, hc⟩
  have hT5 : (⟨h, g, d, t, os⟩ : Shared).TypeIs (.builtin "generator.__iter__") "wrapper_descriptor" := typeOf_generator_iter
  have f8 := sub_generator_owner
  refine codeAny_call_builtin lk_wd_get.plain entry_wd_get (lk_wd_get.check _ _ _ _ _ _ _ _ hT5 (args_wd_get _ _ _) ?_)
  unfold Builtin.«wrapper_descriptor.__get__»
  repeat (any_goals (first | assumption | wp_step))
  first
    | exact hq _ _ (Grow.alloc _ _ _)
    | (refine wpAny_bind (wpAny_newObj_type ?_ (by size_fits)); exact wpAny_pure (hq _ _ (Grow.alloc _ _ _)))

set_option maxHeartbeats 4000000 in
theorem entry_generator {u : Tok} {vs : Array Value} {sl : Array (Option Value)} {Q : Fin → Shared → Prop} (hx : h.get? a = some ⟨.type "generator", none, .fields vs, sl⟩) (hq : ∀ x s', Grow ⟨h, g, d, t, os⟩ s' → Q (.done (.ret (.ref x))) s') :
    wpAny (model prog w) A (Builtin.«object.__getattribute__» ⟨[.ref a, .str "__iter__" u], []⟩) Q E ⟨h, g, d, t, os⟩ := by
  have hT : (⟨h, g, d, t, os⟩ : Shared).TypeIs (.ref a) "generator" := ⟨_, hx, rfl⟩
  have hT5 : (⟨h, g, d, t, os⟩ : Shared).TypeIs (.builtin "generator.__iter__") "wrapper_descriptor" := typeOf_generator_iter
  have f4 := lk_generator_iter
  have f5 := lk_wd_get.lookup
  have f6 := lk_wd_set
  have f7 := lk_wd_del
  unfold Builtin.«object.__getattribute__»
  repeat (any_goals (first | assumption | wp_step))
  refine get_wd_generator hx rfl fun v s' G => ?_
  repeat (any_goals (first | assumption | wp_step))
  exact hq _ _ G

set_option maxHeartbeats 4000000 in
theorem ga_generator {u : Tok} {vs : Array Value} {sl : Array (Option Value)} {Q : Value → Shared → Prop} (hx : h.get? a = some ⟨.type "generator", none, .fields vs, sl⟩) (hq : ∀ x s', Grow ⟨h, g, d, t, os⟩ s' → Q (.ref x) s') :
    wpAny (model prog w) A (getAttrBy (.ref a) (.str "__iter__" u) false) Q E ⟨h, g, d, t, os⟩ := by
  have hT : (⟨h, g, d, t, os⟩ : Shared).TypeIs (.ref a) "generator" := ⟨_, hx, rfl⟩
  have f2 := slot_generator_ga.lookup
  have f3 := slot_generator_ga.bind (.ref a)
  have f8 := generator_ga_none
  repeat (any_goals (first | assumption | wp_step))
  refine codeAny_call_builtin slot_generator_ga.plain F.entry_object_getattribute (slot_generator_ga.check _ _ _ _ _ _ _ _ hT (F.args_object_getattribute_2 _ _) (entry_generator hx fun v s' G => ?_))
  repeat (any_goals (first | assumption | wp_step))
  exact hq _ _ G

set_option maxHeartbeats 4000000 in
theorem hasattr_generator {u : Tok} {vs : Array Value} {sl : Array (Option Value)} {s : Shared} {Q : Value → Shared → Prop} (hx : s.heap.get? a = some ⟨.type "generator", none, .fields vs, sl⟩) (hq : ∀ s', Grow s s' → Q (.bool true) s') :
    wpAny (model prog w) A (call (.builtin "hasattr") [.ref a, .str "__iter__" u]) Q E s := by
  obtain ⟨h, g, d, t, os⟩ := s
  refine Calls.call_function_entry kind_hasattr plain_hasattr entry_hasattr (args_hasattr _ _) ?_
  have hT : (⟨h, g, d, t, os⟩ : Shared).TypeIs (.ref a) "generator" := ⟨_, hx, rfl⟩
  have f1 := lk_generator_iter
  have f2 := slot_generator_ga.lookup
  have f3 := sub_generator_module
  have f4 := sub_str_str
  have f5 : (⟨h, g, d, t, os⟩ : Shared).TypeIs (.str "__iter__" u) "str" := rfl
  unfold Builtin.«hasattr»
  repeat (any_goals (first | assumption | (with_reducible refine ga_generator hx fun x s' G => ?_) | wp_step))
  exact ⟨_, rfl, hq _ (by assumption)⟩

theorem lk_generator_class : typeLookup (.type "generator") "__class__" = pure (some (.builtin "object.__class__")) := by rw [typeLookup_type, builtinLookup_eq_fast]; kernel_rfl
theorem sub_generator_class_owner : isSubtype (.type "generator") (.type (".".intercalate ("object.__class__".cutAt '.').dropLast)) = pure true := by
  rw [F.owner_object_class, isSubtype_type]; kernel_rfl

set_option maxHeartbeats 4000000 in
theorem class_get_generator {R : Result → Shared → Prop} (hx : h.get? a = some o) (hc : o.cls = .type "generator") (hq : R (.ok (.ret (.type "generator"))) ⟨h, g, d, t, os⟩) :
    codeAny (model prog w) A (.call (.builtin "getset_descriptor.__get__") ⟨[.builtin "object.__class__", .ref a, .type "generator"], []⟩) R ⟨h, g, d, t, os⟩ := by
  have hT : (⟨h, g, d, t, os⟩ : Shared).TypeIs (.ref a) "generator" := ⟨_, hx, hc⟩
  have hT5 : (⟨h, g, d, t, os⟩ : Shared).TypeIs (.builtin "object.__class__") "getset_descriptor" := F.typeOf_object_class
  have f8 := sub_generator_class_owner
  refine codeAny_call_builtin F.slot_gs_get.plain F.entry_gs_get (F.slot_gs_get.check _ _ _ _ _ _ _ _ hT5 (F.args_gs_get _ _ _) ?_)
  repeat (any_goals (first | assumption | wp_step))
  refine ⟨Code.quiet_builtin _ (by decide +kernel), codeAny_builtin F.entry_object_class ?_⟩
  repeat (any_goals (first | assumption | wp_step))

set_option maxHeartbeats 4000000 in
theorem class_entry_generator {tk : Tok} {vs : Array Value} {sl : Array (Option Value)} {Q : Fin → Shared → Prop} (hx : h.get? a = some ⟨.type "generator", none, .fields vs, sl⟩) (hq : Q (.done (.ret (.type "generator"))) ⟨h, g, d, t, os⟩) :
    wpAny (model prog w) A (Builtin.«object.__getattribute__» ⟨[.ref a, .str "__class__" tk], []⟩) Q E ⟨h, g, d, t, os⟩ := by
  have hT : (⟨h, g, d, t, os⟩ : Shared).TypeIs (.ref a) "generator" := ⟨_, hx, rfl⟩
  have hT5 : (⟨h, g, d, t, os⟩ : Shared).TypeIs (.builtin "object.__class__") "getset_descriptor" := F.typeOf_object_class
  have f4 := lk_generator_class
  have f5 := F.typeOf_object_class
  have f6 := F.slot_gs_get.lookup
  have f7 := F.slot_gs_set.lookup
  unfold Builtin.«object.__getattribute__»
  repeat (any_goals (first | assumption | wp_step))
  refine class_get_generator hx rfl ?_
  repeat (any_goals (first | assumption | wp_step))

set_option maxHeartbeats 4000000 in
theorem class_by_generator {tk : Tok} {vs : Array Value} {sl : Array (Option Value)} {Q : Value → Shared → Prop} (hx : h.get? a = some ⟨.type "generator", none, .fields vs, sl⟩) (hq : Q (.type "generator") ⟨h, g, d, t, os⟩) : wpAny (model prog w) A (getAttrBy (.ref a) (.str "__class__" tk) false) Q E ⟨h, g, d, t, os⟩ := by
  have hT : (⟨h, g, d, t, os⟩ : Shared).TypeIs (.ref a) "generator" := ⟨_, hx, rfl⟩
  have f2 := slot_generator_ga.lookup
  have f3 := slot_generator_ga.bind (.ref a)
  repeat (any_goals (first | assumption | wp_step))
  refine codeAny_call_builtin slot_generator_ga.plain F.entry_object_getattribute (slot_generator_ga.check _ _ _ _ _ _ _ _ hT (F.args_object_getattribute_2 _ _) (class_entry_generator hx ?_))
  repeat (any_goals (first | assumption | wp_step))

set_option maxHeartbeats 4000000 in
theorem isi_nested_generator {dep : Int} {tk : Tok} {vs : Array Value} {sl : Array (Option Value)} {Q : Fin → Shared → Prop} (hx : h.get? a = some ⟨.type "generator", none, .fields vs, sl⟩) (hq : Q (.done (.ret (.bool false))) ⟨h, g, d, t + 1, os⟩) :
    wpAny (model prog w) A (Builtin.«isinstance.nested» ⟨[.ref a, .type "str", .int dep tk], []⟩) Q E ⟨h, g, d, t, os⟩ := by
  have hT : (⟨h, g, d, t, os⟩ : Shared).TypeIs (.ref a) "generator" := ⟨_, hx, rfl⟩
  have hne := ne_generator_str
  have hty := meta_str
  have hsub := sub_generator_str
  unfold Builtin.«isinstance.nested»
  repeat (any_goals (first | assumption | with_reducible apply class_by_generator hx | wp_step))

theorem isi_generator {vs : Array Value} {sl : Array (Option Value)} {s : Shared} {Q : Value → Shared → Prop} (hx : s.heap.get? a = some ⟨.type "generator", none, .fields vs, sl⟩) (hq : ∀ s', Grow s s' → Q (.bool false) s') :
    wpAny (model prog w) A (call (.builtin "isinstance") [.ref a, .type "str"]) Q E s := by
  obtain ⟨h, g, d, t, os⟩ := s
  refine call_isinstance (S := fun _ R s => (∃ sl', s.heap.get? a = some ⟨.type "generator", none, .fields vs, sl'⟩) ∧ R (.ok (.ret (.bool false))) { s with toks := s.toks + 1 }) (fun _ _ _ _ s hs => ?_) ⟨⟨_, hx⟩, hq _ (Grow.toks _ _)⟩
  obtain ⟨h, g, d, t, os⟩ := s
  obtain ⟨⟨sl', hx⟩, hq⟩ := hs
  exact isinstance_outer (isi_nested_generator hx hq) (by intro e; cases e)
end

theorem none_getattr_none : typeLookup (.type "NoneType") "__getattr__" = pure none := by rw [typeLookup_type, builtinLookup_eq_fast]; kernel_rfl
theorem sub_NoneType_module : isSubtype (.type "NoneType") (.type "module") = pure false := by rw [isSubtype_type]; kernel_rfl
theorem sub_int_module : isSubtype (.type "int") (.type "module") = pure false := by rw [isSubtype_type]; kernel_rfl
theorem sub_NoneType_str : isSubtype (.type "NoneType") (.type "str") = pure false := by rw [isSubtype_type]; kernel_rfl
theorem sub_int_str : isSubtype (.type "int") (.type "str") = pure false := by rw [isSubtype_type]; kernel_rfl
section
variable {prog : Program} {w : World} {A : Around} {E : Value → Shared → Prop}

set_option maxHeartbeats 4000000 in
theorem hasattr_none {u : Tok} {s : Shared} {Q : Value → Shared → Prop} (hA : A.handled = none) (hq : ∀ s', Grow s s' → Q (.bool false) s') :
    wpAny (model prog w) A (call (.builtin "hasattr") [.none, .str "__iter__" u]) Q E s := by
  obtain ⟨h, g, d, t, os⟩ := s
  refine Calls.call_function_entry kind_hasattr plain_hasattr entry_hasattr (args_hasattr _ _) ?_
  have hT : ∀ s' : Shared, s'.TypeIs (.none) "NoneType" := fun _ => rfl
  have hT' : (⟨h, g, d, t, os⟩ : Shared).TypeIs .none "NoneType" := rfl
  have f1 := lk_none_iter
  have f3 := F.slot_NoneType_getattribute.lookup
  have f4 := F.slot_NoneType_getattribute.bind (.none)
  have f5 := none_getattr_none
  have f6 := sub_AttributeError
  unfold Builtin.«hasattr»
  repeat (any_goals (first | assumption | ((with_reducible show wpAny _ _ (call (Value.builtin "object.__getattribute__") _ _) _ _ _); refine call_meets F.slot_NoneType_getattribute (hT _) F.entry_object_getattribute (F.args_object_getattribute_2 _ _) (meets_getattribute_miss_none "__iter__" _ lk_none_iter) ⟨hA, fun h' tk' e hx => ?_⟩) | wp_step))
  obtain ⟨t', u', he⟩ := hx.there
  show wpAny _ _ (getattributeRaised _ _ _ _ _ _ _) _ _ _
  unfold getattributeRaised
  repeat (any_goals (first | assumption | wp_step))
  exact ⟨_, rfl, hq _ (Grow.heapTo hx.keeps)⟩

set_option maxHeartbeats 4000000 in
theorem hasattr_int {i : Int} {k u : Tok} {s : Shared} {Q : Value → Shared → Prop} (hA : A.handled = none) (hq : ∀ s', Grow s s' → Q (.bool false) s') :
    wpAny (model prog w) A (call (.builtin "hasattr") [.int i k, .str "__iter__" u]) Q E s := by
  obtain ⟨h, g, d, t, os⟩ := s
  refine Calls.call_function_entry kind_hasattr plain_hasattr entry_hasattr (args_hasattr _ _) ?_
  have hT : ∀ s' : Shared, s'.TypeIs (.int i k) "int" := fun _ => rfl
  have hT' : (⟨h, g, d, t, os⟩ : Shared).TypeIs (.int i k) "int" := rfl
  have f1 := lk_int_iter
  have f3 := F.slot_int_getattribute.lookup
  have f4 := F.slot_int_getattribute.bind (.int i k)
  have f5 := am_int_getattr_none
  have f6 := sub_AttributeError
  unfold Builtin.«hasattr»
  repeat (any_goals (first | assumption | ((with_reducible show wpAny _ _ (call (Value.builtin "int.__getattribute__") _ _) _ _ _); refine call_meets F.slot_int_getattribute (hT _) am_entry_int_getattribute (F.args_int_getattribute_2 _ _) (meets_getattribute_miss_int i k "__iter__" _ lk_int_iter) ⟨hA, fun h' tk' e hx => ?_⟩) | wp_step))
  obtain ⟨t', u', he⟩ := hx.there
  show wpAny _ _ (getattributeRaised _ _ _ _ _ _ _) _ _ _
  unfold getattributeRaised
  repeat (any_goals (first | assumption | wp_step))
  exact ⟨_, rfl, hq _ (Grow.heapTo hx.keeps)⟩

theorem isi_str {x : Str} {u : Tok} {s : Shared} {Q : Value → Shared → Prop} (hq : Q (.bool true) s) : wpAny (model prog w) A (call (.builtin "isinstance") [.str x u, .type "str"]) Q E s :=
  call_isinstance (isinstance_true (Tx := "str") meta_str sub_str_str) ⟨rfl, hq⟩
theorem isi_int {i : Int} {u : Tok} {s : Shared} {Q : Value → Shared → Prop} (hq : ∀ s', Grow s s' → Q (.bool false) s') : wpAny (model prog w) A (call (.builtin "isinstance") [.int i u, .type "str"]) Q E s :=
  call_isinstance (isinstance_false_int (by decide +kernel) meta_str sub_int_str) (hq _ (Grow.toks _ _))
theorem isi_none {s : Shared} {Q : Value → Shared → Prop} (hq : ∀ s', Grow s s' → Q (.bool false) s') : wpAny (model prog w) A (call (.builtin "isinstance") [.none, .type "str"]) Q E s := by
  refine call_isinstance (S := fun _ R s => R (.ok (.ret (.bool false))) { s with toks := s.toks + 1 }) (fun _ _ _ _ s hs => ?_) (hq _ (Grow.toks _ _))
  obtain ⟨h, g, d, t, os⟩ := s
  exact isinstance_outer (isinstance_nested_false_none (by decide +kernel) meta_str sub_NoneType_str hs) (by intro e; cases e)
end

end Mine

namespace Mine
open PySem PySem.Calls PyProof.Rows

/-- the places of the def's parts -/
structure Ps where
  a : Pos
  b : Pos
  c : Pos
  d : Pos
  e : Pos
  f : Pos
  g : Pos
  h : Pos
  i : Pos
  j : Pos
  k : Pos
  l : Pos
  m : Pos
  n : Pos
  o : Pos
  q : Pos
  r : Pos
  t : Pos
  u : Pos
  v : Pos
  w : Pos
  x : Pos

def testOf (p : Ps) : Expr := .BoolOp .And [.UnaryOp .Not (.Call (.Name "isinstance" p.a) [.Name "elem" p.b, .Name "str" p.c] [] p.d) p.e, .Call (.Name "hasattr" p.f) [.Name "elem" p.g, .Constant (.str "__iter__") 0 p.h] [] p.i] p.j
def fromOf (p : Ps) : Stmt := .Expr (.YieldFrom (.Call (.Name "flatten_iterator" p.k) [.Name "elem" p.l] [] p.m) p.n) p.o
def yieldOf (p : Ps) : Stmt := .Expr (.Yield (some (.Name "elem" p.q)) p.r) p.t
def turnOf (p : Ps) : List Stmt := [.If (testOf p) [fromOf p] [yieldOf p] p.u]
def bodyOf (p : Ps) : List Stmt := [.For (.Name "elem" p.v) (.Name "x" p.w) (turnOf p) [] p.x]

def flatStmt : Stmt := match PySem.Challenge.pw_eu0022_01.main.body with | _ :: st :: _ => st | _ => .Pass default
def flatScope : Scope := match flatStmt with | .FunctionDef _ _ _ _ _ _ sc _ _ _ => sc | _ => default
def flatParams : Arguments := match flatStmt with | .FunctionDef _ ps _ _ _ _ _ _ _ _ => ps | _ => default
def flatBody : List Stmt := match flatStmt with | .FunctionDef _ _ b _ _ _ _ _ _ _ => b | _ => []
theorem flatBody_some : ∃ p : Ps, flatBody = bodyOf p := ⟨⟨_, _, _, _, _, _, _, _, _, _, _, _, _, _, _, _, _, _, _, _, _, _⟩, rfl⟩
noncomputable def ps : Ps := Classical.choose flatBody_some
theorem flatBody_eq : flatBody = bodyOf ps := Classical.choose_spec flatBody_some

def fenv (fa : Addr) (cd : Value) (L : Addr) : Env := envOf "flatten_iterator" flatScope L fa cd

structure EnvG (fa : Addr) (cd : Value) (h : Heap) : Prop where
  g : ∃ mg, h.Ns mainGlobals mg ∧ mg "isinstance" = none ∧ mg "hasattr" = none ∧ mg "str" = none ∧ mg "flatten_iterator" = some (.ref fa)
  b : ∃ mb, h.Ns builtinsNs mb ∧ mb "isinstance" = some (.builtin "isinstance") ∧ mb "hasattr" = some (.builtin "hasattr") ∧ mb "str" = some (.type "str")
  fn : ∃ o pm doc, h.get? fa = some o ∧ o.data = .func (docDef "flatten_iterator" flatParams flatBody flatScope pm cd doc)
  code : h.CodeRec cd "flatten_iterator"
  lim : h.NoLimit
theorem EnvG.keeps {fa : Addr} {cd : Value} {h h' : Heap} (x : EnvG fa cd h) (k : ∀ b o, h.get? b = some o → h'.get? b = some o) : EnvG fa cd h' :=
  ⟨let ⟨mg, a, r⟩ := x.g; ⟨mg, a.keeps k, r⟩, let ⟨mb, a, r⟩ := x.b; ⟨mb, a.keeps k, r⟩, let ⟨o, pm, doc, a, r⟩ := x.fn; ⟨o, pm, doc, k _ _ a, r⟩, x.code.keeps k, x.lim.keeps k⟩

/-- a leaf's value -/
def IsLeafV (v : Value) : Prop := v = .none ∨ (∃ i t, v = .int i t) ∨ ∃ x t, v = .str x t
/-- an object that has an __iter__ -/
def IsBox (h : Heap) (v : Value) : Prop := ∃ a, v = .ref a ∧
  ((∃ its n sl, h.get? a = some ⟨.type "list", none, .seq its n, sl⟩) ∨ (∃ its n sl, h.get? a = some ⟨.type "tuple", none, .seq its n, sl⟩) ∨
   (∃ vs sl, h.get? a = some ⟨.type "list_iterator", none, .fields vs, sl⟩) ∨ (∃ vs sl, h.get? a = some ⟨.type "tuple_iterator", none, .fields vs, sl⟩) ∨
   ∃ vs sl, h.get? a = some ⟨.type "generator", none, .fields vs, sl⟩)
theorem IsBox.keeps {h h' : Heap} {v : Value} (x : IsBox h v) (k : ∀ b o, h.get? b = some o → h'.get? b = some o) : IsBox h' v := by
  obtain ⟨a, rfl, x⟩ := x
  refine ⟨a, rfl, ?_⟩
  rcases x with ⟨its, n, sl, e⟩ | ⟨its, n, sl, e⟩ | ⟨vs, sl, e⟩ | ⟨vs, sl, e⟩ | ⟨vs, sl, e⟩
  · exact .inl ⟨its, n, sl, k _ _ e⟩
  · exact .inr (.inl ⟨its, n, sl, k _ _ e⟩)
  · exact .inr (.inr (.inl ⟨vs, sl, k _ _ e⟩))
  · exact .inr (.inr (.inr (.inl ⟨vs, sl, k _ _ e⟩)))
  · exact .inr (.inr (.inr (.inr ⟨vs, sl, k _ _ e⟩)))

section
variable {prog : Program} {w : World} {A : Around} {E : Value → Shared → Prop} {s : Shared} {fa : Addr} {cd : Value} {L : Addr} {m : Str → Option Value} {v : Value}

theorem ld_elem {pos : Pos} {Q : Value → Shared → Prop} {x : Str} (hx : flatScope.names.lookup x = some .local) (hn : s.heap.Ns L m) (hv : m x = some v) (h : Q v s)
    (hd : (x == ("__debug__" : Str)) = false := by decide) : wpAny (model prog w) A (eval (.Name x pos) (fenv fa cd L)) Q E s :=
  wpAny_Name (wpAny_loadName_local rfl hx hn hv h) hd

theorem ld_glob {x : Str} {pos : Pos} {Q : Value → Shared → Prop} (hE : EnvG fa cd s.heap) (hx : flatScope.names.lookup x = some .globalImplicit) {v : Value}
    (hv : ∀ mg mb, s.heap.Ns mainGlobals mg → s.heap.Ns builtinsNs mb → mg "isinstance" = none → mg "hasattr" = none → mg "str" = none → mg "flatten_iterator" = some (.ref fa) →
      mb "isinstance" = some (.builtin "isinstance") → mb "hasattr" = some (.builtin "hasattr") → mb "str" = some (.type "str") → (mg x = some v ∨ (mg x = none ∧ mb x = some v))) (h : Q v s)
    (hd : (x == ("__debug__" : Str)) = false := by decide) : wpAny (model prog w) A (eval (.Name x pos) (fenv fa cd L)) Q E s := by
  obtain ⟨mg, g1, g2, g3, g4, g5⟩ := hE.g
  obtain ⟨mb, b1, b2, b3, b4⟩ := hE.b
  refine Name_function_global rfl hx ?_ hd
  rcases hv mg mb g1 b1 g2 g3 g4 g5 b2 b3 b4 with e | ⟨e1, e2⟩
  · exact loadGlobal_global g1 e h
  · exact loadGlobal_builtin g1 e1 b1 e2 h

theorem look_elem : flatScope.names.lookup (Str.ofString "elem") = some .local := by decide +kernel
theorem look_x : flatScope.names.lookup (Str.ofString "x") = some .local := by decide +kernel
theorem look_isi : flatScope.names.lookup (Str.ofString "isinstance") = some .globalImplicit := by decide +kernel
theorem look_str : flatScope.names.lookup (Str.ofString "str") = some .globalImplicit := by decide +kernel
theorem look_has : flatScope.names.lookup (Str.ofString "hasattr") = some .globalImplicit := by decide +kernel
theorem look_flat : flatScope.names.lookup (Str.ofString "flatten_iterator") = some .globalImplicit := by decide +kernel

/-- isinstance(elem, str) -/
theorem eval_isi {p : Ps} {Q : Value → Shared → Prop} (hE : EnvG fa cd s.heap) (hn : s.heap.Ns L m) (hv : m "elem" = some v)
    (h : wpAny (model prog w) A (call (.builtin "isinstance") [v, .type "str"]) Q E s) :
    wpAny (model prog w) A (eval (.Call (.Name "isinstance" p.a) [.Name "elem" p.b, .Name "str" p.c] [] p.d) (fenv fa cd L)) Q E s := by
  show wpAny _ _ (do callWith p.d (← eval (.Name "isinstance" p.a) (fenv fa cd L)) [] (backTo p.d (starEach [.Name "elem" p.b, .Name "str" p.c] (fenv fa cd L))) (backToKw p.d (keywordEach [] (fenv fa cd L)))) _ _ _
  refine wpAny_bind (ld_glob hE look_isi (v := .builtin "isinstance") (fun mg mb _ _ a _ _ _ b _ _ => .inr ⟨a, b⟩) ?_)
  refine callWith_builtin rfl ?_
  refine evalArgs_plain ?_
  refine spliced_cons ?_
  refine ld_elem look_elem hn hv ?_
  refine spliced_cons ?_
  refine ld_glob hE look_str (v := .type "str") (fun mg mb _ _ _ _ a _ _ _ b => .inr ⟨a, b⟩) ?_
  exact spliced_nil h

/-- hasattr(elem, '__iter__') -/
theorem eval_has {p : Ps} {Q : Value → Shared → Prop} (hE : EnvG fa cd s.heap) (hn : s.heap.Ns L m) (hv : m "elem" = some v)
    (h : wpAny (model prog w) A (call (.builtin "hasattr") [v, .str "__iter__" s.toks]) Q E { s with toks := s.toks + 1 }) :
    wpAny (model prog w) A (eval (.Call (.Name "hasattr" p.f) [.Name "elem" p.g, .Constant (.str "__iter__") 0 p.h] [] p.i) (fenv fa cd L)) Q E s := by
  show wpAny _ _ (do callWith p.i (← eval (.Name "hasattr" p.f) (fenv fa cd L)) [] (backTo p.i (starEach [.Name "elem" p.g, .Constant (.str "__iter__") 0 p.h] (fenv fa cd L))) (backToKw p.i (keywordEach [] (fenv fa cd L)))) _ _ _
  refine wpAny_bind (ld_glob hE look_has (v := .builtin "hasattr") (fun mg mb _ _ _ a _ _ _ b _ => .inr ⟨a, b⟩) ?_)
  refine callWith_builtin rfl ?_
  refine evalArgs_plain ?_
  refine spliced_cons ?_
  refine ld_elem look_elem hn hv ?_
  refine spliced_cons ?_
  refine Constant_str (k := 0) (pos := p.h) ?_
  exact spliced_nil h

theorem Ns_toks {s : Shared} {L : Addr} {m : Str → Option Value} {n : Nat} (hn : s.heap.Ns L m) : ({ s with toks := n } : Shared).heap.Ns L m := hn

theorem test_leaf {p : Ps} {Q : Bool → Shared → Prop} (hA : A.handled = none) (hE : EnvG fa cd s.heap) (hn : s.heap.Ns L m) (hv : m "elem" = some v) (hl : IsLeafV v) (h : ∀ s', Grow s s' → Q false s') :
    wpAny (model prog w) A (isTrue (testOf p) (fenv fa cd L) (eval (testOf p) (fenv fa cd L))) Q E s := by
  refine wpAny_isTrue_BoolOp (wpAny_allTrue_And_cons (wpAny_isTrue_Not (wpAny_isTrue_value (eval_isi hE hn hv ?_))))
  have go : (∀ s', Grow s s' → wpAny (model prog w) A (call (.builtin "hasattr") [v, .str "__iter__" s'.toks]) (fun r s₁ => r = .bool false ∧ Grow s' s₁) E { s' with toks := s'.toks + 1 }) →
      ∀ s', Grow s s' → wpAny (model prog w) A (truthy (.bool false)) (fun b s₁ => if (!b) = true then wpAny (model prog w) A (allTrue .And [.Call (.Name "hasattr" p.f) [.Name "elem" p.g, .Constant (.str "__iter__") 0 p.h] [] p.i] (fenv fa cd L)) Q E s₁ else Q false s₁) E s' := by
    intro hh s' G
    refine wpAny_truthy_bool ?_
    rw [if_pos (by decide)]
    refine wpAny_allTrue_And_cons (wpAny_isTrue_value (eval_has (hE.keeps G.heap) (hn.keeps G.heap) hv (wpAny_mono (hh s' G) (fun r s₁ hr => ?_) fun _ _ x => x)))
    obtain ⟨rfl, G'⟩ := hr
    exact wpAny_truthy_bool (h _ (G.trans G'))
  rcases hl with rfl | ⟨i, t, rfl⟩ | ⟨x, t, rfl⟩
  · refine isi_none (go fun s' G => hasattr_none hA fun s₁ G' => ⟨rfl, (Grow.toks s' _).trans G'⟩)
  · refine isi_int (go fun s' G => hasattr_int hA fun s₁ G' => ⟨rfl, (Grow.toks s' _).trans G'⟩)
  · refine isi_str (wpAny_truthy_bool ?_)
    exact h _ (Grow.refl _)

theorem test_box {p : Ps} {Q : Bool → Shared → Prop} (hE : EnvG fa cd s.heap) (hn : s.heap.Ns L m) (hv : m "elem" = some v) (hl : IsBox s.heap v) (h : ∀ s', Grow s s' → Q true s') :
    wpAny (model prog w) A (isTrue (testOf p) (fenv fa cd L) (eval (testOf p) (fenv fa cd L))) Q E s := by
  refine wpAny_isTrue_BoolOp (wpAny_allTrue_And_cons (wpAny_isTrue_Not (wpAny_isTrue_value (eval_isi hE hn hv ?_))))
  have go : (∀ s', Grow s s' → wpAny (model prog w) A (call (.builtin "hasattr") [v, .str "__iter__" s'.toks]) (fun r s₁ => r = .bool true ∧ Grow s' s₁) E { s' with toks := s'.toks + 1 }) →
      ∀ s', Grow s s' → wpAny (model prog w) A (truthy (.bool false)) (fun b s₁ => if (!b) = true then wpAny (model prog w) A (allTrue .And [.Call (.Name "hasattr" p.f) [.Name "elem" p.g, .Constant (.str "__iter__") 0 p.h] [] p.i] (fenv fa cd L)) Q E s₁ else Q false s₁) E s' := by
    intro hh s' G
    refine wpAny_truthy_bool ?_
    rw [if_pos (by decide)]
    refine wpAny_allTrue_And_cons (wpAny_isTrue_value (eval_has (hE.keeps G.heap) (hn.keeps G.heap) hv (wpAny_mono (hh s' G) (fun r s₁ hr => ?_) fun _ _ x => x)))
    obtain ⟨rfl, G'⟩ := hr
    refine wpAny_truthy_bool ?_
    rw [if_pos (by decide)]
    exact wpAny_allTrue_And_nil (h _ (G.trans G'))
  obtain ⟨a, rfl, x⟩ := hl
  rcases x with ⟨its, n, sl, e⟩ | ⟨its, n, sl, e⟩ | ⟨vs, sl, e⟩ | ⟨vs, sl, e⟩ | ⟨vs, sl, e⟩
  · exact isi_list e (go fun s' G => hasattr_list (G.heap _ _ e) fun s₁ G' => ⟨rfl, (Grow.toks s' _).trans G'⟩)
  · exact isi_tuple e (go fun s' G => hasattr_tuple (G.heap _ _ e) fun s₁ G' => ⟨rfl, (Grow.toks s' _).trans G'⟩)
  · exact isi_list_iterator e (go fun s' G => hasattr_list_iterator (G.heap _ _ e) fun s₁ G' => ⟨rfl, (Grow.toks s' _).trans G'⟩)
  · exact isi_tuple_iterator e (go fun s' G => hasattr_tuple_iterator (G.heap _ _ e) fun s₁ G' => ⟨rfl, (Grow.toks s' _).trans G'⟩)
  · exact isi_generator e (go fun s' G => hasattr_generator (G.heap _ _ e) fun s₁ G' => ⟨rfl, (Grow.toks s' _).trans G'⟩)

/-- flatten_iterator(v): a generator that has not begun -/
theorem call_flat {Q : Value → Shared → Prop} (hE : EnvG fa cd s.heap) (hd : A.depth < recursionLimit)
    (h : ∀ (a L : Addr) (h' : Heap) (nm qn : Value) (tk : Nat), s.heap.get? a = none → s.heap.get? L = none → a ≠ L → (∀ b o, s.heap.get? b = some o → h'.get? b = some o) →
      h'.get? a = some ⟨.type "generator", none, .fields #[.int s.gens.size 0, nm, qn], #[]⟩ → h'.Ns L (fun y => if y = Str.ofString "x" then some v else none) →
      Q (.ref a) { s with heap := h', gens := s.gens.push (.fresh (.func flatBody (fenv fa cd L))), toks := tk }) :
    wpAny (model prog w) A (call (.ref fa) [v]) Q E s := by
  obtain ⟨o, pm, doc, ho, hdat⟩ := hE.fn
  refine wpAny_call (codeAny_call_generator hd ho hdat (by rfl) (by rfl) rfl hE.code ?_)
  have hb : bindArgs (docDef "flatten_iterator" flatParams flatBody flatScope pm cd doc) ⟨[v], []⟩ = pure [(Str.ofString "x", v)] := rfl
  rw [hb]
  refine wpAny_pure ?_
  refine wpAny_newFunctionEnv (show ∀ x ∈ flatScope.names, x.2 ≠ .cell by decide +kernel) (by intro x hx; simp only [List.mem_singleton] at hx; subst hx; exact look_x) (fun h' hns hsb => ?_) rfl
  have keep : ∀ b o, s.heap.get? b = some o → h'.get? b = some o := fun b o e => hsb.extBut b o (Nat.ne_of_lt (Heap.lt_size e)) (Heap.get?_push_of_some _ e)
  refine ⟨hE.lim.keeps keep, ?_⟩
  have hsz : h'.objs.size = s.heap.objs.size + 1 := by rw [hsb.1, Heap.size_push]
  refine h h'.objs.size s.heap.objs.size _ _ _ _ ?_ ?_ ?_ (fun b o e => Heap.get?_push_of_some _ (keep b o e)) (Heap.get?_push_size _ rfl) ?_
  · exact Heap.get?_none_of_le (by rw [hsz]; exact Nat.le_succ _)
  · exact Heap.get?_none_of_le (Nat.le_refl _)
  · rw [hsz]; exact Nat.succ_ne_self _
  · refine Heap.Ns.push (m := fun y => if y = Str.ofString "x" then some v else none) ?_ _
    have : (fun y => ([(Str.ofString "x", v)] : List (Str × Value)).reverse.lookup y) = fun y => if y = Str.ofString "x" then some v else none := by
      funext y
      by_cases hy : y = Str.ofString "x"
      · subst hy; simp
      · have : (y == Str.ofString "x") = false := by simpa using hy
        simp [this, hy]
    rw [← this]; exact hns
end
end Mine

namespace Mine
open PySem PySem.Calls PyProof.Rows

def seqT (tup : Bool) : String := if tup then "tuple" else "list"
def itT (tup : Bool) : String := if tup then "tuple_iterator" else "list_iterator"
/-- a list or a tuple that stands whole -/
def IsSeqO (h : Heap) (a : Addr) (tup : Bool) (items : List Value) : Prop := ∃ n sl, h.get? a = some ⟨.type (seqT tup), none, .seq items.toArray n, sl⟩
/-- a list's or a tuple's iterator at its i-th place -/
def IsItO (h : Heap) (a l : Addr) (tup : Bool) (i : Nat) : Prop := h.get? a = some ⟨.type (itT tup), none, .fields #[.ref l, .int i 0], #[]⟩
/-- a generator's object; k: how many sleep over it -/
def IsGenO (h : Heap) (a : Addr) (g : Nat) (k : Nat) : Prop :=
  ∃ nm qn sl, h.get? a = some ⟨.type "generator", none, .fields #[.int g 0, nm, qn], sl⟩ ∧ ((sl = #[] ∧ k = 0) ∨ sl = #[some (.int k 0)])

section
variable {prog : Program} {w : World} {A : Around} {E : Value → Shared → Prop} {s : Shared}

theorem stop_new {α : Type} {Q : α → Shared → Prop} (hh : A.handled = none)
    (h : ∀ h' e vs, (∀ b o, s.heap.get? b = some o → h'.get? b = some o) → h'.get? e = some ⟨.type "StopIteration", none, .fields vs, #[]⟩ → vs[5]? = some .none → E (.ref e) { s with heap := h' }) :
    wpAny (model prog w) A (do raiseNew (← newExc (.type "StopIteration") [])) Q E s := by
  refine wpAny_bind ?_
  simp only [newExc, newTuple]
  refine wpAny_bind (wpAny_newObj_type ?_ (by size_fits))
  refine wpAny_bind (m := firstArgMember _ _) (wpAny_of_eq (a := Value.none) (by first | rfl | (simp only [firstArgMember]; rfl)) ?_)
  refine wpAny_newObj_type ?_ (by size_fits)
  simp only [raiseNew]
  refine wpAny_bind (wpAny_handled ?_)
  rw [hh]
  refine wpAny_bind (wpAny_pure (wpAny_throw ?_))
  refine h _ _ _ (fun b o e => Heap.get?_push_of_some _ (Heap.get?_push_of_some _ e)) (Heap.get?_push_size _ rfl) ?_
  rfl

theorem iter_seq {a : Addr} {tup : Bool} {items : List Value} {Q : Value → Shared → Prop} (hs : IsSeqO s.heap a tup items)
    (hQ : ∀ h' it, s.heap.get? it = none → (∀ b o, s.heap.get? b = some o → h'.get? b = some o) → IsItO h' it a tup 0 → Q (.ref it) { s with heap := h' }) :
    wpAny (model prog w) A (pyIter (.ref a)) Q E s := by
  obtain ⟨n, sl, e⟩ := hs
  cases tup with
  | false => exact wpAny_pyIter_list ⟨_, e, rfl, n, rfl⟩ (hQ _ _ (Heap.get?_none_of_le (Nat.le_refl _)) (fun b o x => Heap.get?_push_of_some _ x) (Heap.get?_push_size _ rfl))
  | true => exact wpAny_pyIter_tuple ⟨_, e, rfl, n, rfl⟩ (hQ _ _ (Heap.get?_none_of_le (Nat.le_refl _)) (fun b o x => Heap.get?_push_of_some _ x) (Heap.get?_push_size _ rfl))

theorem iter_listiter {a l : Addr} {i : Nat} {Q : Value → Shared → Prop} (hs : IsItO s.heap a l false i) (hQ : Q (.ref a) s) : wpAny (model prog w) A (pyIter (.ref a)) Q E s :=
  wpAny_pyIter_listiter ⟨_, hs, rfl, rfl⟩ hQ

theorem genO_type {a : Addr} {g k : Nat} (h : IsGenO s.heap a g k) : s.TypeIs (.ref a) "generator" := let ⟨_, _, _, e, _⟩ := h; ⟨_, e, rfl⟩
theorem iter_gen {a : Addr} {g k : Nat} {Q : Value → Shared → Prop} (hs : IsGenO s.heap a g k) (hQ : Q (.ref a) s) : wpAny (model prog w) A (pyIter (.ref a)) Q E s := by
  refine wpAny_pyIter_slot (genO_type hs) slot_gen_iter (wpAny_call_entry slot_gen_iter (genO_type hs) entry_gen_iter ?_ (args_gen_iter _))
  show wpAny _ _ (ret (.ref a)) _ _ s
  exact wpAny_pure ⟨_, rfl, "generator", _, genO_type hs, slot_gen_next.lookup, hQ⟩

theorem next_item {it l : Addr} {tup : Bool} {i : Nat} {items : List Value} {x : Value} {Q : Option Value → Shared → Prop} (hit : IsItO s.heap it l tup i) (hl : IsSeqO s.heap l tup items) (hx : items[i]? = some x)
    (hQ : ∀ h', IsItO h' it l tup (i + 1) → Heap.SameBut it s.heap h' → Q (some x) { s with heap := h' }) : wpAny (model prog w) A (pyNext (.ref it)) Q E s := by
  obtain ⟨n, sl, hol⟩ := hl
  have hx' : items.toArray[i]? = some x := by simpa using hx
  have fin : wpAny (model prog w) A.in1 (do setField (.ref it) 1 (rawInt (i + 1)); ret x) (fun fin s' => ∃ v, fin = .done (.ret v) ∧ Q (some v) s') (fun e s' => False) s := by
    refine wpAny_bind (wpAny_setField_rec hit (by simp) fun h' e hs => wpAny_pure ⟨x, rfl, hQ h' ?_ hs⟩)
    unfold IsItO
    rw [e]; simp [rawInt]
  unfold pyNext
  cases tup with
  | false =>
    refine wpAny_bind (wpAny_attempt (wpAny_callSpecial?_slot (name := Str.ofString "__next__") (s := s) (self := .ref it) ⟨_, hit, rfl⟩ slot_listiter_next
      (wpAny_call_entry slot_listiter_next ⟨_, hit, rfl⟩ entry_listiter_next ?_ (args_listiter_next _))))
    show wpAny _ _ (field (.ref it) 0 >>= _) _ _ s
    refine wpAny_bind (wpAny_field hit rfl (x := .ref l) rfl ?_)
    show wpAny _ _ (if (Value.ref l == Value.none) = true then _ else _) _ _ s
    rw [if_neg (show ¬ ((Value.ref l == Value.none) = true) from Bool.false_ne_true)]
    show wpAny _ _ (field (.ref it) 1 >>= _) _ _ s
    refine wpAny_bind (wpAny_field hit rfl (x := .int i 0) rfl ?_)
    show wpAny _ _ (seqItems? (.ref l) >>= _) _ _ s
    refine wpAny_bind (wpAny_seqItems hol rfl ?_)
    simp only [Int.toNat_natCast, hx']
    exact wpAny_mono fin (fun _ _ ⟨v, e, q⟩ => ⟨v, e, wpAny_pure q⟩) fun _ _ q => q.elim
  | true =>
    refine wpAny_bind (wpAny_attempt (wpAny_callSpecial?_slot (name := Str.ofString "__next__") (s := s) (self := .ref it) ⟨_, hit, rfl⟩ F.slot_tuple_iterator_next
      (wpAny_call_entry F.slot_tuple_iterator_next ⟨_, hit, rfl⟩ F.entry_tuple_iterator_next ?_ (F.args_tuple_iterator_next_1 _))))
    show wpAny _ _ (field (.ref it) 0 >>= _) _ _ s
    refine wpAny_bind (wpAny_field hit rfl (x := .ref l) rfl ?_)
    show wpAny _ _ (if (Value.ref l == Value.none) = true then _ else _) _ _ s
    rw [if_neg (show ¬ ((Value.ref l == Value.none) = true) from Bool.false_ne_true)]
    show wpAny _ _ (field (.ref it) 1 >>= _) _ _ s
    refine wpAny_bind (wpAny_field hit rfl (x := .int i 0) rfl ?_)
    show wpAny _ _ (seqItems? (.ref l) >>= _) _ _ s
    refine wpAny_bind (wpAny_seqItems hol rfl ?_)
    simp only [Int.toNat_natCast, hx']
    exact wpAny_mono fin (fun _ _ ⟨v, e, q⟩ => ⟨v, e, wpAny_pure q⟩) fun _ _ q => q.elim

theorem next_end {it l : Addr} {tup : Bool} {i : Nat} {items : List Value} {Q : Option Value → Shared → Prop} (hh : A.handled = none) (hit : IsItO s.heap it l tup i) (hl : IsSeqO s.heap l tup items) (hx : items[i]? = none)
    (hQ : ∀ h', Heap.ExtBut it s.heap h' → Q none { s with heap := h' }) : wpAny (model prog w) A (pyNext (.ref it)) Q E s := by
  obtain ⟨n, sl, hol⟩ := hl
  have hx' : items.toArray[i]? = none := by simpa using hx
  cases tup with
  | false => exact wpAny_pyNext_list_end hh ⟨_, hit, rfl, rfl⟩ ⟨_, hol, rfl, n, rfl⟩ hx' hQ
  | true => exact wpAny_pyNext_tuple_end hh ⟨_, hit, rfl, rfl⟩ ⟨_, hol, rfl, n, rfl⟩ hx' hQ

theorem genNumber_ {a : Addr} {g : Nat} {Q : Nat → Shared → Prop} (hg : IsGenO s.heap a g 0) (h : Q g s) : wpAny (model prog w) A (Builtin.Generator.genNumber (.ref a)) Q E s := by
  obtain ⟨nm, qn, sl, ho, hsl⟩ := hg
  unfold Builtin.Generator.genNumber
  refine wpAny_bind (wpAny_load ho ?_)
  rcases hsl with ⟨rfl, _⟩ | rfl
  · show wpAny _ A (pure ((g : Int).toNat)) Q E s
    rw [Int.toNat_natCast]; exact wpAny_pure h
  · show wpAny _ A (pure ((g : Int).toNat)) Q E s
    rw [Int.toNat_natCast]; exact wpAny_pure h

theorem slept_more {a : Addr} {g : Nat} {Q : Unit → Shared → Prop} (hg : IsGenO s.heap a g 0) (h : ∀ h', IsGenO h' a g 1 → Heap.SameBut a s.heap h' → Q () { s with heap := h' }) :
    wpAny (model prog w) A (Builtin.Generator.sleptOver (.ref a) true) Q E s := by
  obtain ⟨nm, qn, sl, ho, hsl⟩ := hg
  unfold Builtin.Generator.sleptOver
  refine wpAny_bind (wpAny_load ho ?_)
  have go : ∀ sl', s.heap.get? a = some ⟨.type "generator", none, .fields #[.int g 0, nm, qn], sl'⟩ → (sl' = #[] ∨ sl' = #[some (.int 0 0)]) →
      wpAny (model prog w) A (setSlotAt a 0 (some (rawInt (0 + 1)))) Q E s := by
    intro sl' e hs
    unfold setSlotAt
    show wpAny _ A (updatePart a _ _) Q E s
    refine wpAny_updatePart e (h _ ⟨nm, qn, #[some (.int 1 0)], ?_, .inr rfl⟩ (Heap.SameBut.update ..))
    rw [Heap.get?_update_self _ e rfl]
    rcases hs with rfl | rfl <;> rfl
  rcases hsl with ⟨rfl, _⟩ | rfl
  · exact go _ ho (.inl rfl)
  · exact go _ ho (.inr rfl)
theorem slept_less {a : Addr} {g : Nat} {Q : Unit → Shared → Prop} (hg : IsGenO s.heap a g 1) (h : ∀ h', IsGenO h' a g 0 → Heap.SameBut a s.heap h' → Q () { s with heap := h' }) :
    wpAny (model prog w) A (Builtin.Generator.sleptOver (.ref a) false) Q E s := by
  obtain ⟨nm, qn, sl, ho, hsl⟩ := hg
  unfold Builtin.Generator.sleptOver
  refine wpAny_bind (wpAny_load ho ?_)
  rcases hsl with ⟨_, h0⟩ | rfl
  · exact absurd h0 (by decide)
  · show wpAny _ A (setSlotAt a 0 (some (rawInt (1 - 1)))) Q E s
    unfold setSlotAt
    show wpAny _ A (updatePart a _ _) Q E s
    refine wpAny_updatePart ho (h _ ⟨nm, qn, #[some (.int 0 0)], ?_, .inr rfl⟩ (Heap.SameBut.update ..))
    rw [Heap.get?_update_self _ ho rfl]
    rfl
end
end Mine

namespace Mine
open PySem PySem.Calls PyProof.Rows

/-- what a tree holds, and how far a walk has come in it (with the places where it lies) -/
inductive Nd where
  | leaf (v : Value)
  | seq (a : Addr) (tup : Bool) (xs : Nd)
  | sit (a l : Addr) (tup : Bool) (i : Nat) (xs : Nd)
  | fresh (a : Addr) (g : Nat) (L : Addr) (x : Nd)
  | aty (a : Addr) (g : Nat) (L : Addr) (src : Nd)
  | atf (a : Addr) (g : Nat) (L : Addr) (src inn : Nd)
  | nil
  | cons (x xs : Nd)

namespace Nd
def val : Nd → Value
  | leaf v => v
  | seq a _ _ => .ref a
  | sit a _ _ _ _ => .ref a
  | fresh a _ _ _ => .ref a
  | aty a _ _ _ => .ref a
  | atf a _ _ _ _ => .ref a
  | nil => .none
  | cons _ _ => .none
def vals : Nd → List Value
  | cons x xs => x.val :: xs.vals
  | _ => []
/-- the leaves that are still to come, in order -/
def fl : Nd → List Value
  | leaf v => [v]
  | seq _ _ xs => xs.fl
  | sit _ _ _ _ xs => xs.fl
  | fresh _ _ _ x => x.fl
  | aty _ _ _ src => src.fl
  | atf _ _ _ src inn => inn.fl ++ src.fl
  | nil => []
  | cons x xs => x.fl ++ xs.fl
/-- the objects that the walk turns -/
def own : Nd → List Addr
  | leaf _ => []
  | seq _ _ xs => xs.own
  | sit a _ _ _ xs => a :: xs.own
  | fresh a _ L x => a :: L :: x.own
  | aty a _ L src => a :: L :: src.own
  | atf a _ L src inn => a :: L :: (src.own ++ inn.own)
  | nil => []
  | cons x xs => x.own ++ xs.own
def ogs : Nd → List Nat
  | leaf _ => []
  | seq _ _ xs => xs.ogs
  | sit _ _ _ _ xs => xs.ogs
  | fresh _ g _ x => g :: x.ogs
  | aty _ g _ src => g :: src.ogs
  | atf _ g _ src inn => g :: (src.ogs ++ inn.ogs)
  | nil => []
  | cons x xs => x.ogs ++ xs.ogs
/-- the lists and tuples that hold it -/
def seqs : Nd → List Addr
  | leaf _ => []
  | seq a _ xs => a :: xs.seqs
  | sit _ l _ _ xs => l :: xs.seqs
  | fresh _ _ _ x => x.seqs
  | aty _ _ _ src => src.seqs
  | atf _ _ _ src inn => src.seqs ++ inn.seqs
  | nil => []
  | cons x xs => x.seqs ++ xs.seqs
def dp : Nd → Nat
  | leaf _ => 0
  | seq _ _ xs => xs.dp + 1
  | sit _ _ _ _ xs => xs.dp + 1
  | fresh _ _ _ x => x.dp + 1
  | aty _ _ _ src => src.dp + 1
  | atf _ _ _ src inn => max src.dp inn.dp + 1
  | nil => 0
  | cons x xs => max x.dp xs.dp
def sz : Nd → Nat
  | leaf _ => 1
  | seq _ _ xs => xs.sz + 2
  | sit _ _ _ _ xs => xs.sz + 1
  | fresh _ _ _ x => x.sz + 1
  | aty _ _ _ src => src.sz + 1
  | atf _ _ _ src inn => src.sz + inn.sz + 1
  | nil => 0
  | cons x xs => x.sz + xs.sz + 1
def isL : Nd → Prop
  | nil => True
  | cons _ xs => xs.isL
  | _ => False
def isGen : Nd → Prop
  | fresh .. | aty .. | atf .. => True
  | _ => False
def isBox : Nd → Prop
  | seq .. => True
  | sit _ _ tup _ _ => tup = false
  | fresh .. | aty .. | atf .. => True
  | _ => False
def isEl : Nd → Prop
  | leaf _ => True
  | x => x.isBox
def isSrc : Nd → Prop
  | sit .. => True
  | fresh .. | aty .. | atf .. => True
  | _ => False
end Nd

noncomputable def loopC (fa : Addr) (cd : Value) (L : Addr) (it : Value) : Code := .forLoop (.Name "elem" ps.v) it (turnOf ps) [] (fenv fa cd L)
def fromC (it : Value) : Code := .builtin "proto.yield_from" ⟨[it, .bool false, .none], []⟩
def F1Ok (fa : Addr) (cd : Value) (L : Addr) (F : Frame) : Prop :=
  ∃ k l p, F = .ret k none false l (.func flatBody (fenv fa cd L)) p [] ∧ k (.ok .next) = .pure (.done (.ret .none))
def F2Ok (fa : Addr) (cd : Value) (L : Addr) (it : Value) (F : Frame) : Prop :=
  ∃ k l p, F = .ret k none false l (loopC fa cd L it) p [] ∧ k (.ok (.ret .none)) = .pure (.again (loopC fa cd L it))
def GAty (fa : Addr) (cd : Value) (L : Addr) (it : Value) (gs : GenState) : Prop :=
  ∃ kk l p F1, gs = .suspended kk l (loopC fa cd L it) p [F1] false ∧ kk (.send .none) = .pure (.again (loopC fa cd L it)) ∧ F1Ok fa cd L F1
def GAtf (fa : Addr) (cd : Value) (L : Addr) (it inn : Value) (gs : GenState) : Prop :=
  ∃ kk l p F2 F1 cl, gs = .suspended kk l (fromC inn) p [F2, F1] cl ∧ kk (.send .none) = (Builtin.Generator.sleptOver inn false >>= fun _ => (.pure (.again (fromC inn)) : Sem PySem.Fin)) ∧ F2Ok fa cd L it F2 ∧ F1Ok fa cd L F1

section
variable (fa : Addr) (cd : Value)
noncomputable def Ok (s : Shared) : Nd → Nat → Prop
  | .leaf v, _ => IsLeafV v
  | .seq a tup xs, _ => IsSeqO s.heap a tup xs.vals ∧ xs.isL ∧ Ok s xs 0
  | .sit a l tup i xs, _ => IsItO s.heap a l tup i ∧ (∃ items, IsSeqO s.heap l tup items ∧ items.drop i = xs.vals) ∧ xs.isL ∧ Ok s xs 0
  | .fresh a g L x, k => IsGenO s.heap a g k ∧ s.gens[g]? = some (.fresh (.func flatBody (fenv fa cd L))) ∧ s.heap.Ns L (fun y => if y = Str.ofString "x" then some x.val else none) ∧ x.isBox ∧ Ok s x 0
  | .aty a g L src, k => IsGenO s.heap a g k ∧ (∃ gs, s.gens[g]? = some gs ∧ GAty fa cd L src.val gs) ∧ (∃ m, s.heap.Ns L m) ∧ src.isSrc ∧ Ok s src 0
  | .atf a g L src inn, k => IsGenO s.heap a g k ∧ (∃ gs, s.gens[g]? = some gs ∧ GAtf fa cd L src.val inn.val gs) ∧ (∃ m, s.heap.Ns L m) ∧ src.isSrc ∧ inn.isGen ∧ Ok s src 0 ∧ Ok s inn 1
  | .nil, _ => True
  | .cons x xs, _ => x.isEl ∧ xs.isL ∧ Ok s x 0 ∧ Ok s xs 0

/-- all but O and G stands as it stood -/
structure Chg (O : Addr → Prop) (G : Nat → Prop) (s s' : Shared) : Prop where
  heap : ∀ b o, ¬ O b → s.heap.get? b = some o → s'.heap.get? b = some o
  gens : ∀ g x, ¬ G g → s.gens[g]? = some x → s'.gens[g]? = some x
  os : s'.os = s.os

def NotSeq (o : Obj) : Prop := ∀ its n, o.data ≠ .seq its n

variable {fa : Addr} {cd : Value} {s s' : Shared} {O : Addr → Prop} {G : Nat → Prop}

theorem Chg.refl (s : Shared) : Chg O G s s := ⟨fun _ _ _ e => e, fun _ _ _ e => e, rfl⟩
theorem Chg.of_grow (h : Grow s s') : Chg O G s s' := ⟨fun b o _ e => h.heap b o e, fun g x _ e => by rw [h.gens]; exact e, h.os⟩
theorem Chg.wider {O' : Addr → Prop} {G' : Nat → Prop} (h : Chg O G s s') (hO : ∀ b, O b → O' b ∨ s.heap.get? b = none) (hG : ∀ g, G g → G' g ∨ s.gens[g]? = none) : Chg O' G' s s' := by
  refine ⟨fun b o nb e => ?_, fun g x ng e => ?_, h.os⟩
  · refine h.heap b o (fun hb => ?_) e
    rcases hO b hb with q | q
    · exact nb q
    · rw [q] at e; cases e
  · refine h.gens g x (fun hg => ?_) e
    rcases hG g hg with q | q
    · exact ng q
    · rw [q] at e; cases e
theorem Chg.trans {s'' : Shared} {O₂ : Addr → Prop} {G₂ : Nat → Prop} (h : Chg O G s s') (h' : Chg O₂ G₂ s' s'') (hO : ∀ b, O₂ b → O b ∨ s.heap.get? b = none) (hG : ∀ g, G₂ g → G g ∨ s.gens[g]? = none) : Chg O G s s'' := by
  refine ⟨fun b o nb e => ?_, fun g x ng e => ?_, h'.os.trans h.os⟩
  · refine h'.heap b o (fun hb => ?_) (h.heap b o nb e)
    rcases hO b hb with q | q
    · exact nb q
    · rw [q] at e; cases e
  · refine h'.gens g x (fun hg => ?_) (h.gens g x ng e)
    rcases hG g hg with q | q
    · exact ng q
    · rw [q] at e; cases e
/-- what was new to the later state was new to the earlier one, or of those that turn -/
theorem Chg.new (h : Chg O G s s') {b : Addr} (e : s'.heap.get? b = none) : O b ∨ s.heap.get? b = none := by
  by_cases hb : O b
  · exact .inl hb
  · refine .inr ?_
    cases q : s.heap.get? b with
    | none => rfl
    | some o => rw [h.heap b o hb q] at e; cases e
theorem Chg.newG (h : Chg O G s s') {g : Nat} (e : s'.gens[g]? = none) : G g ∨ s.gens[g]? = none := by
  by_cases hb : G g
  · exact .inl hb
  · refine .inr ?_
    cases q : s.gens[g]? with
    | none => rfl
    | some o => rw [h.gens g o hb q] at e; cases e

theorem IsSeqO.at {h h' : Heap} {a : Addr} {tup : Bool} {items : List Value} (x : IsSeqO h a tup items) (k : ∀ o, h.get? a = some o → h'.get? a = some o) : IsSeqO h' a tup items :=
  let ⟨n, sl, e⟩ := x; ⟨n, sl, k _ e⟩
theorem IsGenO.at {h h' : Heap} {a : Addr} {g k : Nat} (x : IsGenO h a g k) (q : ∀ o, h.get? a = some o → h'.get? a = some o) : IsGenO h' a g k :=
  let ⟨nm, qn, sl, e, r⟩ := x; ⟨nm, qn, sl, q _ e, r⟩
theorem IsSeqO.not {h : Heap} {a : Addr} {tup : Bool} {items : List Value} (x : IsSeqO h a tup items) (hO : ∀ b o, O b → h.get? b = some o → NotSeq o) : ¬ O a := by
  obtain ⟨n, sl, e⟩ := x
  exact fun ha => hO a _ ha e _ _ rfl

theorem Ok.chg (C : Chg O G s s') (hO : ∀ b o, O b → s.heap.get? b = some o → NotSeq o) : ∀ (nd : Nd) (k : Nat), Ok fa cd s nd k → (∀ b ∈ nd.own, ¬ O b) → (∀ g ∈ nd.ogs, ¬ G g) → Ok fa cd s' nd k := by
  intro nd
  induction nd with
  | leaf v => intro k h _ _; exact h
  | seq a tup xs ih =>
    intro k ⟨h1, h2, h3⟩ ho hg
    exact ⟨h1.at fun o e => C.heap a o (h1.not hO) e, h2, ih 0 h3 ho hg⟩
  | sit a l tup i xs ih =>
    intro k ⟨h1, ⟨items, h2, h3⟩, h4, h5⟩ ho hg
    exact ⟨C.heap a _ (ho a (.head _)) h1, ⟨items, h2.at fun o e => C.heap l o (h2.not hO) e, h3⟩, h4, ih 0 h5 (fun b hb => ho b (.tail _ hb)) hg⟩
  | fresh a g L x ih =>
    intro k ⟨h1, h2, h3, h4, h5⟩ ho hg
    exact ⟨h1.at fun o e => C.heap a o (ho a (.head _)) e, C.gens g _ (hg g (.head _)) h2, h3.at fun o e => C.heap L o (ho L (.tail _ (.head _))) e, h4,
      ih 0 h5 (fun b hb => ho b (.tail _ (.tail _ hb))) fun b hb => hg b (.tail _ hb)⟩
  | aty a g L src ih =>
    intro k ⟨h1, ⟨gs, h2, h2'⟩, ⟨m, h3⟩, h4, h5⟩ ho hg
    exact ⟨h1.at fun o e => C.heap a o (ho a (.head _)) e, ⟨gs, C.gens g _ (hg g (.head _)) h2, h2'⟩, ⟨m, h3.at fun o e => C.heap L o (ho L (.tail _ (.head _))) e⟩, h4,
      ih 0 h5 (fun b hb => ho b (.tail _ (.tail _ hb))) fun b hb => hg b (.tail _ hb)⟩
  | atf a g L src inn ih1 ih2 =>
    intro k ⟨h1, ⟨gs, h2, h2'⟩, ⟨m, h3⟩, h4, h5, h6, h7⟩ ho hg
    exact ⟨h1.at fun o e => C.heap a o (ho a (.head _)) e, ⟨gs, C.gens g _ (hg g (.head _)) h2, h2'⟩, ⟨m, h3.at fun o e => C.heap L o (ho L (.tail _ (.head _))) e⟩, h4, h5,
      ih1 0 h6 (fun b hb => ho b (.tail _ (.tail _ (List.mem_append_left _ hb)))) (fun b hb => hg b (.tail _ (List.mem_append_left _ hb))),
      ih2 1 h7 (fun b hb => ho b (.tail _ (.tail _ (List.mem_append_right _ hb)))) fun b hb => hg b (.tail _ (List.mem_append_right _ hb))⟩
  | nil => intro k h _ _; exact h
  | cons x xs ih1 ih2 =>
    intro k ⟨h1, h2, h3, h4⟩ ho hg
    exact ⟨h1, h2, ih1 0 h3 (fun b hb => ho b (List.mem_append_left _ hb)) (fun b hb => hg b (List.mem_append_left _ hb)),
      ih2 0 h4 (fun b hb => ho b (List.mem_append_right _ hb)) fun b hb => hg b (List.mem_append_right _ hb)⟩

theorem ns_notSeq {h : Heap} {L : Addr} {m : Str → Option Value} (x : h.Ns L m) : ∃ o, h.get? L = some o ∧ NotSeq o := by
  obtain ⟨o, es, ep, h1, h2, _⟩ := x
  exact ⟨o, h1, fun its n e => by rw [h2] at e; cases e⟩
theorem gen_notSeq {h : Heap} {a : Addr} {g k : Nat} (x : IsGenO h a g k) : ∃ o, h.get? a = some o ∧ NotSeq o := by
  obtain ⟨nm, qn, sl, e, _⟩ := x
  exact ⟨_, e, fun its n q => by cases q⟩

theorem Ok.own : ∀ (nd : Nd) (k : Nat), Ok fa cd s nd k → ∀ b ∈ nd.own, ∃ o, s.heap.get? b = some o ∧ NotSeq o := by
  intro nd
  induction nd with
  | leaf v => intro k _ b hb; cases hb
  | seq a tup xs ih => intro k ⟨_, _, h⟩ b hb; exact ih 0 h b hb
  | sit a l tup i xs ih =>
    intro k ⟨h1, _, _, h⟩ b hb
    rcases List.mem_cons.mp hb with rfl | hb
    · exact ⟨_, h1, fun its n q => by cases q⟩
    · exact ih 0 h b hb
  | fresh a g L x ih =>
    intro k ⟨h1, _, h3, _, h⟩ b hb
    rcases List.mem_cons.mp hb with rfl | hb
    · exact gen_notSeq h1
    rcases List.mem_cons.mp hb with rfl | hb
    · exact ns_notSeq h3
    · exact ih 0 h b hb
  | aty a g L src ih =>
    intro k ⟨h1, _, ⟨m, h3⟩, _, h⟩ b hb
    rcases List.mem_cons.mp hb with rfl | hb
    · exact gen_notSeq h1
    rcases List.mem_cons.mp hb with rfl | hb
    · exact ns_notSeq h3
    · exact ih 0 h b hb
  | atf a g L src inn ih1 ih2 =>
    intro k ⟨h1, _, ⟨m, h3⟩, _, _, h, h'⟩ b hb
    rcases List.mem_cons.mp hb with rfl | hb
    · exact gen_notSeq h1
    rcases List.mem_cons.mp hb with rfl | hb
    · exact ns_notSeq h3
    rcases List.mem_append.mp hb with hb | hb
    · exact ih1 0 h b hb
    · exact ih2 1 h' b hb
  | nil => intro k _ b hb; cases hb
  | cons x xs ih1 ih2 =>
    intro k ⟨_, _, h, h'⟩ b hb
    rcases List.mem_append.mp hb with hb | hb
    · exact ih1 0 h b hb
    · exact ih2 0 h' b hb

theorem Ok.ogs : ∀ (nd : Nd) (k : Nat), Ok fa cd s nd k → ∀ g ∈ nd.ogs, ∃ x, s.gens[g]? = some x := by
  intro nd
  induction nd with
  | leaf v => intro k _ b hb; cases hb
  | seq a tup xs ih => intro k ⟨_, _, h⟩ b hb; exact ih 0 h b hb
  | sit a l tup i xs ih => intro k ⟨_, _, _, h⟩ b hb; exact ih 0 h b hb
  | fresh a g L x ih =>
    intro k ⟨_, h2, _, _, h⟩ b hb
    rcases List.mem_cons.mp hb with rfl | hb
    · exact ⟨_, h2⟩
    · exact ih 0 h b hb
  | aty a g L src ih =>
    intro k ⟨_, ⟨gs, h2, _⟩, _, _, h⟩ b hb
    rcases List.mem_cons.mp hb with rfl | hb
    · exact ⟨_, h2⟩
    · exact ih 0 h b hb
  | atf a g L src inn ih1 ih2 =>
    intro k ⟨_, ⟨gs, h2, _⟩, _, _, _, h, h'⟩ b hb
    rcases List.mem_cons.mp hb with rfl | hb
    · exact ⟨_, h2⟩
    rcases List.mem_append.mp hb with hb | hb
    · exact ih1 0 h b hb
    · exact ih2 1 h' b hb
  | nil => intro k _ b hb; cases hb
  | cons x xs ih1 ih2 =>
    intro k ⟨_, _, h, h'⟩ b hb
    rcases List.mem_append.mp hb with hb | hb
    · exact ih1 0 h b hb
    · exact ih2 0 h' b hb

theorem Ok.box {nd : Nd} {k : Nat} (h : Ok fa cd s nd k) (hb : nd.isBox) : IsBox s.heap nd.val := by
  cases nd with
  | leaf v => exact hb.elim
  | seq a tup xs =>
    obtain ⟨⟨n, sl, e⟩, _⟩ := h
    cases tup
    · exact ⟨a, rfl, .inl ⟨_, _, _, e⟩⟩
    · exact ⟨a, rfl, .inr (.inl ⟨_, _, _, e⟩)⟩
  | sit a l tup i xs =>
    obtain ⟨e, _⟩ := h
    have : tup = false := hb
    subst this
    exact ⟨a, rfl, .inr (.inr (.inl ⟨_, _, e⟩))⟩
  | fresh a g L x => obtain ⟨⟨nm, qn, sl, e, _⟩, _⟩ := h; exact ⟨a, rfl, .inr (.inr (.inr (.inr ⟨_, _, e⟩)))⟩
  | aty a g L x => obtain ⟨⟨nm, qn, sl, e, _⟩, _⟩ := h; exact ⟨a, rfl, .inr (.inr (.inr (.inr ⟨_, _, e⟩)))⟩
  | atf a g L x y => obtain ⟨⟨nm, qn, sl, e, _⟩, _⟩ := h; exact ⟨a, rfl, .inr (.inr (.inr (.inr ⟨_, _, e⟩)))⟩
  | nil => exact hb.elim
  | cons x xs => exact hb.elim

variable (fa cd) in
/-- a part that stands well, apart from the base and from itself -/
structure Good (h₀ : Heap) (s : Shared) (nd : Nd) (k : Nat) : Prop where
  ok : Ok fa cd s nd k
  apart : nd.own.Nodup
  apartG : nd.ogs.Nodup
  new : ∀ b ∈ nd.own, h₀.get? b = none
def Keep (h₀ : Heap) (s : Shared) : Prop := ∀ b o, h₀.get? b = some o → s.heap.get? b = some o
theorem Keep.chg {h₀ : Heap} (K : Keep h₀ s) (C : Chg O G s s') (hO : ∀ b, O b → h₀.get? b = none) : Keep h₀ s' := fun b o e => C.heap b o (fun hb => by rw [hO b hb] at e; cases e) (K b o e)
theorem Keep.grow {h₀ : Heap} (K : Keep h₀ s) (g : Grow s s') : Keep h₀ s' := fun b o e => g.heap b o (K b o e)
theorem Good.chg {h₀ : Heap} {nd : Nd} {k : Nat} (g : Good fa cd h₀ s nd k) (C : Chg O G s s') (hO : ∀ b o, O b → s.heap.get? b = some o → NotSeq o) (h1 : ∀ b ∈ nd.own, ¬ O b) (h2 : ∀ x ∈ nd.ogs, ¬ G x) : Good fa cd h₀ s' nd k :=
  ⟨g.ok.chg C hO _ _ h1 h2, g.apart, g.apartG, g.new⟩
theorem Good.grow {h₀ : Heap} {nd : Nd} {k : Nat} (g : Good fa cd h₀ s nd k) (C : Grow s s') : Good fa cd h₀ s' nd k :=
  g.chg (Chg.of_grow (O := fun _ => False) (G := fun _ => False) C) (fun _ _ h => h.elim) (fun _ _ h => h) fun _ _ h => h
end
end Mine

namespace Mine
open PySem PySem.Calls PyProof.Rows

section
variable {α β : Type} {M : Model} {A : Around} {c : Code} {fs : List Frame} {P : End → Shared → Prop} {s : Shared}
theorem segJ_bindW {m : Sem α} {f : α → Sem β} {K : β → Sem PySem.Fin} {H : Value → Sem PySem.Fin} {gd : Bool → Bool} {lv : List Value → List Value}
    (h : wpJ M (A.over c fs) m (fun a s' => SegJ M A c ((f a).wrap K H gd lv) fs s' P) (fun x s' => SegJ M A c (H x) fs s' P) s) : SegJ M A c ((m >>= f).wrap K H gd lv) fs s P := by
  rw [Sem.bind_eq_wrap', Sem.wrap_wrap]; exact segJ_wrap h
theorem segJ_bindWA {m : Sem α} {f : α → Sem β} {K : β → Sem PySem.Fin} {H : Value → Sem PySem.Fin} {gd : Bool → Bool} {lv : List Value → List Value}
    (h : wpAny M (A.over c fs) m (fun a s' => SegJ M A c ((f a).wrap K H gd lv) fs s' P) (fun _ _ => False) s) : SegJ M A c ((m >>= f).wrap K H gd lv) fs s P :=
  segJ_bindW (wpJ_of_any (wpAny_mono h (fun _ _ x => x) fun _ _ x => x.elim))
theorem segJ_eq {t t' : Sem PySem.Fin} (e : t = t') (h : SegJ M A c t' fs s P) : SegJ M A c t fs s P := by rw [e]; exact h
theorem segJ_wrapF {m : Sem α} {K : α → Sem PySem.Fin} {H : Value → Sem PySem.Fin} {gd : Bool → Bool} {lv : List Value → List Value}
    (h : wpJ M (A.over c fs) m (fun a s' => SegJ M A c (K a) fs s' P) (fun _ _ => False) s) : SegJ M A c (m.wrap K H gd lv) fs s P :=
  segJ_wrap (wpJ_mono h (fun _ _ x => x) fun _ _ x => x.elim)

theorem over_handled {A : Around} (c : Code) (k : Result → Sem PySem.Fin) (g : Bool) (l : List Value) (c₁ : Code) (p : Pos) : (A.over c [.ret k none g l c₁ p []]).handled = A.handled := rfl
theorem over_handled2 {A : Around} (c : Code) (k k' : Result → Sem PySem.Fin) (g g' : Bool) (l l' : List Value) (c₁ c₂ : Code) (p p' : Pos) : (A.over c [.ret k none g l c₁ p [], .ret k' none g' l' c₂ p' []]).handled = A.handled := rfl
end

section
variable {prog : Program} {w : World} {A : Around} {P : End → Shared → Prop} {s : Shared} {fa : Addr} {cd : Value} {L : Addr} {m : Str → Option Value} {v : Value} {it : Value}

theorem over_F1 {F : Frame} (h : F1Ok fa cd L F) (c : Code) (hw : c.weight = 0) : (A.over c [F]).handled = A.handled ∧ (A.over c [F]).depth = A.depth + 1 ∧ (A.over c [F]).units = A.units + 3 + c.cUnits := by
  obtain ⟨k, l, p, rfl, _⟩ := h
  refine ⟨rfl, ?_, rfl⟩
  show A.depth + frameCount [(.func flatBody (fenv fa cd L), p)] + c.weight = _
  rw [hw]; rfl
theorem over_F2 {F F' : Frame} (h' : F2Ok fa cd L it F') (h : F1Ok fa cd L F) (c : Code) (hw : c.weight = 0) : (A.over c [F', F]).handled = A.handled ∧ (A.over c [F', F]).depth = A.depth + 1 ∧ (A.over c [F', F]).units = A.units + 3 + c.cUnits := by
  obtain ⟨k, l, p, rfl, _⟩ := h
  obtain ⟨k', l', p', rfl, _⟩ := h'
  refine ⟨rfl, ?_, ?_⟩
  · show A.depth + frameCount [(loopC fa cd L it, p'), (.func flatBody (fenv fa cd L), p)] + c.weight = _
    rw [hw]; rfl
  · rfl
theorem over_func (c : Code) (hw : c.weight = 1) : (A.over c []).handled = A.handled ∧ (A.over c []).depth = A.depth + 1 ∧ (A.over c []).units = A.units + c.cUnits := by
  refine ⟨rfl, ?_, rfl⟩
  show A.depth + 0 + c.weight = _
  rw [hw]

/-- the generator's first turn: as far as its loop -/
theorem seg_start (hn : s.heap.Ns L m) (hv : m (Str.ofString "x") = some v)
    (h : wpAny (model prog w) (A.over (.func flatBody (fenv fa cd L)) []) (pyIter v) (fun it s' => ∀ F1, F1Ok fa cd L F1 → SegJ (model prog w) A (loopC fa cd L it) ((model prog w).den (loopC fa cd L it)) [F1] s' P) (fun _ _ => False) s) :
    SegJ (model prog w) A (.func flatBody (fenv fa cd L)) ((model prog w).den (.func flatBody (fenv fa cd L))) [] s P := by
  show SegJ _ A _ (.point [] fun _ => ((execs flatBody (fenv fa cd L)).onRaise (leaving (fenv fa cd L))) >>= fun f => match f with | .ret v => ret v | _ => ret .none) [] s P
  refine segJ_point ?_
  have e0 : execs flatBody (fenv fa cd L) = execs (bodyOf ps) (fenv fa cd L) := by rw [flatBody_eq]
  rw [e0, Sem.onRaise_eq_wrap, Sem.bind_eq_wrap', Sem.wrap_wrap]
  show SegJ _ A _ (Sem.wrap _ _ _ _ (exec (.For (.Name "elem" ps.v) (.Name "x" ps.w) (turnOf ps) [] ps.x) (fenv fa cd L) >>= fun f => match f with | .next => execs [] (fenv fa cd L) | f => pure f)) [] s P
  rw [Sem.bind_eq_wrap', Sem.wrap_wrap, exec_For]
  refine segJ_bindWA (wpAny_standAt ?_)
  refine segJ_bindWA (ld_elem look_x hn hv ?_)
  refine segJ_bindWA (m := foldedSetIterable (.Name "x" ps.w) (fenv fa cd L) v) (wpAny_pure ?_)
  refine segJ_bindWA (wpAny_standAt ?_)
  refine segJ_bindWA (wpAny_holding (wpAny_mono h (fun it s' x => ?_) fun _ _ x => x))
  unfold runOwn run
  refine segJ_call fun p => ?_
  exact x _ ⟨_, _, _, rfl, rfl⟩

/-- the loop has come to its end -/
theorem loop_done {F1 : Frame} {c : Code} (hF : F1Ok fa cd L F1) (h : P (.ret (.ok (.ret .none))) s) : SegJ (model prog w) A c (.pure (.again (.block [] (fenv fa cd L)))) [F1] s P := by
  obtain ⟨k, l, p, rfl, hk⟩ := hF
  refine segJ_again rfl ?_
  show SegJ _ A _ (leafOf (.ok .next)) _ s P
  refine segJ_leaf _ ?_
  rw [hk]
  exact segJ_end (.ok (.ret .none)) h

noncomputable def turnK (fa : Addr) (cd : Value) (L : Addr) (it : Value) : Flow → Sem PySem.Fin
  | .next | .cont => .pure (.again (loopC fa cd L it))
  | .brk => .pure (.done .next)
  | .ret v => .pure (.done (.ret v))

/-- one turn of the loop -/
theorem loop_turn {F1 : Frame}
    (h : wpJ (model prog w) (A.over (loopC fa cd L it) [F1]) (pyNext it) (fun r s₁ => match r with
      | none => SegJ (model prog w) A (loopC fa cd L it) (.pure (.again (.block [] (fenv fa cd L)))) [F1] s₁ P
      | some v => ∃ m, s₁.heap.Ns L m ∧ ∀ h' n H, h'.Ns L (fun x => if x = Str.ofString "elem" then some v else m x) → Heap.SameBut L s₁.heap h' →
          SegJ (model prog w) A (loopC fa cd L it) ((execs (turnOf ps) (fenv fa cd L)).wrap (turnK fa cd L it) H id id) [F1] { s₁ with heap := h', toks := n } P) (fun _ _ => False) s) :
    SegJ (model prog w) A (loopC fa cd L it) ((model prog w).den (loopC fa cd L it)) [F1] s P := by
  show SegJ _ A _ ((forTurn (.Name "elem" ps.v) it (turnOf ps) [] (fenv fa cd L)).onRaise (fun x => do noteFrame x (fenv fa cd L); theTreesLotGoes x)) [F1] s P
  rw [Sem.onRaise_eq_wrap]
  unfold forTurn
  refine segJ_bindWA (wpAny_standAt ?_)
  refine segJ_bindW (wpJ_onRaise (wpJ_mono h (fun r s₁ hr => ?_) fun _ _ x => x.elim))
  cases r with
  | none => exact hr
  | some v =>
    obtain ⟨m, hns, hr⟩ := hr
    refine segJ_bindWA (m := letOwnedTupleGo (.Name "elem" ps.v) it v) (wpAny_pure ?_)
    refine segJ_bindWA (m := assign (.Name "elem" ps.v) (fenv fa cd L) v) ?_
    rw [PySem.assign_Name]
    refine wpAny_bind (wpAny_standAt (wpAny_bindName (wpAny_storeName_local look_elem hns (fun h' hn' hs' => ?_) rfl)))
    rw [Sem.bind_eq_wrap', Sem.wrap_wrap]
    refine segJ_eq ?_ (hr h' (s₁.toks + 1) (fun e => Sem.wrap Sem.pure (fun e => (do noteFrame e (fenv fa cd L); theTreesLotGoes e : Sem Unit).bind fun _ => Sem.raise e) id id (Sem.raise e)) hn' hs')
    exact Sem.wrap_congr _ _ _ (fun f => by cases f <;> rfl) (fun _ => rfl)

/-- a turn whose element is a leaf: it is handed out -/
theorem turn_leaf {F1 : Frame} {H : Value → Sem PySem.Fin} (hF : F1Ok fa cd L F1) (hA : A.handled = none) (hE : EnvG fa cd s.heap) (hn : s.heap.Ns L m) (hv : m (Str.ofString "elem") = some v) (hl : IsLeafV v)
    (h : ∀ s', Grow s s' → ∀ kk p, kk (.send .none) = .pure (.again (loopC fa cd L it)) → P (.susp v false [] kk (loopC fa cd L it) p [F1]) s') :
    SegJ (model prog w) A (loopC fa cd L it) ((execs (turnOf ps) (fenv fa cd L)).wrap (turnK fa cd L it) H id id) [F1] s P := by
  have hv0 : ∀ a, v ≠ .ref a := by
    rcases hl with rfl | ⟨i, t, rfl⟩ | ⟨x, t, rfl⟩ <;> intro a e <;> cases e
  show SegJ _ A _ (Sem.wrap _ _ _ _ (exec (.If (testOf ps) [fromOf ps] [yieldOf ps] ps.u) (fenv fa cd L) >>= fun f => match f with | .next => execs [] (fenv fa cd L) | f => pure f)) [F1] s P
  rw [Sem.bind_eq_wrap', Sem.wrap_wrap, exec_If]
  refine segJ_bindWA (wpAny_standAt ?_)
  refine segJ_bindWA (test_leaf ((over_F1 hF _ rfl).1.trans hA) hE hn hv hl fun s' G => ?_)
  simp only [Bool.false_eq_true, if_false]
  show SegJ _ A _ (Sem.wrap _ _ _ _ (exec (yieldOf ps) (fenv fa cd L) >>= fun f => match f with | .next => execs [] (fenv fa cd L) | f => pure f)) [F1] s' P
  rw [Sem.bind_eq_wrap', Sem.wrap_wrap]
  unfold yieldOf
  rw [exec_Expr (fenv fa cd L) _ _ rfl rfl]
  refine segJ_bindWA (wpAny_standAt ?_)
  show SegJ _ A _ (Sem.wrap _ _ _ _ ((eval (.Name "elem" ps.q) (fenv fa cd L) >>= fun v => (standAt ps.r >>= fun _ => yieldOut (fenv fa cd L) v)) >>= fun x => dropValue (.Yield (some (.Name "elem" ps.q)) ps.r) ps.t x)) [F1] s' P
  rw [Sem.bind_eq_wrap', Sem.wrap_wrap]
  refine segJ_bindWA (ld_elem look_elem (hn.keeps G.heap) hv ?_)
  refine segJ_bindWA (wpAny_standAt ?_)
  obtain ⟨k1, l1, p1, rfl, hk1⟩ := id hF
  refine segJ_yield rfl (fun p => ⟨rfl, .inl rfl⟩) fun p => ?_
  refine h s' G _ p ?_
  rfl

/-- a turn whose element has an __iter__: a walk of its own begins, as far as its first step -/
theorem turn_box {F1 : Frame} {H : Value → Sem PySem.Fin} (hF : F1Ok fa cd L F1) (hd : A.depth + 1 < recursionLimit) (hE : EnvG fa cd s.heap) (hn : s.heap.Ns L m) (hv : m (Str.ofString "elem") = some v) (hb : IsBox s.heap v)
    (h : ∀ s' a' L', (∀ b o, s.heap.get? b = some o → s'.heap.get? b = some o) → s.heap.get? a' = none → s.heap.get? L' = none → a' ≠ L' → IsGenO s'.heap a' s.gens.size 0 →
      s'.heap.Ns L' (fun y => if y = Str.ofString "x" then some v else none) → s'.gens = s.gens.push (.fresh (.func flatBody (fenv fa cd L'))) → s'.os = s.os →
      ∀ F2, F2Ok fa cd L it F2 → SegJ (model prog w) A (fromC (.ref a')) ((model prog w).den (fromC (.ref a'))) [F2, F1] s' P) :
    SegJ (model prog w) A (loopC fa cd L it) ((execs (turnOf ps) (fenv fa cd L)).wrap (turnK fa cd L it) H id id) [F1] s P := by
  show SegJ _ A _ (Sem.wrap _ _ _ _ (exec (.If (testOf ps) [fromOf ps] [yieldOf ps] ps.u) (fenv fa cd L) >>= fun f => match f with | .next => execs [] (fenv fa cd L) | f => pure f)) [F1] s P
  rw [Sem.bind_eq_wrap', Sem.wrap_wrap, exec_If]
  refine segJ_bindWA (wpAny_standAt ?_)
  refine segJ_bindWA (test_box hE hn hv hb fun s' G => ?_)
  simp only [if_true]
  show SegJ _ A _ (Sem.wrap _ _ _ _ (exec (fromOf ps) (fenv fa cd L) >>= fun f => match f with | .next => execs [] (fenv fa cd L) | f => pure f)) [F1] s' P
  rw [Sem.bind_eq_wrap', Sem.wrap_wrap]
  unfold fromOf
  rw [exec_Expr (fenv fa cd L) _ _ rfl rfl]
  refine segJ_bindWA (wpAny_standAt ?_)
  show SegJ _ A _ (Sem.wrap _ _ _ _ ((eval (.Call (.Name "flatten_iterator" ps.k) [.Name "elem" ps.l] [] ps.m) (fenv fa cd L) >>= fun v => (standAt ps.n >>= fun _ => yieldFrom (fenv fa cd L) v)) >>= fun x => dropValue (.YieldFrom (.Call (.Name "flatten_iterator" ps.k) [.Name "elem" ps.l] [] ps.m) ps.n) ps.o x)) [F1] s' P
  rw [Sem.bind_eq_wrap', Sem.wrap_wrap]
  have hE' := hE.keeps G.heap
  obtain ⟨o, pm, doc, ho, hdat⟩ := id hE'.fn
  have hdep : (A.over (loopC fa cd L it) [F1]).depth < recursionLimit := by rw [(over_F1 hF _ rfl).2.1]; exact hd
  refine segJ_bindWA (m := eval (.Call (.Name "flatten_iterator" ps.k) [.Name "elem" ps.l] [] ps.m) (fenv fa cd L)) ?_
  show wpAny _ _ (do callWith ps.m (← eval (.Name "flatten_iterator" ps.k) (fenv fa cd L)) [] (backTo ps.m (starEach [.Name "elem" ps.l] (fenv fa cd L))) (backToKw ps.m (keywordEach [] (fenv fa cd L)))) _ _ _
  refine wpAny_bind (ld_glob hE' look_flat (v := .ref fa) (fun mg mb _ _ _ _ _ a _ _ _ => .inl a) ?_)
  refine callWith_function (o := o) (fd := docDef "flatten_iterator" flatParams flatBody flatScope pm cd doc) ?_
  refine evalArgs_plain ?_
  refine spliced_cons ?_
  refine ld_elem look_elem (hn.keeps G.heap) hv ?_
  refine spliced_nil ⟨⟨ho, hdat⟩, ?_⟩
  refine call_flat hE' hdep fun a' L' h' nm qn tk n1 n2 n3 keep hgen hns => ?_
  have hG : IsGenO h' a' s'.gens.size 0 := ⟨nm, qn, #[], hgen, .inl ⟨rfl, rfl⟩⟩
  refine segJ_bindWA (wpAny_standAt ?_)
  unfold yieldFrom
  refine segJ_bindWA (wpAny_typeOf (T := "generator") ⟨_, hgen, rfl⟩ ?_)
  rw [if_neg (by decide)]
  refine segJ_bindWA (wpAny_holding (iter_gen hG ?_))
  unfold runValue run
  refine segJ_call fun p => ?_
  have old : ∀ b, s'.heap.get? b = none → s.heap.get? b = none := fun b e => by
    cases q : s.heap.get? b with
    | none => rfl
    | some o => rw [G.heap b o q] at e; cases e
  refine h { s' with heap := h', gens := s'.gens.push (.fresh (.func flatBody (fenv fa cd L'))), toks := tk } a' L' (fun b o e => keep b o (G.heap b o e)) (old _ n1) (old _ n2) n3 (by rw [← G.gens]; exact hG) hns (by show s'.gens.push _ = _; rw [G.gens]) G.os _ ⟨_, _, _, rfl, ?_⟩
  rfl
end
end Mine

namespace Mine
open PySem PySem.Calls PyProof.Rows

theorem entry_from : entryFor table "proto.yield_from" = some Builtin.«proto.yield_from» := entryFor_of_fast (by kernel_rfl)
theorem den_builtin {prog : Program} {w : World} {id : String} {args : Args} {b : Builtin} (hb : entryFor table id = some b) : (model prog w).den (.builtin id args) = b args := by
  show (match entryFor table id with | some b => b args | none => unsupported ((withoutEnding? id "#data").getD id)) = _
  rw [hb]
theorem lk_gen_close : typeLookup (.type "generator") "close" = pure (some (.builtin "generator.close")) := by rw [typeLookup_type, builtinLookup_eq_fast]; kernel_rfl
theorem meta_stop : typeOf (.type "StopIteration") = pure (.type "type") := by kernel_rfl
theorem sub_stop : isSubtype (.type "StopIteration") (.type "StopIteration") = pure true := by rw [isSubtype_type]; kernel_rfl

/-- a StopIteration without a value -/
def StopAt (s : Shared) (e : Value) : Prop := ∃ x vs, e = .ref x ∧ s.heap.get? x = some ⟨.type "StopIteration", none, .fields vs, #[]⟩ ∧ vs[5]? = some .none

section
variable {prog : Program} {w : World} {A : Around} {P : End → Shared → Prop} {s : Shared} {fa : Addr} {cd : Value} {L : Addr} {it : Value}

theorem seg_from {F1 F2 : Frame} {a' : Addr} {g' : Nat} (hF2 : F2Ok fa cd L it F2)  (hF1 : F1Ok fa cd L F1)
    (h : wpJ (model prog w) (A.over (fromC (.ref a')) [F2, F1]) (callSpecial? (.ref a') "__next__") (fun r s₁ => ∃ v, r = some v ∧ IsGenO s₁.heap a' g' 0 ∧
        ∀ h' kk p, IsGenO h' a' g' 1 → Heap.SameBut a' s₁.heap h' → kk (.send .none) = (Builtin.Generator.sleptOver (.ref a') false >>= fun _ => (.pure (.again (fromC (.ref a'))) : Sem PySem.Fin)) →
          P (.susp v true [] kk (fromC (.ref a')) p [F2, F1]) { s₁ with heap := h' })
      (fun e s₁ => StopAt s₁ e ∧ SegJ (model prog w) A (loopC fa cd L it) (.pure (.again (loopC fa cd L it))) [F1] s₁ P) s) :
    SegJ (model prog w) A (fromC (.ref a')) ((model prog w).den (fromC (.ref a'))) [F2, F1] s P := by
  rw [show (model prog w).den (fromC (.ref a')) = _ from den_builtin entry_from]
  unfold Builtin.«proto.yield_from»
  refine segJ_bind (m := (pure Value.none : Sem Value)) (wpJ_pure ?_)
  have endS : ∀ e s₁, StopAt s₁ e ∧ SegJ (model prog w) A (loopC fa cd L it) (.pure (.again (loopC fa cd L it))) [F1] s₁ P →
      SegJ (model prog w) A (fromC (.ref a')) (do
        if ← Builtin.Generator.endsTheTurnAsAValue false e then
          rule "yield-from.value"
          ret (← field e 5)
        else throw e) [F2, F1] s₁ P := by
    rintro e s₁ ⟨⟨x, vs, rfl, hx, h5⟩, hs⟩
    have h0 : wpAny (model prog w) (A.over (fromC (.ref a')) [F2, F1]) (Builtin.Generator.endsTheTurnAsAValue false (.ref x)) (fun b s' => b = true ∧ s' = s₁) (fun _ _ => False) s₁ := by
      unfold Builtin.Generator.endsTheTurnAsAValue Builtin.Generator.isStopAndMetaclass
      have hT : s₁.TypeIs (.ref x) "StopIteration" := ⟨_, hx, rfl⟩
      have f1 := sub_stop
      have f2 := meta_stop
      repeat (any_goals (first | assumption | wp_step))
      exact ⟨rfl, rfl⟩
    refine segJ_bind (wpJ_mono (wpJ_of_any h0) (fun b s' hb => ?_) fun _ _ q => q.elim)
    obtain ⟨rfl, rfl⟩ := hb
    rw [if_pos rfl]
    refine segJ_bind (wpJ_of_any (wpAny_rule ?_))
    refine segJ_bind (wpJ_of_any (wpAny_field hx rfl h5 ?_))
    show SegJ _ A _ (leafOf (.ok (.ret .none))) _ _ P
    obtain ⟨k, l, p, rfl, hk⟩ := hF2
    refine segJ_leaf _ ?_
    rw [hk]; exact hs
  refine segJ_bind (wpJ_attempt (wpJ_holding ?_))
  rw [if_neg Bool.false_ne_true]
  rw [if_pos (show (Value.none == Value.none) = true from rfl)]
  refine wpJ_bindA (wpAny_rule ?_)
  refine wpJ_bind (wpJ_mono h (fun r s₁ hr => ?_) fun e s₁ he => ?_)
  · obtain ⟨v, rfl, hgen, hP⟩ := hr
    refine wpJ_pure ?_
    dsimp only
    refine segJ_bind (wpJ_of_any (wpAny_typeOf (T := "generator") (genO_type hgen) ?_))
    refine segJ_bind (wpJ_of_any (wpAny_of_eq lk_gen_close ?_))
    refine segJ_bind (m := (pure false : Sem Bool)) (wpJ_pure ?_)
    refine segJ_bind (wpJ_of_any (slept_more hgen fun h' hg' hs' => ?_))
    obtain ⟨k, l, p, rfl, hk⟩ := id hF2
    obtain ⟨k1, l1, p1, rfl, hk1⟩ := id hF1
    refine segJ_yield rfl (fun p => ⟨rfl, .inr ?_⟩) fun p => ?_
    · obtain ⟨nm, qn, sl, e, _⟩ := hg'
      exact ⟨a', _, _, _, g', rfl, e, rfl⟩
    · exact hP h' _ p hg' hs' rfl
  · exact endS e s₁ he
end
end Mine

namespace Mine
open PySem PySem.Calls PyProof.Rows

section
variable {prog : Program} {w : World} {A : Around} {E : Value → Shared → Prop} {s : Shared}

theorem codeJ_entry {T : String} {name : Str} {id : String} {b : Builtin} {self : Value} {rest : List Value} {R : Result → Shared → Prop} (h : Slot T name id) (hT : s.TypeIs self T) (hb : entryFor table id = some b) (ha : argsOk id ⟨self :: rest, []⟩)
    (hc : wpJ (model prog w) A.in1 (b ⟨self :: rest, []⟩) (fun fin s' => match fin with | .done f => R (.ok f) s' | .again c' => c'.quiet = true ∧ codeJ (model prog w) A c' R s') (fun e s' => R (.error e) s') s) :
    codeJ (model prog w) A (.call (.builtin id) ⟨self :: rest, []⟩) R s := by
  refine codeJ_of_tree ?_
  show wpJ _ A.in1 (do checkBuiltinCall id ⟨self :: rest, []⟩; again (.builtin id ⟨self :: rest, []⟩)) _ _ s
  refine wpJ_bindA (h.check _ _ _ _ _ _ _ _ hT ha (wpJ_pure ⟨plainId_quiet h.plain _, codeJ_of_tree ?_⟩))
  rw [den_builtin hb, Around.under_plainId h.plain]
  exact hc

theorem callSpecial_J {T : String} {name : Str} {id : String} {b : Builtin} {self : Value} {Q : Option Value → Shared → Prop} (h : Slot T name id) (hT : s.TypeIs self T) (hb : entryFor table id = some b) (ha : argsOk id ⟨[self], []⟩)
    (hc : wpJ (model prog w) A.in1 (b ⟨[self], []⟩) (fun fin s' => ∃ v, fin = .done (.ret v) ∧ Q (some v) s') E s) : wpJ (model prog w) A (callSpecial? self name) Q E s := by
  simp only [callSpecial?]
  refine wpJ_bindA (wpAny_specialOf hT h.lookup ?_)
  simp only [h.bind]
  refine wpJ_holding (wpJ_bind (wpJ_pure (wpJ_bind ?_)))
  refine wpJ_call (codeJ_entry h hT hb ha (wpJ_mono hc (fun fin s' x => ?_) fun _ _ x => x))
  obtain ⟨v, rfl, x⟩ := x
  exact wpJ_pure x

theorem pyNext_J {v : Value} {Q : Option Value → Shared → Prop} (h : wpJ (model prog w) A (callSpecial? v "__next__") (fun r s' => ∃ x, r = some x ∧ Q (some x) s') (fun e s' => StopAt s' e ∧ Q none s') s) : wpJ (model prog w) A (pyNext v) Q E s := by
  unfold pyNext
  refine wpJ_bind (wpJ_attempt (wpJ_mono h (fun r s' x => ?_) fun e s' x => ?_))
  · obtain ⟨x, rfl, q⟩ := x
    exact wpJ_pure q
  · obtain ⟨⟨x, vs, rfl, e, _⟩, q⟩ := x
    refine wpJ_bindA (wpAny_isInstance (T := "StopIteration") (b := true) ⟨_, e, rfl⟩ sub_stop ?_)
    exact wpJ_pure q

/-- next() of a generator that has not ended -/
theorem wake_J {a : Addr} {g : Nat} {gs : GenState} {c₀ : Code} {t₀ : Sem PySem.Fin} {fs₀ : List Frame} {P : End → Shared → Prop} {Q : Option Value → Shared → Prop} (hA : A.handled = none) (hl : s.heap.NoLimit) (hd : A.depth < recursionLimit)
    (hg : IsGenO s.heap a g 0) (hgs : s.gens[g]? = some gs) (ho : (gs = .fresh c₀ ∧ t₀ = (model prog w).den c₀ ∧ fs₀ = []) ∨ (∃ k₀ l₀ p₀ cl, gs = .suspended k₀ l₀ c₀ p₀ fs₀ cl ∧ t₀ = k₀ (.send .none)))
    (hs : SegJ (model prog w) A.in1 c₀ t₀ fs₀ (s.setGen g .running) P)
    (hP : ∀ e s₁, P e s₁ → (∃ v, e.result = .yielded v ∧ Q (some v) (s₁.setGen g e.genState)) ∨ (e = .ret (.ok (.ret .none)) ∧
      ∀ h' x, (∀ b o, s₁.heap.get? b = some o → h'.get? b = some o) → StopAt { (s₁.setGen g .finished) with heap := h' } x → E x { (s₁.setGen g .finished) with heap := h' })) :
    wpJ (model prog w) A (callSpecial? (.ref a) "__next__") Q E s := by
  refine callSpecial_J slot_gen_next (genO_type hg) entry_gen_next (args_gen_next _) ?_
  show wpJ _ _ (Builtin.Generator.genWake (.ref a) (.send .none)) _ _ s
  unfold Builtin.Generator.genWake
  refine wpJ_bindA (wpAny_holding (genNumber_ hg ?_))
  refine wpJ_bindA (wpAny_genState hgs ?_)
  have hgs' : (gs = .fresh c₀ ∧ Resume.send Value.none = .send .none ∧ t₀ = (model prog w).den c₀ ∧ fs₀ = []) ∨ (∃ k₀ l₀ p₀ cl, gs = .suspended k₀ l₀ c₀ p₀ fs₀ cl ∧ t₀ = k₀ (.send .none)) := by
    rcases ho with ⟨e0, e1, e2⟩ | ⟨k₀, l₀, p₀, cl, e0, e1⟩
    · exact .inl ⟨e0, rfl, e1, e2⟩
    · exact .inr ⟨k₀, l₀, p₀, cl, e0, e1⟩
  have two : (∃ c, gs = .fresh c) ∨ ∃ k l c p fs cl, gs = .suspended k l c p fs cl := by
    rcases ho with ⟨e0, _⟩ | ⟨k₀, l₀, p₀, cl, e0, _⟩
    · exact .inl ⟨_, e0⟩
    · exact .inr ⟨_, _, _, _, _, _, e0⟩
  clear ho
  rcases two with ⟨c, rfl⟩ | ⟨k, l, c, p, fs, cl, rfl⟩
  all_goals
  refine wpJ_bindA (wpAny_roomToWake hl hd ?_)
  show wpJ _ _ (.resume g (.send .none) [] _) _ _ s
  refine wpJ_resume hgs hgs' hs fun e s₁ he => ?_
  rcases hP e s₁ he with ⟨v, e1, q⟩ | ⟨rfl, q⟩
  · rw [e1]
    exact wpJ_pure ⟨v, rfl, q⟩
  · show wpJ _ _ (newExc (.type "StopIteration") [] >>= _) _ _ _
    refine wpJ_bind (wpJ_of_any ?_)
    simp only [newExc, newTuple]
    refine wpAny_bind (wpAny_newObj_type ?_ (by size_fits))
    refine wpAny_bind (m := firstArgMember _ _) (wpAny_of_eq (a := Value.none) (by first | rfl | (simp only [firstArgMember]; rfl)) ?_)
    refine wpAny_newObj_type ?_ (by size_fits)
    refine wpJ_bind (m := raiseNew _) (wpJ_of_any ?_)
    simp only [raiseNew]
    refine wpAny_bind (wpAny_handled ?_)
    rw [show A.in1.handled = none from hA]
    refine wpAny_bind (wpAny_pure (wpAny_throw ?_))
    exact q _ _ (fun b o e => Heap.get?_push_of_some _ (Heap.get?_push_of_some _ e)) ⟨_, _, rfl, Heap.get?_push_size _ rfl, rfl⟩
end
end Mine

namespace Mine
open PySem PySem.Calls PyProof.Rows

def Nd.ag : Nd → Addr × Nat
  | .fresh a g _ _ => (a, g)
  | .aty a g _ _ => (a, g)
  | .atf a g _ _ _ => (a, g)
  | _ => (0, 0)
theorem Nd.val_gen {nd : Nd} (h : nd.isGen) : nd.val = .ref nd.ag.1 := by cases nd <;> first | rfl | exact h.elim

section
variable {s s' : Shared} {fa : Addr} {cd : Value}
def Bad (x : GenState) : Prop := ∃ k l c p fs, x = .suspended k l c p fs true
def InB (s : Shared) (X : Nat → Prop) : Prop := ∀ x y, s.gens[x]? = some y → Bad y → X x
/-- who sleeps over a cleanup: before and after -/
def Bd (s s' : Shared) (o n : List Nat) : Prop := ∀ X : Nat → Prop, InB s (fun x => X x ∨ x ∈ o) → InB s' (fun x => X x ∨ x ∈ n)
theorem Bd.trans {s s' s'' : Shared} {o n n' : List Nat} (h : Bd s s' o n) (h' : Bd s' s'' n n') : Bd s s'' o n' := fun X i => h' X (h X i)
theorem Bd.wider {s s' : Shared} {o n o' n' : List Nat} (h : Bd s s' o n) (ho : ∀ x ∈ o', x ∈ o ∨ x ∈ n') (hn : ∀ x ∈ n, x ∈ n') : Bd s s' o' n' := by
  intro X i x y e b
  have := h (fun x => X x ∨ x ∈ n') (fun x y e b => by
    rcases i x y e b with q | q
    · exact .inl (.inl q)
    · rcases ho x q with q | q
      · exact .inr q
      · exact .inl (.inr q)) x y e b
  rcases this with q | q
  · exact q
  · exact .inr (hn x q)
theorem Bd.same {s s' : Shared} (o : List Nat) (h : s'.gens = s.gens) : Bd s s' o o := fun X i x y e b => i x y (by rw [← h]; exact e) b
theorem Bd.push {s s' : Shared} (o : List Nat) {c : Code} (h : s'.gens = s.gens.push (.fresh c)) : Bd s s' o o := by
  intro X i x y e b
  rw [h, Array.getElem?_push] at e
  split at e
  · cases e; obtain ⟨_, _, _, _, _, q⟩ := b; cases q
  · exact i x y e b
theorem Bd.set {s : Shared} {g : Nat} {y : GenState} {o n : List Nat} (h1 : ∀ x ∈ o, x = g ∨ x ∈ n) (h2 : Bad y → g ∈ n) : Bd s (s.setGen g y) o n := by
  intro X i x z e b
  change (s.gens.setIfInBounds g y)[x]? = some z at e
  rw [Array.getElem?_setIfInBounds] at e
  split at e
  · rename_i q
    subst q
    split at e
    · cases e; exact .inr (h2 b)
    · cases e
  · rename_i q
    rcases i x z e b with w | w
    · exact .inl w
    · rcases h1 x w with w | w
      · exact absurd w.symm q
      · exact .inr w
theorem not_bad_running : ¬ Bad .running := by rintro ⟨_, _, _, _, _, q⟩; cases q
theorem not_bad_finished : ¬ Bad .finished := by rintro ⟨_, _, _, _, _, q⟩; cases q
theorem not_bad_fresh (c : Code) : ¬ Bad (.fresh c) := by rintro ⟨_, _, _, _, _, q⟩; cases q
theorem not_bad_susp {k l c p fs} : ¬ Bad (.suspended k l c p fs false) := by rintro ⟨_, _, _, _, _, q⟩; cases q
theorem setGen_get {g : Nat} {x y : GenState} (h : s.gens[g]? = some x) : (s.setGen g y).gens[g]? = some y := by
  have hlt : g < s.gens.size := by
    rw [Array.getElem?_eq_some_iff] at h; exact h.1
  show (s.gens.setIfInBounds g y)[g]? = some y
  rw [Array.getElem?_setIfInBounds_self_of_lt hlt]
theorem chg_set (s : Shared) (g : Nat) (y : GenState) : Chg (fun _ => False) (fun x => x = g) s (s.setGen g y) := by
  refine ⟨fun b o _ e => e, fun g' x ne e => ?_, rfl⟩
  show (s.gens.setIfInBounds g y)[g']? = some x
  rw [Array.getElem?_setIfInBounds_ne (Ne.symm ne)]; exact e
theorem chg_same {a : Addr} {h' : Heap} (n : Nat) (hs : Heap.SameBut a s.heap h') : Chg (fun b => b = a) (fun _ => False) s { s with heap := h', toks := n } :=
  ⟨fun b o ne e => (hs.2 b ne).trans e, fun _ _ _ e => e, rfl⟩
theorem chg_ext {a : Addr} {h' : Heap} (n : Nat) (hs : Heap.ExtBut a s.heap h') : Chg (fun b => b = a) (fun _ => False) s { s with heap := h', toks := n } :=
  ⟨fun b o ne e => hs b o ne e, fun _ _ _ e => e, rfl⟩

theorem Ok.leaves : ∀ (nd : Nd) (k : Nat), Ok fa cd s nd k → ∀ v ∈ nd.fl, IsLeafV v := by
  intro nd
  induction nd with
  | leaf v => intro k h x hx; rw [List.mem_singleton.mp hx]; exact h
  | seq a tup xs ih => intro k ⟨_, _, h⟩; exact ih 0 h
  | sit a l tup i xs ih => intro k ⟨_, _, _, h⟩; exact ih 0 h
  | fresh a g L x ih => intro k ⟨_, _, _, _, h⟩; exact ih 0 h
  | aty a g L src ih => intro k ⟨_, _, _, _, h⟩; exact ih 0 h
  | atf a g L src inn ih1 ih2 =>
    intro k ⟨_, _, _, _, _, h, h'⟩ v hv
    rcases List.mem_append.mp hv with hv | hv
    · exact ih2 1 h' v hv
    · exact ih1 0 h v hv
  | nil => intro k _ x hx; cases hx
  | cons x xs ih1 ih2 =>
    intro k ⟨_, _, h, h'⟩ v hv
    rcases List.mem_append.mp hv with hv | hv
    · exact ih1 0 h v hv
    · exact ih2 0 h' v hv

/-- the generator at work stands apart from what it walks over -/
structure Running (h₀ : Heap) (s : Shared) (a : Addr) (g : Nat) (L : Addr) (src : Nd) : Prop where
  obj : IsGenO s.heap a g 0
  run : ∃ x, s.gens[g]? = some x
  ns : ∃ m, s.heap.Ns L m
  ne : a ≠ L
  a1 : a ∉ src.own
  L1 : L ∉ src.own
  g1 : g ∉ src.ogs
  a0 : h₀.get? a = none
  L0 : h₀.get? L = none

theorem mapped_gen {h : Heap} {a : Addr} {g k : Nat} (x : IsGenO h a g k) : h.get? a ≠ none := by
  obtain ⟨nm, qn, sl, e, _⟩ := x
  rw [e]; exact fun q => by cases q
theorem mapped_ns {h : Heap} {L : Addr} {m : Str → Option Value} (x : h.Ns L m) : h.get? L ≠ none := by
  obtain ⟨o, e, _⟩ := ns_notSeq x
  rw [e]; exact fun q => by cases q

theorem Running.to {h₀ : Heap} {a : Addr} {g : Nat} {L : Addr} {src src' : Nd} (R : Running h₀ s a g L src) (C : Chg (fun b => b = L ∨ b ∈ src.own) (· ∈ src.ogs) s s') (hns : ∃ m, s'.heap.Ns L m)
    (h1 : ∀ b ∈ src'.own, b ∈ src.own ∨ s.heap.get? b = none) (h2 : ∀ x ∈ src'.ogs, x ∈ src.ogs ∨ s.gens[x]? = none) : Running h₀ s' a g L src' := by
  refine ⟨R.obj.at fun o e => C.heap a o (fun q => q.elim R.ne R.a1) e, ?_, hns, R.ne, fun hb => ?_, fun hb => ?_, fun hb => ?_, R.a0, R.L0⟩
  · obtain ⟨x, e⟩ := R.run
    exact ⟨x, C.gens g x R.g1 e⟩
  · rcases h1 a hb with q | q
    · exact R.a1 q
    · exact mapped_gen R.obj q
  · rcases h1 L hb with q | q
    · exact R.L1 q
    · obtain ⟨m, e⟩ := R.ns
      exact mapped_ns e q
  · rcases h2 g hb with q | q
    · exact R.g1 q
    · obtain ⟨x, e⟩ := R.run
      rw [q] at e; cases e

theorem mk_aty {h₀ : Heap} {a : Addr} {g : Nat} {L : Addr} {src : Nd} {gs : GenState} (G : Good fa cd h₀ s src 0) (hs : src.isSrc) (R : Running h₀ s a g L src) (hgs : GAty fa cd L src.val gs) : Good fa cd h₀ (s.setGen g gs) (.aty a g L src) 0 := by
  obtain ⟨x, e⟩ := R.run
  have G' := G.chg (chg_set s g gs) (fun _ _ h => h.elim) (fun _ _ h => h) (fun x hx h => R.g1 (h ▸ hx))
  refine ⟨⟨R.obj, ⟨gs, setGen_get e, hgs⟩, R.ns, hs, G'.ok⟩, ?_, ?_, ?_⟩
  · refine List.nodup_cons.mpr ⟨fun h => ?_, List.nodup_cons.mpr ⟨R.L1, G.apart⟩⟩
    rcases List.mem_cons.mp h with h | h
    · exact R.ne h
    · exact R.a1 h
  · exact List.nodup_cons.mpr ⟨R.g1, G.apartG⟩
  · intro b hb
    rcases List.mem_cons.mp hb with rfl | hb
    · exact R.a0
    rcases List.mem_cons.mp hb with rfl | hb
    · exact R.L0
    · exact G.new b hb

theorem mk_atf {h₀ : Heap} {a : Addr} {g : Nat} {L : Addr} {src inn : Nd} {gs : GenState} (G : Good fa cd h₀ s src 0) (Gi : Good fa cd h₀ s inn 1) (hs : src.isSrc) (hi : inn.isGen) (R : Running h₀ s a g L src) (Ri : Running h₀ s a g L inn)
    (ha : ∀ b ∈ src.own, b ∉ inn.own) (hg : ∀ b ∈ src.ogs, b ∉ inn.ogs) (hgs : GAtf fa cd L src.val inn.val gs) : Good fa cd h₀ (s.setGen g gs) (.atf a g L src inn) 0 := by
  obtain ⟨x, e⟩ := R.run
  have G' := G.chg (chg_set s g gs) (fun _ _ h => h.elim) (fun _ _ h => h) (fun x hx h => R.g1 (h ▸ hx))
  have Gi' := Gi.chg (chg_set s g gs) (fun _ _ h => h.elim) (fun _ _ h => h) (fun x hx h => Ri.g1 (h ▸ hx))
  refine ⟨⟨R.obj, ⟨gs, setGen_get e, hgs⟩, R.ns, hs, hi, G'.ok, Gi'.ok⟩, ?_, ?_, ?_⟩
  · refine List.nodup_cons.mpr ⟨fun h => ?_, List.nodup_cons.mpr ⟨fun h => ?_, List.nodup_append.mpr ⟨G.apart, Gi.apart, fun b hb c hc e => ha b hb (e ▸ hc)⟩⟩⟩
    · rcases List.mem_cons.mp h with h | h
      · exact R.ne h
      rcases List.mem_append.mp h with h | h
      · exact R.a1 h
      · exact Ri.a1 h
    · rcases List.mem_append.mp h with h | h
      · exact R.L1 h
      · exact Ri.L1 h
  · refine List.nodup_cons.mpr ⟨fun h => ?_, List.nodup_append.mpr ⟨G.apartG, Gi.apartG, fun b hb c hc e => hg b hb (e ▸ hc)⟩⟩
    rcases List.mem_append.mp h with h | h
    · exact R.g1 h
    · exact Ri.g1 h
  · intro b hb
    rcases List.mem_cons.mp hb with rfl | hb
    · exact R.a0
    rcases List.mem_cons.mp hb with rfl | hb
    · exact R.L0
    rcases List.mem_append.mp hb with hb | hb
    · exact G.new b hb
    · exact Gi.new b hb

variable (fa cd) in
structure Turned (h₀ : Heap) (s s' : Shared) (nd nd' : Nd) : Prop where
  gen : nd'.isGen
  ag : nd'.ag = nd.ag
  good : Good fa cd h₀ s' nd' 0
  chg : Chg (· ∈ nd.own) (· ∈ nd.ogs) s s'
  own : ∀ b ∈ nd'.own, b ∈ nd.own ∨ s.heap.get? b = none
  ogs : ∀ g ∈ nd'.ogs, g ∈ nd.ogs ∨ s.gens[g]? = none
  dp : nd'.dp ≤ nd.dp
  bad : Bd s s' nd.ogs nd'.ogs
  sq : ∀ b ∈ nd'.seqs, b ∈ nd.seqs

variable (fa cd) in
structure LTurned (h₀ : Heap) (s s' : Shared) (e : End) (a : Addr) (g : Nat) (L : Addr) (src nd' : Nd) : Prop where
  gen : nd'.isGen
  ag : nd'.ag = (a, g)
  good : Good fa cd h₀ (s'.setGen g e.genState) nd' 0
  chg : Chg (fun b => b = L ∨ b ∈ src.own) (· ∈ src.ogs) s s'
  own : ∀ b ∈ nd'.own, b = a ∨ b = L ∨ b ∈ src.own ∨ s.heap.get? b = none
  ogs : ∀ x ∈ nd'.ogs, x = g ∨ x ∈ src.ogs ∨ s.gens[x]? = none
  dp : nd'.dp ≤ src.dp + 1
  bad : Bd s (s'.setGen g e.genState) src.ogs nd'.ogs
  sq : ∀ b ∈ nd'.seqs, b ∈ src.seqs
end

section
variable (prog : Program) (w : World) (fa : Addr) (cd : Value) (h₀ : Heap)
/-- next() of a generator gives the next leaf, or ends -/
def NextJ (nd : Nd) : Prop := ∀ (A : Around) (s : Shared) (Q : Option Value → Shared → Prop) (E : Value → Shared → Prop), A.handled = none → A.depth + nd.dp + 3 < recursionLimit → Keep h₀ s → Good fa cd h₀ s nd 0 → nd.isGen →
  (∀ v rest s' nd', nd.fl = v :: rest → nd'.fl = rest → Turned fa cd h₀ s s' nd nd' → Q (some v) s') →
  (∀ s' e, nd.fl = [] → Chg (· ∈ nd.own) (· ∈ nd.ogs) s s' → IsGenO s'.heap nd.ag.1 nd.ag.2 0 → s'.gens[nd.ag.2]? = some .finished → Bd s s' nd.ogs [] → StopAt s' e → E e s') →
  wpJ (model prog w) A (callSpecial? (.ref nd.ag.1) "__next__") Q E s
/-- the loop over a source gives the next leaf, or ends -/
def LoopJ (src : Nd) : Prop := ∀ (A : Around) (s : Shared) (P : End → Shared → Prop) (a : Addr) (g : Nat) (L : Addr) (F1 : Frame), A.handled = none → A.depth + src.dp + 4 < recursionLimit → Keep h₀ s → Good fa cd h₀ s src 0 → src.isSrc → F1Ok fa cd L F1 →
  Running h₀ s a g L src →
  (∀ v rest e s' nd', src.fl = v :: rest → nd'.fl = rest → e.result = .yielded v → LTurned fa cd h₀ s s' e a g L src nd' → P e s') →
  (∀ s', src.fl = [] → Chg (fun b => b = L ∨ b ∈ src.own) (· ∈ src.ogs) s s' → Bd s s' src.ogs [] → P (.ret (.ok (.ret .none))) s') →
  SegJ (model prog w) A (loopC fa cd L src.val) ((model prog w).den (loopC fa cd L src.val)) [F1] s P
end
end Mine

namespace Mine
open PySem PySem.Calls PyProof.Rows

section
variable {prog : Program} {w : World} {fa : Addr} {cd : Value} {h₀ : Heap}

theorem own_seq {s : Shared} {nd : Nd} {k : Nat} (h : Ok fa cd s nd k) : ∀ b o, b ∈ nd.own → s.heap.get? b = some o → NotSeq o := by
  intro b o hb e
  obtain ⟨o', e', n⟩ := h.own nd k b hb
  rw [e] at e'; cases e'; exact n
theorem L_seq {s : Shared} {L : Addr} {m : Str → Option Value} (h : s.heap.Ns L m) : ∀ b o, b = L → s.heap.get? b = some o → NotSeq o := by
  rintro b o rfl e
  obtain ⟨o', e', n⟩ := ns_notSeq h
  rw [e] at e'; cases e'; exact n

/-- a leaf has come out of the source: the turn hands it out -/
theorem leaf_out (hE₀ : EnvG fa cd h₀) {A : Around} {s s1 : Shared} {P : End → Shared → Prop} {a : Addr} {g : Nat} {L : Addr} {F1 : Frame} {src src' : Nd} {v : Value} {rest : List Value} {m : Str → Option Value} (hA : A.handled = none) (K1 : Keep h₀ s1) (G1 : Good fa cd h₀ s1 src' 0) (hs : src'.isSrc)
    (hF : F1Ok fa cd L F1) (R : Running h₀ s a g L src) (C1 : Chg (fun b => b = L ∨ b ∈ src.own) (· ∈ src.ogs) s s1) (hns : s1.heap.Ns L m) (h1 : ∀ b ∈ src'.own, b ∈ src.own ∨ s.heap.get? b = none) (h2 : ∀ x ∈ src'.ogs, x ∈ src.ogs ∨ s.gens[x]? = none)
    (hB : Bd s s1 src.ogs src'.ogs) (hsq : ∀ b ∈ src'.seqs, b ∈ src.seqs) (hv : src'.val = src.val) (hfl : src.fl = v :: rest) (hfl' : src'.fl = rest) (hlv : IsLeafV v) (hdp : src'.dp ≤ src.dp) (L1' : L ∉ src'.own)
    (hY : ∀ v rest e s' nd', src.fl = v :: rest → nd'.fl = rest → e.result = .yielded v → LTurned fa cd h₀ s s' e a g L src nd' → P e s')
    {h' : Heap} {n : Nat} {H : Value → Sem PySem.Fin} (hn' : h'.Ns L (fun x => if x = Str.ofString "elem" then some v else m x)) (hs' : Heap.SameBut L s1.heap h') :
    SegJ (model prog w) A (loopC fa cd L src.val) ((execs (turnOf ps) (fenv fa cd L)).wrap (turnK fa cd L src.val) H id id) [F1] { s1 with heap := h', toks := n } P := by
  have C2 := chg_same n hs'
  have K2 := K1.chg C2 (fun b e => e ▸ R.L0)
  have G2 := G1.chg C2 (L_seq hns) (fun b hb e => L1' (e ▸ hb)) (fun _ _ h => h)
  refine turn_leaf hF hA (hE₀.keeps K2) hn' (by simp) hlv fun s3 Gr kk p hkk => ?_
  have C3 : Chg (fun b => b = L ∨ b ∈ src.own) (· ∈ src.ogs) s s3 := (C1.trans C2 (fun b e => .inl (.inl e)) (fun _ h => h.elim)).trans (Chg.of_grow (O := fun _ => False) (G := fun _ => False) Gr) (fun _ h => h.elim) (fun _ h => h.elim)
  have R3 : Running h₀ s3 a g L src' := R.to C3 ⟨_, hn'.keeps Gr.heap⟩ h1 h2
  obtain ⟨k1, l1, p1, rfl, hk1⟩ := id hF
  refine hY v rest _ s3 (.aty a g L src') hfl hfl' rfl ⟨trivial, rfl, ?_, C3, ?_, ?_, ?_, ?_, hsq⟩
  · refine mk_aty (G2.grow Gr) hs R3 ⟨kk, [], p, _, ?_, ?_, hF⟩
    · rw [hv]; rfl
    · rw [hv]; exact hkk
  · intro b hb
    rcases List.mem_cons.mp hb with rfl | hb
    · exact .inl rfl
    rcases List.mem_cons.mp hb with rfl | hb
    · exact .inr (.inl rfl)
    rcases h1 b hb with q | q
    · exact .inr (.inr (.inl q))
    · exact .inr (.inr (.inr q))
  · intro x hx
    rcases List.mem_cons.mp hx with rfl | hx
    · exact .inl rfl
    rcases h2 x hx with q | q
    · exact .inr (.inl q)
    · exact .inr (.inr q)
  · exact Nat.succ_le_succ hdp
  · exact (hB.trans (Bd.same _ Gr.gens)).trans (Bd.set (fun x hx => .inr (.tail _ hx)) fun b => (not_bad_susp b).elim)

theorem loop_gen (hE₀ : EnvG fa cd h₀) {src : Nd} (hN : NextJ prog w fa cd h₀ src) (hg : src.isGen) : LoopJ prog w fa cd h₀ src := by
  intro A s P a g L F1 hA hd K G hsrc hF R hY hEnd
  obtain ⟨hA', hd', _⟩ := over_F1 (A := A) hF (loopC fa cd L src.val) rfl
  refine loop_turn (pyNext_J ?_)
  rw [Nd.val_gen hg]
  refine hN _ s _ _ (by rw [← Nd.val_gen hg]; exact hA'.trans hA) (by rw [← Nd.val_gen hg, hd']; omega) K G hg (fun v rest s1 src' hfl hfl' T => ?_) (fun s1 e hfl C _ _ hB hst => ?_)
  · obtain ⟨m, hns⟩ := R.ns
    have hns1 : s1.heap.Ns L m := hns.at fun o e => T.chg.heap L o R.L1 e
    refine ⟨v, rfl, m, hns1, fun h' n H hn' hs' => ?_⟩
    have hv : src'.val = src.val := by rw [Nd.val_gen T.gen, Nd.val_gen hg, T.ag]
    have hs2 : src'.isSrc := by
      have := T.gen
      cases src' <;> first | exact trivial | exact this.elim
    rw [← Nd.val_gen hg]
    refine leaf_out hE₀ hA (K.chg T.chg G.new) T.good hs2 hF R (T.chg.wider (fun b h => .inl (.inr h)) fun _ h => .inl h) hns1 T.own T.ogs T.bad T.sq hv hfl hfl' (G.ok.leaves _ _ v (by rw [hfl]; exact .head _)) T.dp (fun hb => ?_) hY hn' hs'
    rcases T.own L hb with q | q
    · exact R.L1 q
    · exact mapped_ns hns q
  · refine ⟨hst, ?_⟩
    exact loop_done hF (hEnd s1 hfl (C.wider (fun b h => .inl (.inr h)) fun _ h => .inl h) hB)
end
end Mine

namespace Mine
open PySem PySem.Calls PyProof.Rows

section
variable {prog : Program} {w : World} {fa : Addr} {cd : Value} {h₀ : Heap}

theorem isEl_cases {e : Nd} (h : e.isEl) : (∃ v, e = .leaf v) ∨ e.isBox := by
  cases e <;> first | exact .inl ⟨_, rfl⟩ | exact .inr h

theorem Ok.obj {s : Shared} {nd : Nd} {k : Nat} (h : Ok fa cd s nd k) (hg : nd.isGen) : IsGenO s.heap nd.ag.1 nd.ag.2 k := by
  cases nd with
  | fresh a g L x => exact h.1
  | aty a g L x => exact h.1
  | atf a g L x y => exact h.1
  | leaf => exact hg.elim
  | seq => exact hg.elim
  | sit => exact hg.elim
  | nil => exact hg.elim
  | cons => exact hg.elim

/-- the count of sleepers alone has turned -/
theorem Good.recount {s : Shared} {nd : Nd} {k k' : Nat} {h' : Heap} (G : Good fa cd h₀ s nd k) (hg : nd.isGen) (ho : IsGenO h' nd.ag.1 nd.ag.2 k') (hs : Heap.SameBut nd.ag.1 s.heap h') : Good fa cd h₀ { s with heap := h' } nd k' := by
  have C : Chg (fun b => b = nd.ag.1) (fun _ => False) s { s with heap := h' } := chg_same s.toks hs
  have hO : ∀ b o, b = nd.ag.1 → s.heap.get? b = some o → NotSeq o := by
    rintro b o rfl e
    obtain ⟨o', e', n⟩ := gen_notSeq (G.ok.obj hg)
    rw [e] at e'; cases e'; exact n
  refine ⟨?_, G.apart, G.apartG, G.new⟩
  have hnd := G.apart
  cases nd with
  | fresh a g L x =>
    obtain ⟨_, h2, h3, h4, h5⟩ := G.ok
    obtain ⟨n1, n2⟩ := List.nodup_cons.mp hnd
    refine ⟨ho, h2, h3.at fun o e => C.heap L o (fun q => n1 (q ▸ .head _)) e, h4, h5.chg C hO _ _ (fun b hb q => n1 ((show b = a from q) ▸ .tail _ hb)) fun _ _ h => h⟩
  | aty a g L x =>
    obtain ⟨_, h2, ⟨m, h3⟩, h4, h5⟩ := G.ok
    obtain ⟨n1, n2⟩ := List.nodup_cons.mp hnd
    refine ⟨ho, h2, ⟨m, h3.at fun o e => C.heap L o (fun q => n1 (q ▸ .head _)) e⟩, h4, h5.chg C hO _ _ (fun b hb q => n1 ((show b = a from q) ▸ .tail _ hb)) fun _ _ h => h⟩
  | atf a g L x y =>
    obtain ⟨_, h2, ⟨m, h3⟩, h4, h4', h5, h6⟩ := G.ok
    obtain ⟨n1, n2⟩ := List.nodup_cons.mp hnd
    refine ⟨ho, h2, ⟨m, h3.at fun o e => C.heap L o (fun q => n1 (q ▸ .head _)) e⟩, h4, h4', h5.chg C hO _ _ (fun b hb q => n1 ((show b = a from q) ▸ .tail _ (List.mem_append_left _ hb))) fun _ _ h => h,
      h6.chg C hO _ _ (fun b hb q => n1 ((show b = a from q) ▸ .tail _ (List.mem_append_right _ hb))) fun _ _ h => h⟩
  | leaf => exact hg.elim
  | seq => exact hg.elim
  | sit => exact hg.elim
  | nil => exact hg.elim
  | cons => exact hg.elim

theorem LTurned.from {s s4 s' : Shared} {e : End} {a : Addr} {g : Nat} {L : Addr} {src src' nd' : Nd} (C : Chg (fun b => b = L ∨ b ∈ src.own) (· ∈ src.ogs) s s4)
    (h1 : ∀ b ∈ src'.own, b ∈ src.own ∨ s.heap.get? b = none) (h2 : ∀ x ∈ src'.ogs, x ∈ src.ogs ∨ s.gens[x]? = none) (hdp : src'.dp ≤ src.dp) (hB : Bd s s4 src.ogs src'.ogs) (hsq : ∀ b ∈ src'.seqs, b ∈ src.seqs) (T : LTurned fa cd h₀ s4 s' e a g L src' nd') : LTurned fa cd h₀ s s' e a g L src nd' := by
  refine ⟨T.gen, T.ag, T.good, C.trans T.chg (fun b hb => ?_) (fun x hx => h2 x hx), fun b hb => ?_, fun x hx => ?_, Nat.le_trans T.dp (Nat.succ_le_succ hdp), hB.trans T.bad, fun b hb => hsq b (T.sq b hb)⟩
  · rcases hb with hb | hb
    · exact .inl (.inl hb)
    · rcases h1 b hb with q | q
      · exact .inl (.inr q)
      · exact .inr q
  · rcases T.own b hb with q | q | q | q
    · exact .inl q
    · exact .inr (.inl q)
    · rcases h1 b q with q | q
      · exact .inr (.inr (.inl q))
      · exact .inr (.inr (.inr q))
    · rcases C.new q with (q | q) | q
      · exact .inr (.inl q)
      · exact .inr (.inr (.inl q))
      · exact .inr (.inr (.inr q))
  · rcases T.ogs x hx with q | q | q
    · exact .inl q
    · rcases h2 x q with q | q
      · exact .inr (.inl q)
      · exact .inr (.inr q)
    · rcases C.newG q with q | q
      · exact .inr (.inl q)
      · exact .inr (.inr q)

theorem chg_push {s s' : Shared} {x : GenState} (keep : ∀ b o, s.heap.get? b = some o → s'.heap.get? b = some o) (hg : s'.gens = s.gens.push x) (ho : s'.os = s.os) : Chg (fun _ => False) (fun _ => False) s s' := by
  refine ⟨fun b o _ e => keep b o e, fun g y _ e => ?_, ho⟩
  rw [hg]
  have hlt : g < s.gens.size := by rw [Array.getElem?_eq_some_iff] at e; exact e.1
  rw [Array.getElem?_push, if_neg (Nat.ne_of_lt hlt)]; exact e

theorem loop_sit (hE₀ : EnvG fa cd h₀) {N : Nat} (H : ∀ nd : Nd, nd.sz ≤ N → NextJ prog w fa cd h₀ nd) : ∀ xs : Nd, xs.isL → xs.sz ≤ N → ∀ (a1 l : Addr) (tup : Bool) (i : Nat), LoopJ prog w fa cd h₀ (.sit a1 l tup i xs) := by
  intro xs
  induction xs with
  | leaf => intro h; exact h.elim
  | seq => intro h; exact h.elim
  | sit => intro h; exact h.elim
  | fresh => intro h; exact h.elim
  | aty => intro h; exact h.elim
  | atf => intro h; exact h.elim
  | nil =>
    intro _ _ a1 l tup i A s P a g L F1 hA hd K G hsrc hF R hY hEnd
    obtain ⟨hit, ⟨items, hseq, hdrop⟩, _, _⟩ := G.ok
    obtain ⟨hA', hd', _⟩ := over_F1 (A := A) hF (loopC fa cd L (.ref a1)) rfl
    have hx : items[i]? = none := by
      have : (items.drop i)[0]? = none := by rw [hdrop]; rfl
      rw [List.getElem?_drop] at this; exact this
    refine loop_turn (wpJ_of_any ?_)
    refine next_end (hA'.trans hA) hit hseq hx fun h1 hx1 => ?_
    refine loop_done hF (hEnd _ rfl ?_ (Bd.same [] rfl))
    exact (chg_ext s.toks hx1).wider (fun b e => .inl (.inr (e ▸ .head _))) fun _ h => h.elim
  | cons e xs' ih1 ih2 =>
    intro hisL hsz a1 l tup i A s P a g L F1 hA hd K G hsrc hF R hY hEnd
    obtain ⟨hit, ⟨items, hseq, hdrop⟩, _, hel, hL', hOke, hOkxs⟩ := G.ok
    obtain ⟨hA', hd', _⟩ := over_F1 (A := A) hF (loopC fa cd L (.ref a1)) rfl
    have hx : items[i]? = some e.val := by
      have : (items.drop i)[0]? = some e.val := by rw [hdrop]; rfl
      rw [List.getElem?_drop] at this; exact this
    have hdrop' : items.drop (i + 1) = xs'.vals := by
      rw [← List.drop_drop, hdrop]; rfl
    obtain ⟨m, hns⟩ := R.ns
    have hLa1 : L ≠ a1 := fun q => R.L1 (q ▸ .head _)
    obtain ⟨nd1, nd2⟩ := List.nodup_cons.mp G.apart
    obtain ⟨nde, ndx, ndex⟩ := List.nodup_append.mp nd2
    obtain ⟨gde, gdx, gdex⟩ := List.nodup_append.mp G.apartG
    have he1 : a1 ∉ e.own := fun h => nd1 (List.mem_append_left _ h)
    have hx1 : a1 ∉ xs'.own := fun h => nd1 (List.mem_append_right _ h)
    refine loop_turn (wpJ_of_any ?_)
    refine next_item hit hseq hx fun h1 hit1 hsb1 => ?_
    have C1 : Chg (fun b => b = a1) (fun _ => False) s { s with heap := h1 } := chg_same s.toks hsb1
    have hO1 : ∀ b o, b = a1 → s.heap.get? b = some o → NotSeq o := by
      rintro b o rfl q; rw [hit] at q; cases q; exact fun _ _ q => by cases q
    have C01 : Chg (fun b => b = L ∨ b ∈ (Nd.sit a1 l tup i (.cons e xs')).own) (· ∈ (Nd.sit a1 l tup i (.cons e xs')).ogs) s { s with heap := h1 } := C1.wider (fun b q => .inl (.inr (q ▸ .head _))) fun _ h => h.elim
    have hns1 : ({ s with heap := h1 } : Shared).heap.Ns L m := hns.at fun o q => C1.heap L o hLa1 q
    have K1 : Keep h₀ { s with heap := h1 } := K.chg C1 (fun b q => q ▸ G.new a1 (.head _))
    have G1 : Good fa cd h₀ { s with heap := h1 } (.sit a1 l tup (i + 1) xs') 0 := by
      refine ⟨⟨hit1, ⟨items, hseq.at fun o q => C1.heap l o (hseq.not hO1) q, hdrop'⟩, hL', hOkxs.chg C1 hO1 _ _ (fun b hb q => hx1 (q ▸ hb)) fun _ _ h => h⟩, List.nodup_cons.mpr ⟨hx1, ndx⟩, gdx, fun b hb => ?_⟩
      rcases List.mem_cons.mp hb with rfl | hb
      · exact G.new _ (.head _)
      · exact G.new b (.tail _ (List.mem_append_right _ hb))
    have Ge1 : Good fa cd h₀ { s with heap := h1 } e 0 := ⟨hOke.chg C1 hO1 _ _ (fun b hb q => he1 (q ▸ hb)) fun _ _ h => h, nde, gde, fun b hb => G.new b (.tail _ (List.mem_append_left _ hb))⟩
    have sub1 : ∀ b ∈ (Nd.sit a1 l tup (i + 1) xs').own, b ∈ (Nd.sit a1 l tup i (.cons e xs')).own := by
      intro b hb
      rcases List.mem_cons.mp hb with rfl | hb
      · exact .head _
      · exact .tail _ (List.mem_append_right _ hb)
    have sub2 : ∀ x ∈ (Nd.sit a1 l tup (i + 1) xs').ogs, x ∈ (Nd.sit a1 l tup i (.cons e xs')).ogs := fun x hx => List.mem_append_right _ hx
    have sub3 : ∀ b ∈ (Nd.sit a1 l tup (i + 1) xs').seqs, b ∈ (Nd.sit a1 l tup i (.cons e xs')).seqs := by
      intro b hb
      rcases List.mem_cons.mp hb with rfl | hb
      · exact .head _
      · exact .tail _ (List.mem_append_right _ hb)
    have hdp : (Nd.sit a1 l tup (i + 1) xs').dp ≤ (Nd.sit a1 l tup i (.cons e xs')).dp := Nat.succ_le_succ (Nat.le_max_right _ _)
    have L1' : L ∉ (Nd.sit a1 l tup (i + 1) xs').own := fun h => R.L1 (sub1 _ h)
    refine ⟨m, hns1, fun h2 n Hh hn2 hs2 => ?_⟩
    rcases isEl_cases hel with ⟨v, rfl⟩ | hbox
    · exact leaf_out hE₀ hA K1 G1 trivial hF R C01 hns1 (fun b hb => .inl (sub1 b hb)) (fun x hx => .inl (sub2 x hx)) (Bd.same _ rfl) sub3 rfl rfl rfl hOke hdp L1' hY hn2 hs2
    · have C2 := chg_same (s := { s with heap := h1 }) n hs2
      have K2 := K1.chg C2 (fun b q => q ▸ R.L0)
      have G2 := G1.chg C2 (L_seq hns1) (fun b hb q => L1' (q ▸ hb)) (fun _ _ h => h)
      have Ge2 := Ge1.chg C2 (L_seq hns1) (fun b hb q => R.L1 (q ▸ .tail _ (List.mem_append_left _ hb))) (fun _ _ h => h)
      have C02 := C01.trans C2 (fun b q => .inl (.inl q)) (fun _ h => h.elim)
      refine turn_box hF (by omega) (hE₀.keeps K2) hn2 (by simp) (Ge2.ok.box hbox) fun s3 a' L' keep na nL ne hgo hnsL' hgens hos F2 hF2 => ?_
      generalize hs2d : ({ s with heap := h2, toks := n } : Shared) = s2 at *
      have C3 := chg_push keep hgens hos
      have K3 : Keep h₀ s3 := K2.chg C3 (fun _ h => h.elim)
      have G3 := G2.chg C3 (fun _ _ h => h.elim) (fun _ _ h => h) (fun _ _ h => h)
      have Ge3 := Ge2.chg C3 (fun _ _ h => h.elim) (fun _ _ h => h) (fun _ _ h => h)
      have C03 := C02.trans C3 (fun _ h => h.elim) (fun _ h => h.elim)
      have eMap : ∀ b ∈ e.own, s2.heap.get? b ≠ none := fun b hb q => by obtain ⟨o, q', _⟩ := Ge2.ok.own _ _ b hb; rw [q] at q'; cases q'
      have sMap : ∀ b ∈ (Nd.sit a1 l tup (i + 1) xs').own, s2.heap.get? b ≠ none := fun b hb q => by obtain ⟨o, q', _⟩ := G2.ok.own _ _ b hb; rw [q] at q'; cases q'
      have gMap : ∀ (nd : Nd) (k : Nat), Ok fa cd s2 nd k → ∀ x ∈ nd.ogs, x < s2.gens.size := fun nd k h x hx => by
        obtain ⟨y, q⟩ := h.ogs nd k x hx
        rw [Array.getElem?_eq_some_iff] at q; exact q.1
      have un : ∀ b, s2.heap.get? b = none → s.heap.get? b = none ∨ b = L ∨ b ∈ (Nd.sit a1 l tup i (.cons e xs')).own := fun b q => (C02.new q).symm
      have h0' : ∀ b, s2.heap.get? b = none → h₀.get? b = none := fun b q => by
        cases z : h₀.get? b with
        | none => rfl
        | some o => rw [K2 b o z] at q; cases q
      have G0 : Good fa cd h₀ s3 (.fresh a' s2.gens.size L' e) 0 := by
        refine ⟨⟨hgo, ?_, hnsL', hbox, Ge3.ok⟩, ?_, ?_, ?_⟩
        · rw [hgens, Array.getElem?_push, if_pos rfl]
        · refine List.nodup_cons.mpr ⟨fun h => ?_, List.nodup_cons.mpr ⟨fun h => eMap _ h nL, nde⟩⟩
          rcases List.mem_cons.mp h with h | h
          · exact ne h
          · exact eMap _ h na
        · exact List.nodup_cons.mpr ⟨fun h => Nat.lt_irrefl _ (gMap _ _ Ge2.ok _ h), gde⟩
        · intro b hb
          rcases List.mem_cons.mp hb with rfl | hb
          · exact h0' _ na
          rcases List.mem_cons.mp hb with rfl | hb
          · exact h0' _ nL
          · exact Ge1.new b hb
      -- the parts of the new walk: either new to s, or of the element's own
      have part : ∀ b ∈ (Nd.fresh a' s2.gens.size L' e).own, s2.heap.get? b = none ∨ b ∈ e.own := by
        intro b hb
        rcases List.mem_cons.mp hb with rfl | hb
        · exact .inl na
        rcases List.mem_cons.mp hb with rfl | hb
        · exact .inl nL
        · exact .inr hb
      have partG : ∀ x ∈ (Nd.fresh a' s2.gens.size L' e).ogs, s2.gens[x]? = none ∨ x ∈ e.ogs := by
        intro x hx
        rcases List.mem_cons.mp hx with rfl | hx
        · exact .inl (Array.getElem?_eq_none (Nat.le_refl _))
        · exact .inr hx
      have apartS : ∀ b ∈ (Nd.sit a1 l tup (i + 1) xs').own, b ∉ (Nd.fresh a' s2.gens.size L' e).own := by
        intro b hb h
        rcases part b h with q | q
        · exact sMap b hb q
        · rcases List.mem_cons.mp hb with rfl | hb
          · exact he1 q
          · exact ndex b q b hb rfl
      have apartSG : ∀ x ∈ (Nd.sit a1 l tup (i + 1) xs').ogs, x ∉ (Nd.fresh a' s2.gens.size L' e).ogs := by
        intro x hx h
        rcases List.mem_cons.mp h with rfl | h
        · exact Nat.lt_irrefl _ (gMap _ _ G2.ok _ hx)
        · exact gdex x h x hx rfl
      have toS : ∀ b ∈ (Nd.fresh a' s2.gens.size L' e).own, (b = L ∨ b ∈ (Nd.sit a1 l tup i (.cons e xs')).own) ∨ s.heap.get? b = none := by
        intro b hb
        rcases part b hb with q | q
        · exact (un b q).symm
        · exact .inl (.inr (.tail _ (List.mem_append_left _ q)))
      have toSG : ∀ x ∈ (Nd.fresh a' s2.gens.size L' e).ogs, x ∈ (Nd.sit a1 l tup i (.cons e xs')).ogs ∨ s.gens[x]? = none := by
        intro x hx
        rcases partG x hx with q | q
        · exact C02.newG q
        · exact .inl (List.mem_append_left _ q)
      have hdpe : e.dp + 1 ≤ (Nd.sit a1 l tup i (.cons e xs')).dp := Nat.succ_le_succ (Nat.le_max_left _ _)
      have hsz0 : (Nd.fresh a' s2.gens.size L' e).sz ≤ N := by
        have : e.sz + xs'.sz + 1 ≤ N := hsz
        show e.sz + 1 ≤ N
        omega
      have hsz1 : xs'.sz ≤ N := by
        have : e.sz + xs'.sz + 1 ≤ N := hsz
        omega
      obtain ⟨hA2, hd2, _⟩ := over_F2 (A := A) hF2 hF (fromC (.ref a')) rfl
      refine seg_from (g' := s2.gens.size) hF2 hF ?_
      refine H (.fresh a' s2.gens.size L' e) hsz0 _ s3 _ _ (hA2.trans hA) (by rw [hd2]; show A.depth + 1 + (e.dp + 1) + 3 < _; omega) K3 G0 trivial (fun v rest s4 nd1 hfl hfl' T => ?_) (fun s4 ex hfl C4 _ _ hB4 hst => ?_)
      · have hob : IsGenO s4.heap a' s2.gens.size 0 := by have := T.good.ok.obj T.gen; rw [T.ag] at this; exact this
        refine ⟨v, rfl, hob, fun h' kk p hg1 hsb hkk => ?_⟩
        have C5 : Chg (fun b => b = a') (fun _ => False) s4 { s4 with heap := h' } := chg_same s4.toks hsb
        have hO5 : ∀ b o, b = a' → s4.heap.get? b = some o → NotSeq o := by
          rintro b o rfl q
          obtain ⟨o', q', nn⟩ := gen_notSeq hob
          rw [q] at q'; cases q'; exact nn
        have G4 := G3.chg T.chg (fun b o hb q => own_seq G0.ok b o hb q) apartS apartSG
        have G5 := G4.chg C5 hO5 (fun b hb q => apartS b hb (q ▸ .head _)) (fun _ _ h => h)
        have Gi : Good fa cd h₀ { s4 with heap := h' } nd1 1 := T.good.recount T.gen (by rw [T.ag]; exact hg1) (by rw [T.ag]; exact hsb)
        have C04 := C03.trans T.chg toS toSG
        have C05 := C04.trans C5 (fun b q => toS b (q ▸ .head _)) (fun _ h => h.elim)
        have nd1own : ∀ b ∈ nd1.own, b ∈ (Nd.fresh a' s2.gens.size L' e).own ∨ s3.heap.get? b = none := T.own
        have nd1S : ∀ b ∈ nd1.own, (b = L ∨ b ∈ (Nd.sit a1 l tup i (.cons e xs')).own) ∨ s.heap.get? b = none := by
          intro b hb
          rcases T.own b hb with q | q
          · exact toS b q
          · exact C03.new q
        have nd1SG : ∀ x ∈ nd1.ogs, x ∈ (Nd.sit a1 l tup i (.cons e xs')).ogs ∨ s.gens[x]? = none := by
          intro x hx
          rcases T.ogs x hx with q | q
          · exact toSG x q
          · exact C03.newG q
        have hns5 : ({ s4 with heap := h' } : Shared).heap.Ns L (fun x => if x = Str.ofString "elem" then some e.val else m x) := by
          have n3 : s3.heap.Ns L _ := Heap.Ns.keeps (h := s2.heap) (by rw [← hs2d]; exact hn2) keep
          have n4 : s4.heap.Ns L _ := n3.at fun o q => T.chg.heap L o (fun h => by
            rcases part L h with z | z
            · rw [← hs2d] at z; exact mapped_ns hn2 z
            · exact R.L1 (.tail _ (List.mem_append_left _ z))) q
          refine n4.at fun o q => C5.heap L o (fun h => ?_) q
          have : s2.heap.get? L = none := h ▸ na
          rw [← hs2d] at this
          exact mapped_ns hn2 this
        have R5 : Running h₀ { s4 with heap := h' } a g L (.sit a1 l tup (i + 1) xs') := R.to C05 ⟨_, hns5⟩ (fun b hb => .inl (sub1 b hb)) (fun x hx => .inl (sub2 x hx))
        have Lnd1 : L ∉ nd1.own := by
          intro h
          rcases T.own L h with q | q
          · rcases part L q with z | z
            · rw [← hs2d] at z; exact mapped_ns hn2 z
            · exact R.L1 (.tail _ (List.mem_append_left _ z))
          · have : s2.heap.get? L = none := by
              cases z : s2.heap.get? L with
              | none => rfl
              | some o => rw [keep L o z] at q; cases q
            rw [← hs2d] at this; exact mapped_ns hn2 this
        have Ri : Running h₀ { s4 with heap := h' } a g L nd1 := by
          refine ⟨R5.obj, R5.run, R5.ns, R.ne, fun h => ?_, Lnd1, fun h => ?_, R.a0, R.L0⟩
          · rcases nd1S a h with (q | q) | q
            · exact R.ne q
            · exact R.a1 q
            · exact mapped_gen R.obj q
          · rcases nd1SG g h with q | q
            · exact R.g1 q
            · obtain ⟨x, z⟩ := R.run; rw [q] at z; cases z
        obtain ⟨k1, l1, p1, rfl, hk1⟩ := id hF
        obtain ⟨k2, l2, p2, rfl, hk2⟩ := id hF2
        refine hY v (rest ++ xs'.fl) _ _ (.atf a g L (.sit a1 l tup (i + 1) xs') nd1) (by show e.fl ++ xs'.fl = _; rw [show e.fl = v :: rest from hfl]; rfl) (by show nd1.fl ++ xs'.fl = _; rw [hfl']) rfl ⟨trivial, rfl, ?_, C05, fun b hb => ?_, fun x hx => ?_, ?_, ?_, fun b hb => ?_⟩
        · refine mk_atf G5 Gi trivial T.gen R5 Ri (fun b hb h => ?_) (fun x hx h => ?_) ⟨kk, [], p, _, _, true, ?_, ?_, hF2, hF⟩
          · rcases T.own b h with q | q
            · exact apartS b hb q
            · obtain ⟨o, z, _⟩ := G3.ok.own _ _ b hb
              rw [q] at z; cases z
          · rcases T.ogs x h with q | q
            · exact apartSG x hx q
            · obtain ⟨o, z⟩ := G3.ok.ogs _ _ x hx
              rw [q] at z; cases z
          · rw [Nd.val_gen T.gen, T.ag]; rfl
          · rw [Nd.val_gen T.gen, T.ag]; exact hkk
        · rcases List.mem_cons.mp hb with rfl | hb
          · exact .inl rfl
          rcases List.mem_cons.mp hb with rfl | hb
          · exact .inr (.inl rfl)
          rcases List.mem_append.mp hb with hb | hb
          · exact .inr (.inr (.inl (sub1 b hb)))
          · rcases nd1S b hb with (q | q) | q
            · exact .inr (.inl q)
            · exact .inr (.inr (.inl q))
            · exact .inr (.inr (.inr q))
        · rcases List.mem_cons.mp hx with rfl | hx
          · exact .inl rfl
          rcases List.mem_append.mp hx with hx | hx
          · exact .inr (.inl (sub2 x hx))
          · rcases nd1SG x hx with q | q
            · exact .inr (.inl q)
            · exact .inr (.inr q)
        · refine Nat.succ_le_succ (Nat.max_le.mpr ⟨hdp, Nat.le_trans T.dp hdpe⟩)
        · have B4 : Bd s3 { s4 with heap := h' } (e.ogs ++ xs'.ogs) (xs'.ogs ++ nd1.ogs) := Bd.wider (o := s2.gens.size :: e.ogs) (n := nd1.ogs) (T.bad.trans (Bd.same _ rfl)) (fun x hx => by
            rcases List.mem_append.mp hx with q | q
            · exact .inl (.tail _ q)
            · exact .inr (List.mem_append_left _ q)) fun x hx => List.mem_append_right _ hx
          have B3 : Bd s s3 (e.ogs ++ xs'.ogs) (e.ogs ++ xs'.ogs) := (Bd.same _ (by rw [← hs2d])).trans (Bd.push _ hgens)
          exact (B3.trans B4).trans (Bd.set (fun x hx => .inr (.tail _ hx)) fun _ => .head _)
        · have hb' : b ∈ (Nd.sit a1 l tup (i + 1) xs').seqs ++ nd1.seqs := hb
          rcases List.mem_append.mp hb' with q | q
          · exact sub3 b q
          · exact .tail _ (List.mem_append_left _ (T.sq b q))
      · refine ⟨hst, segJ_again rfl ?_⟩
        have C04 := C03.trans C4 toS toSG
        have K4 : Keep h₀ s4 := K3.chg C4 (fun b hb => G0.new b hb)
        have G4 := G3.chg C4 (fun b o hb q => own_seq G0.ok b o hb q) apartS apartSG
        have hns4 : s4.heap.Ns L (fun x => if x = Str.ofString "elem" then some e.val else m x) := by
          have n3 : s3.heap.Ns L _ := Heap.Ns.keeps (h := s2.heap) (by rw [← hs2d]; exact hn2) keep
          exact n3.at fun o q => C4.heap L o (fun h => by
            rcases part L h with z | z
            · rw [← hs2d] at z; exact mapped_ns hn2 z
            · exact R.L1 (.tail _ (List.mem_append_left _ z))) q
        have R4 : Running h₀ s4 a g L (.sit a1 l tup (i + 1) xs') := R.to C04 ⟨_, hns4⟩ (fun b hb => .inl (sub1 b hb)) (fun x hx => .inl (sub2 x hx))
        have hfe : e.fl = [] := hfl
        have B4 : Bd s s4 (e.ogs ++ xs'.ogs) xs'.ogs := ((Bd.same _ (by rw [← hs2d])).trans (Bd.push _ hgens)).trans (Bd.wider (o := s2.gens.size :: e.ogs) (n := []) hB4 (fun x hx => by
            rcases List.mem_append.mp hx with q | q
            · exact .inl (.tail _ q)
            · exact .inr q) fun x hx => nomatch hx)
        refine ih2 hL' hsz1 a1 l tup (i + 1) A s4 P a g L F1 hA (by omega) K4 G4 trivial hF R4 (fun v rest e' s' nd' f1 f2 f3 T => ?_) (fun s' f C hBe => ?_)
        · refine hY v rest e' s' nd' (by show e.fl ++ xs'.fl = _; rw [hfe]; exact f1) f2 f3 (LTurned.from C04 (fun b hb => .inl (sub1 b hb)) (fun x hx => .inl (sub2 x hx)) hdp B4 sub3 T)
        · refine hEnd s' (by show e.fl ++ xs'.fl = _; rw [hfe]; exact f) (C04.trans C (fun b q => ?_) (fun x hx => .inl (sub2 x hx))) (B4.trans hBe)
          rcases q with q | q
          · exact .inl (.inl q)
          · exact .inl (.inr (sub1 b q))
end
end Mine

namespace Mine
open PySem PySem.Calls PyProof.Rows

section
variable {prog : Program} {w : World} {fa : Addr} {cd : Value} {h₀ : Heap}

theorem loop_all (hE₀ : EnvG fa cd h₀) {N : Nat} (H : ∀ nd : Nd, nd.sz ≤ N → NextJ prog w fa cd h₀ nd) {src : Nd} (hs : src.isSrc) (hsz : src.sz ≤ N) {s : Shared} (hok : Ok fa cd s src 0) : LoopJ prog w fa cd h₀ src := by
  cases src with
  | sit a l tup i xs =>
    obtain ⟨_, _, hL, _⟩ := hok
    have : xs.sz + 1 ≤ N := hsz
    exact loop_sit hE₀ H xs hL (by omega) a l tup i
  | fresh a g L x => exact loop_gen hE₀ (H _ hsz) trivial
  | aty a g L x => exact loop_gen hE₀ (H _ hsz) trivial
  | atf a g L x y => exact loop_gen hE₀ (H _ hsz) trivial
  | leaf => exact hs.elim
  | seq => exact hs.elim
  | nil => exact hs.elim
  | cons => exact hs.elim

variable (fa cd h₀) in
/-- how the turn of a generator's node may end -/
def EndN (nd : Nd) (s : Shared) (e : End) (s1 : Shared) : Prop :=
  (∃ v rest nd', nd.fl = v :: rest ∧ nd'.fl = rest ∧ e.result = .yielded v ∧ Turned fa cd h₀ s (s1.setGen nd.ag.2 e.genState) nd nd') ∨
  (e = .ret (.ok (.ret .none)) ∧ nd.fl = [] ∧ Chg (· ∈ nd.own) (· ∈ nd.ogs) s (s1.setGen nd.ag.2 .finished) ∧ IsGenO s1.heap nd.ag.1 nd.ag.2 0 ∧ (∃ x, s1.gens[nd.ag.2]? = some x) ∧ Bd s (s1.setGen nd.ag.2 .finished) nd.ogs [])

theorem seg_of_loop {src nd : Nd} (hL : LoopJ prog w fa cd h₀ src) {A : Around} {s sL : Shared} {a : Addr} {g : Nat} {L : Addr} {F1 : Frame} (hA : A.handled = none) (hd : A.depth + src.dp + 4 < recursionLimit) (K : Keep h₀ sL) (G : Good fa cd h₀ sL src 0) (hs : src.isSrc) (hF : F1Ok fa cd L F1)
    (R : Running h₀ sL a g L src) (C : Chg (· ∈ nd.own) (· ∈ nd.ogs) s sL) (h1 : ∀ b ∈ src.own, b ∈ nd.own ∨ s.heap.get? b = none) (h2 : ∀ x ∈ src.ogs, x ∈ nd.ogs ∨ s.gens[x]? = none) (ha : a ∈ nd.own) (hLm : L ∈ nd.own) (hg : g ∈ nd.ogs) (hag : nd.ag = (a, g))
    (hB : Bd s sL nd.ogs src.ogs) (hsq : ∀ b ∈ src.seqs, b ∈ nd.seqs) (hfl : nd.fl = src.fl) (hdp : src.dp + 1 ≤ nd.dp) :
    SegJ (model prog w) A (loopC fa cd L src.val) ((model prog w).den (loopC fa cd L src.val)) [F1] sL (EndN fa cd h₀ nd s) := by
  refine hL A sL _ a g L F1 hA hd K G hs hF R (fun v rest e s' nd' f1 f2 f3 T => .inl ⟨v, rest, nd', hfl.trans f1, f2, f3, ?_⟩) (fun s' f C' hBe => .inr ⟨rfl, hfl.trans f, ?_, ?_, ?_, ?_⟩)
  · rw [hag]
    have Cs := C.trans T.chg (fun b hb => by
      rcases hb with rfl | hb
      · exact .inl hLm
      · exact h1 b hb) h2
    refine ⟨T.gen, T.ag.trans hag.symm, T.good, Cs.trans (chg_set s' g _) (fun _ h => h.elim) (fun x h => .inl (h ▸ hg)), fun b hb => ?_, fun x hx => ?_, Nat.le_trans T.dp hdp, hB.trans T.bad, fun b hb => hsq b (T.sq b hb)⟩
    · rcases T.own b hb with rfl | rfl | q | q
      · exact .inl ha
      · exact .inl hLm
      · exact h1 b q
      · exact C.new q
    · rcases T.ogs x hx with rfl | q | q
      · exact .inl hg
      · exact h2 x q
      · exact C.newG q
  · rw [hag]
    have Cs := C.trans C' (fun b hb => by
      rcases hb with rfl | hb
      · exact .inl hLm
      · exact h1 b hb) h2
    exact Cs.trans (chg_set s' g _) (fun _ h => h.elim) (fun x h => .inl (h ▸ hg))
  · rw [hag]
    exact R.obj.at fun o e => C'.heap a o (fun q => q.elim R.ne R.a1) e
  · rw [hag]
    obtain ⟨x, e⟩ := R.run
    exact ⟨x, C'.gens g x R.g1 e⟩
  · exact (hB.trans hBe).trans (Bd.set (fun x hx => nomatch hx) fun b => (not_bad_finished b).elim)

theorem after_wake {nd : Nd} {s : Shared} {Q : Option Value → Shared → Prop} {E : Value → Shared → Prop}
    (hQ : ∀ v rest s' nd', nd.fl = v :: rest → nd'.fl = rest → Turned fa cd h₀ s s' nd nd' → Q (some v) s')
    (hE : ∀ s' e, nd.fl = [] → Chg (· ∈ nd.own) (· ∈ nd.ogs) s s' → IsGenO s'.heap nd.ag.1 nd.ag.2 0 → s'.gens[nd.ag.2]? = some .finished → Bd s s' nd.ogs [] → StopAt s' e → E e s') :
    ∀ e s₁, EndN fa cd h₀ nd s e s₁ → (∃ v, e.result = .yielded v ∧ Q (some v) (s₁.setGen nd.ag.2 e.genState)) ∨ (e = .ret (.ok (.ret .none)) ∧
      ∀ h' x, (∀ b o, s₁.heap.get? b = some o → h'.get? b = some o) → StopAt { (s₁.setGen nd.ag.2 .finished) with heap := h' } x → E x { (s₁.setGen nd.ag.2 .finished) with heap := h' }) := by
  rintro e s₁ (⟨v, rest, nd', f1, f2, f3, T⟩ | ⟨rfl, f, C, ho, ⟨x, hx⟩, hB⟩)
  · exact .inl ⟨v, f3, hQ v rest _ nd' f1 f2 T⟩
  · refine .inr ⟨rfl, fun h' y keep hst => hE _ y f ?_ (ho.at fun o e => keep _ o e) (setGen_get hx) (hB.trans (Bd.same _ rfl)) hst⟩
    exact ⟨fun b o nb e => keep b o (C.heap b o nb e), C.gens, C.os⟩

theorem next_all (hE₀ : EnvG fa cd h₀) : ∀ (N : Nat) (nd : Nd), nd.sz ≤ N → NextJ prog w fa cd h₀ nd := by
  intro N
  induction N with
  | zero =>
    intro nd hsz A s Q E hA hd K G hg
    cases nd with
    | fresh a g L x => exact absurd hsz (by show ¬ (x.sz + 1 ≤ 0); omega)
    | aty a g L x => exact absurd hsz (by show ¬ (x.sz + 1 ≤ 0); omega)
    | atf a g L x y => exact absurd hsz (by show ¬ (x.sz + y.sz + 1 ≤ 0); omega)
    | leaf => exact hg.elim
    | seq => exact hg.elim
    | sit => exact hg.elim
    | nil => exact hg.elim
    | cons => exact hg.elim
  | succ N ih =>
    intro nd hsz A s Q E hA hd K G hg hQ hE
    have hlim : s.heap.NoLimit := hE₀.lim.keeps K
    have hnd := G.apart
    have hndg := G.apartG
    have hnew := G.new
    cases nd with
    | leaf => exact hg.elim
    | seq => exact hg.elim
    | sit => exact hg.elim
    | nil => exact hg.elim
    | cons => exact hg.elim
    | aty a g L src =>
      obtain ⟨hobj, ⟨gs, hgs, hG⟩, ⟨m, hns⟩, hsrc, hOs⟩ := G.ok
      obtain ⟨kk, l, p, F1, rfl, hkk, hF⟩ := hG
      obtain ⟨n1, n2⟩ := List.nodup_cons.mp hnd
      obtain ⟨n3, n4⟩ := List.nodup_cons.mp n2
      obtain ⟨g1, g2⟩ := List.nodup_cons.mp hndg
      have bdRun : Bd s (s.setGen g .running) (Nd.aty a g L src).ogs src.ogs := Bd.set (fun x hx => (List.mem_cons.mp hx)) fun b => (not_bad_running b).elim
      have Cr := chg_set s g .running
      have Gs : Good fa cd h₀ s src 0 := ⟨hOs, n4, g2, fun b hb => hnew b (.tail _ (.tail _ hb))⟩
      have Gs0 := Gs.chg Cr (fun _ _ h => h.elim) (fun _ _ h => h) (fun x hx h => g1 (h ▸ hx))
      have hdp : A.depth + (src.dp + 1) + 3 < recursionLimit := hd
      refine wake_J hA hlim (by omega) hobj hgs (.inr ⟨kk, l, p, false, rfl, rfl⟩) (P := EndN fa cd h₀ (.aty a g L src) s) ?_ (after_wake hQ hE)
      refine segJ_eq hkk (segJ_again rfl ?_)
      refine seg_of_loop (loop_all hE₀ ih hsrc (by have : src.sz + 1 ≤ N + 1 := hsz; omega) hOs) hA (by show A.depth + _ + 4 < _; omega) (K.chg Cr (fun _ h => h.elim)) Gs0 hsrc hF ?_ (Cr.wider (fun _ h => h.elim) (fun x h => .inl (h ▸ .head _))) (fun b hb => .inl (.tail _ (.tail _ hb))) (fun x hx => .inl (.tail _ hx)) (.head _) (.tail _ (.head _)) (.head _) rfl bdRun (fun _ h => h) rfl (Nat.le_refl _)
      exact ⟨hobj, ⟨_, setGen_get hgs⟩, ⟨m, hns⟩, fun q => n1 (q ▸ .head _), fun q => n1 (.tail _ q), n3, g1, hnew a (.head _), hnew L (.tail _ (.head _))⟩
    | fresh a g L x =>
      obtain ⟨hobj, hgs, hns, hbox, hOx⟩ := G.ok
      obtain ⟨n1, n2⟩ := List.nodup_cons.mp hnd
      obtain ⟨n3, n4⟩ := List.nodup_cons.mp n2
      obtain ⟨g1, g2⟩ := List.nodup_cons.mp hndg
      have bdRun : Bd s (s.setGen g .running) (Nd.fresh a g L x).ogs x.ogs := Bd.set (fun x hx => (List.mem_cons.mp hx)) fun b => (not_bad_running b).elim
      have Cr := chg_set s g .running
      have Gx : Good fa cd h₀ s x 0 := ⟨hOx, n4, g2, fun b hb => hnew b (.tail _ (.tail _ hb))⟩
      have Gx0 := Gx.chg Cr (fun _ _ h => h.elim) (fun _ _ h => h) (fun x hx h => g1 (h ▸ hx))
      have K0 := K.chg Cr (fun _ h => h.elim)
      have hdp : A.depth + (x.dp + 1) + 3 < recursionLimit := hd
      have C0 : Chg (· ∈ (Nd.fresh a g L x).own) (· ∈ (Nd.fresh a g L x).ogs) s (s.setGen g .running) := Cr.wider (fun _ h => h.elim) (fun x h => .inl (h ▸ .head _))
      refine wake_J hA hlim (by omega) hobj hgs (.inl ⟨rfl, rfl, rfl⟩) (P := EndN fa cd h₀ (.fresh a g L x) s) ?_ (after_wake hQ hE)
      refine seg_start (v := x.val) (m := fun y => if y = Str.ofString "x" then some x.val else none) hns (by simp) ?_
      cases x with
      | leaf => exact hbox.elim
      | nil => exact hbox.elim
      | cons => exact hbox.elim
      | seq a1 tup xs =>
        obtain ⟨hseq, hL, hOxs⟩ := Gx0.ok
        refine iter_seq hseq fun h' it hit keep hIt F1 hF => ?_
        have Cg : Chg (fun _ => False) (fun _ => False) (s.setGen g .running) { (s.setGen g .running) with heap := h' } := ⟨fun b o _ e => keep b o e, fun _ _ _ e => e, rfl⟩
        have Gxs : Good fa cd h₀ { (s.setGen g .running) with heap := h' } xs 0 := (⟨hOxs, Gx0.apart, Gx0.apartG, Gx0.new⟩ : Good fa cd h₀ _ xs 0).chg Cg (fun _ _ h => h.elim) (fun _ _ h => h) (fun _ _ h => h)
        have hit' : s.heap.get? it = none := hit
        have hmap : ∀ b ∈ xs.own, s.heap.get? b ≠ none := fun b hb q => by obtain ⟨o, q', _⟩ := Gx.ok.own _ _ b hb; rw [q] at q'; cases q'
        have Gsit : Good fa cd h₀ { (s.setGen g .running) with heap := h' } (.sit it a1 tup 0 xs) 0 := by
          refine ⟨⟨hIt, ⟨xs.vals, hseq.at fun o e => keep _ o e, rfl⟩, hL, Gxs.ok⟩, List.nodup_cons.mpr ⟨fun h => hmap _ h hit', Gxs.apart⟩, Gxs.apartG, fun b hb => ?_⟩
          rcases List.mem_cons.mp hb with rfl | hb
          · cases z : h₀.get? b with
            | none => rfl
            | some o => rw [K b o z] at hit'; cases hit'
          · exact Gxs.new b hb
        have hsz' : xs.sz + 1 ≤ N := by have : xs.sz + 2 + 1 ≤ N + 1 := hsz; omega
        refine seg_of_loop (src := .sit it a1 tup 0 xs) (loop_all hE₀ ih trivial hsz' Gsit.ok) hA (by show A.depth + (xs.dp + 1) + 4 < _; have : A.depth + (xs.dp + 1 + 1) + 3 < recursionLimit := hd; omega) (K0.chg Cg (fun _ h => h.elim)) Gsit trivial hF ?_ (C0.trans Cg (fun _ h => h.elim) (fun _ h => h.elim)) (fun b hb => ?_) (fun x hx => .inl (.tail _ hx)) (.head _) (.tail _ (.head _)) (.head _) rfl (bdRun.trans (Bd.same _ rfl)) (fun _ h => h) rfl (Nat.le_refl _)
        · refine ⟨hobj.at fun o e => keep _ o e, ⟨_, setGen_get hgs⟩, ⟨_, hns.keeps keep⟩, fun q => n1 (q ▸ .head _), fun q => ?_, fun q => ?_, g1, hnew a (.head _), hnew L (.tail _ (.head _))⟩
          · rcases List.mem_cons.mp q with rfl | q
            · exact mapped_gen hobj hit'
            · exact n1 (.tail _ q)
          · rcases List.mem_cons.mp q with rfl | q
            · exact mapped_ns hns hit'
            · exact n3 q
        · rcases List.mem_cons.mp hb with rfl | hb
          · exact .inr hit'
          · exact .inl (.tail _ (.tail _ hb))
      | sit a1 l tup i xs =>
        have ht : tup = false := hbox
        subst ht
        refine iter_listiter Gx0.ok.1 fun F1 hF => ?_
        have hsz' : xs.sz + 1 ≤ N := by have : xs.sz + 1 + 1 ≤ N + 1 := hsz; omega
        exact seg_of_loop (src := .sit a1 l false i xs) (loop_all hE₀ ih trivial hsz' Gx0.ok) hA (by show A.depth + _ + 4 < _; omega) K0 Gx0 trivial hF ⟨hobj, ⟨_, setGen_get hgs⟩, ⟨_, hns⟩, fun q => n1 (q ▸ .head _), fun q => n1 (.tail _ q), n3, g1, hnew a (.head _), hnew L (.tail _ (.head _))⟩ C0 (fun b hb => .inl (.tail _ (.tail _ hb))) (fun x hx => .inl (.tail _ hx)) (.head _) (.tail _ (.head _)) (.head _) rfl bdRun (fun _ h => h) rfl (Nat.le_refl _)
      | fresh a1 g1' L1 y =>
        refine iter_gen (Gx0.ok.obj trivial) fun F1 hF => ?_
        have hsz' : y.sz + 1 ≤ N := by have : y.sz + 1 + 1 ≤ N + 1 := hsz; omega
        exact seg_of_loop (src := .fresh a1 g1' L1 y) (loop_all hE₀ ih trivial hsz' Gx0.ok) hA (by show A.depth + _ + 4 < _; omega) K0 Gx0 trivial hF ⟨hobj, ⟨_, setGen_get hgs⟩, ⟨_, hns⟩, fun q => n1 (q ▸ .head _), fun q => n1 (.tail _ q), n3, g1, hnew a (.head _), hnew L (.tail _ (.head _))⟩ C0 (fun b hb => .inl (.tail _ (.tail _ hb))) (fun x hx => .inl (.tail _ hx)) (.head _) (.tail _ (.head _)) (.head _) rfl bdRun (fun _ h => h) rfl (Nat.le_refl _)
      | aty a1 g1' L1 y =>
        refine iter_gen (Gx0.ok.obj trivial) fun F1 hF => ?_
        have hsz' : y.sz + 1 ≤ N := by have : y.sz + 1 + 1 ≤ N + 1 := hsz; omega
        exact seg_of_loop (src := .aty a1 g1' L1 y) (loop_all hE₀ ih trivial hsz' Gx0.ok) hA (by show A.depth + _ + 4 < _; omega) K0 Gx0 trivial hF ⟨hobj, ⟨_, setGen_get hgs⟩, ⟨_, hns⟩, fun q => n1 (q ▸ .head _), fun q => n1 (.tail _ q), n3, g1, hnew a (.head _), hnew L (.tail _ (.head _))⟩ C0 (fun b hb => .inl (.tail _ (.tail _ hb))) (fun x hx => .inl (.tail _ hx)) (.head _) (.tail _ (.head _)) (.head _) rfl bdRun (fun _ h => h) rfl (Nat.le_refl _)
      | atf a1 g1' L1 y z =>
        refine iter_gen (Gx0.ok.obj trivial) fun F1 hF => ?_
        have hsz' : y.sz + z.sz + 1 ≤ N := by have : y.sz + z.sz + 1 + 1 ≤ N + 1 := hsz; omega
        exact seg_of_loop (src := .atf a1 g1' L1 y z) (loop_all hE₀ ih trivial hsz' Gx0.ok) hA (by show A.depth + _ + 4 < _; omega) K0 Gx0 trivial hF ⟨hobj, ⟨_, setGen_get hgs⟩, ⟨_, hns⟩, fun q => n1 (q ▸ .head _), fun q => n1 (.tail _ q), n3, g1, hnew a (.head _), hnew L (.tail _ (.head _))⟩ C0 (fun b hb => .inl (.tail _ (.tail _ hb))) (fun x hx => .inl (.tail _ hx)) (.head _) (.tail _ (.head _)) (.head _) rfl bdRun (fun _ h => h) rfl (Nat.le_refl _)
    | atf a g L src inn =>
      obtain ⟨hobj, ⟨gs, hgs, hG⟩, ⟨m, hns⟩, hsrc, hinn, hOs, hOi⟩ := G.ok
      obtain ⟨kk, l, p, F2, F1, cl, rfl, hkk, hF2, hF⟩ := hG
      obtain ⟨n1, n2⟩ := List.nodup_cons.mp hnd
      obtain ⟨n3, n4⟩ := List.nodup_cons.mp n2
      obtain ⟨ns, ni, dis⟩ := List.nodup_append.mp n4
      obtain ⟨g1, g2⟩ := List.nodup_cons.mp hndg
      obtain ⟨gs1, gi1, disG⟩ := List.nodup_append.mp g2
      have aS : a ∉ src.own := fun h => n1 (.tail _ (List.mem_append_left _ h))
      have aI : a ∉ inn.own := fun h => n1 (.tail _ (List.mem_append_right _ h))
      have LS : L ∉ src.own := fun h => n3 (List.mem_append_left _ h)
      have LI : L ∉ inn.own := fun h => n3 (List.mem_append_right _ h)
      have gS : g ∉ src.ogs := fun h => g1 (List.mem_append_left _ h)
      have gI : g ∉ inn.ogs := fun h => g1 (List.mem_append_right _ h)
      have haL : a ≠ L := fun q => n1 (q ▸ .head _)
      have innOwn : inn.ag.1 ∈ inn.own := by
        cases inn with
        | fresh a g L x => exact .head _
        | aty a g L x => exact .head _
        | atf a g L x y => exact .head _
        | leaf => exact hinn.elim
        | seq => exact hinn.elim
        | sit => exact hinn.elim
        | nil => exact hinn.elim
        | cons => exact hinn.elim
      have bdRun : Bd s (s.setGen g .running) (Nd.atf a g L src inn).ogs (src.ogs ++ inn.ogs) := Bd.set (fun x hx => (List.mem_cons.mp hx)) fun b => (not_bad_running b).elim
      have Cr := chg_set s g .running
      have K0 := K.chg Cr (fun _ h => h.elim)
      have Gs0 : Good fa cd h₀ (s.setGen g .running) src 0 := (⟨hOs, ns, gs1, fun b hb => hnew b (.tail _ (.tail _ (List.mem_append_left _ hb)))⟩ : Good fa cd h₀ s src 0).chg Cr (fun _ _ h => h.elim) (fun _ _ h => h) (fun x hx h => gS (h ▸ hx))
      have Gi0 : Good fa cd h₀ (s.setGen g .running) inn 1 := (⟨hOi, ni, gi1, fun b hb => hnew b (.tail _ (.tail _ (List.mem_append_right _ hb)))⟩ : Good fa cd h₀ s inn 1).chg Cr (fun _ _ h => h.elim) (fun _ _ h => h) (fun x hx h => gI (h ▸ hx))
      have hdp : A.depth + (max src.dp inn.dp + 1) + 3 < recursionLimit := hd
      have hdS : src.dp ≤ max src.dp inn.dp := Nat.le_max_left _ _
      have hdI : inn.dp ≤ max src.dp inn.dp := Nat.le_max_right _ _
      have hsz' : src.sz + inn.sz + 1 ≤ N + 1 := hsz
      have C0 : Chg (· ∈ (Nd.atf a g L src inn).own) (· ∈ (Nd.atf a g L src inn).ogs) s (s.setGen g .running) := Cr.wider (fun _ h => h.elim) (fun x h => .inl (h ▸ .head _))
      rw [Nd.val_gen hinn] at hkk hgs
      refine wake_J hA hlim (by omega) hobj hgs (.inr ⟨kk, l, p, cl, rfl, rfl⟩) (P := EndN fa cd h₀ (.atf a g L src inn) s) ?_ (after_wake hQ hE)
      refine segJ_eq hkk (segJ_bind (wpJ_of_any (slept_less (Gi0.ok.obj hinn) fun h' hg0 hsb => ?_)))
      refine segJ_again (Code.quiet_builtin _ (by decide +kernel)) ?_
      have C1 : Chg (fun b => b = inn.ag.1) (fun _ => False) (s.setGen g .running) { (s.setGen g .running) with heap := h' } := chg_same s.toks hsb
      have hO1 : ∀ b o, b = inn.ag.1 → (s.setGen g .running).heap.get? b = some o → NotSeq o := by
        rintro b o rfl q
        exact own_seq Gi0.ok _ o innOwn q
      have Gi1 : Good fa cd h₀ { (s.setGen g .running) with heap := h' } inn 0 := Gi0.recount hinn hg0 hsb
      have Gs1 := Gs0.chg C1 hO1 (fun b hb q => dis b hb _ innOwn q) (fun _ _ h => h)
      have K1 := K0.chg C1 (fun b q => q ▸ Gi0.new _ innOwn)
      obtain ⟨hA2, hd2, _⟩ := over_F2 (A := A.in1) hF2 hF (fromC (.ref inn.ag.1)) rfl
      have hd3 : (A.in1.over (fromC (.ref inn.ag.1)) [F2, F1]).depth = A.depth + 1 := hd2
      refine seg_from (g' := inn.ag.2) hF2 hF ?_
      refine ih inn (by omega) _ _ _ _ (hA2.trans hA) (by rw [hd3]; omega) K1 Gi1 hinn (fun v rest s2 inn' hfl hfl' T => ?_) (fun s2 ex hfl C2 _ _ hB2 hst => ?_)
      · have hob : IsGenO s2.heap inn.ag.1 inn.ag.2 0 := by have := T.good.ok.obj T.gen; rw [T.ag] at this; exact this
        refine ⟨v, rfl, hob, fun h'' kk' p' hg1 hsb' hkk' => ?_⟩
        have C3 : Chg (fun b => b = inn.ag.1) (fun _ => False) s2 { s2 with heap := h'' } := chg_same s2.toks hsb'
        have hO3 : ∀ b o, b = inn.ag.1 → s2.heap.get? b = some o → NotSeq o := by
          rintro b o rfl q
          obtain ⟨o', q', nn⟩ := gen_notSeq hob
          rw [q] at q'; cases q'; exact nn
        have Gs2 := Gs1.chg T.chg (fun b o hb q => own_seq Gi1.ok b o hb q) (fun b hb h => dis b hb b h rfl) (fun x hx h => disG x hx x h rfl)
        have Gs3 := Gs2.chg C3 hO3 (fun b hb q => dis b hb _ innOwn q) (fun _ _ h => h)
        have Gi3 : Good fa cd h₀ { s2 with heap := h'' } inn' 1 := T.good.recount T.gen (by rw [T.ag]; exact hg1) (by rw [T.ag]; exact hsb')
        have C03 : Chg (· ∈ inn.own) (· ∈ inn.ogs) (s.setGen g .running) { s2 with heap := h'' } := ((C1.wider (fun b q => .inl (q ▸ innOwn)) (fun _ h => h.elim)).trans T.chg (fun _ h => .inl h) (fun _ h => .inl h)).trans C3 (fun b q => .inl (q ▸ innOwn)) (fun _ h => h.elim)
        have un1 : ∀ b, ({ (s.setGen g .running) with heap := h' } : Shared).heap.get? b = none → b ∈ inn.own ∨ s.heap.get? b = none := by
          intro b q
          rcases C1.new q with q | q
          · exact .inl (q ▸ innOwn)
          · exact .inr q
        have inn'S : ∀ b ∈ inn'.own, b ∈ inn.own ∨ s.heap.get? b = none := by
          intro b hb
          rcases T.own b hb with q | q
          · exact .inl q
          · exact un1 b q
        have inn'SG : ∀ x ∈ inn'.ogs, x ∈ inn.ogs ∨ (s.setGen g .running).gens[x]? = none := T.ogs
        have R3 : Running h₀ { s2 with heap := h'' } a g L src := ⟨hobj.at fun o e => C03.heap a o aI e, ⟨_, C03.gens g _ gI (setGen_get hgs)⟩, ⟨m, hns.at fun o e => C03.heap L o LI e⟩, haL, aS, LS, gS, hnew a (.head _), hnew L (.tail _ (.head _))⟩
        have Ri3 : Running h₀ { s2 with heap := h'' } a g L inn' := by
          refine ⟨R3.obj, R3.run, R3.ns, haL, fun h => ?_, fun h => ?_, fun h => ?_, R3.a0, R3.L0⟩
          · rcases inn'S a h with q | q
            · exact aI q
            · exact mapped_gen hobj q
          · rcases inn'S L h with q | q
            · exact LI q
            · exact mapped_ns hns q
          · rcases inn'SG g h with q | q
            · exact gI q
            · rw [setGen_get hgs] at q; cases q
        have old1 : ∀ b ∈ src.own, ({ (s.setGen g .running) with heap := h' } : Shared).heap.get? b ≠ none := fun b hb q => by obtain ⟨o, q', _⟩ := Gs1.ok.own _ _ b hb; rw [q] at q'; cases q'
        obtain ⟨k1, l1, p1, rfl, hk1⟩ := id hF
        obtain ⟨k2, l2, p2, rfl, hk2⟩ := id hF2
        refine .inl ⟨v, rest ++ src.fl, .atf a g L src inn', by show inn.fl ++ src.fl = _; rw [hfl]; rfl, by show inn'.fl ++ src.fl = _; rw [hfl'], rfl, trivial, rfl, ?_, ?_, fun b hb => ?_, fun x hx => ?_, ?_, ?_, fun b hb => ?_⟩
        · refine mk_atf Gs3 Gi3 hsrc T.gen R3 Ri3 (fun b hb h => ?_) (fun x hx h => ?_) ⟨kk', [], p', _, _, true, ?_, ?_, hF2, hF⟩
          · rcases T.own b h with q | q
            · exact dis b hb b q rfl
            · exact old1 b hb q
          · rcases T.ogs x h with q | q
            · exact disG x hx x q rfl
            · obtain ⟨y, q'⟩ := Gs1.ok.ogs _ _ x hx
              rw [q] at q'; cases q'
          · rw [Nd.val_gen T.gen, T.ag]; rfl
          · rw [Nd.val_gen T.gen, T.ag]; exact hkk'
        · exact (C0.trans C03 (fun b h => .inl (.tail _ (.tail _ (List.mem_append_right _ h)))) (fun x h => .inl (.tail _ (List.mem_append_right _ h)))).trans (chg_set _ g _) (fun _ h => h.elim) (fun x h => .inl (h ▸ .head _))
        · rcases List.mem_cons.mp hb with rfl | hb
          · exact .inl (.head _)
          rcases List.mem_cons.mp hb with rfl | hb
          · exact .inl (.tail _ (.head _))
          rcases List.mem_append.mp hb with hb | hb
          · exact .inl (.tail _ (.tail _ (List.mem_append_left _ hb)))
          · rcases inn'S b hb with q | q
            · exact .inl (.tail _ (.tail _ (List.mem_append_right _ q)))
            · exact .inr q
        · rcases List.mem_cons.mp hx with rfl | hx
          · exact .inl (.head _)
          rcases List.mem_append.mp hx with hx | hx
          · exact .inl (.tail _ (List.mem_append_left _ hx))
          · rcases inn'SG x hx with q | q
            · exact .inl (.tail _ (List.mem_append_right _ q))
            · exact C0.newG q
        · exact Nat.succ_le_succ (Nat.max_le.mpr ⟨hdS, Nat.le_trans T.dp hdI⟩)
        · have B1 : Bd (s.setGen g .running) { s2 with heap := h'' } inn.ogs inn'.ogs := Bd.trans (Bd.same _ rfl) (T.bad.trans (Bd.same _ rfl))
          exact (bdRun.trans (B1.wider (n' := src.ogs ++ inn'.ogs) (fun x hx => by
            rcases List.mem_append.mp hx with q | q
            · exact .inr (List.mem_append_left _ q)
            · exact .inl q) fun x hx => List.mem_append_right _ hx)).trans (Bd.set (fun x hx => .inr (.tail _ hx)) fun _ => .head _)
        · have hb' : b ∈ src.seqs ++ inn'.seqs := hb
          show b ∈ src.seqs ++ inn.seqs
          rcases List.mem_append.mp hb' with q | q
          · exact List.mem_append_left _ q
          · exact List.mem_append_right _ (T.sq b q)
      · refine ⟨hst, segJ_again rfl ?_⟩
        have C02 : Chg (· ∈ inn.own) (· ∈ inn.ogs) (s.setGen g .running) s2 := (C1.wider (fun b q => .inl (q ▸ innOwn)) (fun _ h => h.elim)).trans C2 (fun _ h => .inl h) (fun _ h => .inl h)
        have K2 := K1.chg C2 (fun b hb => Gi1.new b hb)
        have Gs2 := Gs1.chg C2 (fun b o hb q => own_seq Gi1.ok b o hb q) (fun b hb h => dis b hb b h rfl) (fun x hx h => disG x hx x h rfl)
        have R2 : Running h₀ s2 a g L src := ⟨hobj.at fun o e => C02.heap a o aI e, ⟨_, C02.gens g _ gI (setGen_get hgs)⟩, ⟨m, hns.at fun o e => C02.heap L o LI e⟩, haL, aS, LS, gS, hnew a (.head _), hnew L (.tail _ (.head _))⟩
        have B1 : Bd (s.setGen g .running) s2 inn.ogs [] := Bd.trans (Bd.same _ rfl) hB2
        have B2 : Bd s s2 (Nd.atf a g L src inn).ogs src.ogs := bdRun.trans (B1.wider (fun x hx => by
            rcases List.mem_append.mp hx with q | q
            · exact .inr q
            · exact .inl q) fun x hx => nomatch hx)
        exact seg_of_loop (nd := .atf a g L src inn) (loop_all hE₀ ih hsrc (by omega) hOs) hA (by show A.depth + _ + 4 < _; omega) K2 Gs2 hsrc hF R2
          (C0.trans C02 (fun b h => .inl (.tail _ (.tail _ (List.mem_append_right _ h)))) (fun x h => .inl (.tail _ (List.mem_append_right _ h))))
          (fun b hb => .inl (.tail _ (.tail _ (List.mem_append_left _ hb)))) (fun x hx => .inl (.tail _ (List.mem_append_left _ hx))) (.head _) (.tail _ (.head _)) (.head _) rfl B2 (fun _ h => List.mem_append_left _ h) (by show inn.fl ++ src.fl = _; rw [hfl]; rfl) (by show src.dp + 1 ≤ max src.dp inn.dp + 1; omega)
end
end Mine

namespace Mine
open PySem PySem.W PySem.Calls PyProof.Rows

/-- the statements of the text that bind what the law reads -/
def qv : Program := view PySem.Challenge.pw_eu0022_01 [1, 3, 4]
abbrev rr : OpenRow := PySem.Challenge.rw_eu0022_01.row
set_option maxHeartbeats 4000000 in
theorem left : LeftO PySem.Challenge.pw_eu0022_01 qv [] (fun _ => true) (fun _ => ()) (fun _ => ()) 2000 :=
  fun w => by kernel_rfl

/-- what the call of the law must bring -/
def CallJ (d : DefRec) (kwd : List (Str × Expr)) : Prop :=
  ∀ (w : World) (s₀ s₁ : Shared) (mg mb : Str → Option Value), Ground qv [] [] (fun _ _ => True) w s₀ mg mb s₁.heap → ∀ (a : Addr) (o : Obj) (pm cd doc dV kV : Value), s₁.heap.get? a = some o →
    o.data = .func { docDef d.name d.params d.body d.scope pm cd doc with defaults := dV, kwdefaults := kV } → s₁.heap.CodeRec cd d.name → Dflts mg s₁.heap d.params kwd dV kV → mg d.name = some (.ref a) → s₁.gens = #[] →
    ∀ (args : List WData) (vals : List Value) (as : List Addr), rr.claim.pre args = true → WData.layableAll args = true → ReadsAllW [] (classAt s₀.heap) s₁.heap vals args as → WellAll w.params s₁.heap vals args → (∀ a ∈ as, (a == sysModules) = false) →
      wpJ (model PySem.Challenge.pw_eu0022_01 w) callerA (PySem.call (.ref a) vals) (fun v s' => v = .bool true ∧ (∀ b o, s₁.heap.get? b = some o → s'.heap.get? b = some o) ∧ s'.os = s₁.os ∧ leftWithCleanup s'.gens = false)
        (fun _ _ => False) s₁

set_option maxHeartbeats 2000000 in
theorem holdsJ {d : DefRec} {kwd : List (Str × Expr)} (hdef : defOf qv rr.name = some (d, kwd)) (hp : rr.prog.theDef rr.name = some (d.params, d.body, d.scope)) (hk : kwWritten? d.params.kwonlyargs d.params.kw_defaults = some kwd)
    (k1 : rr.wellSaid = true) (ok : (chainsOk qv && opensWell rr.prog && (frees rr.toRowW && rr.within.isEmpty)) = true) (hb : rr.prog.bare) (hw : rr.toRowW.promised) (call : CallJ d kwd) : rr.Holds := by
  obtain ⟨ok, k5⟩ := Bool.and_eq_true_iff.mp ok
  obtain ⟨hch, o1⟩ := Bool.and_eq_true_iff.mp ok
  obtain ⟨k5, k6⟩ := Bool.and_eq_true_iff.mp k5
  obtain ⟨hsame, hu, ha, hap, hm⟩ := frees_parts k5
  refine ⟨k1, hw, ⟨hb, o1, by rfl⟩, hw.witness, fun w => ⟨(left.behind (XP := fun _ _ => True) (fun _ _ => trivial) hch w).1, fun s' hs' => ?_⟩⟩
  obtain ⟨s₀, hf, hg0, s, hT, hz, hgens, hg, G, _⟩ := (left.behind (XP := fun _ _ => True) (fun _ _ => trivial) hch w).2 s' hs'
  refine ⟨s₀, hf, hg0, s, hT, fun n hn => ?_, fun x hx => (nomatch hx), fun x hx => (nomatch hx), ?_⟩
  · have hn' : n ∈ [rr.name] := hn
    obtain rfl := List.mem_singleton.mp hn'
    exact pinned_of_view hg G hdef hp hk
  have hgens : s.gens = #[] := Array.eq_empty_of_size_eq_zero (beq_iff_eq.mp hgens)
  intro args hpre hlay ord hord
  obtain ⟨⟨vs, s₁⟩, hlaid⟩ := Option.isSome_iff_exists.mp (layAllW_isSome (P := w.params) (ord := ord) G.has args rr.args s (pre_splitW (r := rr.toRowW) hpre).1)
  have keeps := layAllW_keeps _ _ _ hlaid
  have hal := layAllW_rest _ _ _ hlaid
  obtain ⟨as, hrd, hin, hold⟩ := reads_layAllW hord _ _ _ hlaid hlay s₁.heap (fun _ _ e => e)
  have G₁ := G.keeps (fun _ _ _ _ _ => trivial) keeps
  have hlow : ∀ a ∈ as, (a == sysModules) = false := fun a ha => beq_eq_false_iff_ne.mpr fun e => by
    have := (hin.2.2 a ha).1; subst e; exact absurd G.low (Nat.not_lt.mpr this)
  obtain ⟨a, o, pm, cd, doc, dV, kV, h1, h2, h3, h4, h5⟩ := G₁.fn hdef
  have hcall := call w s s₁ _ _ G₁ a o pm cd doc dV kV h2 h3 h4 h5 (defOf_name hdef ▸ h1) (hal.1.trans hgens) args vs as hpre hlay hrd (well_layAllW hord args s _ hlaid _ fun _ _ e => e) hlow
  have htree : wpJ (model PySem.Challenge.pw_eu0022_01 w) callerA (callStub rr.name vs).cur (fun fin s' => fin = .done (.ret (.bool true)) ∧ (∀ b o, s₁.heap.get? b = some o → s'.heap.get? b = some o) ∧ s'.os = s₁.os ∧ leftWithCleanup s'.gens = false)
      (fun _ _ => False) s₁ := by
    show wpJ _ _ (do match ← nsGet mainNs rr.name with
      | some f => do ret (← PySem.call f vs)
      | none => unsupported "claim.caller:no-such-global") _ _ _
    refine wpJ_bindA (wpAny_nsGet G₁.T.g ?_)
    rw [h1]
    refine wpJ_bind (wpJ_mono hcall (fun v s' x => ?_) fun _ _ x => x)
    obtain ⟨rfl, x⟩ := x
    exact wpJ_pure ⟨rfl, x⟩
  obtain ⟨s', p', hres⟩ := htree ⟨.builtin "claim.caller" {}, none, none, [], none⟩ [] default ⟨rfl, rfl, rfl, rfl⟩ caller_in .pure .raise id id
  rcases hres with ⟨fin, hcj, hfin, hkeep, hos, hlw⟩ | ⟨e, _, x⟩
  case inr => exact x.elim
  subst hfin
  rw [wrap_id] at hcj
  have hz₁ : s₁.asleep := Shared.asleep_of_life hal.2.2.2 hz
  obtain ⟨n, σ', hsched, hfo, hlife⟩ := CJ.halts (r := .ok (.ret (.bool true))) hcj hlw hz₁
  obtain ⟨eh, _, _, eo, _⟩ := Shared.forget_eq hfo
  have hK : ∀ b o, s₁.heap.get? b = some o → σ'.heap.get? b = some o := fun b o e => by rw [eh]; exact hkeep b o e
  have g : GoodW rr.claim (classAt s.heap) (ExcName.means s.heap) args { s₁ with gens := #[] } (.ok (.ret (.bool true))) { σ' with gens := #[] } := by
    refine ⟨.inl ⟨.bool true, .bool true, [], rfl, fun _ => rfl, .bool _, ?_, fun _ => ⟨List.nodup_nil, fun _ h => nomatch h⟩⟩, hK, ?_, rfl⟩
    · show (WShape.has [] (.bool true) .bool && (WTm.eq .res (.lit (.bool true))).holds [] { args := args, res := some (.bool true), after := args }) = true
      have e1 : WShape.has [] (.bool true) .bool = true := by decide +kernel
      rw [e1, Bool.true_and]
      unfold WTm.holds
      rw [w_eq_bool (w_res rfl) w_lit]; rfl
    show σ'.os = s₁.os
    rw [eo]; exact hos
  have hwi : rr.claim.within = [] := List.isEmpty_iff.mp k6
  have z := g.endsN (c := rr.claim) (s₀ := s) hsame hwi (ident_freeW hu ha hap) hrd hold hal.2.2.1
  refine ⟨vs, s₁, hlaid, n, _, σ', hsched, ?_, (fun _ i x hx => by rw [hgens] at hx; simp at hx), (fun q => ⟨namesKept_of hT hg _ keeps fun b o e => .inl (hK b o e), noTable (by rfl) q⟩), by rw [hlife, hal.2.2.2], Shared.rest_eq (by rw [eo, hos]; exact hal.2.2.1)⟩
  rcases z.1 with ⟨v, hv, d1, d2, d3, d4, d5⟩ | ⟨e, ob, cls, h, _⟩
  · cases hv
    exact .inl ⟨_, rfl, d1, d2, d3, fun b o y _ => d4 b o y, d5⟩
  · cases h
end Mine

namespace Mine
open PySem PySem.W PySem.Calls PyProof.Rows

def leavesStmt : Stmt := match PySem.Challenge.pw_eu0022_01.main.body with | [_, _, _, st, _] => st | _ => .Pass default
def leavesScope : Scope := match leavesStmt with | .FunctionDef _ _ _ _ _ _ sc _ _ _ => sc | _ => default
def leavesParams : Arguments := match leavesStmt with | .FunctionDef _ ps _ _ _ _ _ _ _ _ => ps | _ => default
def leavesBody : List Stmt := match leavesStmt with | .FunctionDef _ _ b _ _ _ _ _ _ _ => b | _ => []
def lawStmt : Stmt := match PySem.Challenge.pw_eu0022_01.main.body with | [_, _, _, _, st] => st | _ => .Pass default
def lawScope : Scope := match lawStmt with | .FunctionDef _ _ _ _ _ _ sc _ _ _ => sc | _ => default
def lawParams : Arguments := match lawStmt with | .FunctionDef _ ps _ _ _ _ _ _ _ _ => ps | _ => default
def lawBody : List Stmt := match lawStmt with | .FunctionDef _ _ b _ _ _ _ _ _ _ => b | _ => []
def lawSt (i : Nat) : Stmt := lawBody.getD i (.Pass default)
theorem lawBody_split : lawBody = [lawSt 0, lawSt 1, lawSt 2, lawSt 3, lawSt 4, lawSt 5, lawSt 6] := rfl

def lenv (a : Addr) (cd : Value) (L : Addr) : Env := newEnv lawScope L mainGlobals [(Str.ofString "walk", L + 1)] "law.<locals>." (some a) cd none builtinsNs
theorem callEnv_law (pm cd doc : Value) (L a : Addr) : callEnvC (docDef "law" lawParams lawBody lawScope pm cd doc) L a = lenv a cd L := by rfl

def bltList : List (Str × Value) := [(Str.ofString "enumerate", .type "enumerate"), (Str.ofString "len", .builtin "len"), (Str.ofString "tuple", .type "tuple"), (Str.ofString "iter", .builtin "iter"),
  (Str.ofString "range", .type "range"), (Str.ofString "list", .type "list"), (Str.ofString "next", .builtin "next")]

structure LawG (fa la : Addr) (cd lcd : Value) (h : Heap) : Prop where
  e : EnvG fa cd h
  g : ∃ mg mb, h.Ns mainGlobals mg ∧ h.Ns builtinsNs mb ∧ mg "_law_leaves" = some (.ref la) ∧ mg "flatten_iterator" = some (.ref fa) ∧ ∀ p ∈ bltList, mg p.1 = none ∧ mb p.1 = some p.2
  fn : ∃ o pm doc, h.get? la = some o ∧ o.data = .func (docDef "_law_leaves" leavesParams leavesBody leavesScope pm lcd doc)
  code : h.CodeRec lcd "_law_leaves"
theorem LawG.keeps {fa la : Addr} {cd lcd : Value} {h h' : Heap} (x : LawG fa la cd lcd h) (k : ∀ b o, h.get? b = some o → h'.get? b = some o) : LawG fa la cd lcd h' :=
  ⟨x.e.keeps k, let ⟨mg, mb, a, b, r⟩ := x.g; ⟨mg, mb, a.keeps k, b.keeps k, r⟩, let ⟨o, pm, doc, a, r⟩ := x.fn; ⟨o, pm, doc, k _ _ a, r⟩, x.code.keeps k⟩

set_option maxHeartbeats 2000000 in
theorem recs_view : (recsOf qv).map (·.name) = [Str.ofString "flatten_iterator", Str.ofString "_law_leaves", Str.ofString "law"] := by rfl
def free3 (x : Str) : Bool := !startupNames.contains x && !(looseW qv []).contains x && !((recsOf qv).map (·.name)).contains x && !((litsOf qv).map (·.1)).contains x && !((clssOf qv (looseW qv [])).map (·.name)).contains x
set_option maxHeartbeats 2000000 in
theorem free_ok : ∀ x ∈ ([Str.ofString "isinstance", Str.ofString "hasattr", Str.ofString "str"] ++ bltList.map (·.1)), free3 x = true := by decide +kernel
set_option maxHeartbeats 2000000 in
theorem blt_ok : ∀ p ∈ bltList, p.1 ≠ Str.ofString "__name__" ∧ bootBuiltins p.1 = some p.2 := by
  intro p hp
  simp only [bltList, List.mem_cons, List.not_mem_nil, or_false] at hp
  rcases hp with rfl | rfl | rfl | rfl | rfl | rfl | rfl
  all_goals exact ⟨by decide +kernel, by kernel_rfl⟩

theorem free_of {XP : (Str → Option Value) → Heap → Prop} {w : World} {s₀ : Shared} {mg mb : Str → Option Value} {h : Heap} (G : Ground qv [] [] XP w s₀ mg mb h) {x : Str} (e : free3 x = true) : mg x = none := by
  simp only [free3, Bool.and_eq_true, Bool.not_eq_true', ← Bool.not_eq_true, List.contains_iff_mem] at e
  obtain ⟨⟨⟨⟨a, b⟩, c⟩, d⟩, f⟩ := e
  exact G.T.free x a b c d f
end Mine

namespace Mine
open PySem PySem.W PySem.Calls PyProof.Rows

theorem flat_rec : ∃ d ∈ recsOf qv, d.name = "flatten_iterator" ∧ d.params = flatParams ∧ d.body = flatBody ∧ d.scope = flatScope := by
  refine ⟨(recsOf qv).head (by decide +kernel), List.head_mem _, ?_, ?_, ?_, ?_⟩ <;> rfl
theorem leaves_rec : ∃ d ∈ recsOf qv, d.name = "_law_leaves" ∧ d.params = leavesParams ∧ d.body = leavesBody ∧ d.scope = leavesScope := by
  refine ⟨(recsOf qv).tail.head (by decide +kernel), List.mem_of_mem_tail (List.head_mem _), ?_, ?_, ?_, ?_⟩ <;> rfl

theorem lawG_of {XP : (Str → Option Value) → Heap → Prop} {w : World} {s₀ : Shared} {mg mb : Str → Option Value} {h : Heap} (G : Ground qv [] [] XP w s₀ mg mb h) : ∃ fa la cd lcd, LawG fa la cd lcd h := by
  obtain ⟨d1, m1, n1, p1, b1, c1⟩ := flat_rec
  obtain ⟨d2, m2, n2, p2, b2, c2⟩ := leaves_rec
  obtain ⟨fa, o, pm, cd, doc, g1, g2, g3, g4⟩ := G.T.fn d1 m1
  obtain ⟨la, o', pm', lcd, doc', h1, h2, h3, h4⟩ := G.T.fn d2 m2
  rw [n1] at g1 g3 g4
  rw [p1, b1, c1] at g3
  rw [n2] at h1 h3 h4
  rw [p2, b2, c2] at h3
  have fr : ∀ x ∈ ([Str.ofString "isinstance", Str.ofString "hasattr", Str.ofString "str"] ++ bltList.map (·.1)), mg x = none := fun x hx => free_of G (free_ok x hx)
  have bt : ∀ p ∈ bltList, mb p.1 = some p.2 := fun p hp => (G.T.builtins _ (blt_ok p hp).1).trans (blt_ok p hp).2
  refine ⟨fa, la, cd, lcd, ⟨⟨mg, G.T.g, fr _ (by simp), fr _ (by simp), fr _ (by simp), g1⟩, ⟨mb, G.T.b, ?_, ?_, ?_⟩, ⟨o, pm, doc, g2, g3⟩, g4, G.T.nolimit⟩,
    ⟨mg, mb, G.T.g, G.T.b, h1, g1, fun p hp => ⟨fr _ (List.mem_append_right _ (List.mem_map_of_mem hp)), bt p hp⟩⟩, ⟨o', pm', doc', h2, h3⟩, h4⟩
  · rw [G.T.builtins _ (by decide +kernel)]; kernel_rfl
  · rw [G.T.builtins _ (by decide +kernel)]; kernel_rfl
  · rw [G.T.builtins _ (by decide +kernel)]; kernel_rfl

section
variable {prog : Program} {w : World} {A : Around} {s : Shared} {R : Result → Shared → Prop}
theorem codeJ_func {body env} (h : wpJ (model prog w) (A.deeper env) (execs body env) (fun f s' => R (.ok (.ret (match f with | .ret v => v | _ => .none))) s') (fun _ _ => False) s) :
    codeJ (model prog w) A (.func body env) R s := by
  refine codeJ_of_tree ?_
  show wpJ _ (A.deeper env) (do point; match ← (execs body env).onRaise (leaving env) with | .ret v => ret v | _ => ret .none) _ _ s
  refine wpJ_bindA (wpAny_point (wpJ_bind (wpJ_onRaise (wpJ_mono h (fun f s' h' => ?_) fun _ _ h' => h'.elim))))
  cases f <;> exact wpJ_pure h'

theorem codeJ_call_function {a : Addr} {args : Args} {o : Obj} {fd : FuncData} {body : List Stmt} (hroom : A.depth < recursionLimit)
    (ho : s.heap.get? a = some o) (hd' : o.data = .func fd) (hco : fd.scope.isCoroutine = false) (hgen : fd.scope.isGenerator = false) (hbody : fd.body = .stmts body) (hcd : s.heap.CodeRec fd.code fd.qualname)
    (h : wpAny (model prog w) A.in1 (bindArgs fd args) (fun binds s₁ =>
      wpAny (model prog w) A.in1 (newFunctionEnv fd.scope fd.globals fd.closure binds (fd.qualname ++ ".<locals>.") (some a) fd.code none fd.builtins)
        (fun env s₂ => s₂.heap.NoLimit ∧ codeJ (model prog w) A (.func body env) R s₂) (fun e s' => R (.error e) s') s₁) (fun e s' => R (.error e) s') s) :
    codeJ (model prog w) A (.call (.ref a) args) R s := by
  refine codeJ_of_tree ?_
  show wpJ _ A.in1 (callAny (.ref a) args) _ _ s
  simp only [callAny]
  refine wpJ_bindA (wpAny_load ho ?_)
  obtain ⟨c, oc, vs, tq, hc, hoc, hdc, hq⟩ := hcd
  simp only [hd', callFunction, hco, hgen, hbody, hc]
  rw [hc] at h
  refine wpJ_bindA (m := field (.ref c) 1) (wpAny_field hoc hdc hq (wpJ_bindA (wpAny_pure ?_)))
  exact wpJ_bindA (wpAny_mono h (fun binds s₁ h₁ => wpJ_bindA (wpAny_mono h₁ (fun env s₂ h₂ => wpJ_bindA (wpAny_enterFrame h₂.1 hroom
    (wpJ_pure (And.intro rfl h₂.2)))) fun _ _ h' => h')) fun _ _ h' => h')

theorem look_script : lawScope.names.lookup (Str.ofString "script") = some .local := by decide +kernel
theorem call_law {Q : Value → Shared → Prop} {a : Addr} {o : Obj} {pm cd doc v : Value} (hroom : A.depth < recursionLimit) (ho : s.heap.get? a = some o)
    (hd : o.data = .func (docDef "law" lawParams lawBody lawScope pm cd doc)) (hcd : s.heap.CodeRec cd "law") (hlim : s.heap.NoLimit)
    (h : ∀ h' tk, (∀ b o, s.heap.get? b = some o → h'.get? b = some o) → h'.Ns s.heap.objs.size (fun y => if y = Str.ofString "script" then some v else none) → h'.IsCell (s.heap.objs.size + 1) none →
      wpJ (model prog w) (A.deeper (lenv a cd s.heap.objs.size)) (execs lawBody (lenv a cd s.heap.objs.size)) (fun f s' => Q (match f with | .ret v => v | _ => .none) s') (fun _ _ => False) { s with heap := h', toks := tk }) :
    wpJ (model prog w) A (PySem.call (.ref a) [v]) Q (fun _ _ => False) s := by
  refine wpJ_call (codeJ_call_function (fd := docDef "law" lawParams lawBody lawScope pm cd doc) (body := lawBody) hroom ho hd (by rfl) (by rfl) rfl hcd ?_)
  have hb : bindArgs (docDef "law" lawParams lawBody lawScope pm cd doc) ⟨[v], []⟩ = pure [(Str.ofString "script", v)] := rfl
  rw [hb]
  refine wpAny_pure (wpAny_newFunctionEnv_cells (by rfl) (by intro x hx; rw [List.mem_singleton.mp hx]; exact .inl look_script) fun env he s' x => ?_)
  have hc : cellsFrom (s.heap.objs.size + 1) (docDef "law" lawParams lawBody lawScope pm cd doc).scope.names [] = [(Str.ofString "walk", s.heap.objs.size + 1)] := by rfl
  rw [hc] at he
  have he' : env = lenv a cd s.heap.objs.size := he
  subst he'
  refine ⟨hlim.keeps x.toInCall.keep, codeJ_func ?_⟩
  obtain ⟨h₁, tk, rfl⟩ := x.toInCall.same
  have hns := x.toInCall.ns
  have hm : (bindL (lenv a cd s.heap.objs.size).kindOf [(Str.ofString "script", v)] fun _ => none) = fun y => if y = Str.ofString "script" then some v else none := by
    have hk : (lenv a cd s.heap.objs.size).kindOf (Str.ofString "script") = some .local := look_script
    unfold bindL bindL
    rw [if_pos hk]
  rw [hm] at hns
  have hcell : h₁.IsCell (s.heap.objs.size + 1) none := by
    have := x.cell (Str.ofString "walk") (s.heap.objs.size + 1) (by simp [lenv, newEnv])
    have hb : bindC (lenv a cd s.heap.objs.size).kindOf [(Str.ofString "script", v)] (fun _ => none) (Str.ofString "walk") = none := by
      have hk : (lenv a cd s.heap.objs.size).kindOf (Str.ofString "script") = some .local := look_script
      unfold bindC bindC
      rw [if_pos hk]
    rw [hb] at this
    exact this
  exact wpJ_mono (h h₁ tk x.toInCall.keep hns hcell) (fun f s' q => q) fun _ _ q => q
end
end Mine

namespace Mine
open PySem PySem.W PySem.Calls PyProof.Rows

namespace Nd
def snoc : Nd → Nd → Nd
  | cons x xs, e => cons x (xs.snoc e)
  | _, e => cons e nil
theorem snoc_isL : ∀ (xs e : Nd), xs.isL → (xs.snoc e).isL
  | nil, _, _ => trivial
  | cons _ xs, e, h => snoc_isL xs e h
  | leaf _, _, h | seq _ _ _, _, h | sit _ _ _ _ _, _, h | fresh _ _ _ _, _, h | aty _ _ _ _, _, h | atf _ _ _ _ _, _, h => h.elim
theorem snoc_vals : ∀ (xs e : Nd), xs.isL → (xs.snoc e).vals = xs.vals ++ [e.val]
  | nil, _, _ => rfl
  | cons x xs, e, h => by show x.val :: (xs.snoc e).vals = _; rw [snoc_vals xs e h]; rfl
  | leaf _, _, h | seq _ _ _, _, h | sit _ _ _ _ _, _, h | fresh _ _ _ _, _, h | aty _ _ _ _, _, h | atf _ _ _ _ _, _, h => h.elim
theorem snoc_fl : ∀ (xs e : Nd), xs.isL → (xs.snoc e).fl = xs.fl ++ e.fl
  | nil, e, _ => by show e.fl ++ [] = [] ++ e.fl; simp
  | cons x xs, e, h => by show x.fl ++ (xs.snoc e).fl = (x.fl ++ xs.fl) ++ e.fl; rw [snoc_fl xs e h, List.append_assoc]
  | leaf _, _, h | seq _ _ _, _, h | sit _ _ _ _ _, _, h | fresh _ _ _ _, _, h | aty _ _ _ _, _, h | atf _ _ _ _ _, _, h => h.elim
theorem snoc_own : ∀ (xs e : Nd), xs.isL → (xs.snoc e).own = xs.own ++ e.own
  | nil, e, _ => by show e.own ++ [] = [] ++ e.own; simp
  | cons x xs, e, h => by show x.own ++ (xs.snoc e).own = (x.own ++ xs.own) ++ e.own; rw [snoc_own xs e h, List.append_assoc]
  | leaf _, _, h | seq _ _ _, _, h | sit _ _ _ _ _, _, h | fresh _ _ _ _, _, h | aty _ _ _ _, _, h | atf _ _ _ _ _, _, h => h.elim
theorem snoc_ogs : ∀ (xs e : Nd), xs.isL → (xs.snoc e).ogs = xs.ogs ++ e.ogs
  | nil, e, _ => by show e.ogs ++ [] = [] ++ e.ogs; simp
  | cons x xs, e, h => by show x.ogs ++ (xs.snoc e).ogs = (x.ogs ++ xs.ogs) ++ e.ogs; rw [snoc_ogs xs e h, List.append_assoc]
  | leaf _, _, h | seq _ _ _, _, h | sit _ _ _ _ _, _, h | fresh _ _ _ _, _, h | aty _ _ _ _, _, h | atf _ _ _ _ _, _, h => h.elim
theorem snoc_seqs : ∀ (xs e : Nd), xs.isL → (xs.snoc e).seqs = xs.seqs ++ e.seqs
  | nil, e, _ => by show e.seqs ++ [] = [] ++ e.seqs; simp
  | cons x xs, e, h => by show x.seqs ++ (xs.snoc e).seqs = (x.seqs ++ xs.seqs) ++ e.seqs; rw [snoc_seqs xs e h, List.append_assoc]
  | leaf _, _, h | seq _ _ _, _, h | sit _ _ _ _ _, _, h | fresh _ _ _ _, _, h | aty _ _ _ _, _, h | atf _ _ _ _ _, _, h => h.elim
theorem snoc_dp : ∀ (xs e : Nd) (n : Nat), xs.isL → xs.dp ≤ n → e.dp ≤ n → (xs.snoc e).dp ≤ n
  | nil, e, n, _, _, h => Nat.max_le.mpr ⟨h, Nat.zero_le _⟩
  | cons x xs, e, n, h, h1, h2 => Nat.max_le.mpr ⟨Nat.le_trans (Nat.le_max_left _ _) h1, snoc_dp xs e n h (Nat.le_trans (Nat.le_max_right _ _) h1) h2⟩
  | leaf _, _, _, h, _, _ | seq _ _ _, _, _, h, _, _ | sit _ _ _ _ _, _, _, h, _, _ | fresh _ _ _ _, _, _, h, _, _ | aty _ _ _ _, _, _, h, _, _ | atf _ _ _ _ _, _, _, h, _, _ => h.elim
end Nd

section
variable {fa : Addr} {cd : Value} {s s' : Shared} {O : Addr → Prop} {G : Nat → Prop}
theorem Ok.snoc : ∀ (xs e : Nd), Ok fa cd s xs 0 → xs.isL → Ok fa cd s e 0 → e.isEl → Ok fa cd s (xs.snoc e) 0
  | .nil, _, _, _, h, he => ⟨he, trivial, h, trivial⟩
  | .cons _ xs, e, ⟨a, b, c, d⟩, hl, h, he => ⟨a, Nd.snoc_isL xs e hl, c, Ok.snoc xs e d hl h he⟩
  | .leaf _, _, _, h, _, _ | .seq _ _ _, _, _, h, _, _ | .sit _ _ _ _ _, _, _, h, _, _ | .fresh _ _ _ _, _, _, h, _, _ | .aty _ _ _ _, _, _, h, _, _ | .atf _ _ _ _ _, _, _, h, _, _ => h.elim

theorem Ok.chgS (C : Chg O G s s') : ∀ (nd : Nd) (k : Nat), Ok fa cd s nd k → (∀ b ∈ nd.own, ¬ O b) → (∀ b ∈ nd.seqs, ¬ O b) → (∀ g ∈ nd.ogs, ¬ G g) → Ok fa cd s' nd k := by
  intro nd
  induction nd with
  | leaf v => intro k h _ _ _; exact h
  | seq a tup xs ih =>
    intro k ⟨h1, h2, h3⟩ ho hs hg
    exact ⟨h1.at fun o e => C.heap a o (hs a (.head _)) e, h2, ih 0 h3 ho (fun b hb => hs b (.tail _ hb)) hg⟩
  | sit a l tup i xs ih =>
    intro k ⟨h1, ⟨items, h2, h3⟩, h4, h5⟩ ho hs hg
    exact ⟨C.heap a _ (ho a (.head _)) h1, ⟨items, h2.at fun o e => C.heap l o (hs l (.head _)) e, h3⟩, h4, ih 0 h5 (fun b hb => ho b (.tail _ hb)) (fun b hb => hs b (.tail _ hb)) hg⟩
  | fresh a g L x ih =>
    intro k ⟨h1, h2, h3, h4, h5⟩ ho hs hg
    exact ⟨h1.at fun o e => C.heap a o (ho a (.head _)) e, C.gens g _ (hg g (.head _)) h2, h3.at fun o e => C.heap L o (ho L (.tail _ (.head _))) e, h4,
      ih 0 h5 (fun b hb => ho b (.tail _ (.tail _ hb))) hs fun b hb => hg b (.tail _ hb)⟩
  | aty a g L src ih =>
    intro k ⟨h1, ⟨gs, h2, h2'⟩, ⟨m, h3⟩, h4, h5⟩ ho hs hg
    exact ⟨h1.at fun o e => C.heap a o (ho a (.head _)) e, ⟨gs, C.gens g _ (hg g (.head _)) h2, h2'⟩, ⟨m, h3.at fun o e => C.heap L o (ho L (.tail _ (.head _))) e⟩, h4,
      ih 0 h5 (fun b hb => ho b (.tail _ (.tail _ hb))) hs fun b hb => hg b (.tail _ hb)⟩
  | atf a g L src inn ih1 ih2 =>
    intro k ⟨h1, ⟨gs, h2, h2'⟩, ⟨m, h3⟩, h4, h5, h6, h7⟩ ho hs hg
    exact ⟨h1.at fun o e => C.heap a o (ho a (.head _)) e, ⟨gs, C.gens g _ (hg g (.head _)) h2, h2'⟩, ⟨m, h3.at fun o e => C.heap L o (ho L (.tail _ (.head _))) e⟩, h4, h5,
      ih1 0 h6 (fun b hb => ho b (.tail _ (.tail _ (List.mem_append_left _ hb)))) (fun b hb => hs b (List.mem_append_left _ hb)) (fun b hb => hg b (.tail _ (List.mem_append_left _ hb))),
      ih2 1 h7 (fun b hb => ho b (.tail _ (.tail _ (List.mem_append_right _ hb)))) (fun b hb => hs b (List.mem_append_right _ hb)) fun b hb => hg b (.tail _ (List.mem_append_right _ hb))⟩
  | nil => intro k h _ _ _; exact h
  | cons x xs ih1 ih2 =>
    intro k ⟨h1, h2, h3, h4⟩ ho hs hg
    exact ⟨h1, h2, ih1 0 h3 (fun b hb => ho b (List.mem_append_left _ hb)) (fun b hb => hs b (List.mem_append_left _ hb)) (fun b hb => hg b (List.mem_append_left _ hb)),
      ih2 0 h4 (fun b hb => ho b (List.mem_append_right _ hb)) (fun b hb => hs b (List.mem_append_right _ hb)) fun b hb => hg b (List.mem_append_right _ hb)⟩

theorem Ok.seqs : ∀ (nd : Nd) (k : Nat), Ok fa cd s nd k → ∀ b ∈ nd.seqs, ∃ o, s.heap.get? b = some o := by
  intro nd
  induction nd with
  | leaf v => intro k _ b hb; cases hb
  | seq a tup xs ih =>
    intro k ⟨⟨n, sl, e⟩, _, h⟩ b hb
    rcases List.mem_cons.mp hb with rfl | hb
    · exact ⟨_, e⟩
    · exact ih 0 h b hb
  | sit a l tup i xs ih =>
    intro k ⟨_, ⟨items, ⟨n, sl, e⟩, _⟩, _, h⟩ b hb
    rcases List.mem_cons.mp hb with rfl | hb
    · exact ⟨_, e⟩
    · exact ih 0 h b hb
  | fresh a g L x ih => intro k ⟨_, _, _, _, h⟩ b hb; exact ih 0 h b hb
  | aty a g L src ih => intro k ⟨_, _, _, _, h⟩ b hb; exact ih 0 h b hb
  | atf a g L src inn ih1 ih2 =>
    intro k ⟨_, _, _, _, _, h, h'⟩ b hb
    rcases List.mem_append.mp hb with hb | hb
    · exact ih1 0 h b hb
    · exact ih2 1 h' b hb
  | nil => intro k _ b hb; cases hb
  | cons x xs ih1 ih2 =>
    intro k ⟨_, _, h, h'⟩ b hb
    rcases List.mem_append.mp hb with hb | hb
    · exact ih1 0 h b hb
    · exact ih2 0 h' b hb
end

/-- the places that stay through the building -/
structure Fix where
  L : Addr
  H : Addr
  S : Addr
  P : Addr
  V0 : Addr
  a0 : Addr
  hB : Heap
  os : OsState
  /-- what else may turn, and as what it stands -/
  E : List Addr
  eo : Addr → Option Obj

abbrev LL (h : Heap) (a : Addr) (vs : List Value) : Prop := ∃ n, IsL h a vs.toArray n
theorem LL.notNS {h : Heap} {a : Addr} {vs : List Value} (x : LL h a vs) {o : Obj} (e : h.get? a = some o) : ¬ NotSeq o := by
  obtain ⟨n, q⟩ := x
  have q' : h.get? a = _ := q
  rw [e] at q'; cases q'
  exact fun z => z _ _ rfl
theorem LL.at {h h' : Heap} {a : Addr} {vs : List Value} (x : LL h a vs) (k : ∀ o, h.get? a = some o → h'.get? a = some o) : LL h' a vs := let ⟨n, e⟩ := x; ⟨n, k _ e⟩
end Mine

namespace Mine
open PySem PySem.W PySem.Calls PyProof.Rows

structure Fix.Low (F : Fix) : Prop where
  L : ∃ o, F.hB.get? F.L = some o
  E : ∀ b ∈ F.E, ∃ o, F.hB.get? b = some o
  LE : F.L ∉ F.E

def muts (F : Fix) (V : Addr) (ps : List (Addr × Nd)) : List Addr := F.H :: F.S :: F.P :: V :: ps.map (·.1)
def trees (ps : List (Addr × Nd)) (lo : List Nd) : List Nd := ps.map (·.2) ++ lo

/-- how the heap stands while the law builds -/
structure Shape (fa : Addr) (cd : Value) (F : Fix) (ps : List (Addr × Nd)) (lo : List Nd) (V : Addr) (hs svs bvs lvs : List Value) (s : Shared) : Prop where
  hH : LL s.heap F.H hs
  hS : LL s.heap F.S svs
  hP : LL s.heap F.P bvs
  hV : LL s.heap V lvs
  mu : (muts F V ps).Nodup
  part : ∀ p ∈ ps, LL s.heap p.1 p.2.vals ∧ p.2.isL
  lowV : V = F.V0 ∨ F.hB.get? V = none
  low : ∀ p ∈ ps, p.1 = F.a0 ∨ F.hB.get? p.1 = none
  tree : ∀ t ∈ trees ps lo, Ok fa cd s t 0 ∧ (∀ b ∈ t.own, F.hB.get? b = none) ∧ ∀ b ∈ t.seqs, b ∉ muts F V ps
  own : ((trees ps lo).flatMap Nd.own).Nodup
  ogs : ((trees ps lo).flatMap Nd.ogs).Nodup
  keep : ∀ b o, b ∉ F.L :: F.H :: F.S :: F.P :: F.V0 :: F.a0 :: F.E → F.hB.get? b = some o → s.heap.get? b = some o
  mapped : ∀ b, s.heap.get? b = none → F.hB.get? b = none
  ex : ∀ b ∈ F.E, ∃ o, s.heap.get? b = some o ∧ F.eo b = some o ∧ NotSeq o
  os : s.os = F.os
  gens : InB s (fun _ => False)

section
variable {fa : Addr} {cd : Value} {F : Fix} {ps : List (Addr × Nd)} {lo : List Nd} {V : Addr} {hs svs bvs lvs : List Value} {s s' : Shared}

theorem Shape.ll (S : Shape fa cd F ps lo V hs svs bvs lvs s) {a : Addr} (ha : a ∈ muts F V ps) : ∃ vs, LL s.heap a vs := by
  simp only [muts, List.mem_cons, List.mem_map] at ha
  rcases ha with rfl | rfl | rfl | rfl | ⟨p, hp, rfl⟩
  · exact ⟨_, S.hH⟩
  · exact ⟨_, S.hS⟩
  · exact ⟨_, S.hP⟩
  · exact ⟨_, S.hV⟩
  · exact ⟨_, (S.part p hp).1⟩

/-- what turns no list of the building's own -/
theorem Shape.move {O : Addr → Prop} {G : Nat → Prop} (S : Shape fa cd F ps lo V hs svs bvs lvs s) (hF : F.Low) (C : Chg O G s s') (hO : ∀ b, O b → b ∈ F.L :: F.E) (hN : ∀ b o, O b → s.heap.get? b = some o → NotSeq o)
    (hM : ∀ b, O b → s'.heap.get? b ≠ none) (hE : ∀ b ∈ F.E, ¬ O b) (hG : ∀ g x, s.gens[g]? = some x → ¬ G g) (hB : Bd s s' [] []) : Shape fa cd F ps lo V hs svs bvs lvs s' := by
  have lk : ∀ {a : Addr} {vs : List Value}, LL s.heap a vs → LL s'.heap a vs := fun {a vs} x => by
    refine x.at fun o e => C.heap _ o (fun h => x.notNS e (hN _ o h e)) e
  have lowO : ∀ b, O b → ∃ o, F.hB.get? b = some o := fun b hb => by
    rcases List.mem_cons.mp (hO b hb) with rfl | q
    · exact hF.L
    · exact hF.E b q
  refine ⟨lk S.hH, lk S.hS, lk S.hP, lk S.hV, S.mu, fun p hp => ⟨lk (S.part p hp).1, (S.part p hp).2⟩, S.lowV, S.low, fun t ht => ?_, S.own, S.ogs, fun b o nb e => ?_, fun b e => ?_, fun b hb => (let ⟨o, e, r⟩ := S.ex b hb; ⟨o, C.heap b o (hE b hb) e, r⟩), C.os.trans S.os, ?_⟩
  · obtain ⟨h1, h2, h3⟩ := S.tree t ht
    refine ⟨h1.chg C hN t 0 (fun b hb h => by obtain ⟨o, q⟩ := lowO b h; rw [h2 b hb] at q; cases q) (fun g hg h => ?_), h2, h3⟩
    obtain ⟨x, e⟩ := h1.ogs t 0 g hg
    exact hG g x e h
  · refine C.heap b o (fun h => nb ?_) (S.keep b o nb e)
    rcases List.mem_cons.mp (hO b h) with rfl | q
    · exact .head _
    · exact List.mem_cons_of_mem _ (List.mem_cons_of_mem _ (List.mem_cons_of_mem _ (List.mem_cons_of_mem _ (List.mem_cons_of_mem _ (List.mem_cons_of_mem _ q)))))
  · rcases C.new e with q | q
    · exact absurd e (hM b q)
    · exact S.mapped b q
  · have := hB (fun _ => False) (fun x y e b => (S.gens x y e b).elim)
    exact fun x y e b => (this x y e b).elim id fun h => nomatch h

theorem Shape.toks (S : Shape fa cd F ps lo V hs svs bvs lvs s) (n : Nat) : Shape fa cd F ps lo V hs svs bvs lvs { s with toks := n } :=
  ⟨S.hH, S.hS, S.hP, S.hV, S.mu, S.part, S.lowV, S.low, fun t ht => ⟨(S.tree t ht).1.chg (Chg.of_grow (O := fun _ => False) (G := fun _ => False) (Grow.toks s n)) (fun _ _ h => h.elim) t 0 (fun _ _ h => h) (fun _ _ h => h), (S.tree t ht).2⟩, S.own, S.ogs, S.keep, S.mapped, S.ex, S.os, S.gens⟩
theorem Shape.grow (S : Shape fa cd F ps lo V hs svs bvs lvs s) (hF : F.Low) (g : Grow s s') : Shape fa cd F ps lo V hs svs bvs lvs s' :=
  S.move hF (Chg.of_grow (O := fun _ => False) (G := fun _ => False) g) (fun _ h => h.elim) (fun _ _ h => h.elim) (fun _ h => h.elim) (fun _ _ h => h) (fun _ _ _ h => h) (Bd.same _ g.gens)
theorem sameBut_mapped {L : Addr} {h h' : Heap} {m m' : Str → Option Value} (_ : h.Ns L m) (_ : Heap.SameBut L h h') (hn' : h'.Ns L m') : h'.get? L ≠ none := mapped_ns hn'
/-- a local name has been bound -/
theorem Shape.bound {m : Str → Option Value} {h' : Heap} (S : Shape fa cd F ps lo V hs svs bvs lvs s) (hF : F.Low) (hn : s.heap.Ns F.L m) {m' : Str → Option Value} (hn' : h'.Ns F.L m') (h : Heap.SameBut F.L s.heap h') (n : Nat) : Shape fa cd F ps lo V hs svs bvs lvs { s with heap := h', toks := n } :=
  S.move hF (chg_same n h) (fun b e => e ▸ .head _) (L_seq hn) (fun b e => by subst e; show h'.get? _ ≠ none; exact sameBut_mapped hn h hn') (fun b hb e => hF.LE (e ▸ hb)) (fun _ _ _ h => h) (Bd.same _ rfl)

theorem Shape.after (S : Shape fa cd F ps lo V hs svs bvs lvs s) {a : Addr} (ha : a ∈ muts F V ps) {h' : Heap} (hsb : Heap.SameBut a s.heap h') {vs' : List Value} (hl' : LL h' a vs') (n : Nat) :
    (∀ t ∈ trees ps lo, Ok fa cd { s with heap := h', toks := n } t 0) ∧ (∀ b vs, b ≠ a → LL s.heap b vs → LL h' b vs) ∧
      (∀ b o, b ∉ F.L :: F.H :: F.S :: F.P :: F.V0 :: F.a0 :: F.E → F.hB.get? b = some o → h'.get? b = some o) ∧ (∀ b, h'.get? b = none → F.hB.get? b = none) ∧ ∀ b ∈ F.E, ∃ o, h'.get? b = some o ∧ F.eo b = some o ∧ NotSeq o := by
  obtain ⟨vs, hl⟩ := S.ll ha
  refine ⟨fun t ht => ?_, fun b vs ne x => x.at fun o e => (hsb.2 b ne).trans e, fun b o nb e => (hsb.2 b fun q => ?_).trans (S.keep b o nb e), fun b e => S.mapped b ((hsb.2 b fun q => ?_).symm.trans e), fun b hb => (let ⟨o, e, e', ns⟩ := S.ex b hb; ⟨o, (hsb.2 b fun q => hl.notNS (q ▸ e) ns).trans e, e', ns⟩)⟩
  · obtain ⟨h1, h2, h3⟩ := S.tree t ht
    refine h1.chgS (chg_same n hsb) t 0 (fun b hb q => ?_) (fun b hb q => h3 b hb (q ▸ ha)) (fun _ _ h => h)
    obtain ⟨o, e, ns⟩ := h1.own t 0 b hb
    have q' : b = a := q
    subst q'
    exact hl.notNS e ns
  · subst q
    simp only [muts, List.mem_cons, List.mem_map] at ha
    rcases ha with rfl | rfl | rfl | rfl | ⟨p, hp, rfl⟩
    · exact nb (by simp)
    · exact nb (by simp)
    · exact nb (by simp)
    · rcases S.lowV with rfl | h
      · exact nb (by simp)
      · rw [h] at e; cases e
    · rcases S.low p hp with h | h
      · exact nb (by simp [h])
      · rw [h] at e; cases e
  · subst q
    obtain ⟨_, e'⟩ := hl'
    have e'' : h'.get? b = _ := e'
    rw [e] at e''; cases e''

theorem Shape.setH (S : Shape fa cd F ps lo V hs svs bvs lvs s) {hs' : List Value} {h' : Heap} (hsb : Heap.SameBut F.H s.heap h') (hl : LL h' F.H hs') (n : Nat) : Shape fa cd F ps lo V hs' svs bvs lvs { s with heap := h', toks := n } := by
  obtain ⟨h1, h2, h3, h4, h5⟩ := S.after (a := F.H) (by simp [muts]) hsb hl n
  have nd := S.mu
  simp only [muts, List.nodup_cons, List.mem_cons, not_or, List.mem_map, not_exists, not_and] at nd
  obtain ⟨⟨n1, n2, n3, n4⟩, ⟨n5, n6, n7⟩, ⟨n8, n9⟩, n10, n11⟩ := nd
  exact ⟨hl, h2 _ _ (Ne.symm n1) S.hS, h2 _ _ (Ne.symm n2) S.hP, h2 _ _ (Ne.symm n3) S.hV, S.mu, fun p hp => ⟨h2 _ _ (fun e => n4 p hp e) (S.part p hp).1, (S.part p hp).2⟩, S.lowV, S.low,
    fun t ht => ⟨h1 t ht, (S.tree t ht).2⟩, S.own, S.ogs, h3, h4, h5, S.os, S.gens⟩
theorem Shape.setS (S : Shape fa cd F ps lo V hs svs bvs lvs s) {svs' : List Value} {h' : Heap} (hsb : Heap.SameBut F.S s.heap h') (hl : LL h' F.S svs') (n : Nat) : Shape fa cd F ps lo V hs svs' bvs lvs { s with heap := h', toks := n } := by
  obtain ⟨h1, h2, h3, h4, h5⟩ := S.after (a := F.S) (by simp [muts]) hsb hl n
  have nd := S.mu
  simp only [muts, List.nodup_cons, List.mem_cons, not_or, List.mem_map, not_exists, not_and] at nd
  obtain ⟨⟨n1, n2, n3, n4⟩, ⟨n5, n6, n7⟩, ⟨n8, n9⟩, n10, n11⟩ := nd
  exact ⟨h2 _ _ n1 S.hH, hl, h2 _ _ (Ne.symm n5) S.hP, h2 _ _ (Ne.symm n6) S.hV, S.mu, fun p hp => ⟨h2 _ _ (fun e => n7 p hp e) (S.part p hp).1, (S.part p hp).2⟩, S.lowV, S.low,
    fun t ht => ⟨h1 t ht, (S.tree t ht).2⟩, S.own, S.ogs, h3, h4, h5, S.os, S.gens⟩
theorem Shape.setP (S : Shape fa cd F ps lo V hs svs bvs lvs s) {bvs' : List Value} {h' : Heap} (hsb : Heap.SameBut F.P s.heap h') (hl : LL h' F.P bvs') (n : Nat) : Shape fa cd F ps lo V hs svs bvs' lvs { s with heap := h', toks := n } := by
  obtain ⟨h1, h2, h3, h4, h5⟩ := S.after (a := F.P) (by simp [muts]) hsb hl n
  have nd := S.mu
  simp only [muts, List.nodup_cons, List.mem_cons, not_or, List.mem_map, not_exists, not_and] at nd
  obtain ⟨⟨n1, n2, n3, n4⟩, ⟨n5, n6, n7⟩, ⟨n8, n9⟩, n10, n11⟩ := nd
  exact ⟨h2 _ _ n2 S.hH, h2 _ _ n5 S.hS, hl, h2 _ _ (Ne.symm n8) S.hV, S.mu, fun p hp => ⟨h2 _ _ (fun e => n9 p hp e) (S.part p hp).1, (S.part p hp).2⟩, S.lowV, S.low,
    fun t ht => ⟨h1 t ht, (S.tree t ht).2⟩, S.own, S.ogs, h3, h4, h5, S.os, S.gens⟩
theorem Shape.setV (S : Shape fa cd F ps lo V hs svs bvs lvs s) {lvs' : List Value} {h' : Heap} (hsb : Heap.SameBut V s.heap h') (hl : LL h' V lvs') (n : Nat) : Shape fa cd F ps lo V hs svs bvs lvs' { s with heap := h', toks := n } := by
  obtain ⟨h1, h2, h3, h4, h5⟩ := S.after (a := V) (by simp [muts]) hsb hl n
  have nd := S.mu
  simp only [muts, List.nodup_cons, List.mem_cons, not_or, List.mem_map, not_exists, not_and] at nd
  obtain ⟨⟨n1, n2, n3, n4⟩, ⟨n5, n6, n7⟩, ⟨n8, n9⟩, n10, n11⟩ := nd
  exact ⟨h2 _ _ n3 S.hH, h2 _ _ n6 S.hS, h2 _ _ n8 S.hP, hl, S.mu, fun p hp => ⟨h2 _ _ (fun e => n10 p hp e) (S.part p hp).1, (S.part p hp).2⟩, S.lowV, S.low,
    fun t ht => ⟨h1 t ht, (S.tree t ht).2⟩, S.own, S.ogs, h3, h4, h5, S.os, S.gens⟩

/-- the top part takes a loose tree -/
theorem Shape.setTop {a : Addr} {xs nd : Nd} (S : Shape fa cd F ((a, xs) :: ps) (nd :: lo) V hs svs bvs lvs s) (he : nd.isEl) {h' : Heap} (hsb : Heap.SameBut a s.heap h') (hl : LL h' a (xs.vals ++ [nd.val])) (n : Nat) :
    Shape fa cd F ((a, xs.snoc nd) :: ps) lo V hs svs bvs lvs { s with heap := h', toks := n } := by
  obtain ⟨h1, h2, h3, h4, h5⟩ := S.after (a := a) (by simp [muts]) hsb hl n
  have nd' := S.mu
  simp only [muts, List.map_cons, List.nodup_cons, List.mem_cons, not_or, List.mem_map, not_exists, not_and] at nd'
  obtain ⟨⟨n1, n2, n3, n4, n4'⟩, ⟨n5, n6, n7, n7'⟩, ⟨n8, n9, n9'⟩, ⟨n10, n10'⟩, n11, n12⟩ := nd'
  obtain ⟨_, hxs⟩ := S.part (a, xs) (.head _)
  have t1 := S.tree xs (by simp [trees])
  have t2 := S.tree nd (by simp [trees])
  have o1 := h1 xs (by simp [trees])
  have o2 := h1 nd (by simp [trees])
  have hm : muts F V ((a, xs.snoc nd) :: ps) = muts F V ((a, xs) :: ps) := rfl
  have perm : ∀ (f : Nd → List Nat) (hf : f (xs.snoc nd) = f xs ++ f nd), ((trees ((a, xs) :: ps) (nd :: lo)).flatMap f).Perm ((trees ((a, xs.snoc nd) :: ps) lo).flatMap f) := by
    intro f hf
    simp only [trees, List.map_cons, List.flatMap_append, List.flatMap_cons, hf, List.append_assoc]
    refine List.Perm.append_left _ ?_
    rw [← List.append_assoc, ← List.append_assoc]
    exact List.Perm.append_right _ List.perm_append_comm
  refine ⟨h2 _ _ n4 S.hH, h2 _ _ n7 S.hS, h2 _ _ n9 S.hP, h2 _ _ n10 S.hV, S.mu, fun p hp => ?_, S.lowV, fun p hp => ?_, fun t ht => ?_, (perm Nd.own (Nd.snoc_own xs nd hxs)).nodup S.own, (perm Nd.ogs (Nd.snoc_ogs xs nd hxs)).nodup S.ogs, h3, h4, h5, S.os, S.gens⟩
  · rcases List.mem_cons.mp hp with rfl | hp
    · exact ⟨by rw [Nd.snoc_vals xs nd hxs]; exact hl, Nd.snoc_isL xs nd hxs⟩
    · exact ⟨h2 _ _ (fun e => n11 p hp e) (S.part p (.tail _ hp)).1, (S.part p (.tail _ hp)).2⟩
  · rcases List.mem_cons.mp hp with rfl | hp
    · exact S.low (a, xs) (.head _)
    · exact S.low p (.tail _ hp)
  · rw [hm]
    simp only [trees, List.map_cons, List.cons_append, List.mem_cons] at ht
    rcases ht with rfl | ht
    · refine ⟨Ok.snoc xs nd o1 hxs o2 he, fun b hb => ?_, fun b hb => ?_⟩
      · rw [Nd.snoc_own xs nd hxs] at hb
        rcases List.mem_append.mp hb with q | q
        · exact t1.2.1 b q
        · exact t2.2.1 b q
      · rw [Nd.snoc_seqs xs nd hxs] at hb
        rcases List.mem_append.mp hb with q | q
        · exact t1.2.2 b q
        · exact t2.2.2 b q
    · have ht' : t ∈ trees ((a, xs) :: ps) (nd :: lo) := by
        simp only [trees, List.map_cons, List.cons_append, List.mem_cons, List.mem_append] at ht ⊢
        rcases ht with q | q
        · exact .inr (.inl q)
        · exact .inr (.inr (.inr q))
      exact ⟨h1 t ht', (S.tree t ht').2⟩

/-- a tree that stands in no way may be loose twice -/
theorem Shape.double {nd : Nd} (S : Shape fa cd F ps (nd :: lo) V hs svs bvs lvs s) (h1 : nd.own = []) (h2 : nd.ogs = []) : Shape fa cd F ps (nd :: nd :: lo) V hs svs bvs lvs s := by
  refine ⟨S.hH, S.hS, S.hP, S.hV, S.mu, S.part, S.lowV, S.low, fun t ht => S.tree t ?_, ?_, ?_, S.keep, S.mapped, S.ex, S.os, S.gens⟩
  · simp only [trees, List.mem_append, List.mem_cons] at ht ⊢
    rcases ht with q | q | q | q
    · exact .inl q
    · exact .inr (.inl q)
    · exact .inr (.inl q)
    · exact .inr (.inr q)
  · have := S.own
    simp only [trees, List.flatMap_append, List.flatMap_cons, h1, List.nil_append] at this ⊢
    exact this
  · have := S.ogs
    simp only [trees, List.flatMap_append, List.flatMap_cons, h2, List.nil_append] at this ⊢
    exact this
theorem Shape.drop {nd : Nd} (S : Shape fa cd F ps (nd :: lo) V hs svs bvs lvs s) : Shape fa cd F ps lo V hs svs bvs lvs s := by
  refine ⟨S.hH, S.hS, S.hP, S.hV, S.mu, S.part, S.lowV, S.low, fun t ht => S.tree t ?_, ?_, ?_, S.keep, S.mapped, S.ex, S.os, S.gens⟩
  · simp only [trees, List.mem_append, List.mem_cons] at ht ⊢
    rcases ht with q | q
    · exact .inl q
    · exact .inr (.inr q)
  · have := S.own
    simp only [trees, List.flatMap_append, List.flatMap_cons] at this ⊢
    exact this.sublist (List.Sublist.append_left (List.sublist_append_right _ _) _)
  · have := S.ogs
    simp only [trees, List.flatMap_append, List.flatMap_cons] at this ⊢
    exact this.sublist (List.Sublist.append_left (List.sublist_append_right _ _) _)
/-- a leaf is loose at any time -/
theorem Shape.leaf {v : Value} (S : Shape fa cd F ps lo V hs svs bvs lvs s) (hv : IsLeafV v) : Shape fa cd F ps (.leaf v :: lo) V hs svs bvs lvs s := by
  refine ⟨S.hH, S.hS, S.hP, S.hV, S.mu, S.part, S.lowV, S.low, fun t ht => ?_, ?_, ?_, S.keep, S.mapped, S.ex, S.os, S.gens⟩
  · simp only [trees, List.mem_append, List.mem_cons] at ht
    rcases ht with q | rfl | q
    · exact S.tree t (by simp only [trees, List.mem_append]; exact .inl q)
    · exact ⟨hv, fun _ h => (nomatch h), fun _ h => (nomatch h)⟩
    · exact S.tree t (by simp only [trees, List.mem_append]; exact .inr q)
  · have := S.own
    simp only [trees, List.flatMap_append, List.flatMap_cons, Nd.own, List.nil_append] at this ⊢
    exact this
  · have := S.ogs
    simp only [trees, List.flatMap_append, List.flatMap_cons, Nd.ogs, List.nil_append] at this ⊢
    exact this
/-- the top part is let go as a loose list -/
theorem Shape.absorb {a : Addr} {xs : Nd} (S : Shape fa cd F ((a, xs) :: ps) lo V hs svs bvs lvs s) : Shape fa cd F ps (.seq a false xs :: lo) V hs svs bvs lvs s := by
  have hm := S.mu
  obtain ⟨hpl, hxs⟩ := S.part (a, xs) (.head _)
  have sub : ∀ b, b ∈ muts F V ps → b ∈ muts F V ((a, xs) :: ps) := fun b hb => by
    simp only [muts, List.map_cons, List.mem_cons] at hb ⊢
    rcases hb with q | q | q | q | q
    · exact .inl q
    · exact .inr (.inl q)
    · exact .inr (.inr (.inl q))
    · exact .inr (.inr (.inr (.inl q)))
    · exact .inr (.inr (.inr (.inr (.inr q))))
  simp only [muts, List.map_cons, List.nodup_cons, List.mem_cons, not_or, List.mem_map, not_exists, not_and] at hm
  obtain ⟨⟨n1, n2, n3, n4, n4'⟩, ⟨n5, n6, n7, n7'⟩, ⟨n8, n9, n9'⟩, ⟨n10, n10'⟩, n11, n12⟩ := hm
  have perm : ∀ (f : Nd → List Nat) (hf : f (.seq a false xs) = f xs), ((trees ((a, xs) :: ps) lo).flatMap f).Perm ((trees ps (.seq a false xs :: lo)).flatMap f) := by
    intro f hf
    simp only [trees, List.map_cons, List.flatMap_append, List.flatMap_cons, List.cons_append, hf]
    rw [← List.append_assoc, ← List.append_assoc]
    exact List.Perm.append_right _ List.perm_append_comm
  refine ⟨S.hH, S.hS, S.hP, S.hV, ?_, fun p hp => S.part p (.tail _ hp), S.lowV, fun p hp => S.low p (.tail _ hp), fun t ht => ?_, (perm Nd.own rfl).nodup S.own, (perm Nd.ogs rfl).nodup S.ogs, S.keep, S.mapped, S.ex, S.os, S.gens⟩
  · simp only [muts, List.nodup_cons, List.mem_cons, not_or, List.mem_map, not_exists, not_and]
    exact ⟨⟨n1, n2, n3, n4'⟩, ⟨n5, n6, n7'⟩, ⟨n8, n9'⟩, n10', n12⟩
  · simp only [trees, List.mem_append, List.mem_cons] at ht
    rcases ht with q | rfl | q
    · have := S.tree t (by simp only [trees, List.map_cons, List.mem_append, List.mem_cons]; exact .inl (.inr q))
      exact ⟨this.1, this.2.1, fun b hb h => this.2.2 b hb (sub b h)⟩
    · obtain ⟨h1, h2, h3⟩ := S.tree xs (by simp [trees])
      obtain ⟨n, e⟩ := hpl
      refine ⟨⟨⟨n, _, e⟩, hxs, h1⟩, h2, fun b hb h => ?_⟩
      rcases List.mem_cons.mp hb with rfl | hb
      · simp only [muts, List.mem_cons, List.mem_map] at h
        rcases h with q | q | q | q | ⟨p, hp, q⟩
        · exact n4 q.symm
        · exact n7 q.symm
        · exact n9 q.symm
        · exact n10 q.symm
        · exact n11 p hp q
      · exact h3 b hb (sub b h)
    · have := S.tree t (by simp only [trees, List.map_cons, List.mem_append, List.mem_cons]; exact .inr q)
      exact ⟨this.1, this.2.1, fun b hb h => this.2.2 b hb (sub b h)⟩
/-- a new list is a part -/
theorem Shape.newPart {a : Addr} (S : Shape fa cd F ps lo V hs svs bvs lvs s) (hl : LL s.heap a []) (ha : F.hB.get? a = none) (hf : a ∉ muts F V ps) (hq : ∀ t ∈ trees ps lo, a ∉ t.seqs) : Shape fa cd F ((a, .nil) :: ps) lo V hs svs bvs lvs s := by
  have hm := S.mu
  simp only [muts, List.nodup_cons, List.mem_cons, not_or, List.mem_map, not_exists, not_and] at hm hf
  obtain ⟨⟨n1, n2, n3, n4⟩, ⟨n5, n6, n7⟩, ⟨n8, n9⟩, n10, n11⟩ := hm
  obtain ⟨f1, f2, f3, f4, f5⟩ := hf
  refine ⟨S.hH, S.hS, S.hP, S.hV, ?_, fun p hp => ?_, S.lowV, fun p hp => ?_, fun t ht => ?_, ?_, ?_, S.keep, S.mapped, S.ex, S.os, S.gens⟩
  · simp only [muts, List.map_cons, List.nodup_cons, List.mem_cons, not_or, List.mem_map, not_exists, not_and]
    exact ⟨⟨n1, n2, n3, Ne.symm f1, n4⟩, ⟨n5, n6, Ne.symm f2, n7⟩, ⟨n8, Ne.symm f3, n9⟩, ⟨Ne.symm f4, n10⟩, f5, n11⟩
  · rcases List.mem_cons.mp hp with rfl | hp
    · exact ⟨hl, trivial⟩
    · exact S.part p hp
  · rcases List.mem_cons.mp hp with rfl | hp
    · exact .inr ha
    · exact S.low p hp
  · simp only [trees, List.map_cons, List.cons_append, List.mem_cons] at ht
    rcases ht with rfl | ht
    · exact ⟨trivial, fun _ h => (nomatch h), fun _ h => (nomatch h)⟩
    · obtain ⟨h1, h2, h3⟩ := S.tree t ht
      refine ⟨h1, h2, fun b hb h => ?_⟩
      simp only [muts, List.map_cons, List.mem_cons] at h
      rcases h with q | q | q | q | q | q
      · exact h3 b hb (by simp [muts, q])
      · exact h3 b hb (by simp [muts, q])
      · exact h3 b hb (by simp [muts, q])
      · exact h3 b hb (by simp [muts, q])
      · exact hq t ht (q ▸ hb)
      · exact h3 b hb (by simp only [muts, List.mem_cons]; exact .inr (.inr (.inr (.inr q))))
  · exact S.own
  · exact S.ogs
/-- leaves is a new list -/
theorem Shape.newV {V' : Addr} {lvs' : List Value} (S : Shape fa cd F ps lo V hs svs bvs lvs s) (hl : LL s.heap V' lvs') (ha : F.hB.get? V' = none) (hf : V' ∉ muts F V ps) (hq : ∀ t ∈ trees ps lo, V' ∉ t.seqs) : Shape fa cd F ps lo V' hs svs bvs lvs' s := by
  have hm := S.mu
  simp only [muts, List.nodup_cons, List.mem_cons, not_or, List.mem_map, not_exists, not_and] at hm hf
  obtain ⟨⟨n1, n2, n3, n4⟩, ⟨n5, n6, n7⟩, ⟨n8, n9⟩, n10, n11⟩ := hm
  obtain ⟨f1, f2, f3, f4, f5⟩ := hf
  refine ⟨S.hH, S.hS, S.hP, hl, ?_, S.part, .inr ha, S.low, fun t ht => ?_, S.own, S.ogs, S.keep, S.mapped, S.ex, S.os, S.gens⟩
  · simp only [muts, List.nodup_cons, List.mem_cons, not_or, List.mem_map, not_exists, not_and]
    exact ⟨⟨n1, n2, Ne.symm f1, n4⟩, ⟨n5, Ne.symm f2, n7⟩, ⟨Ne.symm f3, n9⟩, fun p hp e => f5 p hp e, n11⟩
  · obtain ⟨h1, h2, h3⟩ := S.tree t ht
    refine ⟨h1, h2, fun b hb h => ?_⟩
    simp only [muts, List.mem_cons] at h
    rcases h with q | q | q | q | q
    · exact h3 b hb (by simp [muts, q])
    · exact h3 b hb (by simp [muts, q])
    · exact h3 b hb (by simp [muts, q])
    · exact hq t ht (q ▸ hb)
    · exact h3 b hb (by simp only [muts, List.mem_cons]; exact .inr (.inr (.inr (.inr q))))
/-- what is not mapped is nobody's -/
theorem Shape.fresh (S : Shape fa cd F ps lo V hs svs bvs lvs s) {a : Addr} (ha : s.heap.get? a = none) : a ∉ muts F V ps ∧ ∀ t ∈ trees ps lo, a ∉ t.seqs ∧ a ∉ t.own := by
  refine ⟨fun h => ?_, fun t ht => ⟨fun h => ?_, fun h => ?_⟩⟩
  · obtain ⟨vs, n, e⟩ := S.ll h
    have e' : s.heap.get? a = _ := e
    rw [ha] at e'; cases e'
  · obtain ⟨o, e⟩ := (S.tree t ht).1.seqs t 0 a h
    rw [ha] at e; cases e
  · obtain ⟨o, e, _⟩ := (S.tree t ht).1.own t 0 a h
    rw [ha] at e; cases e
/-- a loose tree turns into another one of a like kind -/
theorem Shape.swap {nd nd' : Nd} (S : Shape fa cd F ps (nd :: lo) V hs svs bvs lvs s) (hok : Ok fa cd s nd' 0) (h1 : ∀ b ∈ nd'.own, F.hB.get? b = none) (h2 : ∀ b ∈ nd'.seqs, b ∉ muts F V ps)
    (h3 : ∃ x, nd'.own = x ++ nd.own ∧ x.Nodup ∧ ∀ b ∈ x, ∀ t ∈ trees ps (nd :: lo), b ∉ t.own) (h4 : ∃ x, nd'.ogs = x ++ nd.ogs ∧ x.Nodup ∧ ∀ b ∈ x, ∀ t ∈ trees ps (nd :: lo), b ∉ t.ogs) :
    Shape fa cd F ps (nd' :: lo) V hs svs bvs lvs s := by
  have key : ∀ (f : Nd → List Nat), (∃ x, f nd' = x ++ f nd ∧ x.Nodup ∧ ∀ b ∈ x, ∀ t ∈ trees ps (nd :: lo), b ∉ f t) → ((trees ps (nd :: lo)).flatMap f).Nodup → ((trees ps (nd' :: lo)).flatMap f).Nodup := by
    rintro f ⟨x, e, hx, hd⟩ h
    have pm : ((trees ps (nd' :: lo)).flatMap f).Perm (x ++ (trees ps (nd :: lo)).flatMap f) := by
      simp only [trees, List.flatMap_append, List.flatMap_cons, e]
      rw [← List.append_assoc, ← List.append_assoc, ← List.append_assoc, ← List.append_assoc]
      exact List.Perm.append_right _ (List.Perm.append_right _ List.perm_append_comm)
    refine pm.symm.nodup (List.nodup_append.mpr ⟨hx, h, fun a ha b hb q => ?_⟩)
    obtain ⟨t, ht, hbt⟩ := List.mem_flatMap.mp hb
    exact hd a ha t ht (q ▸ hbt)
  refine ⟨S.hH, S.hS, S.hP, S.hV, S.mu, S.part, S.lowV, S.low, fun t ht => ?_, key _ h3 S.own, key _ h4 S.ogs, S.keep, S.mapped, S.ex, S.os, S.gens⟩
  simp only [trees, List.mem_append, List.mem_cons] at ht
  rcases ht with q | rfl | q
  · exact S.tree t (by simp only [trees, List.mem_append]; exact .inl q)
  · exact ⟨hok, h1, h2⟩
  · exact S.tree t (by simp only [trees, List.mem_append, List.mem_cons]; exact .inr (.inr q))
end
end Mine

namespace Mine
open PySem PySem.W PySem.Calls PyProof.Rows

theorem entry_iter0 : entryFor table "iter" = some Builtin.«iter» := entryFor_of_fast (by kernel_rfl)
theorem kind_iter0 : builtinKind "iter" = none := by decide +kernel
theorem plain_iter0 : plainId "iter" = true := by decide +kernel
theorem args_iter0 (a : Value) : argsOk "iter" ⟨[a], []⟩ := by unfold argsOk; kernel_rfl

section
variable {prog : Program} {w : World} {A : Around} {E : Value → Shared → Prop} {s : Shared} {a : Addr} {lc : Value} {L : Addr} {m : Str → Option Value} {fa la : Addr} {cd lcd : Value}

theorem ldL {x : Str} {pos : Pos} {v : Value} {Q : Value → Shared → Prop} (hx : lawScope.names.lookup x = some .local) (hn : s.heap.Ns L m) (hv : m x = some v) (h : Q v s)
    (hd : (x == ("__debug__" : Str)) = false := by decide) : wpAny (model prog w) A (eval (.Name x pos) (lenv a lc L)) Q E s :=
  wpAny_Name (wpAny_loadName_local rfl hx hn hv h) hd
theorem ldB {env : Env} {x : Str} {pos : Pos} {v : Value} {Q : Value → Shared → Prop} (hG : LawG fa la cd lcd s.heap) (hk : env.scope.kind = .function) (hg : env.globals = mainGlobals) (hb : env.builtins = builtinsNs)
    (hx : env.kindOf x = some .globalImplicit) (hm : (x, v) ∈ bltList) (h : Q v s) (hd : (x == ("__debug__" : Str)) = false := by decide) : wpAny (model prog w) A (eval (.Name x pos) env) Q E s := by
  obtain ⟨mg, mb, g1, g2, _, _, g5⟩ := hG.g
  obtain ⟨e1, e2⟩ := g5 _ hm
  exact Name_function_global hk hx (loadGlobal_builtin (hg ▸ g1) e1 (hb ▸ g2) e2 h) hd
theorem ldB' {x : Str} {pos : Pos} {v : Value} {Q : Value → Shared → Prop} (hG : LawG fa la cd lcd s.heap)
    (hx : lawScope.names.lookup x = some .globalImplicit) (hm : (x, v) ∈ bltList) (h : Q v s) (hd : (x == ("__debug__" : Str)) = false := by decide) : wpAny (model prog w) A (eval (.Name x pos) (lenv a lc L)) Q E s :=
  ldB hG rfl rfl rfl hx hm h hd
theorem ldFlat {pos : Pos} {Q : Value → Shared → Prop} (hG : LawG fa la cd lcd s.heap) (h : Q (.ref fa) s) : wpAny (model prog w) A (eval (.Name "flatten_iterator" pos) (lenv a lc L)) Q E s := by
  obtain ⟨mg, mb, g1, g2, _, g4, _⟩ := hG.g
  exact Name_function_global rfl (show lawScope.names.lookup (Str.ofString "flatten_iterator") = some .globalImplicit by decide +kernel) (loadGlobal_global g1 g4 h)
theorem ldLeaves {pos : Pos} {Q : Value → Shared → Prop} (hG : LawG fa la cd lcd s.heap) (h : Q (.ref la) s) : wpAny (model prog w) A (eval (.Name "_law_leaves" pos) (lenv a lc L)) Q E s := by
  obtain ⟨mg, mb, g1, g2, g3, _, _⟩ := hG.g
  exact Name_function_global rfl (show lawScope.names.lookup (Str.ofString "_law_leaves") = some .globalImplicit by decide +kernel) (loadGlobal_global g1 g3 h)

theorem kInt {env : Env} {i : Int} {k : Nat} {pos : Pos} {Q : Value → Shared → Prop} (h : Q (.int i s.toks) { s with toks := s.toks + 1 }) : wpAny (model prog w) A (eval (.Constant (.int i) k pos) env) Q E s := fun _ _ _ => h
theorem negOne {env : Env} {k : Nat} {p q : Pos} {Q : Value → Shared → Prop} (h : ∀ t, Q (.int (-1) t) { s with toks := s.toks + 1 + 1 }) : wpAny (model prog w) A (eval (.UnaryOp .USub (.Constant (.int 1) k p) q) env) Q E s :=
  wpAny_UnaryOp (kInt (PyProof.Rows.neg_int (h _)))

/-- l[-1] of a list that bears a name -/
theorem last_item {x : Str} {p1 p2 p3 pos : Pos} {k : Nat} {l : Addr} {vs : List Value} {v : Value} {Q : Value → Shared → Prop} (hx : lawScope.names.lookup x = some .local) (hn : s.heap.Ns L m) (hv : m x = some (.ref l))
    (hl : LL s.heap l (vs ++ [v])) (hfit : vs.length < 2 ^ 60) (h : Q v { s with toks := s.toks + 1 + 1 }) (hd : (x == ("__debug__" : Str)) = false := by decide) :
    wpAny (model prog w) A (eval (.Subscript (.Name x p1) (.UnaryOp .USub (.Constant (.int 1) k p2) p3) pos) (lenv a lc L)) Q E s := by
  refine Subscript_ (ldL hx hn hv ?_ hd)
  refine negOne fun t => ?_
  obtain ⟨n, e⟩ := hl
  have hL : ({ s with toks := s.toks + 1 + 1 } : Shared).heap.IsList l (vs ++ [v]).toArray := ⟨_, e, rfl, n, rfl⟩
  have hsz : ((vs ++ [v]).toArray.size : Int) = vs.length + 1 := by simp
  refine subscriptTail_builtinR hL.typeIs slot_list_getitem.lookup (wpAny_getItem_list_neg (Q := fun r s' => r = v ∧ Q r s') (x := v) hL (by decide) (by rw [hsz]; omega) (by decide) ?_ ⟨rfl, h⟩)
  rw [hsz]
  have : (-1 + ((vs.length : Int) + 1)).toNat = vs.length := by omega
  rw [this]
  simp

theorem push_toA (vs : List Value) (v : Value) : vs.toArray.push v = (vs ++ [v]).toArray := by simp
theorem pop_toA (vs : List Value) (v : Value) : (vs ++ [v]).toArray.eraseIdxIfInBounds ((vs ++ [v]).toArray.size - 1) = vs.toArray := by
  have h : (vs ++ [v]).toArray.size - 1 = vs.length := by simp
  rw [h]
  unfold Array.eraseIdxIfInBounds
  split
  · rename_i hlt
    apply Array.ext'
    rw [Array.toList_eraseIdx]
    simp [List.eraseIdx_append_of_length_le]
  · rename_i hlt
    exact absurd (by simp : vs.length < (vs ++ [v]).toArray.size) hlt

theorem LL.mapped {h : Heap} {b : Addr} {vs : List Value} (x : LL h b vs) : ∃ o, h.get? b = some o ∧ o.dict = none := let ⟨_, e⟩ := x; ⟨_, e, rfl⟩

/-- o.append(e) as a statement -/
theorem do_append {o e : Expr} {apos pos pos' : Pos} {Q : Flow → Shared → Prop} (hbase : attributeBase o "append" (lenv a lc L) (eval o (lenv a lc L)) = eval o (lenv a lc L)) (hline : (apos.endLine == pos.line) = true)
    (hst : starEach [e] (lenv a lc L) = [(false, eval e (lenv a lc L))])
    (h : wpAny (model prog w) A (eval o (lenv a lc L)) (fun ov s₁ => ∃ l vs0, ov = .ref l ∧ LL s₁.heap l vs0 ∧ wpAny (model prog w) A (eval e (lenv a lc L)) (fun v s₂ => ∃ vs, vs.length ≤ 100000 ∧ LL s₂.heap l vs ∧
      ∀ h', LL h' l (vs ++ [v]) → Heap.SameBut l s₂.heap h' → Q .next { s₂ with heap := h' }) E s₁) E s) :
    wpAny (model prog w) A (exec (.Expr (.Call (.Attribute o "append" apos) [e] [] pos) pos') (lenv a lc L)) Q E s := by
  rw [exec_Expr (lenv a lc L) _ _ rfl rfl]
  refine wpAny_bind (wpAny_standAt (wpAny_bind ?_))
  refine wpAny_Call_method (T := "list") (id := "list.append") hbase ?_ hline F.plainAttrs_list F.slot_list_append F.type_list_append (wpAny_mono h (fun ov s₁ h₁ => ?_) fun _ _ x => x)
  · rw [hst]; rfl
  · obtain ⟨l, vs0, rfl, hl, hev⟩ := h₁
    obtain ⟨n0, e0⟩ := hl
    refine ⟨⟨_, e0, rfl⟩, fun b hb => ?_, ?_⟩
    · cases hb; exact ⟨_, e0, rfl⟩
    · rw [hst]
      refine P.append_list (x := eval e (lenv a lc L)) (wpAny_mono hev (fun v s₂ h₂ => ?_) fun _ _ x => x)
      obtain ⟨vs, hsz, ⟨n, e1⟩, hq⟩ := h₂
      refine ⟨vs.toArray, n, ?_, e1, ?_⟩
      · have : vs.toArray.size = vs.length := by simp
        rw [this]; exact Nat.le_trans hsz (by decide)
      · have := IsL.update e1 (fun xs => xs.push v)
        rw [push_toA] at this
        exact wpAny_pure (hq _ ⟨_, this⟩ (Heap.SameBut.update ..))

/-- x.pop() -/
theorem do_pop {x : Str} {p1 apos pos : Pos} {l : Addr} {vs : List Value} {v : Value} {Q : Value → Shared → Prop} (hx : lawScope.names.lookup x = some .local) (hn : s.heap.Ns L m) (hv : m x = some (.ref l)) (hl : LL s.heap l (vs ++ [v])) (hsz : vs.length ≤ 100000)
    (hline : (apos.endLine == pos.line) = true) (h : ∀ h', LL h' l vs → Heap.SameBut l s.heap h' → Q v { s with heap := h' }) (hd : (x == ("__debug__" : Str)) = false := by decide) :
    wpAny (model prog w) A (eval (.Call (.Attribute (.Name x p1) "pop" apos) [] [] pos) (lenv a lc L)) Q E s := by
  obtain ⟨n, e⟩ := hl
  refine wpAny_Call_method (T := "list") (id := "list.pop") rfl rfl hline F.plainAttrs_list F.slot_list_pop F.type_list_pop (ldL hx hn hv ⟨⟨_, e, rfl⟩, fun b hb => ?_, ?_⟩ hd)
  · cases hb; exact ⟨_, e, rfl⟩
  · refine P.pop_list (y := v) e (by simp) ?_ ?_
    · have := IsL.update e (fun xs => xs.eraseIdxIfInBounds ((vs ++ [v]).toArray.size - 1))
      rw [pop_toA] at this
      exact h _ ⟨_, this⟩ (Heap.SameBut.update ..)
    · have : (vs ++ [v]).toArray.size = vs.length + 1 := by simp
      rw [this]; exact Nat.le_trans (Nat.succ_le_succ hsz) (by decide)

/-- len(x) -/
theorem do_len {x : Str} {p1 p2 pos : Pos} {l : Addr} {vs : List Value} {Q : Value → Shared → Prop} (hG : LawG fa la cd lcd s.heap) (hx : lawScope.names.lookup x = some .local) (hn : s.heap.Ns L m) (hv : m x = some (.ref l)) (hl : LL s.heap l vs) (hsz : vs.length ≤ 100000)
    (h : ∀ t, Q (.int vs.length t) { s with toks := s.toks + 1 + 1 }) (hd : (x == ("__debug__" : Str)) = false := by decide) :
    wpAny (model prog w) A (eval (.Call (.Name "len" p1) [.Name x p2] [] pos) (lenv a lc L)) Q E s := by
  show wpAny _ _ (do callWith pos (← eval (.Name "len" p1) (lenv a lc L)) [] (backTo pos (starEach [.Name x p2] (lenv a lc L))) (backToKw pos (keywordEach [] (lenv a lc L)))) _ _ _
  refine wpAny_bind (ldB' hG (by decide +kernel) (v := .builtin "len") (by simp [bltList]) ?_)
  refine callWith_builtin rfl (evalArgs_plain (spliced_cons (ldL hx hn hv (spliced_nil ?_) hd)))
  obtain ⟨n, e⟩ := hl
  refine Calls.call_len_list ⟨_, e, rfl, n, rfl⟩ (by have : vs.toArray.size = vs.length := by simp
                                                     rw [this]; omega) ?_
  have : vs.toArray.size = vs.length := by simp
  rw [this]
  exact h _

/-- x % n of a whole number that bears a name -/
theorem do_mod {x : Str} {n : Int} {p1 p2 pos : Pos} {k : Nat} {i : Int} {t : Tok} {Q : Value → Shared → Prop} (hx : lawScope.names.lookup x = some .local) (hn : s.heap.Ns L m) (hv : m x = some (.int i t)) (h0 : n ≠ 0) (h : ∀ t, Q (.int (i.fmod n) t) { s with toks := s.toks + 1 + 1 })
    (hd : (x == ("__debug__" : Str)) = false := by decide) : wpAny (model prog w) A (eval (.BinOp (.Name x p1) .Mod (.Constant (.int n) k p2) pos) (lenv a lc L)) Q E s :=
  wpAny_BinOp (ldL hx hn hv (kInt (PyProof.Rows.mod_int h0 (h _))) hd)
end
end Mine

namespace Mine
open PySem PySem.W PySem.Calls PyProof.Rows

/-- the k-th of the law's leaves -/
def LeafNo (k : Nat) (v : Value) : Prop := match k with
  | 0 => ∃ t, v = .str "ab" t
  | 1 => ∃ t, v = .int 0 t
  | 2 => ∃ t, v = .str "" t
  | 3 => v = .none
  | 4 => ∃ t, v = .int (-7) t
  | 5 => ∃ t, v = .str "(x, y)" t
  | 6 => ∃ t, v = .int 1000000000000000000000000 t
  | 7 => ∃ t, v = .str "c" t
  | _ => False
/-- equal texts, equal numbers, or None -/
def Sim (v v' : Value) : Prop := (v = .none ∧ v' = .none) ∨ (∃ i t t', v = .int i t ∧ v' = .int i t') ∨ ∃ x t t', v = .str x t ∧ v' = .str x t'
theorem LeafNo.isLeaf {k : Nat} {v : Value} (h : LeafNo k v) : IsLeafV v := by
  match k, h with
  | 0, ⟨t, e⟩ => exact .inr (.inr ⟨_, _, e⟩)
  | 1, ⟨t, e⟩ => exact .inr (.inl ⟨_, _, e⟩)
  | 2, ⟨t, e⟩ => exact .inr (.inr ⟨_, _, e⟩)
  | 3, e => exact .inl e
  | 4, ⟨t, e⟩ => exact .inr (.inl ⟨_, _, e⟩)
  | 5, ⟨t, e⟩ => exact .inr (.inr ⟨_, _, e⟩)
  | 6, ⟨t, e⟩ => exact .inr (.inl ⟨_, _, e⟩)
  | 7, ⟨t, e⟩ => exact .inr (.inr ⟨_, _, e⟩)
theorem LeafNo.sim {k : Nat} {v v' : Value} (h : LeafNo k v) (h' : LeafNo k v') : Sim v v' := by
  match k, h, h' with
  | 0, ⟨t, e⟩, ⟨t', e'⟩ => exact .inr (.inr ⟨_, _, _, e, e'⟩)
  | 1, ⟨t, e⟩, ⟨t', e'⟩ => exact .inr (.inl ⟨_, _, _, e, e'⟩)
  | 2, ⟨t, e⟩, ⟨t', e'⟩ => exact .inr (.inr ⟨_, _, _, e, e'⟩)
  | 3, e, e' => exact .inl ⟨e, e'⟩
  | 4, ⟨t, e⟩, ⟨t', e'⟩ => exact .inr (.inl ⟨_, _, _, e, e'⟩)
  | 5, ⟨t, e⟩, ⟨t', e'⟩ => exact .inr (.inr ⟨_, _, _, e, e'⟩)
  | 6, ⟨t, e⟩, ⟨t', e'⟩ => exact .inr (.inl ⟨_, _, _, e, e'⟩)
  | 7, ⟨t, e⟩, ⟨t', e'⟩ => exact .inr (.inr ⟨_, _, _, e, e'⟩)

theorem leavesBody_eq : ∃ p1 p2 p3 p4 p5 p6 p7 p8 p9 p10 p11 : Pos, leavesBody = [.Return (some (.List [.Constant (.str "ab") 0 p1, .Constant (.int 0) 0 p2, .Constant (.str "") 0 p3, .Constant .none 0 p4,
    .UnaryOp .USub (.Constant (.int 7) 0 p5) p6, .Constant (.str "(x, y)") 0 p7, .Constant (.int 1000000000000000000000000) 0 p8, .Constant (.str "c") 0 p9] p10)) p11] := ⟨_, _, _, _, _, _, _, _, _, _, _, rfl⟩

section
variable {prog : Program} {w : World} {A : Around} {E : Value → Shared → Prop} {s : Shared} {a : Addr} {lc : Value} {L : Addr} {m : Str → Option Value} {fa la : Addr} {cd lcd : Value}

theorem call_leaves {Q : Value → Shared → Prop} (hG : LawG fa la cd lcd s.heap) (hd : A.depth < recursionLimit)
    (h : ∀ s' D vs, Grow s s' → LL s'.heap D vs → vs.length = 8 → (∀ k v, vs[k]? = some v → LeafNo k v) → Q (.ref D) s') :
    wpAny (model prog w) A (PySem.call (.ref la) []) Q E s := by
  obtain ⟨o, pm, doc, ho, hdat⟩ := hG.fn
  refine wpAny_call (codeAny_call_function (fd := docDef "_law_leaves" leavesParams leavesBody leavesScope pm lcd doc) (body := leavesBody) hd ho hdat (by rfl) (by rfl) rfl hG.code ?_)
  have hb : bindArgs (docDef "_law_leaves" leavesParams leavesBody leavesScope pm lcd doc) ⟨[], []⟩ = pure [] := rfl
  rw [hb]
  refine wpAny_pure ?_
  refine wpAny_newFunctionEnv (show ∀ x ∈ leavesScope.names, x.2 ≠ .cell by decide +kernel) (by intro x hx; cases hx) (fun h' hns hsb => ?_) rfl
  have keep : ∀ b o, s.heap.get? b = some o → h'.get? b = some o := fun b o e => hsb.extBut b o (Nat.ne_of_lt (Heap.lt_size e)) (Heap.get?_push_of_some _ e)
  refine ⟨hG.e.lim.keeps keep, codeAny_func ?_⟩
  obtain ⟨p1, p2, p3, p4, p5, p6, p7, p8, p9, p10, p11, e⟩ := leavesBody_eq
  rw [e]
  refine wpAny_execs_cons ?_
  rw [exec_Return_some]
  refine wpAny_bind (wpAny_standAt (wpAny_bind ?_))
  refine wpAny_List_spliced ?_
  refine spliced_cons (Constant_str (k := 0) (pos := p1) ?_)
  refine spliced_cons (kInt (k := 0) (pos := p2) ?_)
  refine spliced_cons (Constant_str (k := 0) (pos := p3) ?_)
  refine spliced_cons (Constant_none (k := 0) (pos := p4) ?_)
  refine spliced_cons (wpAny_UnaryOp (pos := p6) (kInt (k := 0) (pos := p5) (PyProof.Rows.neg_int ?_)))
  refine spliced_cons (Constant_str (k := 0) (pos := p7) ?_)
  refine spliced_cons (kInt (k := 0) (pos := p8) ?_)
  refine spliced_cons (Constant_str (k := 0) (pos := p9) ?_)
  refine spliced_nil ⟨(by decide : (8 : Nat) ≤ sizeLine), wpAny_pure ?_⟩
  refine h _ _ _ ⟨fun b o e => Heap.get?_push_of_some _ (keep b o e), rfl, rfl⟩ ⟨0, IsL.new ..⟩ rfl fun k v hk => ?_
  match k, hk with
  | 0, hk => exact ⟨_, (Option.some.inj hk).symm⟩
  | 1, hk => exact ⟨_, (Option.some.inj hk).symm⟩
  | 2, hk => exact ⟨_, (Option.some.inj hk).symm⟩
  | 3, hk => exact (Option.some.inj hk).symm
  | 4, hk => exact ⟨_, (Option.some.inj hk).symm⟩
  | 5, hk => exact ⟨_, (Option.some.inj hk).symm⟩
  | 6, hk => exact ⟨_, (Option.some.inj hk).symm⟩
  | 7, hk => exact ⟨_, (Option.some.inj hk).symm⟩
  | (n + 8), hk => cases hk

/-- _law_leaves()[y % 8] -/
theorem do_leaf {p1 p2 p3 p4 p5 p6 : Pos} {k : Nat} {i : Int} {t : Tok} {Q : Value → Shared → Prop} (hG : LawG fa la cd lcd s.heap) (hd : A.depth < recursionLimit) (hn : s.heap.Ns L m) (hv : m "y" = some (.int i t))
    (h : ∀ s' v, Grow s s' → LeafNo (i.fmod 8).toNat v → Q v s') :
    wpAny (model prog w) A (eval (.Subscript (.Call (.Name "_law_leaves" p1) [] [] p2) (.BinOp (.Name "y" p3) .Mod (.Constant (.int 8) k p4) p5) p6) (lenv a lc L)) Q E s := by
  refine Subscript_ ?_
  show wpAny _ _ (do callWith p2 (← eval (.Name "_law_leaves" p1) (lenv a lc L)) [] (backTo p2 (starEach [] (lenv a lc L))) (backToKw p2 (keywordEach [] (lenv a lc L)))) _ _ _
  refine wpAny_bind (ldLeaves hG ?_)
  obtain ⟨o, pm, doc, ho, hdat⟩ := id hG.fn
  refine callWith_function (o := o) (fd := docDef "_law_leaves" leavesParams leavesBody leavesScope pm lcd doc) ?_
  refine PySem.evalArgs_none ⟨⟨ho, hdat⟩, ?_⟩
  refine call_leaves hG hd fun s' D vs G hl hlen hlf => ?_
  refine do_mod (by decide +kernel) (hn.keeps G.heap) hv (by decide) fun t' => ?_
  obtain ⟨n, e⟩ := hl
  have lo : 0 ≤ i.fmod 8 := Int.fmod_nonneg_of_pos i (by decide)
  have hi : i.fmod 8 < 8 := Int.fmod_lt_of_pos i (by decide)
  have hlt : (i.fmod 8).toNat < vs.length := by omega
  have hL : ({ s' with toks := s'.toks + 1 + 1 } : Shared).heap.IsList D vs.toArray := ⟨_, e, rfl, n, rfl⟩
  refine subscriptTail_builtinR hL.typeIs slot_list_getitem.lookup (wpAny_getItem_list (Q := fun r s'' => r = vs[(i.fmod 8).toNat] ∧ Q r s'') (x := vs[(i.fmod 8).toNat]) hL lo (by omega) (by simp [hlt]) ⟨rfl, ?_⟩)
  exact h _ _ (G.trans (Grow.toks s' _)) (hlf _ _ (by simp [hlt]))
end
end Mine

namespace Mine
open PySem PySem.W PySem.Calls PyProof.Rows

/-- what stood when the law was called stands apart from what the building turns -/
def Base (h₀ : Heap) (F : Fix) : Prop := ∀ b o, h₀.get? b = some o → F.hB.get? b = some o ∧ b ∉ F.L :: F.H :: F.S :: F.P :: F.V0 :: F.a0 :: F.E

structure Stt (fa : Addr) (cd : Value) (F : Fix) (m : Str → Option Value) (ps : List (Addr × Nd)) (lo : List Nd) (V : Addr) (hs svs bvs lvs : List Value) (s : Shared) : Prop where
  sh : Shape fa cd F ps lo V hs svs bvs lvs s
  ns : s.heap.Ns F.L m
  hm : m "heaps" = some (.ref F.H) ∧ m "starts" = some (.ref F.S) ∧ m "plain" = some (.ref F.P) ∧ m "leaves" = some (.ref V)

/-- what does not change -/
structure Env0 (A : Around) (F : Fix) (fa la : Addr) (cd lcd : Value) (h₀ : Heap) : Prop where
  low : F.Low
  base : Base h₀ F
  g : LawG fa la cd lcd h₀
  hh : A.handled = none
  dp : A.depth + 100 < recursionLimit

section
variable {prog : Program} {w : World} {A : Around} {E : Value → Shared → Prop} {s : Shared} {a : Addr} {lc : Value} {m : Str → Option Value} {fa la : Addr} {cd lcd : Value} {F : Fix} {h₀ : Heap}
  {ps : List (Addr × Nd)} {lo : List Nd} {V : Addr} {hs svs bvs lvs : List Value} {a0 : Addr} {xs : Nd}

theorem Shape.keep0 (S : Shape fa cd F ps lo V hs svs bvs lvs s) (hB : Base h₀ F) : ∀ b o, h₀.get? b = some o → s.heap.get? b = some o := fun b o e => S.keep b o (hB b o e).2 (hB b o e).1
theorem Stt.g (X : Env0 A F fa la cd lcd h₀) (S : Stt fa cd F m ps lo V hs svs bvs lvs s) : LawG fa la cd lcd s.heap := X.g.keeps (S.sh.keep0 X.base)
theorem ns_ne {h : Heap} {L b : Addr} {vs : List Value} (hn : h.Ns L m) (hl : LL h b vs) : L ≠ b := by
  rintro rfl
  obtain ⟨o, e, q⟩ := ns_notSeq hn
  exact hl.notNS e q
theorem Stt.grow {s' : Shared} (X : Env0 A F fa la cd lcd h₀) (S : Stt fa cd F m ps lo V hs svs bvs lvs s) (g : Grow s s') : Stt fa cd F m ps lo V hs svs bvs lvs s' := ⟨S.sh.grow X.low g, S.ns.keeps g.heap, S.hm⟩
theorem Stt.toks (S : Stt fa cd F m ps lo V hs svs bvs lvs s) (n : Nat) : Stt fa cd F m ps lo V hs svs bvs lvs { s with toks := n } := ⟨S.sh.toks n, S.ns, S.hm⟩

theorem look_heaps : lawScope.names.lookup (Str.ofString "heaps") = some .local := by decide +kernel
theorem look_starts : lawScope.names.lookup (Str.ofString "starts") = some .local := by decide +kernel
theorem look_plain : lawScope.names.lookup (Str.ofString "plain") = some .local := by decide +kernel
theorem look_leaves : lawScope.names.lookup (Str.ofString "leaves") = some .local := by decide +kernel
theorem look_part : lawScope.names.lookup (Str.ofString "part") = some .local := by decide +kernel
theorem look_start : lawScope.names.lookup (Str.ofString "start") = some .local := by decide +kernel
theorem look_again : lawScope.names.lookup (Str.ofString "again") = some .local := by decide +kernel
theorem look_op : lawScope.names.lookup (Str.ofString "op") = some .local := by decide +kernel
theorem look_y : lawScope.names.lookup (Str.ofString "y") = some .local := by decide +kernel
theorem look_xx : lawScope.names.lookup (Str.ofString "x") = some .local := by decide +kernel
theorem look_i : lawScope.names.lookup (Str.ofString "i") = some .local := by decide +kernel

def topE (p1 p2 p3 p4 : Pos) : Expr := .Subscript (.Name "heaps" p1) (.UnaryOp .USub (.Constant (.int 1) 0 p2) p3) p4

/-- heaps[-1].append(e) -/
theorem append_top {e : Expr} {p1 p2 p3 p4 apos pos pos' : Pos} {Q : Flow → Shared → Prop} (S : Stt fa cd F m ((a0, xs) :: ps) lo V (hs ++ [.ref a0]) svs bvs lvs s) (hline : (apos.endLine == pos.line) = true)
    (hst : starEach [e] (lenv a lc F.L) = [(false, eval e (lenv a lc F.L))]) (hsz : hs.length ≤ 1000) (hxs : xs.vals.length ≤ 1000)
    (hev : wpAny (model prog w) A (eval e (lenv a lc F.L)) (fun v s₂ => ∃ nd lo', v = nd.val ∧ nd.isEl ∧ Stt fa cd F m ((a0, xs) :: ps) (nd :: lo') V (hs ++ [.ref a0]) svs bvs lvs s₂ ∧
      ∀ s', Stt fa cd F m ((a0, xs.snoc nd) :: ps) lo' V (hs ++ [.ref a0]) svs bvs lvs s' → Q .next s') E { s with toks := s.toks + 1 + 1 }) :
    wpAny (model prog w) A (exec (.Expr (.Call (.Attribute (topE p1 p2 p3 p4) "append" apos) [e] [] pos) pos') (lenv a lc F.L)) Q E s := by
  refine do_append rfl hline hst ?_
  refine last_item look_heaps S.ns S.hm.1 S.sh.hH (Nat.lt_of_le_of_lt hsz (by decide)) ?_
  refine ⟨a0, xs.vals, rfl, (S.sh.part (a0, xs) (.head _)).1, wpAny_mono hev (fun v s₂ h₂ => ?_) fun _ _ x => x⟩
  obtain ⟨nd, lo', rfl, hel, S₂, hq⟩ := h₂
  have hl := (S₂.sh.part (a0, xs) (.head _)).1
  refine ⟨xs.vals, Nat.le_trans hxs (by decide), hl, fun h' hl' hsb => hq _ ⟨S₂.sh.setTop hel hsb hl' s₂.toks, S₂.ns.sameBut hsb (ns_ne S₂.ns hl), S₂.hm⟩⟩

/-- leaves.append(e) -/
theorem append_leaves {e : Expr} {p1 apos pos pos' : Pos} {Q : Flow → Shared → Prop} (S : Stt fa cd F m ps lo V hs svs bvs lvs s) (hline : (apos.endLine == pos.line) = true)
    (hst : starEach [e] (lenv a lc F.L) = [(false, eval e (lenv a lc F.L))]) (hsz : lvs.length ≤ 1000)
    (hev : wpAny (model prog w) A (eval e (lenv a lc F.L)) (fun v s₂ => Stt fa cd F m ps lo V hs svs bvs lvs s₂ ∧ ∀ s', Stt fa cd F m ps lo V hs svs bvs (lvs ++ [v]) s' → Q .next s') E s) :
    wpAny (model prog w) A (exec (.Expr (.Call (.Attribute (.Name "leaves" p1) "append" apos) [e] [] pos) pos') (lenv a lc F.L)) Q E s := by
  refine do_append rfl hline hst ?_
  refine ldL look_leaves S.ns S.hm.2.2.2 ?_
  refine ⟨V, lvs, rfl, S.sh.hV, wpAny_mono hev (fun v s₂ h₂ => ?_) fun _ _ x => x⟩
  obtain ⟨S₂, hq⟩ := h₂
  exact ⟨lvs, Nat.le_trans hsz (by decide), S₂.sh.hV, fun h' hl' hsb => hq _ ⟨S₂.sh.setV hsb hl' s₂.toks, S₂.ns.sameBut hsb (ns_ne S₂.ns S₂.sh.hV), S₂.hm⟩⟩
theorem append_heaps {e : Expr} {p1 apos pos pos' : Pos} {Q : Flow → Shared → Prop} (S : Stt fa cd F m ps lo V hs svs bvs lvs s) (hline : (apos.endLine == pos.line) = true)
    (hst : starEach [e] (lenv a lc F.L) = [(false, eval e (lenv a lc F.L))]) (hsz : hs.length ≤ 1000)
    (hev : wpAny (model prog w) A (eval e (lenv a lc F.L)) (fun v s₂ => ∃ ps', Stt fa cd F m ps' lo V hs svs bvs lvs s₂ ∧ ∀ s', Stt fa cd F m ps' lo V (hs ++ [v]) svs bvs lvs s' → Q .next s') E s) :
    wpAny (model prog w) A (exec (.Expr (.Call (.Attribute (.Name "heaps" p1) "append" apos) [e] [] pos) pos') (lenv a lc F.L)) Q E s := by
  refine do_append rfl hline hst ?_
  refine ldL look_heaps S.ns S.hm.1 ?_
  refine ⟨F.H, hs, rfl, S.sh.hH, wpAny_mono hev (fun v s₂ h₂ => ?_) fun _ _ x => x⟩
  obtain ⟨ps', S₂, hq⟩ := h₂
  exact ⟨hs, Nat.le_trans hsz (by decide), S₂.sh.hH, fun h' hl' hsb => hq _ ⟨S₂.sh.setH hsb hl' s₂.toks, S₂.ns.sameBut hsb (ns_ne S₂.ns S₂.sh.hH), S₂.hm⟩⟩
theorem append_starts {e : Expr} {p1 apos pos pos' : Pos} {Q : Flow → Shared → Prop} (S : Stt fa cd F m ps lo V hs svs bvs lvs s) (hline : (apos.endLine == pos.line) = true)
    (hst : starEach [e] (lenv a lc F.L) = [(false, eval e (lenv a lc F.L))]) (hsz : svs.length ≤ 1000)
    (hev : wpAny (model prog w) A (eval e (lenv a lc F.L)) (fun v s₂ => Stt fa cd F m ps lo V hs svs bvs lvs s₂ ∧ ∀ s', Stt fa cd F m ps lo V hs (svs ++ [v]) bvs lvs s' → Q .next s') E s) :
    wpAny (model prog w) A (exec (.Expr (.Call (.Attribute (.Name "starts" p1) "append" apos) [e] [] pos) pos') (lenv a lc F.L)) Q E s := by
  refine do_append rfl hline hst ?_
  refine ldL look_starts S.ns S.hm.2.1 ?_
  refine ⟨F.S, svs, rfl, S.sh.hS, wpAny_mono hev (fun v s₂ h₂ => ?_) fun _ _ x => x⟩
  obtain ⟨S₂, hq⟩ := h₂
  exact ⟨svs, Nat.le_trans hsz (by decide), S₂.sh.hS, fun h' hl' hsb => hq _ ⟨S₂.sh.setS hsb hl' s₂.toks, S₂.ns.sameBut hsb (ns_ne S₂.ns S₂.sh.hS), S₂.hm⟩⟩
theorem append_plain {e : Expr} {p1 apos pos pos' : Pos} {Q : Flow → Shared → Prop} (S : Stt fa cd F m ps lo V hs svs bvs lvs s) (hline : (apos.endLine == pos.line) = true)
    (hst : starEach [e] (lenv a lc F.L) = [(false, eval e (lenv a lc F.L))]) (hsz : bvs.length ≤ 1000)
    (hev : wpAny (model prog w) A (eval e (lenv a lc F.L)) (fun v s₂ => Stt fa cd F m ps lo V hs svs bvs lvs s₂ ∧ ∀ s', Stt fa cd F m ps lo V hs svs (bvs ++ [v]) lvs s' → Q .next s') E s) :
    wpAny (model prog w) A (exec (.Expr (.Call (.Attribute (.Name "plain" p1) "append" apos) [e] [] pos) pos') (lenv a lc F.L)) Q E s := by
  refine do_append rfl hline hst ?_
  refine ldL look_plain S.ns S.hm.2.2.1 ?_
  refine ⟨F.P, bvs, rfl, S.sh.hP, wpAny_mono hev (fun v s₂ h₂ => ?_) fun _ _ x => x⟩
  obtain ⟨S₂, hq⟩ := h₂
  exact ⟨bvs, Nat.le_trans hsz (by decide), S₂.sh.hP, fun h' hl' hsb => hq _ ⟨S₂.sh.setP hsb hl' s₂.toks, S₂.ns.sameBut hsb (ns_ne S₂.ns S₂.sh.hP), S₂.hm⟩⟩

/-- a local name that is none of the four is bound -/
theorem Stt.bind {x : Str} {v : Value} {h' : Heap} {n : Nat} (X : Env0 A F fa la cd lcd h₀) (S : Stt fa cd F m ps lo V hs svs bvs lvs s) (hn : h'.Ns F.L (fun y => if y = x then some v else m y)) (hs' : Heap.SameBut F.L s.heap h')
    (n1 : Str.ofString "heaps" ≠ x) (n2 : Str.ofString "starts" ≠ x) (n3 : Str.ofString "plain" ≠ x) (n4 : Str.ofString "leaves" ≠ x) : Stt fa cd F (fun y => if y = x then some v else m y) ps lo V hs svs bvs lvs { s with heap := h', toks := n } :=
  ⟨S.sh.bound X.low S.ns hn hs' n, hn, by rw [if_neg n1, if_neg n2, if_neg n3, if_neg n4]; exact S.hm⟩
theorem bind_name {x : Str} {v : Value} {Q : Unit → Shared → Prop} (X : Env0 A F fa la cd lcd h₀) (S : Stt fa cd F m ps lo V hs svs bvs lvs s) (hx : lawScope.names.lookup x = some .local)
    (n1 : Str.ofString "heaps" ≠ x) (n2 : Str.ofString "starts" ≠ x) (n3 : Str.ofString "plain" ≠ x) (n4 : Str.ofString "leaves" ≠ x)
    (h : ∀ s', Stt fa cd F (fun y => if y = x then some v else m y) ps lo V hs svs bvs lvs s' → (∀ b, b ≠ F.L → s'.heap.get? b = s.heap.get? b) → Q () s') : wpAny (model prog w) A (bindName (lenv a lc F.L) x v) Q E s :=
  wpAny_bindName (wpAny_storeName_local hx S.ns (fun h' hn' hs' => h _ (S.bind X hn' hs' n1 n2 n3 n4) hs'.2) rfl)
end
end Mine

namespace Mine
open PySem PySem.W PySem.Calls PyProof.Rows

def turn : List Stmt := match lawSt 1 with | .For _ _ b _ _ => b | _ => []
def ifT : Stmt → List Stmt | .If _ t _ _ => t | _ => []
def ifE : Stmt → List Stmt | .If _ _ e _ => e | _ => []
def ifC : Stmt → Expr | .If c _ _ _ => c | _ => .Constant .none 0 default
def at0 (l : List Stmt) (i : Nat) : Stmt := l.getD i (.Pass default)
def if1 : Stmt := at0 turn 1
def if2 : Stmt := at0 (ifE if1) 0
def if3 : Stmt := at0 (ifT if2) 0
def if4 : Stmt := at0 (ifE if2) 0
def if5 : Stmt := at0 (ifT if4) 1
def if6 : Stmt := at0 (ifE if5) 0
def if7 : Stmt := at0 (ifE if6) 0
theorem turn_eq : turn = [at0 turn 0, .If (ifC if1) (ifT if1) [.If (ifC if2) [.If (ifC if3) (ifT if3) [] (match if3 with | .If _ _ _ p => p | _ => default)] [.If (ifC if4) [at0 (ifT if4) 0, .If (ifC if5) (ifT if5) [.If (ifC if6) (ifT if6) [.If (ifC if7) (ifT if7) (ifE if7) (match if7 with | .If _ _ _ p => p | _ => default)]
  (match if6 with | .If _ _ _ p => p | _ => default)] (match if5 with | .If _ _ _ p => p | _ => default)] [] (match if4 with | .If _ _ _ p => p | _ => default)] (match if2 with | .If _ _ _ p => p | _ => default)] (match if1 with | .If _ _ _ p => p | _ => default)] := rfl

section
variable {prog : Program} {w : World} {A : Around} {E : Value → Shared → Prop} {s : Shared} {a : Addr} {lc : Value} {m : Str → Option Value} {fa la : Addr} {cd lcd : Value} {F : Fix} {h₀ : Heap}
  {ps : List (Addr × Nd)} {lo : List Nd} {V : Addr} {hs svs bvs lvs : List Value} {a0 : Addr} {xs : Nd}

/-- a leaf is laid -/
theorem br_leaf {Q : Flow → Shared → Prop} (X : Env0 A F fa la cd lcd h₀) (S : Stt fa cd F m ((a0, xs) :: ps) [] V (hs ++ [.ref a0]) svs bvs lvs s) {y : Int} {t : Tok} (hy : m "y" = some (.int y t)) (h1 : hs.length ≤ 1000) (h2 : xs.vals.length ≤ 1000) (h3 : lvs.length ≤ 1000)
    (h : ∀ s' v v', IsLeafV v → Sim v v' → Stt fa cd F m ((a0, xs.snoc (.leaf v)) :: ps) [] V (hs ++ [.ref a0]) svs bvs (lvs ++ [v']) s' → Q .next s') : wpAny (model prog w) A (execs (ifT if1) (lenv a lc F.L)) Q E s := by
  show wpAny _ _ (execs [.Expr (.Call (.Attribute (topE _ _ _ _) "append" _) [_] [] _) _, .Expr (.Call (.Attribute (.Name "leaves" _) "append" _) [_] [] _) _] _) _ _ _
  refine wpAny_execs_cons (append_top S rfl rfl h1 h2 ?_)
  refine do_leaf ((S.toks _).g X) (Nat.lt_of_le_of_lt (Nat.le_add_right _ _) X.dp) (S.toks _).ns hy fun s2 v G2 hv => ?_
  have S2 := (S.toks (s.toks + 1 + 1)).grow X G2
  refine ⟨.leaf v, [], rfl, trivial, ⟨S2.sh.leaf hv.isLeaf, S2.ns, S2.hm⟩, fun s3 S3 => ?_⟩
  refine wpAny_execs_cons (append_leaves S3 rfl rfl h3 ?_)
  refine do_leaf (S3.g X) (Nat.lt_of_le_of_lt (Nat.le_add_right _ _) X.dp) S3.ns hy fun s4 v' G4 hv' => ?_
  exact ⟨S3.grow X G4, fun s5 S5 => wpAny_execs_nil (h s5 v v' hv.isLeaf (hv.sim hv') S5)⟩

/-- a part is opened -/
theorem br_open {Q : Flow → Shared → Prop} (X : Env0 A F fa la cd lcd h₀) (S : Stt fa cd F m ps [] V hs svs bvs lvs s) (h1 : hs.length ≤ 1000) (h2 : svs.length ≤ 1000) (h3 : bvs.length ≤ 1000) (h4 : lvs.length ≤ 1000)
    (h : ∀ s' a1 t, Stt fa cd F m ((a1, .nil) :: ps) [] V (hs ++ [.ref a1]) (svs ++ [.int lvs.length t]) (bvs ++ [.bool true]) lvs s' → Q .next s') : wpAny (model prog w) A (execs (ifT if3) (lenv a lc F.L)) Q E s := by
  show wpAny _ _ (execs [.Expr (.Call (.Attribute (.Name "heaps" _) "append" _) [.List [] _] [] _) _, .Expr (.Call (.Attribute (.Name "starts" _) "append" _) [.Call (.Name "len" _) [.Name "leaves" _] [] _] [] _) _,
    .Expr (.Call (.Attribute (.Name "plain" _) "append" _) [.Constant (.bool true) 0 _] [] _) _] _) _ _ _
  refine wpAny_execs_cons (append_heaps S rfl rfl h1 ?_)
  refine wpAny_List_spliced (spliced_nil ⟨Nat.zero_le _, ?_⟩)
  have G : Grow s { s with heap := s.heap.push { cls := .type "list", data := .seq ([] : List Value).toArray } } := ⟨fun b o e => Heap.get?_push_of_some _ e, rfl, rfl⟩
  have S2 := S.grow X G
  have fr := S.sh.fresh (a := s.heap.objs.size) (Heap.get?_none_of_le (Nat.le_refl _))
  have S3 := S2.sh.newPart (a := s.heap.objs.size) ⟨0, IsL.new ..⟩ (S.sh.mapped _ (Heap.get?_none_of_le (Nat.le_refl _))) fr.1 fun t ht => (fr.2 t ht).1
  refine ⟨(s.heap.objs.size, .nil) :: ps, ⟨S3, S2.ns, S2.hm⟩, fun s4 S4 => ?_⟩
  refine wpAny_execs_cons (append_starts S4 rfl rfl h2 ?_)
  refine do_len (S4.g X) look_leaves S4.ns S4.hm.2.2.2 S4.sh.hV (Nat.le_trans h4 (by decide)) fun t => ?_
  refine ⟨S4.toks _, fun s5 S5 => ?_⟩
  refine wpAny_execs_cons (append_plain S5 rfl rfl h3 (Constant_bool (k := 0) (pos := default) ?_))
  exact ⟨S5, fun s6 S6 => wpAny_execs_nil (h s6 _ t S6)⟩
end
end Mine

namespace Mine
open PySem PySem.W PySem.Calls PyProof.Rows

section
variable {prog : Program} {w : World} {A : Around} {E : Value → Shared → Prop} {s : Shared} {a : Addr} {lc : Value} {m : Str → Option Value} {fa la : Addr} {cd lcd : Value} {F : Fix} {h₀ : Heap}
  {ps : List (Addr × Nd)} {lo : List Nd} {V : Addr} {hs svs bvs lvs : List Value} {a0 : Addr} {xs : Nd}

theorem ext_all {s : Shared} {h' : Heap} (x : Heap.ExtBut s.heap.objs.size s.heap h') : ∀ b o, s.heap.get? b = some o → h'.get? b = some o := fun b o e =>
  x b o (Nat.ne_of_lt (Heap.lt_size e)) e

def m3 (m : Str → Option Value) (p st ag : Value) : Str → Option Value := fun y => if y = Str.ofString "part" then some p else if y = Str.ofString "start" then some st else if y = Str.ofString "again" then some ag else m y

theorem unpack3 {t : Addr} {x y z : Value} {Q : List Value → Shared → Prop} (hh : A.handled = none) (ht : s.heap.IsTuple t [x, y, z].toArray)
    (hQ : ∀ h', (∀ b o, s.heap.get? b = some o → h'.get? b = some o) → Q [x, y, z] { s with heap := h' }) : wpAny (model prog w) A (unpackItems (.ref t) 3 none) Q E s := by
  have := wpAny_unpackItems_tuple (prog := prog) (w := w) (E := E) (Q := Q) hh ht (fun h' hx => hQ h' (ext_all hx))
  exact this
theorem unpack2 {t : Addr} {x y : Value} {Q : List Value → Shared → Prop} (hh : A.handled = none) (ht : s.heap.IsTuple t [x, y].toArray)
    (hQ : ∀ h', (∀ b o, s.heap.get? b = some o → h'.get? b = some o) → Q [x, y] { s with heap := h' }) : wpAny (model prog w) A (unpackItems (.ref t) 2 none) Q E s := by
  have := wpAny_unpackItems_tuple (prog := prog) (w := w) (E := E) (Q := Q) hh ht (fun h' hx => hQ h' (ext_all hx))
  exact this

/-- part, start, again = heaps.pop(), starts.pop(), plain.pop() -/
theorem br_pop {Q : Flow → Shared → Prop} (X : Env0 A F fa la cd lcd h₀) {vh vs vb : Value} {ps₂ : List (Addr × Nd)} {lo₂ : List Nd} (S : Stt fa cd F m ps lo V (hs ++ [vh]) (svs ++ [vs]) (bvs ++ [vb]) lvs s) (h1 : hs.length ≤ 1000) (h2 : svs.length ≤ 1000) (h3 : bvs.length ≤ 1000)
    (hab : ∀ s', Shape fa cd F ps lo V hs svs bvs lvs s' → Shape fa cd F ps₂ lo₂ V hs svs bvs lvs s')
    (h : ∀ s', Stt fa cd F (m3 m vh vs vb) ps₂ lo₂ V hs svs bvs lvs s' → Q .next s') : wpAny (model prog w) A (exec (at0 (ifT if4) 0) (lenv a lc F.L)) Q E s := by
  show wpAny _ _ (exec (.Assign [.Tuple [.Name "part" _, .Name "start" _, .Name "again" _] _ _] (.Tuple [.Call (.Attribute (.Name "heaps" _) "pop" _) [] [] _, .Call (.Attribute (.Name "starts" _) "pop" _) [] [] _, .Call (.Attribute (.Name "plain" _) "pop" _) [] [] _] _ _) _) _) _ _ _
  refine Assign_Tuple_swapped (names := [Str.ofString "part", Str.ofString "start", Str.ofString "again"]) ?_ (by rfl) (by rfl)
  refine wpAny_Tuple_spliced ?_
  refine spliced_cons (do_pop look_heaps S.ns S.hm.1 S.sh.hH (Nat.le_trans h1 (by decide)) rfl fun hp1 l1 sb1 => ?_)
  have S1 : Stt fa cd F m ps lo V hs (svs ++ [vs]) (bvs ++ [vb]) lvs { s with heap := hp1 } := ⟨S.sh.setH sb1 l1 s.toks, S.ns.sameBut sb1 (ns_ne S.ns S.sh.hH), S.hm⟩
  refine spliced_cons (do_pop look_starts S1.ns S1.hm.2.1 S1.sh.hS (Nat.le_trans h2 (by decide)) rfl fun hp2 l2 sb2 => ?_)
  have S2 : Stt fa cd F m ps lo V hs svs (bvs ++ [vb]) lvs { s with heap := hp2 } := ⟨S1.sh.setS sb2 l2 s.toks, S1.ns.sameBut sb2 (ns_ne S1.ns S1.sh.hS), S.hm⟩
  refine spliced_cons (do_pop look_plain S2.ns S2.hm.2.2.1 S2.sh.hP (Nat.le_trans h3 (by decide)) rfl fun hp3 l3 sb3 => ?_)
  have S3 : Stt fa cd F m ps lo V hs svs bvs lvs { s with heap := hp3 } := ⟨S2.sh.setP sb3 l3 s.toks, S2.ns.sameBut sb3 (ns_ne S2.ns S2.sh.hP), S.hm⟩
  refine spliced_nil ⟨(by decide : (3 : Nat) ≤ sizeLine), ?_⟩
  have S4 := S3.grow X (s' := { s with heap := hp3.push { cls := .type "tuple", data := .seq [vh, vs, vb].toArray } }) ⟨fun b o e => Heap.get?_push_of_some _ e, rfl, rfl⟩
  have ht : ({ s with heap := hp3.push { cls := .type "tuple", data := .seq [vh, vs, vb].toArray } } : Shared).heap.IsTuple hp3.objs.size [vh, vs, vb].toArray := ⟨_, Heap.get?_push_size _ rfl, rfl, _, rfl⟩
  show wpAny _ _ (unpackItems (.ref hp3.objs.size) 3 none) _ _ _
  refine unpack3 X.hh ht fun h4 hx => ?_
  have S5 := S4.grow X (s' := { s with heap := h4 }) ⟨hx, rfl, rfl⟩
  show wpAny _ _ (assignInOrder [bindName _ (Str.ofString "again"), bindName _ (Str.ofString "start"), bindName _ (Str.ofString "part")] [vb, vs, vh]) _ _ _
  refine assignInOrder_cons (bind_name X S5 look_again (by decide) (by decide) (by decide) (by decide) fun s6 S6 _ => ?_)
  refine assignInOrder_cons (bind_name X S6 look_start (by decide) (by decide) (by decide) (by decide) fun s7 S7 _ => ?_)
  refine assignInOrder_cons (bind_name X S7 look_part (by decide) (by decide) (by decide) (by decide) fun s8 S8 _ => ?_)
  refine assignInOrder_nil (h s8 ⟨hab _ S8.sh, ?_, S8.hm⟩)
  exact S8.ns
end
end Mine

namespace Mine
open PySem PySem.W PySem.Calls PyProof.Rows

section
variable {prog : Program} {w : World} {A : Around} {E : Value → Shared → Prop} {s : Shared} {a : Addr} {lc : Value} {m : Str → Option Value} {fa la : Addr} {cd lcd : Value} {F : Fix} {h₀ : Heap}
  {ps : List (Addr × Nd)} {lo : List Nd} {V : Addr} {hs svs bvs lvs : List Value} {a0 : Addr} {xs : Nd}

theorem set_toA (vs : List Value) (v v' : Value) : (vs ++ [v]).toArray.setIfInBounds vs.length v' = (vs ++ [v']).toArray := by
  simp

theorem setItem_last {l : Addr} {vs : List Value} {v v' : Value} {t : Tok} {Q : Unit → Shared → Prop} (hl : LL s.heap l (vs ++ [v])) (hQ : ∀ h', LL h' l (vs ++ [v']) → Heap.SameBut l s.heap h' → Q () { s with heap := h' }) :
    wpAny (model prog w) A (setItem (.ref l) (.int (-1) t) v') Q E s := by
  obtain ⟨n, ho⟩ := id hl
  have hL : s.heap.IsList l (vs ++ [v]).toArray := ⟨_, ho, rfl, n, rfl⟩
  unfold setItem
  try with_reducible refine wpAny_holding ?_
  first | refine wpAny_bind (wpAny_pure ?_) | skip
  refine wpAny_bind (wpAny_sequenceKey hL.typeIs (by decide) ?_)
  refine wpAny_bind (wpAny_callSpecial?_slot (name := Str.ofString "__setitem__") hL.typeIs slot_list_setitem
    (wpAny_call_entry slot_list_setitem hL.typeIs entry_list_setitem ?_ (args_list_setitem _ _ _)))
  show wpAny _ _ (Builtin.List.listSubscript? (.int (-1) t) >>= _) _ _ s
  refine wpAny_bind (wpAny_listSubscript_int (fitsIndex_neg (by decide) (by decide)) ?_)
  have hidx : seqIndex? (Int.negSucc 0) (vs ++ [v]).toArray.size = some vs.length := by
    have hsz : ((vs ++ [v]).toArray.size : Int) = vs.length + 1 := by simp
    rw [seqIndex_neg (by decide) (by rw [hsz]; simp only [Int.negSucc_eq]; omega)]
    congr 1
    rw [hsz]; simp only [Int.negSucc_eq]; omega
  show wpAny _ _ ((Builtin.List.listItems (.ref l) >>= fun xs => pure ((seqIndex? (Int.negSucc 0) xs.size).bind fun i => xs[i]?.map (i, ·))) >>= _) _ _ s
  refine wpAny_bind (wpAny_bind ?_)
  show wpAny _ _ (seqItems? (.ref l) >>= _) _ _ s
  refine wpAny_bind (wpAny_seqItems ho rfl (wpAny_pure (wpAny_pure ?_)))
  rw [hidx]
  have hx : (vs ++ [v]).toArray[vs.length]? = some v := by simp
  simp only [Option.bind_some, Option.map_some, hx]
  have hfin := IsL.update ho (fun xs => xs.setIfInBounds vs.length v')
  rw [set_toA] at hfin
  refine wpAny_bind (wpAny_setSeqItemAt ho rfl ?_)
  first
    | exact wpAny_bind (wpAny_pure (wpAny_pure ⟨.none, rfl, wpAny_pure (hQ _ ⟨_, hfin⟩ (Heap.SameBut.update ..))⟩))
    | exact wpAny_pure ⟨.none, rfl, wpAny_pure (hQ _ ⟨_, hfin⟩ (Heap.SameBut.update ..))⟩

/-- plain[-1] = plain[-1] and again -/
theorem set_plain {p1 p2 p3 p4 p5 p6 p7 p8 p9 p10 p11 : Pos} {b0 : Bool} {Q : Flow → Shared → Prop} (S : Stt fa cd F m ps lo V hs svs (bvs ++ [.bool b0]) lvs s) {b1 : Bool} (hag : m "again" = some (.bool b1)) (hsz : bvs.length ≤ 1000)
    (h : ∀ s', Stt fa cd F m ps lo V hs svs (bvs ++ [.bool (b0 && b1)]) lvs s' → Q .next s') :
    wpAny (model prog w) A (exec (.Assign [.Subscript (.Name "plain" p1) (.UnaryOp .USub (.Constant (.int 1) 0 p2) p3) p4] (.BoolOp .And [.Subscript (.Name "plain" p5) (.UnaryOp .USub (.Constant (.int 1) 0 p6) p7) p8, .Name "again" p9] p10) p11) (lenv a lc F.L)) Q E s := by
  refine wpAny_Assign_Subscript (BoolOp_and (last_item look_plain S.ns S.hm.2.2.1 S.sh.hP (Nat.lt_of_le_of_lt hsz (by decide)) ?_)) (by rfl)
  have S1 := S.toks (s.toks + 1 + 1)
  have fin : ∀ v, v = Value.bool (b0 && b1) → wpAny (model prog w) A (eval (.Name "plain" p1) (lenv a lc F.L)) (fun ov s₂ => wpAny (model prog w) A (eval (.UnaryOp .USub (.Constant (.int 1) 0 p2) p3) (lenv a lc F.L)) (fun iv s₃ =>
      wpAny (model prog w) A (setItem ov iv v) (fun _ => Q .next) E s₃) E s₂) E { s with toks := s.toks + 1 + 1 } := by
    rintro v rfl
    refine ldL look_plain S1.ns S1.hm.2.2.1 ?_
    refine negOne fun t => ?_
    have S2 := S1.toks (s.toks + 1 + 1 + 1 + 1)
    refine setItem_last S2.sh.hP fun h' hl hsb => h _ ⟨S2.sh.setP hsb hl _, S2.ns.sameBut hsb (ns_ne S2.ns S2.sh.hP), S2.hm⟩
  refine wpAny_truthy_bool ?_
  cases b0
  · exact fin _ rfl
  · refine BoolOp_one (ldL look_again S1.ns hag ?_)
    exact fin _ (by simp)
end
end Mine

namespace Mine
open PySem PySem.W PySem.Calls PyProof.Rows

section
variable {prog : Program} {w : World} {A : Around} {E : Value → Shared → Prop} {s : Shared} {a : Addr} {lc : Value} {m : Str → Option Value} {fa la : Addr} {cd lcd : Value} {F : Fix} {h₀ : Heap}
  {ps : List (Addr × Nd)} {lo : List Nd} {V : Addr} {hs svs bvs lvs : List Value} {a0 a1 : Addr} {xs x1 : Nd}

/-- heaps[-1].append(part) -/
theorem app_part {p1 p2 p3 p4 p5 apos pos pos' : Pos} {Q : Flow → Shared → Prop} (S : Stt fa cd F m ((a0, xs) :: ps) (.seq a1 false x1 :: lo) V (hs ++ [.ref a0]) svs bvs lvs s) (hline : (apos.endLine == pos.line) = true)
    (hp : m "part" = some (.ref a1)) (hsz : hs.length ≤ 1000) (hxs : xs.vals.length ≤ 1000)
    (h : ∀ s', Stt fa cd F m ((a0, xs.snoc (.seq a1 false x1)) :: ps) lo V (hs ++ [.ref a0]) svs bvs lvs s' → Q .next s') :
    wpAny (model prog w) A (exec (.Expr (.Call (.Attribute (topE p1 p2 p3 p4) "append" apos) [.Name "part" p5] [] pos) pos') (lenv a lc F.L)) Q E s :=
  append_top S hline rfl hsz hxs (ldL look_part (S.toks _).ns hp ⟨.seq a1 false x1, lo, rfl, trivial, S.toks _, h⟩)

/-- the part is laid twice -/
theorem br_twice {Q : Flow → Shared → Prop} (X : Env0 A F fa la cd lcd h₀) (S : Stt fa cd F m ((a0, xs) :: ps) [.seq a1 false x1] V (hs ++ [.ref a0]) svs bvs lvs s) (hp : m "part" = some (.ref a1)) {st : Nat} {t : Tok} (hst : m "start" = some (.int st t))
    (ho : x1.own = []) (hg : x1.ogs = []) (h1 : hs.length ≤ 1000) (h2 : xs.vals.length ≤ 900) (h3 : lvs.length ≤ 1000)
    (h : ∀ s' V' m', Stt fa cd F m' (((a0, (xs.snoc (.seq a1 false x1)).snoc (.seq a1 false x1))) :: ps) [] V' (hs ++ [.ref a0]) svs bvs (lvs ++ lvs.drop st) s' → Q .next s') (hL : (xs.snoc (.seq a1 false x1)).vals.length ≤ 1000) : wpAny (model prog w) A (execs (ifT if5) (lenv a lc F.L)) Q E s := by
  show wpAny _ _ (execs [.Expr (.Call (.Attribute (topE _ _ _ _) "append" _) [.Name "part" _] [] _) _, .Expr (.Call (.Attribute (topE _ _ _ _) "append" _) [.Name "part" _] [] _) _,
    .Assign [.Name "leaves" _] (.BinOp (.Name "leaves" _) .Add (.Subscript (.Name "leaves" _) (.Slice (some (.Name "start" _)) none none _) _) _) _] _) _ _ _
  refine wpAny_execs_cons (app_part (lo := [.seq a1 false x1]) ⟨S.sh.double ho hg, S.ns, S.hm⟩ rfl hp h1 (Nat.le_trans h2 (by decide)) fun s1 S1 => ?_)
  refine wpAny_execs_cons (app_part S1 rfl hp h1 hL fun s2 S2 => ?_)
  refine wpAny_execs_cons (wpAny_Assign_Name ?_ (by rfl))
  refine wpAny_BinOp (ldL look_leaves S2.ns S2.hm.2.2.2 ?_)
  refine wpAny_Subscript_list_slice (ldL look_leaves S2.ns S2.hm.2.2.2 ?_)
  refine evalPart_some_step (ldL look_start S2.ns hst ?_)
  refine evalPart_none_step ?_
  obtain ⟨n, e⟩ := id S2.sh.hV
  have hsz : lvs.toArray.size = lvs.length := by simp
  refine ⟨V, lvs.toArray, some (st : Int), none, rfl, ⟨_, e, rfl, n, rfl⟩, by rw [hsz]; exact Nat.le_trans h3 (by decide), .int _ _, .none, ?_⟩
  rw [slicePick_from']
  have hto : lvs.toArray.toList.drop st = lvs.drop st := by simp
  rw [hto]
  generalize hh3 : (s2.heap.push { cls := .type "slice", data := .fields #[.int st t, .none, .none] }) = hp3
  have k3 : ∀ b o, s2.heap.get? b = some o → hp3.get? b = some o := fun b o e => by rw [← hh3]; exact Heap.get?_push_of_some _ e
  have sz3 : hp3.objs.size = s2.heap.objs.size + 1 := by rw [← hh3, Heap.size_push]
  rw [← sz3]
  have e3 : IsL (hp3.push { cls := .type "list", data := .seq (lvs.drop st).toArray }) hp3.objs.size (lvs.drop st).toArray 0 := IsL.new ..
  have e4 : IsL (hp3.push { cls := .type "list", data := .seq (lvs.drop st).toArray }) V lvs.toArray n := Heap.get?_push_of_some _ (k3 _ _ e)
  refine P.add_list (s := { s2 with heap := hp3.push { cls := .type "list", data := .seq (lvs.drop st).toArray } }) e4 e3 ?_ ?_
  · have hcat : lvs.toArray ++ (lvs.drop st).toArray = (lvs ++ lvs.drop st).toArray := by simp
    rw [hcat]
    generalize hh4 : hp3.push { cls := .type "list", data := .seq (lvs.drop st).toArray } = hp4
    have k4 : ∀ b o, s2.heap.get? b = some o → hp4.get? b = some o := fun b o e => by rw [← hh4]; exact Heap.get?_push_of_some _ (k3 b o e)
    have S4 : Stt fa cd F m _ _ V (hs ++ [.ref a0]) svs bvs lvs { s2 with heap := hp4 } := S2.grow X ⟨k4, rfl, rfl⟩
    have G5 : Grow { s2 with heap := hp4 } { s2 with heap := hp4.push { cls := .type "list", data := .seq (lvs ++ lvs.drop st).toArray } } := ⟨fun b o e => Heap.get?_push_of_some _ e, rfl, rfl⟩
    have S5 := S4.grow X G5
    have fr := S4.sh.fresh (a := hp4.objs.size) (Heap.get?_none_of_le (Nat.le_refl _))
    have hl5 : LL (hp4.push { cls := .type "list", data := .seq (lvs ++ lvs.drop st).toArray }) hp4.objs.size (lvs ++ lvs.drop st) := ⟨0, IsL.new ..⟩
    have S6 := S5.sh.newV (V' := hp4.objs.size) hl5 (S4.sh.mapped _ (Heap.get?_none_of_le (Nat.le_refl _))) fr.1 fun t ht => (fr.2 t ht).1
    refine wpAny_storeName_local (env := lenv a lc F.L) look_leaves S5.ns (fun h' hn' hs' => ?_) rfl
    refine (wpAny_execs_nil (h _ hp4.objs.size _ ⟨S6.bound X.low S5.ns hn' hs' _, hn', ?_⟩))
    obtain ⟨q1, q2, q3, _⟩ := S5.hm
    refine ⟨?_, ?_, ?_, ?_⟩
    · rw [if_neg (by decide)]; exact q1
    · rw [if_neg (by decide)]; exact q2
    · rw [if_neg (by decide)]; exact q3
    · rw [if_pos rfl]
  · have : (lvs.drop st).toArray.size ≤ lvs.length := by simp
    rw [hsz]; exact Nat.le_trans (Nat.add_le_add h3 (Nat.le_trans this h3)) (by decide)

/-- the part is laid as it is -/
theorem br_list {Q : Flow → Shared → Prop} {b0 b1 : Bool} (S : Stt fa cd F m ((a0, xs) :: ps) [.seq a1 false x1] V (hs ++ [.ref a0]) svs (bvs ++ [.bool b0]) lvs s) (hp : m "part" = some (.ref a1)) (hag : m "again" = some (.bool b1))
    (h1 : hs.length ≤ 1000) (h2 : xs.vals.length ≤ 1000) (h3 : bvs.length ≤ 1000)
    (h : ∀ s', Stt fa cd F m ((a0, xs.snoc (.seq a1 false x1)) :: ps) [] V (hs ++ [.ref a0]) svs (bvs ++ [.bool (b0 && b1)]) lvs s' → Q .next s') : wpAny (model prog w) A (execs (ifT if6) (lenv a lc F.L)) Q E s := by
  show wpAny _ _ (execs [.Expr (.Call (.Attribute (topE _ _ _ _) "append" _) [.Name "part" _] [] _) _, .Assign [.Subscript (.Name "plain" _) (.UnaryOp .USub (.Constant (.int 1) 0 _) _) _] (.BoolOp .And [.Subscript (.Name "plain" _) (.UnaryOp .USub (.Constant (.int 1) 0 _) _) _, .Name "again" _] _) _] _) _ _ _
  refine wpAny_execs_cons (app_part S rfl hp h1 h2 fun s1 S1 => ?_)
  exact wpAny_execs_cons (set_plain S1 hag h3 fun s2 S2 => wpAny_execs_nil (h s2 S2))

/-- the part is laid as a tuple -/
theorem br_tuple {Q : Flow → Shared → Prop} {b0 b1 : Bool} (X : Env0 A F fa la cd lcd h₀) (S : Stt fa cd F m ((a0, xs) :: ps) [.seq a1 false x1] V (hs ++ [.ref a0]) svs (bvs ++ [.bool b0]) lvs s) (hp : m "part" = some (.ref a1)) (hag : m "again" = some (.bool b1))
    (h1 : hs.length ≤ 1000) (h2 : xs.vals.length ≤ 1000) (h3 : bvs.length ≤ 1000) (h4 : x1.vals.length ≤ 1000)
    (h : ∀ s' t, Stt fa cd F m ((a0, xs.snoc (.seq t true x1)) :: ps) [] V (hs ++ [.ref a0]) svs (bvs ++ [.bool (b0 && b1)]) lvs s' → Q .next s') : wpAny (model prog w) A (execs (ifT if7) (lenv a lc F.L)) Q E s := by
  show wpAny _ _ (execs [.Expr (.Call (.Attribute (topE _ _ _ _) "append" _) [.Call (.Name "tuple" _) [.Name "part" _] [] _] [] _) _, .Assign [.Subscript (.Name "plain" _) (.UnaryOp .USub (.Constant (.int 1) 0 _) _) _] (.BoolOp .And [.Subscript (.Name "plain" _) (.UnaryOp .USub (.Constant (.int 1) 0 _) _) _, .Name "again" _] _) _] _) _ _ _
  refine wpAny_execs_cons (append_top S rfl rfl h1 h2 ?_)
  have S0 := S.toks (s.toks + 1 + 1)
  show wpAny _ _ (do callWith _ (← eval (.Name "tuple" _) (lenv a lc F.L)) [] (backTo _ (starEach [.Name "part" _] (lenv a lc F.L))) (backToKw _ (keywordEach [] (lenv a lc F.L)))) _ _ _
  refine wpAny_bind (ldB' (S0.g X) (by decide +kernel) (v := .type "tuple") (by simp [bltList]) ?_)
  refine PyProof.Rows.callWith_type rfl (evalArgs_plain (spliced_cons (ldL look_part S0.ns hp (spliced_nil ?_))))
  obtain ⟨⟨⟨n, sl, e⟩, hx1, hok⟩, hown, hseq⟩ := S0.sh.tree (.seq a1 false x1) (by simp [trees])
  have hsz : x1.vals.toArray.size ≤ sizeLine := by
    have e : x1.vals.toArray.size = x1.vals.length := by simp
    rw [e]; exact Nat.le_trans h4 (by decide)
  refine call_tuple_list (items := x1.vals.toArray) (hsz := hsz) ⟨_, e, rfl, n, rfl⟩ (fun h' hk => ?_)
  have S1 := S0.grow X (s' := { s with heap := h', toks := s.toks + 1 + 1 }) ⟨hk, rfl, rfl⟩
  have G2 : Grow { s with heap := h', toks := s.toks + 1 + 1 } { s with heap := h'.push { cls := .type "tuple", data := .seq x1.vals.toArray }, toks := s.toks + 1 + 1 } := ⟨fun b o e => Heap.get?_push_of_some _ e, rfl, rfl⟩
  have S2 := S1.grow X G2
  have fr := S1.sh.fresh (a := h'.objs.size) (Heap.get?_none_of_le (Nat.le_refl _))
  obtain ⟨⟨_, _, hok2⟩, _, _⟩ := S2.sh.tree (.seq a1 false x1) (by simp [trees])
  have S3 := S2.sh.swap (nd' := .seq h'.objs.size true x1) ⟨⟨0, #[], Heap.get?_push_size _ rfl⟩, hx1, hok2⟩ hown (fun b hb hm => ?_) ⟨[], rfl, List.nodup_nil, fun _ h => nomatch h⟩ ⟨[], rfl, List.nodup_nil, fun _ h => nomatch h⟩
  · refine ⟨.seq h'.objs.size true x1, [], rfl, trivial, ⟨S3, S2.ns, S2.hm⟩, fun s4 S4 => ?_⟩
    exact wpAny_execs_cons (set_plain S4 hag h3 fun s5 S5 => wpAny_execs_nil (h s5 _ S5))
  · rcases List.mem_cons.mp hb with rfl | hb
    · exact fr.1 hm
    · exact hseq b (.tail _ hb) hm

/-- plain[-1] = False -/
theorem set_false {p1 p2 p3 p4 p5 p11 : Pos} {b0 : Bool} {Q : Flow → Shared → Prop} (S : Stt fa cd F m ps lo V hs svs (bvs ++ [.bool b0]) lvs s)
    (h : ∀ s', Stt fa cd F m ps lo V hs svs (bvs ++ [.bool false]) lvs s' → Q .next s') :
    wpAny (model prog w) A (exec (.Assign [.Subscript (.Name "plain" p1) (.UnaryOp .USub (.Constant (.int 1) 0 p2) p3) p4] (.Constant (.bool false) 0 p5) p11) (lenv a lc F.L)) Q E s := by
  refine wpAny_Assign_Subscript (Constant_bool (k := 0) (pos := p5) (ldL look_plain S.ns S.hm.2.2.1 (negOne fun t => ?_))) (by rfl)
  have S2 := S.toks (s.toks + 1 + 1)
  exact setItem_last S2.sh.hP fun h' hl hsb => h _ ⟨S2.sh.setP hsb hl _, S2.ns.sameBut hsb (ns_ne S2.ns S2.sh.hP), S2.hm⟩

/-- the part is laid as a walk of its own -/
theorem br_iter {Q : Flow → Shared → Prop} {b0 : Bool} {y : Int} {t : Tok} (X : Env0 A F fa la cd lcd h₀) (S : Stt fa cd F m ((a0, xs) :: ps) [.seq a1 false x1] V (hs ++ [.ref a0]) svs (bvs ++ [.bool b0]) lvs s) (hp : m "part" = some (.ref a1)) (hy : m "y" = some (.int y t))
    (h1 : hs.length ≤ 1000) (h2 : xs.vals.length ≤ 1000)
    (h : ∀ s' nd, nd.fl = x1.fl → nd.dp ≤ x1.dp + 2 → Stt fa cd F m ((a0, xs.snoc nd) :: ps) [] V (hs ++ [.ref a0]) svs (bvs ++ [.bool false]) lvs s' → Q .next s') : wpAny (model prog w) A (execs (ifE if7) (lenv a lc F.L)) Q E s := by
  show wpAny _ _ (execs [.Expr (.Call (.Attribute (topE _ _ _ _) "append" _) [.IfExp (.Compare (.BinOp (.Name "y" _) .Mod (.Constant (.int 4) 0 _) _) [.Eq] [.Constant (.int 2) 0 _] _) (.Call (.Name "iter" _) [.Name "part" _] [] _) (.Call (.Name "flatten_iterator" _) [.Name "part" _] [] _) _] [] _) _,
    .Assign [.Subscript (.Name "plain" _) (.UnaryOp .USub (.Constant (.int 1) 0 _) _) _] (.Constant (.bool false) 0 _) _] _) _ _ _
  refine wpAny_execs_cons (append_top S rfl rfl h1 h2 ?_)
  have S0 := S.toks (s.toks + 1 + 1)
  refine IfExp_ (wpAny_isTrue_Compare1 (do_mod look_y S0.ns hy (by decide) fun t' => kInt (PyProof.Rows.eq_int (wpAny_truthy_bool ?_))))
  have S1 := (S0.toks (s.toks + 1 + 1 + 1 + 1)).toks (s.toks + 1 + 1 + 1 + 1 + 1)
  split
  · show wpAny _ _ (do callWith _ (← eval (.Name "iter" _) (lenv a lc F.L)) [] (backTo _ (starEach [.Name "part" _] (lenv a lc F.L))) (backToKw _ (keywordEach [] (lenv a lc F.L)))) _ _ _
    refine wpAny_bind (ldB' (S1.g X) (by decide +kernel) (v := .builtin "iter") (by simp [bltList]) ?_)
    refine callWith_builtin rfl (evalArgs_plain (spliced_cons (ldL look_part S1.ns hp (spliced_nil ?_))))
    obtain ⟨⟨hsq, hx1, hok⟩, hown, hseq⟩ := S1.sh.tree (.seq a1 false x1) (by simp [trees])
    refine call_function_entry kind_iter0 plain_iter0 entry_iter0 (args_iter0 _) ?_
    show wpAny _ _ (someArgs "iter" 1 2 ⟨[.ref a1], []⟩ >>= _) _ _ _
    refine wpAny_bind (wpAny_of_eq (a := [Value.ref a1]) (by rfl) ?_)
    refine wpAny_bind (iter_seq hsq fun h' it hit hk hIt => wpAny_pure ⟨_, rfl, ?_⟩)
    have S2 := S1.grow X (s' := { s with heap := h', toks := s.toks + 1 + 1 + 1 + 1 + 1 }) ⟨hk, rfl, rfl⟩
    have fr := S1.sh.fresh (a := it) hit
    obtain ⟨⟨hsq2, _, hok2⟩, _, _⟩ := S2.sh.tree (.seq a1 false x1) (by simp [trees])
    have S3 := S2.sh.swap (nd' := .sit it a1 false 0 x1) ⟨hIt, ⟨x1.vals, hsq2, rfl⟩, hx1, hok2⟩ (fun b hb => by
        rcases List.mem_cons.mp hb with rfl | hb
        · exact S1.sh.mapped _ hit
        · exact hown b hb) hseq ⟨[it], rfl, (by simp), fun b hb t ht => by rw [List.mem_singleton.mp hb]; exact (fr.2 t ht).2⟩ ⟨[], rfl, List.nodup_nil, fun _ h => nomatch h⟩
    refine ⟨.sit it a1 false 0 x1, [], rfl, rfl, ⟨S3, S2.ns, S2.hm⟩, fun s4 S4 => ?_⟩
    exact wpAny_execs_cons (set_false S4 fun s5 S5 => wpAny_execs_nil (h s5 (.sit it a1 false 0 x1) rfl (by show x1.dp + 1 ≤ x1.dp + 2; omega) S5))
  · show wpAny _ _ (do callWith _ (← eval (.Name "flatten_iterator" _) (lenv a lc F.L)) [] (backTo _ (starEach [.Name "part" _] (lenv a lc F.L))) (backToKw _ (keywordEach [] (lenv a lc F.L)))) _ _ _
    refine wpAny_bind (ldFlat (S1.g X) ?_)
    obtain ⟨o, pm, doc, ho, hdat⟩ := id (S1.g X).e.fn
    refine callWith_function (o := o) (fd := docDef "flatten_iterator" flatParams flatBody flatScope pm cd doc) ?_
    refine evalArgs_plain (spliced_cons (ldL look_part S1.ns hp (spliced_nil ⟨⟨ho, hdat⟩, ?_⟩)))
    obtain ⟨⟨hsq, hx1, hok⟩, hown, hseq⟩ := S1.sh.tree (.seq a1 false x1) (by simp [trees])
    refine call_flat (S1.g X).e (Nat.lt_of_le_of_lt (Nat.le_add_right _ _) X.dp) fun a' L' h' nm qn tk n1 n2 n3 hk hgen hns => ?_
    have C2 := chg_push (s := { s with toks := s.toks + 1 + 1 + 1 + 1 + 1 }) (s' := { s with heap := h', gens := s.gens.push (.fresh (.func flatBody (fenv fa cd L'))), toks := tk }) hk rfl rfl
    have S2sh := S1.sh.move X.low C2 (fun _ h => h.elim) (fun _ _ h => h.elim) (fun _ h => h.elim) (fun _ _ h => h) (fun _ _ _ h => h) (Bd.push [] rfl)
    have fr1 := S1.sh.fresh (a := a') n1
    have fr2 := S1.sh.fresh (a := L') n2
    obtain ⟨hok2, _, _⟩ := S2sh.tree (.seq a1 false x1) (by simp [trees])
    have S3 := S2sh.swap (nd' := .fresh a' s.gens.size L' (.seq a1 false x1)) ⟨⟨nm, qn, #[], hgen, .inl ⟨rfl, rfl⟩⟩, by simp, hns, trivial, hok2⟩ (fun b hb => by
        rcases List.mem_cons.mp hb with rfl | hb
        · exact S1.sh.mapped _ n1
        rcases List.mem_cons.mp hb with rfl | hb
        · exact S1.sh.mapped _ n2
        · exact hown b hb) hseq ⟨[a', L'], rfl, by simp [n3], fun b hb t ht => by
          rcases List.mem_cons.mp hb with rfl | hb
          · exact (fr1.2 t ht).2
          · rw [List.mem_singleton.mp hb]; exact (fr2.2 t ht).2⟩ ⟨[s.gens.size], rfl, (by simp), fun b hb t ht hbt => by
          rw [List.mem_singleton.mp hb] at hbt
          obtain ⟨x, q⟩ := (S1.sh.tree t ht).1.ogs t 0 _ hbt
          rw [Array.getElem?_eq_some_iff] at q
          exact Nat.lt_irrefl _ q.1⟩
    refine ⟨.fresh a' s.gens.size L' (.seq a1 false x1), [], rfl, trivial, ⟨S3, S1.ns.keeps hk, S1.hm⟩, fun s4 S4 => ?_⟩
    exact wpAny_execs_cons (set_false S4 fun s5 S5 => wpAny_execs_nil (h s5 (.fresh a' s.gens.size L' (.seq a1 false x1)) rfl (Nat.le_refl _) S5))
end
end Mine

namespace Mine
open PySem PySem.W PySem.Calls PyProof.Rows

def flp : List (Addr × Nd) → List Value
  | [] => []
  | p :: r => flp r ++ p.2.fl
def StartsOk : List (Addr × Nd) → List Value → Prop
  | [], [] => True
  | _ :: r, v :: vs => (∃ t, v = .int (flp r).length t) ∧ StartsOk r vs
  | _, _ => False
def Flags : List (Addr × Nd) → List Bool → Prop
  | [], [] => True
  | p :: r, b :: bs => (b = true → p.2.own = [] ∧ p.2.ogs = []) ∧ Flags r bs
  | _, _ => False
def DpOk : List (Addr × Nd) → Prop
  | [] => True
  | p :: r => p.2.dp + 2 * r.length ≤ 22 ∧ DpOk r
/-- two rows that say the same -/
inductive Sims : List Value → List Value → Prop
  | nil : Sims [] []
  | cons {v v' : Value} {vs vs' : List Value} : Sim v v' → Sims vs vs' → Sims (v :: vs) (v' :: vs')
theorem Sims.length {a b : List Value} (h : Sims a b) : a.length = b.length := by
  induction h with
  | nil => rfl
  | cons _ _ ih => simp [ih]
theorem Sims.append {a b c d : List Value} (h : Sims a b) (h' : Sims c d) : Sims (a ++ c) (b ++ d) := by
  induction h with
  | nil => exact h'
  | cons x _ ih => exact .cons x ih
theorem Sims.drop {a b : List Value} (h : Sims a b) : ∀ n, Sims (a.drop n) (b.drop n) := by
  induction h with
  | nil => intro n; simp; exact .nil
  | cons x y ih =>
    intro n
    cases n with
    | zero => exact .cons x y
    | succ n => exact ih n

structure Inv (fa : Addr) (cd : Value) (F : Fix) (i : Nat) (m : Str → Option Value) (ps : List (Addr × Nd)) (bs : List Bool) (V : Addr) (sv lvs : List Value) (s : Shared) : Prop where
  st : Stt fa cd F m ps [] V (ps.map fun p => Value.ref p.1).reverse sv.reverse (bs.map Value.bool).reverse lvs s
  starts : StartsOk ps sv
  flags : Flags ps bs
  dps : DpOk ps
  sim : Sims (flp ps) lvs
  ne : ps ≠ []
  len : ps.length ≤ 12
  szs : ∀ p ∈ ps, p.2.vals.length ≤ 2 * i
  lsz : lvs.length ≤ 80 + i

theorem StartsOk.len : ∀ {ps : List (Addr × Nd)} {sv : List Value}, StartsOk ps sv → sv.length = ps.length
  | [], [], _ => rfl
  | _ :: _, _ :: _, h => by simp [h.2.len]
  | [], _ :: _, h => h.elim
  | _ :: _, [], h => h.elim
theorem Flags.len : ∀ {ps : List (Addr × Nd)} {bs : List Bool}, Flags ps bs → bs.length = ps.length
  | [], [], _ => rfl
  | _ :: _, _ :: _, h => by simp [h.2.len]
  | [], _ :: _, h => h.elim
  | _ :: _, [], h => h.elim

section
variable {prog : Program} {w : World} {A : Around} {E : Value → Shared → Prop} {s : Shared} {a : Addr} {lc : Value} {m : Str → Option Value} {fa la : Addr} {cd lcd : Value} {F : Fix} {h₀ : Heap}
  {ps : List (Addr × Nd)} {lo : List Nd} {V : Addr} {hs svs bvs lvs : List Value} {a0 a1 : Addr} {xs x1 : Nd}

theorem test_lt {x : Str} {p1 p2 p3 : Pos} {n i : Int} {t : Tok} {whole : Sem Value} {Q : Bool → Shared → Prop} (hx : lawScope.names.lookup x = some .local) (hn : s.heap.Ns F.L m) (hv : m x = some (.int i t))
    (h : Q (decide (i < n)) { s with toks := s.toks + 1 }) (hd : (x == ("__debug__" : Str)) = false := by decide) : wpAny (model prog w) A (isTrue (.Compare (.Name x p1) [.Lt] [.Constant (.int n) 0 p2] p3) (lenv a lc F.L) whole) Q E s :=
  wpAny_isTrue_Compare1 (ldL hx hn hv (kInt (PyProof.Rows.lt_int (wpAny_truthy_bool h))) hd)

/-- op, y = x % 8, x // 8 + i -/
theorem do_opy {Q : Flow → Shared → Prop} (X : Env0 A F fa la cd lcd h₀) (S : Stt fa cd F m ps lo V hs svs bvs lvs s) {x i : Int} {tx ti : Tok} (hx : m "x" = some (.int x tx)) (hi : m "i" = some (.int i ti))
    (h : ∀ s' y t u, Stt fa cd F (fun z => if z = Str.ofString "op" then some (.int (x.fmod 8) t) else if z = Str.ofString "y" then some (.int y u) else m z) ps lo V hs svs bvs lvs s' → Q .next s') : wpAny (model prog w) A (exec (at0 turn 0) (lenv a lc F.L)) Q E s := by
  show wpAny _ _ (exec (.Assign [.Tuple [.Name "op" _, .Name "y" _] _ _] (.Tuple [.BinOp (.Name "x" _) .Mod (.Constant (.int 8) _ _) _, .BinOp (.BinOp (.Name "x" _) .FloorDiv (.Constant (.int 8) _ _) _) .Add (.Name "i" _) _] _ _) _) _) _ _ _
  refine Assign_Tuple_swapped (names := [Str.ofString "op", Str.ofString "y"]) ?_ (by rfl) (by rfl)
  refine wpAny_Tuple_spliced ?_
  refine spliced_cons (do_mod look_xx S.ns hx (by decide) fun t => ?_)
  have S1 := S.toks (s.toks + 1 + 1)
  refine spliced_cons (wpAny_BinOp (wpAny_BinOp (ldL look_xx S1.ns hx (kInt (AutoIntOps.floordiv_1 (by decide) ?_ ?_)))))
  · have hdig : Builtin.divisionGoesByPylong x 8 = false := by
      unfold Builtin.divisionGoesByPylong
      have : decide ((if ((8 : Int) == 0) = true then 0 else (8 : Int).natAbs.log2 / 30 + 1) > 300) = false := by decide +kernel
      simp only [this, Bool.false_and]
    rw [hdig]; decide
  refine ldL look_i (S1.toks _).ns hi (PyProof.Rows.add_int ?_)
  refine spliced_nil ⟨(by decide : (2 : Nat) ≤ sizeLine), ?_⟩
  have S2 := S1.toks (s.toks + 1 + 1 + 1 + 1 + 1)
  have S3 := S2.grow X (s' := { s with heap := s.heap.push { cls := .type "tuple", data := .seq [Value.int (x.fmod 8) t, .int (x.fdiv 8 + i) (s.toks + 1 + 1 + 1 + 1)].toArray }, toks := s.toks + 1 + 1 + 1 + 1 + 1 }) ⟨fun b o e => Heap.get?_push_of_some _ e, rfl, rfl⟩
  show wpAny _ _ (unpackItems (.ref s.heap.objs.size) 2 none) _ _ _
  refine unpack2 X.hh ⟨_, Heap.get?_push_size _ rfl, rfl, _, rfl⟩ fun h4 hx4 => ?_
  have S5 := S3.grow X (s' := { s with heap := h4, toks := s.toks + 1 + 1 + 1 + 1 + 1 }) ⟨hx4, rfl, rfl⟩
  show wpAny _ _ (assignInOrder [bindName _ (Str.ofString "y"), bindName _ (Str.ofString "op")] [_, _]) _ _ _
  refine assignInOrder_cons (bind_name X S5 look_y (by decide) (by decide) (by decide) (by decide) fun s6 S6 _ => ?_)
  refine assignInOrder_cons (bind_name X S6 look_op (by decide) (by decide) (by decide) (by decide) fun s7 S7 _ => ?_)
  exact assignInOrder_nil (h s7 _ _ _ S7)
end
end Mine

namespace Mine
open PySem PySem.W PySem.Calls PyProof.Rows

section
variable {prog : Program} {w : World} {A : Around} {E : Value → Shared → Prop} {s : Shared} {a : Addr} {lc : Value} {m : Str → Option Value} {fa la : Addr} {cd lcd : Value} {F : Fix} {h₀ : Heap}
  {ps : List (Addr × Nd)} {lo : List Nd} {V : Addr} {hs svs bvs lvs sv : List Value} {bs : List Bool} {a0 a1 : Addr} {xs x1 : Nd}

theorem if_ {env : Env} {test : Expr} {body orelse : List Stmt} {pos : Pos} {Q : Flow → Shared → Prop}
    (h : wpAny (model prog w) A (isTrue test env (eval test env)) (fun b s₁ => if b = true then wpAny (model prog w) A (execs body env) Q E s₁ else wpAny (model prog w) A (execs orelse env) Q E s₁) E s) :
    wpAny (model prog w) A (exec (.If test body orelse pos) env) Q E s := by
  rw [exec_If]
  refine wpAny_bind (wpAny_standAt (wpAny_bind (wpAny_mono h (fun b s₁ h₁ => ?_) fun _ _ x => x)))
  cases b
  · exact h₁
  · exact h₁

theorem execs_one {env : Env} {st : Stmt} {Q : Flow → Shared → Prop} (h : wpAny (model prog w) A (exec st env) Q E s) : wpAny (model prog w) A (execs [st] env) Q E s :=
  wpAny_execs_cons (wpAny_mono h (fun f s' hq => by cases f <;> first | exact wpAny_execs_nil hq | exact hq) fun _ _ x => x)
theorem rev1 {α β : Type} (f : α → β) (x : α) (r : List α) : ((x :: r).map f).reverse = (r.map f).reverse ++ [f x] := by simp

theorem Inv.hlen {i : Nat} (I : Inv fa cd F i m ps bs V sv lvs s) : ((ps.map fun p => Value.ref p.1).reverse).length = ps.length := by simp

theorem Stt.re {hs' svs' bvs' lvs' : List Value} (S : Stt fa cd F m ps lo V hs svs bvs lvs s) (e1 : hs = hs') (e2 : svs = svs') (e3 : bvs = bvs') (e4 : lvs = lvs') : Stt fa cd F m ps lo V hs' svs' bvs' lvs' s := by
  subst e1 e2 e3 e4; exact S

theorem DpOk.top {a0 a1 : Addr} {x1 xs nd : Nd} {r : List (Addr × Nd)} (h : DpOk ((a1, x1) :: (a0, xs) :: r)) (hxs : xs.isL) (hnd : nd.dp ≤ x1.dp + 2) : DpOk ((a0, xs.snoc nd) :: r) := by
  obtain ⟨h1, h2, h3⟩ := h
  have h1' : x1.dp + 2 * (r.length + 1) ≤ 22 := h1
  have h2' : xs.dp + 2 * r.length ≤ 22 := h2
  have : (xs.snoc nd).dp ≤ 22 - 2 * r.length := Nd.snoc_dp xs nd _ hxs (by omega) (by omega)
  exact ⟨by show (xs.snoc nd).dp + 2 * r.length ≤ 22; omega, h3⟩

/-- nothing was done -/
theorem Inv.idle {i : Nat} (I : Inv fa cd F i m ps bs V sv lvs s) {m' : Str → Option Value} {s' : Shared} (S : Stt fa cd F m' ps [] V (ps.map fun p => Value.ref p.1).reverse sv.reverse (bs.map Value.bool).reverse lvs s') : Inv fa cd F (i + 1) m' ps bs V sv lvs s' :=
  ⟨S, I.starts, I.flags, I.dps, I.sim, I.ne, I.len, fun p hp => by have := I.szs p hp; omega, by have := I.lsz; omega⟩

/-- the part has been laid in one of the three ways -/
theorem Inv.laid {i : Nat} {a0 a1 : Addr} {x1 xs nd : Nd} {r : List (Addr × Nd)} {b0 b1 b' : Bool} {bs' : List Bool} {v1 : Value} {sv' : List Value} {m' : Str → Option Value} {s' : Shared}
    (I : Inv fa cd F i m ((a1, x1) :: (a0, xs) :: r) (b1 :: b0 :: bs') V (v1 :: sv') lvs s) (hfl : nd.fl = x1.fl) (hdp : nd.dp ≤ x1.dp + 2) (hb : b' = true → b0 = true ∧ b1 = true ∧ nd.own = x1.own ∧ nd.ogs = x1.ogs)
    (S : Stt fa cd F m' ((a0, xs.snoc nd) :: r) [] V ((r.map fun p => Value.ref p.1).reverse ++ [.ref a0]) sv'.reverse ((bs'.map Value.bool).reverse ++ [.bool b']) lvs s') :
    Inv fa cd F (i + 1) m' ((a0, xs.snoc nd) :: r) (b' :: bs') V sv' lvs s' := by
  have hxs : xs.isL := (I.st.sh.part (a0, xs) (by simp)).2
  refine ⟨S.re (rev1 (fun p => Value.ref p.1) (a0, xs.snoc nd) r).symm rfl (rev1 Value.bool b' bs').symm rfl, ?_, ?_, I.dps.top hxs hdp, ?_, by simp, ?_, fun p hp => ?_, by have := I.lsz; omega⟩
  · have h := I.starts.2
    cases sv' with
    | nil => exact h.elim
    | cons v0 sv' => exact h
  · obtain ⟨f1, f2, f3⟩ := I.flags
    refine ⟨fun h => ?_, f3⟩
    obtain ⟨e1, e2, e3, e4⟩ := hb h
    obtain ⟨g1, g2⟩ := f1 e2
    obtain ⟨g3, g4⟩ := f2 e1
    show (xs.snoc nd).own = [] ∧ (xs.snoc nd).ogs = []
    have g1' : x1.own = [] := g1
    have g2' : x1.ogs = [] := g2
    have g3' : xs.own = [] := g3
    have g4' : xs.ogs = [] := g4
    rw [Nd.snoc_own xs nd hxs, Nd.snoc_ogs xs nd hxs, e3, e4, g1', g2', g3', g4']
    exact ⟨rfl, rfl⟩
  · have h := I.sim
    have e : flp ((a0, xs.snoc nd) :: r) = flp ((a1, x1) :: (a0, xs) :: r) := by
      show flp r ++ (xs.snoc nd).fl = (flp r ++ xs.fl) ++ x1.fl
      rw [Nd.snoc_fl xs nd hxs, hfl, List.append_assoc]
    rw [e]; exact h
  · have := I.len
    simp only [List.length_cons] at this ⊢
    omega
  · rcases List.mem_cons.mp hp with rfl | hp
    · have := I.szs (a0, xs) (by simp)
      show (xs.snoc nd).vals.length ≤ _
      rw [Nd.snoc_vals xs nd hxs, List.length_append]
      have h' : xs.vals.length ≤ 2 * i := this
      simp only [List.length_cons, List.length_nil]
      omega
    · have := I.szs p (by simp [hp])
      omega


theorem three_of {ps : List (Addr × Nd)} {bs : List Bool} {sv : List Value} (h : 1 < ps.length) (h1 : bs.length = ps.length) (h2 : sv.length = ps.length) :
    ∃ a1 x1 a0 xs r b1 b0 bs' v1 sv', ps = (a1, x1) :: (a0, xs) :: r ∧ bs = b1 :: b0 :: bs' ∧ sv = v1 :: sv' := by
  match ps, h with
  | (a1, x1) :: (a0, xs) :: r, _ =>
    match bs, h1 with
    | b1 :: b0 :: bs', _ =>
      match sv, h2 with
      | v1 :: sv', _ => exact ⟨a1, x1, a0, xs, r, b1, b0, bs', v1, sv', rfl, rfl, rfl⟩

def if6full : Stmt := .If (ifC if6) (ifT if6) [.If (ifC if7) (ifT if7) (ifE if7) (match if7 with | .If _ _ _ p => p | _ => default)] (match if6 with | .If _ _ _ p => p | _ => default)
def if5full : Stmt := .If (ifC if5) (ifT if5) [if6full] (match if5 with | .If _ _ _ p => p | _ => default)

theorem lay_ok {Q : Flow → Shared → Prop} {i : Nat} {s9 : Shared} {m1 m6 : Str → Option Value} {r : List (Addr × Nd)} {b0 b1 : Bool} {bs' : List Bool} {v1 : Value} {sv' : List Value} {y : Int} {u : Tok} (X : Env0 A F fa la cd lcd h₀)
    (I : Inv fa cd F i m1 ((a1, x1) :: (a0, xs) :: r) (b1 :: b0 :: bs') V (v1 :: sv') lvs s) (hi : i < 40) (hpart : m6 "part" = some (.ref a1)) (hagain : m6 "again" = some (.bool b1)) (hy' : m6 "y" = some (.int y u))
    (S9 : Stt fa cd F m6 ((a0, xs) :: r) [.seq a1 false x1] V ((r.map fun p => Value.ref p.1).reverse ++ [.ref a0]) sv'.reverse ((bs'.map Value.bool).reverse ++ [.bool b0]) lvs s9)
    (h : ∀ s' m' ps' bs' V' sv' lvs', Inv fa cd F (i + 1) m' ps' bs' V' sv' lvs' s' → Q .next s') :
    wpAny (model prog w) A (execs [if6full] (lenv a lc F.L)) Q E s9 := by
  have hsz0 : xs.vals.length ≤ 2 * i := I.szs (a0, xs) (by simp)
  have hsz1 : x1.vals.length ≤ 2 * i := I.szs (a1, x1) (by simp)
  have hbslen := I.flags.len
  have hlenr : r.length + 2 ≤ 12 := I.len
  have hbr : bs'.length = r.length := by simpa using hbslen
  have lr0 : ((r.map fun p => Value.ref p.1).reverse).length ≤ 1000 := by simp only [List.length_reverse, List.length_map]; omega
  have lb0 : ((bs'.map Value.bool).reverse).length ≤ 1000 := by simp only [List.length_reverse, List.length_map]; omega
  refine execs_one (if_ ?_)
  show wpAny _ _ (isTrue (.Compare (.BinOp (.Name "y" _) .Mod (.Constant (.int 4) 0 _) _) [.Eq] [.Constant (.int 0) 0 _] _) _ _) _ _ _
  refine wpAny_isTrue_Compare1 (do_mod look_y S9.ns hy' (by decide) fun t' => kInt (PyProof.Rows.eq_int (wpAny_truthy_bool ?_)))
  have S10 := (S9.toks (s9.toks + 1 + 1)).toks (s9.toks + 1 + 1 + 1)
  split
  · refine br_list S10 hpart hagain lr0 (by omega) lb0 fun s11 S11 => ?_
    exact h s11 m6 _ _ V sv' lvs (I.laid (nd := .seq a1 false x1) rfl (Nat.succ_le_succ (Nat.le_succ _)) (fun q => by simp only [Bool.and_eq_true] at q; exact ⟨q.1, q.2, rfl, rfl⟩) S11)
  · refine execs_one (if_ ?_)
    show wpAny _ _ (isTrue (.Compare (.BinOp (.Name "y" _) .Mod (.Constant (.int 4) 0 _) _) [.Eq] [.Constant (.int 1) 0 _] _) _ _) _ _ _
    refine wpAny_isTrue_Compare1 (do_mod look_y S10.ns hy' (by decide) fun t' => kInt (PyProof.Rows.eq_int (wpAny_truthy_bool ?_)))
    have S11 := (S10.toks (s9.toks + 1 + 1 + 1 + 1 + 1)).toks (s9.toks + 1 + 1 + 1 + 1 + 1 + 1)
    split
    · refine br_tuple X S11 hpart hagain lr0 (by omega) lb0 (by omega) fun s12 tt S12 => ?_
      exact h s12 m6 _ _ V sv' lvs (I.laid (nd := .seq tt true x1) rfl (Nat.succ_le_succ (Nat.le_succ _)) (fun q => by simp only [Bool.and_eq_true] at q; exact ⟨q.1, q.2, rfl, rfl⟩) S12)
    · refine br_iter X S11 hpart hy' lr0 (by omega) fun s12 nd hf hd S12 => ?_
      exact h s12 m6 _ _ V sv' lvs (I.laid (nd := nd) hf hd (fun q => by cases q) S12)

set_option maxHeartbeats 1000000 in
theorem pop_ok {Q : Flow → Shared → Prop} {i : Nat} {m1 : Str → Option Value} {r : List (Addr × Nd)} {b0 b1 : Bool} {bs' : List Bool} {v1 : Value} {sv' : List Value} {x y : Int} {t u : Tok} (X : Env0 A F fa la cd lcd h₀)
    (I : Inv fa cd F i m1 ((a1, x1) :: (a0, xs) :: r) (b1 :: b0 :: bs') V (v1 :: sv') lvs s) (hi : i < 40) (hop : m1 "op" = some (.int (x.fmod 8) t)) (hy : m1 "y" = some (.int y u))
    (h : ∀ s' m' ps' bs' V' sv' lvs', Inv fa cd F (i + 1) m' ps' bs' V' sv' lvs' s' → Q .next s') :
    wpAny (model prog w) A (execs [at0 (ifT if4) 0, if5full] (lenv a lc F.L)) Q E s := by
  have hlsz := I.lsz
  have hsvlen := I.starts.len
  have hbslen := I.flags.len
  have S4 := I.st
  have hsz0 : xs.vals.length ≤ 2 * i := I.szs (a0, xs) (by simp)
  have hsz1 : x1.vals.length ≤ 2 * i := I.szs (a1, x1) (by simp)
  have hxs : xs.isL := (I.st.sh.part (a0, xs) (by simp)).2
  have hlenr : r.length + 2 ≤ 12 := I.len
  have hbr : bs'.length = r.length := by simpa using hbslen
  have hsr : sv'.length = r.length + 1 := by simpa using hsvlen
  have S5 := S4.re (rev1 (fun p => Value.ref p.1) (a1, x1) ((a0, xs) :: r)) (List.reverse_cons (a := v1) (as := sv')) (rev1 Value.bool b1 (b0 :: bs')) rfl
  have lr : ((((a0, xs) :: r).map fun p => Value.ref p.1).reverse).length ≤ 1000 := by simp only [List.length_reverse, List.length_map, List.length_cons]; omega
  have ls : (sv'.reverse).length ≤ 1000 := by rw [List.length_reverse]; omega
  have lb : (((b0 :: bs').map Value.bool).reverse).length ≤ 1000 := by simp only [List.length_reverse, List.length_map, List.length_cons]; omega
  refine wpAny_execs_cons (br_pop X S5 lr ls lb (fun s' S' => S'.absorb) fun s6 S6 => ?_)
  have hpart : (m3 m1 (.ref a1) v1 (.bool b1)) "part" = some (.ref a1) := if_pos rfl
  have hstart : (m3 m1 (.ref a1) v1 (.bool b1)) "start" = some v1 := by show (if _ then _ else _) = _; rw [if_neg (by decide), if_pos rfl]
  have hagain : (m3 m1 (.ref a1) v1 (.bool b1)) "again" = some (.bool b1) := by show (if _ then _ else _) = _; rw [if_neg (by decide), if_neg (by decide), if_pos rfl]
  have hop' : (m3 m1 (.ref a1) v1 (.bool b1)) "op" = some (.int (x.fmod 8) t) := by show (if _ then _ else _) = _; rw [if_neg (by decide), if_neg (by decide), if_neg (by decide)]; exact hop
  have hy' : (m3 m1 (.ref a1) v1 (.bool b1)) "y" = some (.int y u) := by show (if _ then _ else _) = _; rw [if_neg (by decide), if_neg (by decide), if_neg (by decide)]; exact hy
  generalize (m3 m1 (.ref a1) v1 (.bool b1)) = m6 at S6 hpart hstart hagain hop' hy'
  have lr0 : ((r.map fun p => Value.ref p.1).reverse).length ≤ 1000 := by simp only [List.length_reverse, List.length_map]; omega
  have lb0 : ((bs'.map Value.bool).reverse).length ≤ 1000 := by simp only [List.length_reverse, List.length_map]; omega
  have S7 := S6.re (rev1 (fun p => Value.ref p.1) (a0, xs) r) rfl (rev1 Value.bool b0 bs') rfl
  refine execs_one (if_ ?_)
  show wpAny _ _ (isTrue (.BoolOp .And [.Compare (.Name "op" _) [.Eq] [.Constant (.int 7) 0 _] _, .Name "again" _, .Compare (.Call (.Name "len" _) [.Name "leaves" _] [] _) [.Lt] [.Constant (.int 40) 0 _] _] _) _ _) _ _ _
  refine wpAny_isTrue_BoolOp (wpAny_allTrue_And_cons (wpAny_isTrue_Compare1 (ldL look_op S7.ns hop' (kInt (PyProof.Rows.eq_int (wpAny_truthy_bool ?_))))))
  have S8 := S7.toks (s6.toks + 1)
  split
  · refine wpAny_allTrue_And_cons (wpAny_isTrue_value (ldL look_again S8.ns hagain (wpAny_truthy_bool ?_)))
    cases b1 with
    | false => exact lay_ok X I hi hpart hagain hy' S8 h
    | true =>
      rw [if_pos rfl]
      refine wpAny_allTrue_And_cons (wpAny_isTrue_Compare1 (do_len (S8.g X) look_leaves S8.ns S8.hm.2.2.2 S8.sh.hV (by omega) fun t' => kInt (PyProof.Rows.lt_int (wpAny_truthy_bool ?_))))
      have S9 := (S8.toks (s6.toks + 1 + 1 + 1)).toks (s6.toks + 1 + 1 + 1 + 1)
      split
      · rename_i hlt
        rw [decide_eq_true_eq] at hlt
        refine wpAny_allTrue_And_nil ?_
        rw [if_pos rfl]
        obtain ⟨⟨st, hst⟩, hstarts⟩ := I.starts
        obtain ⟨f1, f2, f3⟩ := I.flags
        obtain ⟨g1, g2⟩ := f1 rfl
        have g1' : x1.own = [] := g1
        have g2' : x1.ogs = [] := g2
        have v1eq : m6 "start" = some (.int (flp ((a0, xs) :: r)).length st) := by rw [hstart, hst]
        have hv1 : (xs.snoc (.seq a1 false x1)).vals.length = xs.vals.length + 1 := by rw [Nd.snoc_vals xs _ hxs]; simp
        have hL2 := Nd.snoc_isL xs (.seq a1 false x1) hxs
        refine br_twice X S9 hpart v1eq g1' g2' lr0 (by omega) (by omega) (fun s10 V' m10 S10 => ?_) (by omega)
        refine h s10 m10 _ (b0 :: bs') V' sv' _ ⟨S10.re (rev1 (fun p => Value.ref p.1) (a0, (xs.snoc (.seq a1 false x1)).snoc (.seq a1 false x1)) r).symm rfl (rev1 Value.bool b0 bs').symm rfl, ?_, ⟨fun q => ?_, f3⟩, ?_, ?_, by simp, ?_, fun p hp => ?_, ?_⟩
        · cases sv' with
          | nil => exact hstarts.elim
          | cons v0 sv' => exact hstarts
        · obtain ⟨g3, g4⟩ := f2 q
          have g3' : xs.own = [] := g3
          have g4' : xs.ogs = [] := g4
          have e1 : (Nd.seq a1 false x1).own = [] := g1'
          have e2 : (Nd.seq a1 false x1).ogs = [] := g2'
          show ((xs.snoc (.seq a1 false x1)).snoc (.seq a1 false x1)).own = [] ∧ ((xs.snoc (.seq a1 false x1)).snoc (.seq a1 false x1)).ogs = []
          rw [Nd.snoc_own _ _ hL2, Nd.snoc_ogs _ _ hL2, Nd.snoc_own xs _ hxs, Nd.snoc_ogs xs _ hxs, g3', g4', e1, e2]
          exact ⟨rfl, rfl⟩
        · obtain ⟨d1, d2, d3⟩ := I.dps
          have d1' : x1.dp + 2 * (r.length + 1) ≤ 22 := d1
          have d2' : xs.dp + 2 * r.length ≤ 22 := d2
          have dq : (Nd.seq a1 false x1).dp = x1.dp + 1 := rfl
          have k1 : (xs.snoc (.seq a1 false x1)).dp ≤ 22 - 2 * r.length := Nd.snoc_dp xs _ _ hxs (by omega) (by omega)
          have k2 : ((xs.snoc (.seq a1 false x1)).snoc (.seq a1 false x1)).dp ≤ 22 - 2 * r.length := Nd.snoc_dp _ _ _ hL2 k1 (by omega)
          exact ⟨by show ((xs.snoc (.seq a1 false x1)).snoc (.seq a1 false x1)).dp + 2 * r.length ≤ 22; omega, d3⟩
        · have e : flp ((a0, (xs.snoc (.seq a1 false x1)).snoc (.seq a1 false x1)) :: r) = flp ((a1, x1) :: (a0, xs) :: r) ++ x1.fl := by
            show flp r ++ ((xs.snoc (.seq a1 false x1)).snoc (.seq a1 false x1)).fl = ((flp r ++ xs.fl) ++ x1.fl) ++ x1.fl
            rw [Nd.snoc_fl _ _ hL2, Nd.snoc_fl xs _ hxs]
            show flp r ++ ((xs.fl ++ x1.fl) ++ x1.fl) = _
            simp only [List.append_assoc]
          rw [e]
          refine I.sim.append ?_
          have hd := I.sim.drop (flp ((a0, xs) :: r)).length
          have he : (flp ((a1, x1) :: (a0, xs) :: r)).drop (flp ((a0, xs) :: r)).length = x1.fl := by
            show (flp ((a0, xs) :: r) ++ x1.fl).drop _ = _
            exact List.drop_left
          rw [he] at hd
          exact hd
        · simp only [List.length_cons]; omega
        · rcases List.mem_cons.mp hp with rfl | hp
          · show ((xs.snoc (.seq a1 false x1)).snoc (.seq a1 false x1)).vals.length ≤ _
            rw [Nd.snoc_vals _ _ hL2, List.length_append, hv1]
            simp only [List.length_cons, List.length_nil]; omega
          · have := I.szs p (by simp [hp]); omega
        · rw [List.length_append, List.length_drop]; omega
      · exact lay_ok X I hi hpart hagain hy' S9 h
  · exact lay_ok X I hi hpart hagain hy' S8 h

set_option maxHeartbeats 1000000 in
theorem turn_ok {Q : Flow → Shared → Prop} {i : Nat} (X : Env0 A F fa la cd lcd h₀) (I : Inv fa cd F i m ps bs V sv lvs s) (hi : i < 40) {x : Int} {tx ti : Tok} (hx : m "x" = some (.int x tx)) (hii : m "i" = some (.int i ti))
    (h : ∀ s' m' ps' bs' V' sv' lvs', Inv fa cd F (i + 1) m' ps' bs' V' sv' lvs' s' → Q .next s') : wpAny (model prog w) A (execs turn (lenv a lc F.L)) Q E s := by
  rw [turn_eq]
  have I0 := I
  refine wpAny_execs_cons (do_opy X I.st hx hii fun s1 y t u S1 => ?_)
  generalize hm1 : (fun z => if z = Str.ofString "op" then some (Value.int (x.fmod 8) t) else if z = Str.ofString "y" then some (Value.int y u) else m z) = m1 at S1
  have hop : m1 "op" = some (.int (x.fmod 8) t) := by rw [← hm1]; exact if_pos rfl
  have hy : m1 "y" = some (.int y u) := by rw [← hm1]; show (if _ then _ else _) = _; rw [if_neg (by decide), if_pos rfl]
  have I1 : Inv fa cd F i m1 ps bs V sv lvs s1 := ⟨S1, I.starts, I.flags, I.dps, I.sim, I.ne, I.len, I.szs, I.lsz⟩
  clear I0 I hm1
  have I := I1
  have hlsz := I.lsz
  have hlen := I.len
  refine execs_one ?_
  refine if_ (test_lt look_op S1.ns hop ?_)
  have S2 := S1.toks (s1.toks + 1)
  split
  · -- a leaf
    cases ps with
    | nil => exact (I.ne rfl).elim
    | cons p r =>
      obtain ⟨a0, xs⟩ := p
      have hsz : xs.vals.length ≤ 2 * i := I.szs (a0, xs) (by simp)
      have hxs : xs.isL := (I.st.sh.part (a0, xs) (by simp)).2
      refine br_leaf X (S2.re (rev1 (fun p => Value.ref p.1) (a0, xs) r) rfl rfl rfl) hy ?_ (by omega) (by omega) fun s3 v v' hv hvv S3 => ?_
      · simp only [List.length_reverse, List.length_map, List.length_cons] at hlen ⊢; omega
      · refine h s3 m1 _ bs V sv _ ⟨S3.re (rev1 (fun p => Value.ref p.1) (a0, xs.snoc (.leaf v)) r).symm rfl rfl rfl, ?_, ?_, ?_, ?_, by simp, hlen, fun p hp => ?_, ?_⟩
        · have q := I.starts
          cases sv with
          | nil => exact q.elim
          | cons v0 sv' => exact q
        · have q := I.flags
          cases bs with
          | nil => exact q.elim
          | cons b bs' =>
            refine ⟨fun hb => ?_, q.2⟩
            obtain ⟨q1, q2⟩ := q.1 hb
            have q1' : xs.own = [] := q1
            have q2' : xs.ogs = [] := q2
            show (xs.snoc (.leaf v)).own = [] ∧ (xs.snoc (.leaf v)).ogs = []
            rw [Nd.snoc_own xs _ hxs, Nd.snoc_ogs xs _ hxs, q1', q2']; exact ⟨rfl, rfl⟩
        · obtain ⟨q1, q2⟩ := I.dps
          have q1' : xs.dp + 2 * r.length ≤ 22 := q1
          have : (xs.snoc (.leaf v)).dp ≤ xs.dp := Nd.snoc_dp xs _ _ hxs (Nat.le_refl _) (Nat.zero_le _)
          exact ⟨by show (xs.snoc (.leaf v)).dp + 2 * r.length ≤ 22; omega, q2⟩
        · have e : flp ((a0, xs.snoc (.leaf v)) :: r) = flp ((a0, xs) :: r) ++ [v] := by
            show flp r ++ (xs.snoc (.leaf v)).fl = (flp r ++ xs.fl) ++ [v]
            rw [Nd.snoc_fl xs _ hxs, List.append_assoc]; rfl
          rw [e]; exact I.sim.append (.cons hvv .nil)
        · rcases List.mem_cons.mp hp with rfl | hp
          · show (xs.snoc (.leaf v)).vals.length ≤ _
            rw [Nd.snoc_vals xs _ hxs, List.length_append]
            simp only [List.length_cons, List.length_nil]; omega
          · have := I.szs p (by simp [hp]); omega
        · rw [List.length_append]; simp only [List.length_cons, List.length_nil]; omega
  · refine execs_one ?_
    refine if_ (test_lt look_op S2.ns hop ?_)
    have S3 := S2.toks (s1.toks + 1 + 1)
    have hsvlen := I.starts.len
    have hbslen := I.flags.len
    split
    · refine execs_one ?_
      refine if_ ?_
      show wpAny _ _ (isTrue (.Compare (.Call (.Name "len" _) [.Name "heaps" _] [] _) [.Lt] [.Constant (.int 12) 0 _] _) _ _) _ _ _
      refine wpAny_isTrue_Compare1 (do_len (S3.g X) look_heaps S3.ns S3.hm.1 S3.sh.hH (by rw [I.hlen]; omega) fun t' => kInt (PyProof.Rows.lt_int (wpAny_truthy_bool ?_)))
      have S4 := (S3.toks (s1.toks + 1 + 1 + 1 + 1)).toks (s1.toks + 1 + 1 + 1 + 1 + 1)
      split
      · rename_i hlt
        rw [I.hlen, decide_eq_true_eq] at hlt
        have hlt' : ps.length < 12 := by omega
        refine br_open X S4 (by rw [I.hlen]; omega) (by rw [List.length_reverse, hsvlen]; omega) (by rw [List.length_reverse, List.length_map, hbslen]; omega) (by omega) fun s5 a1 t5 S5 => ?_
        refine h s5 m1 ((a1, .nil) :: ps) (true :: bs) V (.int lvs.length t5 :: sv) lvs ⟨S5.re (rev1 (fun p => Value.ref p.1) (a1, Nd.nil) ps).symm (by simp) (rev1 Value.bool true bs).symm rfl, ⟨⟨t5, ?_⟩, I.starts⟩, ⟨fun _ => ⟨rfl, rfl⟩, I.flags⟩, ⟨?_, I.dps⟩, ?_, by simp, ?_, fun p hp => ?_, by omega⟩
        · rw [← I.sim.length]
        · show 0 + 2 * ps.length ≤ 22; omega
        · show Sims (flp ps ++ []) lvs
          rw [List.append_nil]; exact I.sim
        · simp only [List.length_cons]; omega
        · rcases List.mem_cons.mp hp with rfl | hp
          · exact Nat.zero_le _
          · have := I.szs p hp; omega
      · exact wpAny_execs_nil (h _ m1 ps bs V sv lvs (I.idle S4))
    · refine execs_one ?_
      refine if_ ?_
      show wpAny _ _ (isTrue (.Compare (.Call (.Name "len" _) [.Name "heaps" _] [] _) [.Gt] [.Constant (.int 1) 0 _] _) _ _) _ _ _
      refine wpAny_isTrue_Compare1 (do_len (S3.g X) look_heaps S3.ns S3.hm.1 S3.sh.hH (by rw [I.hlen]; omega) fun t' => kInt (PyProof.Rows.gt_int (wpAny_truthy_bool ?_)))
      have S4 := (S3.toks (s1.toks + 1 + 1 + 1 + 1)).toks (s1.toks + 1 + 1 + 1 + 1 + 1)
      split
      · rename_i hlt
        rw [I.hlen, decide_eq_true_eq] at hlt
        have hlt' : 1 < ps.length := by omega
        have ex : ∃ a1 x1 a0 xs r b1 b0 bs' v1 sv', ps = (a1, x1) :: (a0, xs) :: r ∧ bs = b1 :: b0 :: bs' ∧ sv = v1 :: sv' := three_of hlt' hbslen hsvlen
        clear hlsz hlen hsvlen hbslen hlt hlt'
        obtain ⟨a1, x1, a0, xs, r, b1, b0, bs', v1, sv', rfl, rfl, rfl⟩ := ex
        exact pop_ok X ⟨S4, I.starts, I.flags, I.dps, I.sim, I.ne, I.len, I.szs, I.lsz⟩ hi hop hy h
      · exact wpAny_execs_nil (h _ m1 ps bs V sv lvs (I.idle S4))
end
end Mine

namespace Mine
open PySem PySem.W PySem.Calls PyProof.Rows

def Fix.withE (F : Fix) (eo : Addr → Option Obj) : Fix := { F with eo := eo }
def Fix.down (F : Fix) (hC : Heap) : Fix := { F with hB := hC, E := [], eo := fun _ => none }

section
variable {fa : Addr} {cd : Value} {F : Fix} {ps : List (Addr × Nd)} {lo : List Nd} {V : Addr} {hs svs bvs lvs : List Value} {s s' : Shared}

/-- what turns beside the building has turned -/
theorem Shape.moveE {O : Addr → Prop} {G : Nat → Prop} {eo : Addr → Option Obj} (S : Shape fa cd F ps lo V hs svs bvs lvs s) (hF : F.Low) (C : Chg O G s s') (hO : ∀ b, O b → b ∈ F.E) (hG : ∀ g x, s.gens[g]? = some x → ¬ G g) (hB : Bd s s' [] [])
    (hx : ∀ b ∈ F.E, ∃ o, s'.heap.get? b = some o ∧ eo b = some o ∧ NotSeq o) : Shape fa cd (F.withE eo) ps lo V hs svs bvs lvs s' := by
  have hN : ∀ b o, O b → s.heap.get? b = some o → NotSeq o := fun b o h e => by
    obtain ⟨o', e', _, ns⟩ := S.ex b (hO b h)
    rw [e] at e'; cases e'; exact ns
  have lk : ∀ {a : Addr} {vs : List Value}, LL s.heap a vs → LL s'.heap a vs := fun {a vs} x => by
    refine x.at fun o e => C.heap _ o (fun h => x.notNS e (hN _ o h e)) e
  refine ⟨lk S.hH, lk S.hS, lk S.hP, lk S.hV, S.mu, fun p hp => ⟨lk (S.part p hp).1, (S.part p hp).2⟩, S.lowV, S.low, fun t ht => ?_, S.own, S.ogs, fun b o nb e => ?_, fun b e => ?_, hx, C.os.trans S.os, ?_⟩
  · obtain ⟨h1, h2, h3⟩ := S.tree t ht
    refine ⟨h1.chg C hN t 0 (fun b hb h => by obtain ⟨o, q⟩ := hF.E b (hO b h); rw [h2 b hb] at q; cases q) (fun g hg h => ?_), h2, h3⟩
    obtain ⟨x, e⟩ := h1.ogs t 0 g hg
    exact hG g x e h
  · refine C.heap b o (fun h => nb ?_) (S.keep b o nb e)
    exact List.mem_cons_of_mem _ (List.mem_cons_of_mem _ (List.mem_cons_of_mem _ (List.mem_cons_of_mem _ (List.mem_cons_of_mem _ (List.mem_cons_of_mem _ (hO b h))))))
  · rcases C.new e with q | q
    · obtain ⟨o, e', _⟩ := hx b (hO b q)
      rw [e] at e'; cases e'
    · exact S.mapped b q
  · have := hB (fun _ => False) (fun x y e b => (S.gens x y e b).elim)
    exact fun x y e b => (this x y e b).elim id fun h => nomatch h

structure Under (F : Fix) (hC : Heap) : Prop where
  sub : ∀ b o, b ≠ F.L → hC.get? b = some o → F.hB.get? b = some o
  out : ∀ b ∈ F.H :: F.S :: F.P :: F.V0 :: F.a0 :: F.E, hC.get? b = none
  L : ∃ o, hC.get? F.L = some o

/-- the loop is left -/
theorem Shape.leave {it : Addr} {hC h' : Heap} (S : Shape fa cd F ps lo V hs svs bvs lvs s) (hF : F.Low) (U : Under F hC) (hit : it ∈ F.E) (hx : Heap.ExtBut it s.heap h') (hL : h'.get? F.L ≠ none) :
    Shape fa cd (F.down hC) ps lo V hs svs bvs lvs { s with heap := h' } := by
  obtain ⟨oi, ei, _, nsi⟩ := S.ex it hit
  have C : Chg (fun b => b = it) (fun _ => False) s { s with heap := h' } := chg_ext s.toks hx
  have hN : ∀ b o, b = it → s.heap.get? b = some o → NotSeq o := by rintro b o rfl e; rw [ei] at e; cases e; exact nsi
  have lk : ∀ {a : Addr} {vs : List Value}, LL s.heap a vs → LL h' a vs := fun {a vs} x => by
    refine x.at fun o e => C.heap _ o (fun h => x.notNS e (hN _ o h e)) e
  have nn : ∀ {x : Addr}, F.hB.get? x = none → hC.get? x = none := fun {x} e => by
    cases z : hC.get? x with
    | none => rfl
    | some o =>
      by_cases hx : x = F.L
      · obtain ⟨o', q⟩ := hF.L
        rw [hx, q] at e; cases e
      · rw [U.sub x o hx z] at e; cases e
  have kp : ∀ b o, b ≠ F.L → hC.get? b = some o → h'.get? b = some o := fun b o nb e => by
    have e' := U.sub b o nb e
    have nb' : b ∉ F.H :: F.S :: F.P :: F.V0 :: F.a0 :: F.E := fun h => by rw [U.out b h] at e; cases e
    have nit : b ≠ it := fun h => nb' (by subst h; exact List.mem_cons_of_mem _ (List.mem_cons_of_mem _ (List.mem_cons_of_mem _ (List.mem_cons_of_mem _ (List.mem_cons_of_mem _ hit)))))
    exact hx b o nit (S.keep b o (fun h => by
      rcases List.mem_cons.mp h with h | h
      · exact nb h
      · exact nb' h) e')
  refine ⟨lk S.hH, lk S.hS, lk S.hP, lk S.hV, S.mu, fun p hp => ⟨lk (S.part p hp).1, (S.part p hp).2⟩, S.lowV.imp id nn, fun p hp => (S.low p hp).imp id nn, fun t ht => ?_, S.own, S.ogs, fun b o nb e => kp b o (fun h => nb (h ▸ .head _)) e, fun b e => ?_, (fun b hb => nomatch hb), S.os, S.gens⟩
  · obtain ⟨h1, h2, h3⟩ := S.tree t ht
    refine ⟨h1.chg C hN t 0 (fun b hb h => ?_) (fun _ _ h => h), fun b hb => nn (h2 b hb), h3⟩
    have h' : b = it := h
    subst h'
    obtain ⟨o, q⟩ := hF.E b hit
    rw [h2 b hb] at q; cases q
  · cases z : hC.get? b with
    | none => exact z
    | some o =>
      by_cases hb : b = F.L
      · subst hb; exact absurd e hL
      · have q := kp b o hb z
        have e' : h'.get? b = none := e
        rw [e'] at q; cases q
end

section
variable {prog : Program} {w : World} {A : Around} {E : Value → Shared → Prop} {s : Shared} {a : Addr} {lc : Value} {m : Str → Option Value} {fa la : Addr} {cd lcd : Value} {F : Fix} {h₀ : Heap}
  {ps : List (Addr × Nd)} {lo : List Nd} {V : Addr} {hs svs bvs lvs sv : List Value} {bs : List Bool}

theorem isLI_notSeq {h : Heap} {it l : Addr} {i : Nat} (x : h.IsListIter it l i) : ∃ o, h.get? it = some o ∧ NotSeq o := by
  obtain ⟨o, e, _, d⟩ := x
  exact ⟨o, e, fun its n q => by rw [d] at q; cases q⟩

theorem Inv.mono {i j : Nat} (I : Inv fa cd F i m ps bs V sv lvs s) (h : i ≤ j) : Inv fa cd F j m ps bs V sv lvs s :=
  ⟨I.st, I.starts, I.flags, I.dps, I.sim, I.ne, I.len, fun p hp => by have := I.szs p hp; omega, by have := I.lsz; omega⟩

/-- the loop over the script -/
theorem for_ok {R : Result → Shared → Prop} {pi px pt : Pos} {kx : Nat} {e it l : Addr} {items : Array Value} {hC : Heap} (X : Env0 A F fa la cd lcd h₀) (U : Under F hC) (hE : F.E = [e, it]) (hne : e ≠ it)
    (hint : ∀ (j : Nat) v, items[j]? = some v → ∃ x t, v = Value.int x t) (h40 : items.size ≤ 40) (hl : F.hB.IsList l items) (hlx : l ∉ F.L :: F.H :: F.S :: F.P :: F.V0 :: F.a0 :: F.E)
    (he : IsEnum s.heap e it 0 .none) (hit : s.heap.IsListIter it l 0) (I : Inv fa cd F 0 m ps bs V sv lvs s)
    (hR : ∀ s' m' ps' bs' V' sv' lvs', Inv fa cd (F.down hC) 40 m' ps' bs' V' sv' lvs' s' → R (.ok .next) s') :
    codeAny (model prog w) A (.forLoop (.Tuple [.Name "i" pi, .Name "x" px] kx pt) (.ref e) turn [] (lenv a lc F.L)) R s := by
  refine codeAny_forLoop_any (fun k s' => ∃ i eo m ps bs V sv lvs old, Inv fa cd (F.withE eo) i m ps bs V sv lvs s' ∧ IsEnum s'.heap e it ((i : Nat) : Int) old ∧ s'.heap.IsListIter it l i ∧ i ≤ items.size ∧ k = items.size + 1 - i) ?_ (items.size + 1)
    ⟨0, F.eo, m, ps, bs, V, sv, lvs, .none, I, he, hit, Nat.zero_le _, rfl⟩
  rintro k s ⟨i, eo, m, ps, bs, V, sv, lvs, old, I, he, hit, hi, rfl⟩
  have X' : Env0 A (F.withE eo) fa la cd lcd h₀ := ⟨⟨X.low.L, X.low.E, X.low.LE⟩, X.base, X.g, X.hh, X.dp⟩
  have hl' : s.heap.IsList l items := hl.at fun o q => I.st.sh.keep l o hlx q
  cases hv : items[i]? with
  | none =>
    refine wpAny_pyNext_enum_end X.hh he hit hl' hv fun h₁ hx₁ => wpAny_execs_nil ?_
    have hnL : it ≠ F.L := fun q => X.low.LE (by rw [hE, ← q]; simp)
    have hns := I.st.ns.extBut hx₁ (Ne.symm hnL)
    have I' := I.mono (j := 40) (Nat.le_trans hi h40)
    refine hR _ m ps bs V sv lvs ⟨⟨I'.st.sh.leave X'.low ⟨U.sub, U.out, U.L⟩ (it := it) (by show it ∈ F.E; rw [hE]; simp) hx₁ (mapped_ns hns), hns, I'.st.hm⟩, I'.starts, I'.flags, I'.dps, I'.sim, I'.ne, I'.len, I'.szs, I'.lsz⟩
  | some v =>
    have hlt : i < items.size := (Array.getElem?_eq_some_iff.mp hv).1
    obtain ⟨x, tx, rfl⟩ := hint i v hv
    refine wpAny_pyNext_enum_item he hit hl' hv hne fun h₁ heo hit₁ ht₁ hz₁ hk₁ => ?_
    refine wpAny_letOwnedTupleGo_enum heo fun h₂ he₂ hs₂ => ?_
    replace hs₂ : Heap.SameBut e h₁ h₂ := hs₂
    have hit₂ : h₂.IsListIter it l (i + 1) := hit₁.at fun o q => (hs₂.2 it (Ne.symm hne)).trans q
    have C : Chg (fun b => b = e ∨ b = it) (fun _ => False) s { s with heap := h₂, toks := s.toks + 1 } := ⟨fun b o nb q => (hs₂.2 b fun z => nb (.inl z)).trans (hk₁ b o (fun z => nb (.inl z)) (fun z => nb (.inr z)) q), fun _ _ _ q => q, rfl⟩
    have Sh₂ := I.st.sh.moveE X'.low (eo := fun b => h₂.get? b) C (fun b hb => by
        show b ∈ F.E
        rw [hE]; rcases hb with rfl | rfl <;> simp) (fun _ _ _ h => h) (Bd.same [] rfl) (fun b hb => by
        have hb' : b ∈ F.E := hb
        rw [hE] at hb'
        simp only [List.mem_cons, List.not_mem_nil, or_false] at hb'
        rcases hb' with rfl | rfl
        · exact ⟨_, he₂, he₂, fun its n q => by cases q⟩
        · obtain ⟨o, q, ns⟩ := isLI_notSeq hit₂
          exact ⟨o, q, q, ns⟩)
    have hLe : F.L ≠ e ∧ F.L ≠ it := ⟨fun q => X.low.LE (by rw [hE, q]; simp), fun q => X.low.LE (by rw [hE, q]; simp)⟩
    have ns₂ : h₂.Ns F.L m := I.st.ns.at fun o q => C.heap F.L o (fun z => z.elim hLe.1 hLe.2) q
    have St₂ : Stt fa cd (F.withE fun b => h₂.get? b) m ps [] V _ _ _ lvs { s with heap := h₂, toks := s.toks + 1 } := ⟨Sh₂, ns₂, I.st.hm⟩
    have X₂ : Env0 A (F.withE fun b => h₂.get? b) fa la cd lcd h₀ := ⟨⟨X.low.L, X.low.E, X.low.LE⟩, X.base, X.g, X.hh, X.dp⟩
    have hzs : s.heap.objs.size ≠ e := Ne.symm (Nat.ne_of_lt (Heap.lt_size he))
    have ht₂ : ({ s with heap := h₂, toks := s.toks + 1 } : Shared).heap.IsTuple s.heap.objs.size #[.int i s.toks, .int x tx] := ⟨_, (hs₂.2 _ hzs).trans ht₁, rfl, _, rfl⟩
    refine wpAny_assign_Tuple X.hh ht₂ rfl rfl fun h₃ hx₃ => ?_
    have St₃ := St₂.grow X₂ (s' := { s with heap := h₃, toks := s.toks + 1 }) ⟨ext_all (s := { s with heap := h₂, toks := s.toks + 1 }) hx₃, rfl, rfl⟩
    show wpAny _ A (do holding [.int x tx] (assign (.Name "i" pi) (lenv a lc F.L) (.int i s.toks)); do holding [] (assign (.Name "x" px) (lenv a lc F.L) (.int x tx)); pure ()) _ _ _
    refine wpAny_bind (wpAny_holding ?_)
    rw [PySem.assign_Name]
    refine wpAny_bind (wpAny_standAt (bind_name (F := F.withE fun b => h₂.get? b) X₂ St₃ look_i (by decide) (by decide) (by decide) (by decide) fun s₄ St₄ _ => ?_))
    refine wpAny_bind (wpAny_holding ?_)
    rw [PySem.assign_Name]
    refine wpAny_bind (wpAny_standAt (bind_name (F := F.withE fun b => h₂.get? b) X₂ St₄ look_xx (by decide) (by decide) (by decide) (by decide) fun s₅ St₅ _ => wpAny_pure ?_))
    refine turn_ok (F := F.withE fun b => h₂.get? b) X₂ (i := i) ⟨St₅, I.starts, I.flags, I.dps, I.sim, I.ne, I.len, I.szs, I.lsz⟩ (by omega) (x := x) (tx := tx) (ti := s.toks) (if_pos rfl) ?_ fun s₆ m₆ ps₆ bs₆ V₆ sv₆ lvs₆ I₆ => ?_
    · show (if _ then _ else _) = _
      rw [if_neg (by decide)]
      exact if_pos rfl
    · refine ⟨items.size + 1 - (i + 1), by omega, i + 1, _, m₆, ps₆, bs₆, V₆, sv₆, lvs₆, .int x tx, I₆, ?_, ?_, hlt, rfl⟩
      · obtain ⟨o, q1, q2, _⟩ := I₆.st.sh.ex e (by show e ∈ F.E; rw [hE]; simp)
        have q2' : h₂.get? e = some o := q2
        rw [he₂] at q2'
        cases q2'
        have : (((i + 1 : Nat) : Int)) = (i : Int) + 1 := by omega
        rw [this]
        exact q1
      · obtain ⟨o, q1, q2, _⟩ := I₆.st.sh.ex it (by show it ∈ F.E; rw [hE]; simp)
        have q2' : h₂.get? it = some o := q2
        obtain ⟨o', q3, q4⟩ := hit₂
        rw [q3] at q2'; cases q2'
        exact ⟨o, q1, q4⟩
end
end Mine

namespace Mine
open PySem PySem.W PySem.Calls PyProof.Rows

structure WInv (fa : Addr) (cd : Value) (F : Fix) (m : Str → Option Value) (ps : List (Addr × Nd)) (V : Addr) (svs bvs lvs : List Value) (s : Shared) : Prop where
  st : Stt fa cd F m ps [] V (ps.map fun p => Value.ref p.1).reverse svs bvs lvs s
  dps : DpOk ps
  sim : Sims (flp ps) lvs
  ne : ps ≠ []
  len : ps.length ≤ 12
  szs : ∀ p ∈ ps, p.2.vals.length + ps.length ≤ 100
  lsz : lvs.length ≤ 120

theorem two_of {ps : List (Addr × Nd)} (h : 1 < ps.length) : ∃ a1 x1 a0 xs r, ps = (a1, x1) :: (a0, xs) :: r := by
  match ps, h with
  | (a1, x1) :: (a0, xs) :: r, _ => exact ⟨a1, x1, a0, xs, r, rfl⟩
theorem one_of {ps : List (Addr × Nd)} (h : ps ≠ []) (h' : ps.length ≤ 1) : ∃ a0 xs, ps = [(a0, xs)] := by
  match ps, h, h' with
  | [], h, _ => exact (h rfl).elim
  | [(a0, xs)], _, _ => exact ⟨a0, xs, rfl⟩
  | _ :: _ :: r, _, h' => exact absurd h' (by simp)

def whT : Expr := match lawSt 2 with | .While t _ _ _ => t | _ => .Constant .none 0 default
def whB : List Stmt := match lawSt 2 with | .While _ b _ _ => b | _ => []
def whP : Pos := match lawSt 2 with | .While _ _ _ p => p | _ => default
theorem while_eq : lawSt 2 = .While whT whB [] whP := rfl

section
variable {prog : Program} {w : World} {A : Around} {E : Value → Shared → Prop} {s : Shared} {a : Addr} {lc : Value} {m : Str → Option Value} {fa la : Addr} {cd lcd : Value} {F : Fix} {h₀ : Heap}
  {ps : List (Addr × Nd)} {lo : List Nd} {V : Addr} {hs svs bvs lvs sv : List Value} {bs : List Bool}

theorem while_ok {Q : Flow → Shared → Prop} (X : Env0 A F fa la cd lcd h₀) (I : WInv fa cd F m ps V svs bvs lvs s)
    (h : ∀ s' m' a0 xs, WInv fa cd F m' [(a0, xs)] V svs bvs lvs s' → Q .next s') : wpAny (model prog w) A (exec (lawSt 2) (lenv a lc F.L)) Q E s := by
  rw [while_eq]
  refine wpAny_While (codeAny_whileLoop (fun n s' => ∃ m ps, WInv fa cd F m ps V svs bvs lvs s' ∧ n = ps.length) ?_ ps.length ⟨m, ps, I, rfl⟩)
  rintro n s ⟨m, ps, I, rfl⟩
  have hlen := I.len
  have S0 := I.st
  show wpAny _ _ (isTrue (.Compare (.Call (.Name "len" _) [.Name "heaps" _] [] _) [.Gt] [.Constant (.int 1) 0 _] _) _ _) _ _ _
  have hl0 : ((ps.map fun p => Value.ref p.1).reverse).length = ps.length := by simp
  refine wpAny_isTrue_Compare1 (do_len (S0.g X) look_heaps S0.ns S0.hm.1 S0.sh.hH (by rw [hl0]; omega) fun t' => kInt (PyProof.Rows.gt_int (wpAny_truthy_bool ?_)))
  have S1 := (S0.toks (s.toks + 1 + 1)).toks (s.toks + 1 + 1 + 1)
  split
  · rename_i hlt
    rw [hl0, decide_eq_true_eq] at hlt
    have hlt' : 1 < ps.length := by omega
    have ex := two_of hlt'
    clear hlt hlt' S0 hl0
    obtain ⟨a1, x1, a0, xs, r, rfl⟩ := ex
    have hlenr : r.length + 2 ≤ 12 := hlen
    have hxs : xs.isL := (I.st.sh.part (a0, xs) (by simp)).2
    have S2 := S1.re (rev1 (fun p => Value.ref p.1) (a1, x1) ((a0, xs) :: r)) rfl rfl rfl
    have lr : ((((a0, xs) :: r).map fun p => Value.ref p.1).reverse).length ≤ 100000 := by simp only [List.length_reverse, List.length_map, List.length_cons]; omega
    have lr0 : ((r.map fun p => Value.ref p.1).reverse).length ≤ 1000 := by simp only [List.length_reverse, List.length_map]; omega
    have hsz : xs.vals.length + (r.length + 2) ≤ 100 := I.szs (a0, xs) (by simp)
    show wpAny _ _ (execs [.Assign [.Name "part" _] (.Call (.Attribute (.Name "heaps" _) "pop" _) [] [] _) _, .Expr (.Call (.Attribute (topE _ _ _ _) "append" _) [.Name "part" _] [] _) _] _) _ _ _
    refine wpAny_execs_cons (wpAny_Assign_Name (do_pop look_heaps S2.ns S2.hm.1 S2.sh.hH lr rfl fun hp1 l1 sb1 => ?_) (by rfl))
    have S3 : Stt fa cd F m ((a1, x1) :: (a0, xs) :: r) [] V (((a0, xs) :: r).map fun p => Value.ref p.1).reverse svs bvs lvs { s with heap := hp1, toks := s.toks + 1 + 1 + 1 } := ⟨S2.sh.setH sb1 l1 _, S2.ns.sameBut sb1 (ns_ne S2.ns S2.sh.hH), S2.hm⟩
    refine wpAny_storeName_local (env := lenv a lc F.L) look_part S3.ns (fun h' hn' hs' => ?_) rfl
    have S4 := S3.bind X (n := s.toks + 1 + 1 + 1 + 1) hn' hs' (by decide) (by decide) (by decide) (by decide)
    have S5 : Stt fa cd F _ ((a0, xs) :: r) [.seq a1 false x1] V ((r.map fun p => Value.ref p.1).reverse ++ [.ref a0]) svs bvs lvs _ := (⟨S4.sh.absorb, S4.ns, S4.hm⟩ : Stt fa cd F _ ((a0, xs) :: r) [.seq a1 false x1] V _ svs bvs lvs _).re (rev1 (fun p => Value.ref p.1) (a0, xs) r) rfl rfl rfl
    refine execs_one (app_part S5 rfl (if_pos rfl) lr0 (by omega) fun s6 S6 => ?_)
    refine ⟨r.length + 1, Nat.lt_succ_self _, _, (a0, xs.snoc (.seq a1 false x1)) :: r, ⟨S6.re (rev1 (fun p => Value.ref p.1) (a0, xs.snoc (.seq a1 false x1)) r).symm rfl rfl rfl, I.dps.top hxs (Nat.succ_le_succ (Nat.le_succ _)), ?_, by simp, by simp only [List.length_cons]; omega, fun p hp => ?_, I.lsz⟩, rfl⟩
    · have e : flp ((a0, xs.snoc (.seq a1 false x1)) :: r) = flp ((a1, x1) :: (a0, xs) :: r) := by
        show flp r ++ (xs.snoc (.seq a1 false x1)).fl = (flp r ++ xs.fl) ++ x1.fl
        rw [Nd.snoc_fl xs _ hxs, List.append_assoc]; rfl
      rw [e]; exact I.sim
    · rcases List.mem_cons.mp hp with rfl | hp
      · show (xs.snoc (.seq a1 false x1)).vals.length + (r.length + 1) ≤ 100
        rw [Nd.snoc_vals xs _ hxs, List.length_append]
        simp only [List.length_cons, List.length_nil]; omega
      · have : p.2.vals.length + (r.length + 2) ≤ 100 := I.szs p (by simp [hp])
        simp only [List.length_cons]; omega
  · rename_i hlt
    rw [hl0, decide_eq_true_eq] at hlt
    have hlt' : ps.length ≤ 1 := by omega
    have ex := one_of I.ne hlt'
    clear hlt hlt' S0 hl0
    obtain ⟨a0, xs, rfl⟩ := ex
    exact wpAny_execs_nil (h _ m a0 xs ⟨S1, I.dps, I.sim, I.ne, I.len, I.szs, I.lsz⟩)
end
end Mine

namespace Mine
open PySem PySem.W PySem.Calls PyProof.Rows

/-- what the law's first line lays -/
structure Start (h0 : Heap) (L : Addr) (m0 : Str → Option Value) (s0 : Shared) (s : Shared) : Prop where
  ex : ∃ a0 H S P V t m, s.heap.Ns L m ∧ m "heaps" = some (.ref H) ∧ m "starts" = some (.ref S) ∧ m "plain" = some (.ref P) ∧ m "leaves" = some (.ref V) ∧ m "script" = m0 "script" ∧
    LL s.heap a0 [] ∧ LL s.heap H [.ref a0] ∧ LL s.heap S [.int 0 t] ∧ LL s.heap P [.bool true] ∧ LL s.heap V [] ∧ [L, a0, H, S, P, V].Nodup ∧ ∀ b ∈ [a0, H, S, P, V], h0.get? b = none
  keep : ∀ b o, b ≠ L → h0.get? b = some o → s.heap.get? b = some o
  gens : s.gens = s0.gens
  os : s.os = s0.os

section
variable {prog : Program} {w : World} {A : Around} {E : Value → Shared → Prop} {s : Shared} {a : Addr} {lc : Value} {L : Addr} {m : Str → Option Value}

theorem LL.new (h : Heap) (vs : List Value) : LL (h.push { cls := .type "list", data := .seq vs.toArray }) h.objs.size vs := ⟨0, IsL.new ..⟩
theorem LL.push {h : Heap} {b : Addr} {vs : List Value} (x : LL h b vs) (o : Obj) : LL (h.push o) b vs := x.at fun _ e => Heap.get?_push_of_some _ e

theorem first_ok {Q : Flow → Shared → Prop} (hh : A.handled = none) (hn : s.heap.Ns L m) (h : ∀ s', Start s.heap L m s s' → Q .next s') : wpAny (model prog w) A (exec (lawSt 0) (lenv a lc L)) Q E s := by
  show wpAny _ _ (exec (.Assign [.Tuple [.Name "heaps" _, .Name "starts" _, .Name "plain" _, .Name "leaves" _] _ _] (.Tuple [.List [.List [] _] _, .List [.Constant (.int 0) 0 _] _, .List [.Constant (.bool true) 0 _] _, .List [] _] _ _) _) _) _ _ _
  refine Assign_Tuple ?_ (by rfl) (by rfl)
  refine wpAny_Tuple_spliced ?_
  have keepL : ∀ (h : Heap) (o : Obj) b o', h.get? b = some o' → (h.push o).get? b = some o' := fun h o b o' e => Heap.get?_push_of_some _ e
  refine spliced_cons (wpAny_List_spliced (spliced_cons (wpAny_List_spliced (spliced_nil ⟨Nat.zero_le _, ?_⟩))))
  have l1 := LL.new s.heap []
  have z1 : (s.heap.push { cls := .type "list", data := .seq ([] : List Value).toArray }).objs.size = s.heap.objs.size + 1 := Heap.size_push ..
  have k1 := keepL s.heap { cls := .type "list", data := .seq ([] : List Value).toArray }
  generalize (s.heap.push { cls := .type "list", data := .seq ([] : List Value).toArray }) = h1 at l1 z1 k1
  refine spliced_nil ⟨(by decide : (1 : Nat) ≤ sizeLine), ?_⟩
  have l2 := LL.new h1 [.ref s.heap.objs.size]
  have z2 : (h1.push { cls := .type "list", data := .seq ([.ref s.heap.objs.size] : List Value).toArray }).objs.size = h1.objs.size + 1 := Heap.size_push ..
  have k2 := keepL h1 { cls := .type "list", data := .seq ([.ref s.heap.objs.size] : List Value).toArray }
  generalize (h1.push { cls := .type "list", data := .seq ([.ref s.heap.objs.size] : List Value).toArray }) = h2 at l2 z2 k2
  refine spliced_cons (wpAny_List_spliced (spliced_cons (kInt (k := 0) (pos := default) (spliced_nil ⟨(by decide : (1 : Nat) ≤ sizeLine), ?_⟩))))
  have l3 := LL.new h2 [.int 0 s.toks]
  have z3 : (h2.push { cls := .type "list", data := .seq ([.int 0 s.toks] : List Value).toArray }).objs.size = h2.objs.size + 1 := Heap.size_push ..
  have k3 := keepL h2 { cls := .type "list", data := .seq ([.int 0 s.toks] : List Value).toArray }
  generalize (h2.push { cls := .type "list", data := .seq ([.int 0 s.toks] : List Value).toArray }) = h3 at l3 z3 k3
  refine spliced_cons (wpAny_List_spliced (spliced_cons (Constant_bool (k := 0) (pos := default) (spliced_nil ⟨(by decide : (1 : Nat) ≤ sizeLine), ?_⟩))))
  have l4 := LL.new h3 [.bool true]
  have z4 : (h3.push { cls := .type "list", data := .seq ([.bool true] : List Value).toArray }).objs.size = h3.objs.size + 1 := Heap.size_push ..
  have k4 := keepL h3 { cls := .type "list", data := .seq ([.bool true] : List Value).toArray }
  generalize (h3.push { cls := .type "list", data := .seq ([.bool true] : List Value).toArray }) = h4 at l4 z4 k4
  refine spliced_cons (wpAny_List_spliced (spliced_nil ⟨Nat.zero_le _, ?_⟩))
  have l5 := LL.new h4 []
  have z5 : (h4.push { cls := .type "list", data := .seq ([] : List Value).toArray }).objs.size = h4.objs.size + 1 := Heap.size_push ..
  have k5 := keepL h4 { cls := .type "list", data := .seq ([] : List Value).toArray }
  generalize (h4.push { cls := .type "list", data := .seq ([] : List Value).toArray }) = h5 at l5 z5 k5
  refine spliced_nil ⟨(by decide : (4 : Nat) ≤ sizeLine), ?_⟩
  have hlt : (L : Nat) < s.heap.objs.size := hn.lt
  have k15 : ∀ b o, s.heap.get? b = some o → h5.get? b = some o := fun b o e => k5 _ _ (k4 _ _ (k3 _ _ (k2 _ _ (k1 _ _ e))))
  generalize hh6 : h5.push { cls := .type "tuple", data := .seq [Value.ref h1.objs.size, .ref h2.objs.size, .ref h3.objs.size, .ref h4.objs.size].toArray } = h6
  have k6 : ∀ b o, h5.get? b = some o → h6.get? b = some o := fun b o e => by rw [← hh6]; exact Heap.get?_push_of_some _ e
  have ht : ({ s with heap := h6, toks := s.toks + 1 } : Shared).heap.IsTuple h5.objs.size [Value.ref h1.objs.size, .ref h2.objs.size, .ref h3.objs.size, .ref h4.objs.size].toArray := ⟨_, by rw [← hh6]; exact Heap.get?_push_size _ rfl, rfl, _, rfl⟩
  refine wpAny_assign_Tuple hh ht rfl rfl fun h7 hx7 => ?_
  have k7 : ∀ b o, h6.get? b = some o → h7.get? b = some o := ext_all (s := { s with heap := h6, toks := s.toks + 1 }) hx7
  have k17 : ∀ b o, s.heap.get? b = some o → h7.get? b = some o := fun b o e => k7 _ _ (k6 _ _ (k15 _ _ e))
  have n7 : h7.Ns L m := hn.keeps k17
  show wpAny _ _ (assignInOrder [assign (.Name "heaps" _) _, assign (.Name "starts" _) _, assign (.Name "plain" _) _, assign (.Name "leaves" _) _] [Value.ref h1.objs.size, .ref h2.objs.size, .ref h3.objs.size, .ref h4.objs.size]) _ _ _
  refine assignInOrder_cons (wpAny_assign_Name (wpAny_storeName_local (env := lenv a lc L) look_heaps n7 (fun h8 n8 s8 => ?_) rfl))
  refine assignInOrder_cons (wpAny_assign_Name (wpAny_storeName_local (env := lenv a lc L) look_starts n8 (fun h9 n9 s9 => ?_) rfl))
  refine assignInOrder_cons (wpAny_assign_Name (wpAny_storeName_local (env := lenv a lc L) look_plain n9 (fun h10 n10 s10 => ?_) rfl))
  refine assignInOrder_cons (wpAny_assign_Name (wpAny_storeName_local (env := lenv a lc L) look_leaves n10 (fun h11 n11 s11 => ?_) rfl))
  refine assignInOrder_nil ?_
  have up : ∀ b o, b ≠ L → h7.get? b = some o → h11.get? b = some o := fun b o nb e => (s11.2 b nb).trans ((s10.2 b nb).trans ((s9.2 b nb).trans ((s8.2 b nb).trans e)))
  have nl : ∀ k, s.heap.objs.size ≤ k → k ≠ L := fun k hk e => by subst e; exact absurd hlt (Nat.not_lt.mpr hk)
  have lk : ∀ {b vs}, s.heap.objs.size ≤ b → LL h5 b vs → LL h11 b vs := fun {b vs} hb x => x.at fun o e => up b o (nl b hb) (k7 _ _ (k6 _ _ e))
  refine h _ ⟨⟨s.heap.objs.size, h1.objs.size, h2.objs.size, h3.objs.size, h4.objs.size, s.toks, _, n11, ?_, ?_, ?_, ?_, ?_, lk (Nat.le_refl _) ?_, lk (by omega) ?_, lk (by omega) ?_, lk (by omega) ?_, lk (by omega) l5, ?_, ?_⟩, fun b o nb e => up b o nb (k17 b o e), rfl, rfl⟩
  · rw [if_neg (by decide), if_neg (by decide), if_neg (by decide), if_pos rfl]
  · rw [if_neg (by decide), if_neg (by decide), if_pos rfl]
  · rw [if_neg (by decide), if_pos rfl]
  · rw [if_pos rfl]
  · rw [if_neg (by decide), if_neg (by decide), if_neg (by decide), if_neg (by decide)]
  · exact l1.at fun o e => k5 _ _ (k4 _ _ (k3 _ _ (k2 _ _ e)))
  · exact l2.at fun o e => k5 _ _ (k4 _ _ (k3 _ _ e))
  · exact l3.at fun o e => k5 _ _ (k4 _ _ e)
  · exact l4.at fun o e => k5 _ _ e
  · have q0 := nl s.heap.objs.size (Nat.le_refl _)
    have q1 := nl h1.objs.size (by omega)
    have q2 := nl h2.objs.size (by omega)
    have q3 := nl h3.objs.size (by omega)
    have q4 := nl h4.objs.size (by omega)
    clear hlt nl
    simp only [List.nodup_cons, List.mem_cons, List.not_mem_nil, or_false, not_or, List.nodup_nil, not_false_eq_true, and_true]
    refine ⟨⟨Ne.symm q0, Ne.symm q1, Ne.symm q2, Ne.symm q3, Ne.symm q4⟩, ?_⟩
    have lt : ∀ {x y : Nat}, x < y → ¬ (x = y) := fun h => Nat.ne_of_lt h
    exact ⟨⟨lt (by omega), lt (by omega), lt (by omega), lt (by omega)⟩, ⟨lt (by omega), lt (by omega), lt (by omega)⟩, ⟨lt (by omega), lt (by omega)⟩, lt (by omega)⟩
  · intro b hb
    refine Heap.get?_none_of_le ?_
    simp only [List.mem_cons, List.not_mem_nil, or_false] at hb
    rcases hb with rfl | rfl | rfl | rfl | rfl <;> omega
end
end Mine

namespace Mine
open PySem PySem.W PySem.Calls PyProof.Rows

def forI : Expr := match lawSt 1 with | .For _ i _ _ _ => i | _ => .Constant .none 0 default
def forP : Pos := match lawSt 1 with | .For _ _ _ _ p => p | _ => default
theorem for_eq : ∃ p1 p2 p3, lawSt 1 = .For (.Tuple [.Name "i" p1, .Name "x" p2] 0 p3) forI turn [] forP := ⟨_, _, _, rfl⟩

section
variable {prog : Program} {w : World} {A : Around} {E : Value → Shared → Prop} {s : Shared} {a : Addr} {lc : Value} {L : Addr} {m0 : Str → Option Value} {fa la : Addr} {cd lcd : Value} {h₀ : Heap}
theorem look_script' : lawScope.names.lookup (Str.ofString "script") = some .local := look_script

/-- what the law's building gives -/
def Built (fa : Addr) (cd : Value) (L : Addr) (hC : Heap) (os : OsState) (h₀ : Heap) (s : Shared) : Prop :=
  ∃ F m a0 xs V svs bvs lvs, F.L = L ∧ F.hB = hC ∧ F.os = os ∧ F.E = [] ∧ F.Low ∧ Base h₀ F ∧ (∀ b ∈ [F.H, F.S, F.P, F.V0, F.a0], hC.get? b = none) ∧ WInv fa cd F m [(a0, xs)] V svs bvs lvs s

theorem second_ok {Q : Flow → Shared → Prop} {sc : Addr} {items : Array Value} {se : Shared} (hh : A.handled = none) (hd : A.depth + 100 < recursionLimit) (hG : LawG fa la cd lcd h₀) (hk : ∀ b o, h₀.get? b = some o → se.heap.get? b = some o)
    (hL0 : h₀.get? L = none) (hLs : ∃ o, se.heap.get? L = some o) (hsc : m0 "script" = some (.ref sc)) (hl : h₀.IsList sc items) (hint : ∀ (j : Nat) v, items[j]? = some v → ∃ x t, v = Value.int x t) (hsz : items.size ≤ 100) (hg : se.gens = #[])
    (St : Start se.heap L m0 se s) (h : ∀ s', (∃ F m ps bs V sv lvs, F.L = L ∧ F.hB = se.heap ∧ F.os = se.os ∧ F.E = [] ∧ F.Low ∧ Base h₀ F ∧ (∀ b ∈ [F.H, F.S, F.P, F.V0, F.a0], se.heap.get? b = none) ∧ Inv fa cd F 40 m ps bs V sv lvs s') → Q .next s') :
    wpAny (model prog w) A (exec (lawSt 1) (lenv a lc L)) Q E s := by
  obtain ⟨a0, H, S, P, V, t, m, hn, e1, e2, e3, e4, e5, l0, lH, lS, lP, lV, nd, fr⟩ := St.ex
  have nL : ∀ b o, h₀.get? b = some o → b ≠ L := fun b o e q => by rw [q, hL0] at e; cases e
  have k0 : ∀ b o, h₀.get? b = some o → s.heap.get? b = some o := fun b o e => St.keep b o (nL b o e) (hk b o e)
  obtain ⟨p1, p2, p3, hf⟩ := for_eq
  rw [hf]
  refine wpAny_For ?_
  show wpAny _ _ (do callWith _ (← eval (.Name "enumerate" _) (lenv a lc L)) [] (backTo _ (starEach [.Subscript (.Name "script" _) (.Slice none (some (.Constant (.int 40) 0 _)) none _) _] (lenv a lc L))) (backToKw _ (keywordEach [] (lenv a lc L)))) _ _ _
  refine wpAny_bind (ldB' (hG.keeps k0) (by decide +kernel) (v := .type "enumerate") (by simp [bltList]) ?_)
  refine PyProof.Rows.callWith_type rfl (evalArgs_plain (spliced_cons (wpAny_Subscript_list_slice (ldL look_script hn (e5.trans hsc) ?_))))
  refine evalPart_none_step ?_
  refine evalPart_some_step (kInt (k := 0) (pos := default) ?_)
  have hls : ({ s with toks := s.toks + 1 } : Shared).heap.IsList sc items := hl.at fun o e => k0 _ _ e
  refine ⟨sc, items, none, some 40, rfl, hls, Nat.le_trans hsz (by decide), .none, .int _ _, ?_⟩
  have hpick : slicePick items none (some ((40 : Nat) : Int)) none = (items.toList.take 40).toArray := slicePick_upto' items 40
  have hpick' : slicePick items none (some 40) none = (items.toList.take 40).toArray := hpick
  rw [hpick']
  generalize hh1 : s.heap.push { cls := .type "slice", data := .fields #[.none, .int 40 s.toks, .none] } = h1
  have k1 : ∀ b o, s.heap.get? b = some o → h1.get? b = some o := fun b o e => by rw [← hh1]; exact Heap.get?_push_of_some _ e
  have z1 : h1.objs.size = s.heap.objs.size + 1 := by rw [← hh1, Heap.size_push]
  have hzz : ({ s with toks := s.toks + 1 } : Shared).heap.objs.size + 1 = h1.objs.size := z1.symm
  rw [hzz]
  generalize hh2 : h1.push { cls := .type "list", data := .seq (items.toList.take 40).toArray } = h2
  have k2 : ∀ b o, h1.get? b = some o → h2.get? b = some o := fun b o e => by rw [← hh2]; exact Heap.get?_push_of_some _ e
  have z2 : h2.objs.size = h1.objs.size + 1 := by rw [← hh2, Heap.size_push]
  have hsl : h2.IsList h1.objs.size (items.toList.take 40).toArray := ⟨_, by rw [← hh2]; exact Heap.get?_push_size _ rfl, rfl, _, rfl⟩
  refine spliced_nil ?_
  refine call_enumerate_list hsl fun h3 he hit hz3 k3 => ?_
  replace k3 : ∀ b o, h2.get? b = some o → h3.get? b = some o := k3
  replace he : IsEnum h3 (h2.objs.size + 1) h2.objs.size 0 .none := he
  replace hit : h3.IsListIter h2.objs.size h1.objs.size 0 := hit
  refine wpAny_pyIter_enum (s := { s with heap := h3, toks := s.toks + 1 }) he ?_
  have k03 : ∀ b o, s.heap.get? b = some o → h3.get? b = some o := fun b o e => k3 _ _ (k2 _ _ (k1 _ _ e))
  have lk : ∀ {b vs}, LL s.heap b vs → LL h3 b vs := fun {b vs} x => x.at fun o e => k03 _ _ e
  have hn3 : h3.Ns L m := hn.keeps k03
  have lt : ∀ {b : Addr} {o : Obj}, s.heap.get? b = some o → b < s.heap.objs.size := fun e => Heap.lt_size e
  have mapd : ∀ b ∈ [L, a0, H, S, P, V], ∃ o, s.heap.get? b = some o := by
    intro b hb
    simp only [List.mem_cons, List.not_mem_nil, or_false] at hb
    rcases hb with rfl | rfl | rfl | rfl | rfl | rfl
    · obtain ⟨o, e, _⟩ := ns_notSeq hn; exact ⟨o, e⟩
    · obtain ⟨o, e, _⟩ := l0.mapped; exact ⟨o, e⟩
    · obtain ⟨o, e, _⟩ := lH.mapped; exact ⟨o, e⟩
    · obtain ⟨o, e, _⟩ := lS.mapped; exact ⟨o, e⟩
    · obtain ⟨o, e, _⟩ := lP.mapped; exact ⟨o, e⟩
    · obtain ⟨o, e, _⟩ := lV.mapped; exact ⟨o, e⟩
  have low : ∀ b ∈ [L, a0, H, S, P, V], b ≠ h1.objs.size ∧ b ≠ h2.objs.size ∧ b ≠ h2.objs.size + 1 := by
    intro b hb
    obtain ⟨o, e⟩ := mapd b hb
    have q : (b : Nat) < s.heap.objs.size := lt e
    exact ⟨Nat.ne_of_lt (Nat.lt_of_lt_of_le q (by omega)), Nat.ne_of_lt (Nat.lt_of_lt_of_le q (by omega)), Nat.ne_of_lt (Nat.lt_of_lt_of_le q (by omega))⟩
  let F : Fix := ⟨L, H, S, P, V, a0, h3, s.os, [h2.objs.size + 1, h2.objs.size], fun b => h3.get? b⟩
  obtain ⟨oit, eit, nsit⟩ := isLI_notSeq hit
  have Flow : F.Low := ⟨by obtain ⟨o, e, _⟩ := ns_notSeq hn3; exact ⟨o, e⟩, fun b hb => by
      have hb' : b ∈ [h2.objs.size + 1, h2.objs.size] := hb
      simp only [List.mem_cons, List.not_mem_nil, or_false] at hb'
      rcases hb' with rfl | rfl
      · exact ⟨_, he⟩
      · exact ⟨_, eit⟩, fun hb => by
      have hb' : L ∈ [h2.objs.size + 1, h2.objs.size] := hb
      simp only [List.mem_cons, List.not_mem_nil, or_false] at hb'
      obtain ⟨_, q1, q2⟩ := low L (.head _)
      exact hb'.elim q2 q1⟩
  have frA : ∀ b ∈ [a0, H, S, P, V], h₀.get? b = none := fun b hb => by
    cases z : h₀.get? b with
    | none => rfl
    | some o => have := hk b o z; rw [fr b hb] at this; cases this
  have h0new : ∀ b o, h₀.get? b = some o → b ≠ h2.objs.size + 1 ∧ b ≠ h2.objs.size := fun b o e => by
    have q : (b : Nat) < s.heap.objs.size := lt (k0 b o e)
    exact ⟨Nat.ne_of_lt (Nat.lt_of_lt_of_le q (by omega)), Nat.ne_of_lt (Nat.lt_of_lt_of_le q (by omega))⟩
  have hout : ∀ b o, h₀.get? b = some o → b ∉ [L, H, S, P, V, a0] := fun b o e hb => by
    simp only [List.mem_cons, List.not_mem_nil, or_false] at hb
    rcases hb with rfl | rfl | rfl | rfl | rfl | rfl
    · rw [hL0] at e; cases e
    · rw [frA _ (by simp)] at e; cases e
    · rw [frA _ (by simp)] at e; cases e
    · rw [frA _ (by simp)] at e; cases e
    · rw [frA _ (by simp)] at e; cases e
    · rw [frA _ (by simp)] at e; cases e
  have Fbase : Base h₀ F := fun b o e => ⟨k03 _ _ (k0 _ _ e), fun hb => by
    have hb' : b ∈ L :: H :: S :: P :: V :: a0 :: [h2.objs.size + 1, h2.objs.size] := hb
    have o1 := hout b o e
    obtain ⟨q1, q2⟩ := h0new b o e
    simp only [List.mem_cons, List.not_mem_nil, or_false, not_or] at hb' o1
    obtain ⟨r1, r2, r3, r4, r5, r6⟩ := o1
    rcases hb' with z | z | z | z | z | z | z | z
    · exact r1 z
    · exact r2 z
    · exact r3 z
    · exact r4 z
    · exact r5 z
    · exact r6 z
    · exact q1 z
    · exact q2 z⟩
  have X : Env0 A F fa la cd lcd h₀ := ⟨Flow, Fbase, hG, hh, hd⟩
  have ltse : ∀ b o, b ≠ L → se.heap.get? b = some o → s.heap.get? b = some o := St.keep
  have U : Under F se.heap := ⟨fun b o nb e => k03 _ _ (St.keep b o nb e), fun b hb => by
      have hb' : b ∈ H :: S :: P :: V :: a0 :: [h2.objs.size + 1, h2.objs.size] := hb
      simp only [List.mem_cons, List.not_mem_nil, or_false] at hb'
      have new : ∀ k : Nat, s.heap.objs.size ≤ k → se.heap.get? k = none := fun k hk' => by
        cases z : se.heap.get? k with
        | none => rfl
        | some o =>
          by_cases hkL : k = L
          · obtain ⟨o', e'⟩ := mapd L (.head _)
            have := lt e'
            rw [← hkL] at this
            exact absurd this (Nat.not_lt.mpr hk')
          · exact absurd (lt (St.keep k o hkL z)) (Nat.not_lt.mpr hk')
      rcases hb' with rfl | rfl | rfl | rfl | rfl | rfl | rfl
      · exact fr _ (by simp)
      · exact fr _ (by simp)
      · exact fr _ (by simp)
      · exact fr _ (by simp)
      · exact fr _ (by simp)
      · exact new _ (by omega)
      · exact new _ (by omega), hLs⟩
  simp only [List.nodup_cons, List.mem_cons, List.not_mem_nil, or_false, not_or, List.nodup_nil, not_false_eq_true, and_true] at nd
  obtain ⟨⟨d1, d2, d3, d4, d5⟩, ⟨d6, d7, d8, d9⟩, ⟨d10, d11, d12⟩, ⟨d13, d14⟩, d15⟩ := nd
  have I0 : Inv fa cd F 0 m [(a0, .nil)] [true] V [.int 0 t] [] { s with heap := h3, toks := s.toks + 1 } := by
    refine ⟨⟨⟨lk lH, lk lS, lk lP, lk lV, ?_, fun p hp => ?_, .inl rfl, fun p hp => ?_, fun t ht => ?_, ?_, ?_, fun b o _ e => e, fun b e => e, fun b hb => ?_, rfl, fun x y e _ => ?_⟩, hn3, e1, e2, e3, e4⟩, ⟨⟨t, rfl⟩, trivial⟩, ⟨fun _ => ⟨rfl, rfl⟩, trivial⟩, ⟨Nat.zero_le 22, trivial⟩, .nil, by simp, by simp, fun p hp => ?_, by simp⟩
    · show (H :: S :: P :: V :: [a0]).Nodup
      simp only [List.nodup_cons, List.mem_cons, List.not_mem_nil, or_false, not_or, List.nodup_nil, not_false_eq_true, and_true]
      exact ⟨⟨d10, d11, d12, Ne.symm d6⟩, ⟨d13, d14, Ne.symm d7⟩, ⟨d15, Ne.symm d8⟩, Ne.symm d9⟩
    · rw [List.mem_singleton.mp hp]; exact ⟨lk l0, trivial⟩
    · rw [List.mem_singleton.mp hp]; exact .inl rfl
    · have ht' : t ∈ [Nd.nil] := ht
      rw [List.mem_singleton.mp ht']; exact ⟨trivial, fun _ h => (nomatch h), fun _ h => (nomatch h)⟩
    · exact List.nodup_nil
    · exact List.nodup_nil
    · have hb' : b ∈ [h2.objs.size + 1, h2.objs.size] := hb
      simp only [List.mem_cons, List.not_mem_nil, or_false] at hb'
      rcases hb' with rfl | rfl
      · exact ⟨_, he, he, fun its n q => by cases q⟩
      · exact ⟨_, eit, eit, nsit⟩
    · have e' : s.gens[x]? = some y := e
      rw [St.gens, hg] at e'
      simp at e'
    · rw [List.mem_singleton.mp hp]; exact Nat.zero_le _
  refine for_ok (F := F) X U rfl (Nat.succ_ne_self _) (items := (items.toList.take 40).toArray) (l := h1.objs.size) (fun j v hv => ?_) (by simp; omega) (hsl.at fun o e => k3 _ _ e) (fun hb => ?_) he hit I0 fun s' m' ps' bs' V' sv' lvs' I => ?_
  · have hv' : (items.toList.take 40)[j]? = some v := by simpa using hv
    rw [List.getElem?_take] at hv'
    split at hv'
    · exact hint j v (by simpa using hv')
    · cases hv'
  · have hb' : h1.objs.size ∈ L :: H :: S :: P :: V :: a0 :: [h2.objs.size + 1, h2.objs.size] := hb
    simp only [List.mem_cons, List.not_mem_nil, or_false] at hb'
    rcases hb' with z | z | z | z | z | z | z | z
    · exact (low L (by simp)).1 z.symm
    · exact (low H (by simp)).1 z.symm
    · exact (low S (by simp)).1 z.symm
    · exact (low P (by simp)).1 z.symm
    · exact (low V (by simp)).1 z.symm
    · exact (low a0 (by simp)).1 z.symm
    · omega
    · omega
  · refine h s' ⟨F.down se.heap, m', ps', bs', V', sv', lvs', rfl, rfl, St.os, rfl, ⟨hLs, (fun b hb => nomatch hb), (fun hb => nomatch hb)⟩, fun b o e => ⟨hk b o e, fun hb => hout b o e hb⟩, fun b hb => ?_, I⟩
    have hb' : b ∈ [H, S, P, V, a0] := hb
    exact fr b (by simp only [List.mem_cons, List.not_mem_nil, or_false] at hb' ⊢; rcases hb' with z | z | z | z | z <;> simp [z])
end
end Mine

namespace Mine
open PySem PySem.W PySem.Calls PyProof.Rows

section
variable {α : Type} {M : Model} {A : Around} {E : Value → Shared → Prop} {s : Shared}
theorem wpJ_resume_fin {g : Nat} {r : Resume} {l : List Value} {k : GenResult → Sem α} {Q : α → Shared → Prop} (hg : s.gens[g]? = some .finished) (h : wpJ M A (k .finished) Q E s) : wpJ M A (.resume g r l k) Q E s := by
  intro Γ st p hf hi K H gd lv
  obtain ⟨s', p', z⟩ := h Γ st p hf hi K H gd lv
  have go : ∀ {s'' t''}, CJ M s ⟨(k .finished).wrap K H gd lv, Γ.code, p, st⟩ s'' t'' → CJ M s ⟨(Sem.resume g r l k).wrap K H gd lv, Γ.code, p, st⟩ s'' t'' := fun x => .go (step_resume_finished (h := hg) ..) x
  refine ⟨s', p', ?_⟩
  rcases z with ⟨a, x, y⟩ | ⟨e, x, y⟩
  · exact .inl ⟨a, go x, y⟩
  · exact .inr ⟨e, go x, y⟩
end

section
variable {prog : Program} {w : World} {A : Around} {E : Value → Shared → Prop} {s : Shared} {fa : Addr} {cd : Value} {h₀ : Heap} {Z : List Addr} {a : Addr} {g : Nat} {vs : List Value}

variable (fa cd h₀) in
/-- the walk that the law reads -/
structure Walk (Z : List Addr) (a : Addr) (g : Nat) (vs : List Value) (s : Shared) : Prop where
  keep : Keep h₀ s
  alive : (∃ nd, nd.isGen ∧ nd.ag = (a, g) ∧ nd.fl = vs ∧ Good fa cd h₀ s nd 0 ∧ nd.dp ≤ 26 ∧ InB s (· ∈ nd.ogs) ∧ ∀ b ∈ Z, b ∉ nd.own ∧ b ∉ nd.seqs) ∨
    (vs = [] ∧ IsGenO s.heap a g 0 ∧ s.gens[g]? = some .finished ∧ InB s (fun _ => False) ∧ a ∉ Z)
  zs : ∀ b ∈ Z, h₀.get? b = none ∧ ∃ o, s.heap.get? b = some o

/-- what a turn of the walk leaves as it was -/
structure Held (Z : List Addr) (s s' : Shared) : Prop where
  get : ∀ b ∈ Z, s'.heap.get? b = s.heap.get? b
  os : s'.os = s.os
theorem Held.refl (Z : List Addr) (s : Shared) : Held Z s s := ⟨fun _ _ => rfl, rfl⟩

theorem ag_own {nd : Nd} (h : nd.isGen) : nd.ag.1 ∈ nd.own := by
  cases nd with
  | fresh a g L x => exact .head _
  | aty a g L x => exact .head _
  | atf a g L x y => exact .head _
  | leaf => exact h.elim
  | seq => exact h.elim
  | sit => exact h.elim
  | nil => exact h.elim
  | cons => exact h.elim

theorem next_fin {Q : Option Value → Shared → Prop} (hA : A.handled = none) (hg : IsGenO s.heap a g 0) (hgs : s.gens[g]? = some .finished)
    (h : ∀ h' x, (∀ b o, s.heap.get? b = some o → h'.get? b = some o) → StopAt { s with heap := h' } x → E x { s with heap := h' }) : wpJ (model prog w) A (callSpecial? (.ref a) "__next__") Q E s := by
  refine callSpecial_J slot_gen_next (genO_type hg) entry_gen_next (args_gen_next _) ?_
  show wpJ _ _ (Builtin.Generator.genWake (.ref a) (.send .none)) _ _ s
  unfold Builtin.Generator.genWake
  refine wpJ_bindA (wpAny_holding (genNumber_ hg ?_))
  refine wpJ_bindA (wpAny_genState hgs ?_)
  show wpJ _ _ (.resume g (.send .none) [] _) _ _ s
  refine wpJ_resume_fin hgs ?_
  show wpJ _ _ (newExc (.type "StopIteration") [] >>= fun e => raiseNew e) _ _ _
  refine wpJ_of_any ?_
  refine stop_new (E := E) (Q := fun fin s' => ∃ v, fin = Fin.done (.ret v) ∧ Q (some v) s') (show A.in1.handled = none from hA) fun h' e vs k he h5 => ?_
  exact h h' _ k ⟨_, _, rfl, he, h5⟩

theorem Held.of_chg {nd : Nd} {s' : Shared} {G : Nat → Prop} (C : Chg (· ∈ nd.own) G s s') (hz : ∀ b ∈ Z, b ∉ nd.own ∧ b ∉ nd.seqs) (hm : ∀ b ∈ Z, h₀.get? b = none ∧ ∃ o, s.heap.get? b = some o) : Held Z s s' := by
  refine ⟨fun b hb => ?_, C.os⟩
  obtain ⟨_, o, e⟩ := hm b hb
  rw [e]; exact C.heap b o (hz b hb).1 e

/-- next() of the walk -/
theorem walk_next (hE₀ : EnvG fa cd h₀) {Q : Option Value → Shared → Prop} (hA : A.handled = none) (hd : A.depth + 40 < recursionLimit) (W : Walk fa cd h₀ Z a g vs s)
    (hQ : ∀ v rest s', vs = v :: rest → Walk fa cd h₀ Z a g rest s' → Held Z s s' → Q (some v) s')
    (hE : ∀ s' e, vs = [] → Walk fa cd h₀ Z a g [] s' → Held Z s s' → InB s' (fun _ => False) → StopAt s' e → E e s') : wpJ (model prog w) A (callSpecial? (.ref a) "__next__") Q E s := by
  obtain ⟨K, W1, Z1⟩ := W
  rcases W1 with ⟨nd, hg, hag, hfl, G, hdp, hb, hz⟩ | ⟨rfl, ho, hgs, hb, hz⟩
  · have ha : nd.ag.1 = a := by rw [hag]
    have hgg : nd.ag.2 = g := by rw [hag]
    rw [← ha]
    refine next_all hE₀ nd.sz nd (Nat.le_refl _) A s Q E hA (by omega) K G hg (fun v rest s' nd' f1 f2 T => ?_) (fun s' e f C hob hfin hB hst => ?_)
    · refine hQ v rest s' (hfl.symm.trans f1) ⟨K.chg T.chg G.new, .inl ⟨nd', T.gen, T.ag.trans hag, f2, T.good, Nat.le_trans T.dp hdp, ?_, fun b hb' => ⟨fun h => ?_, fun h => (hz b hb').2 (T.sq b h)⟩⟩, fun b hb' => ⟨(Z1 b hb').1, ?_⟩⟩ (Held.of_chg T.chg hz Z1)
      · have := T.bad (fun _ => False) (fun x y e q => .inr (hb x y e q))
        exact fun x y e q => (this x y e q).elim (fun z => z.elim) id
      · rcases T.own b h with q | q
        · exact (hz b hb').1 q
        · obtain ⟨_, o, e⟩ := Z1 b hb'
          rw [q] at e; cases e
      · obtain ⟨_, o, e⟩ := Z1 b hb'
        exact ⟨o, T.chg.heap b o (hz b hb').1 e⟩
    · have hbb : InB s' (fun _ => False) := by
        have := hB (fun _ => False) (fun x y e q => .inr (hb x y e q))
        exact fun x y e q => (this x y e q).elim id fun z => nomatch z
      refine hE s' e (hfl.symm.trans f) ⟨K.chg C G.new, .inr ⟨rfl, ha ▸ hgg ▸ hob, hgg ▸ hfin, hbb, fun h => (hz a h).1 (ha ▸ ag_own hg)⟩, fun b hb' => ⟨(Z1 b hb').1, ?_⟩⟩ (Held.of_chg C hz Z1) hbb hst
      · obtain ⟨_, o, e⟩ := Z1 b hb'
        exact ⟨o, C.heap b o (hz b hb').1 e⟩
  · refine next_fin hA ho hgs fun h' x k hst => ?_
    refine hE _ x rfl ⟨fun b o e => k b o (K b o e), .inr ⟨rfl, ho.at fun o e => k _ _ e, hgs, hb, hz⟩, fun b hb' => ⟨(Z1 b hb').1, ?_⟩⟩ ⟨fun b hb' => ?_, rfl⟩ hb hst
    · obtain ⟨_, o, e⟩ := Z1 b hb'
      exact ⟨o, k b o e⟩
    · obtain ⟨_, o, e⟩ := Z1 b hb'
      rw [e]; exact k b o e

/-- what turns nothing of the walk -/
theorem Walk.move {s' : Shared} (W : Walk fa cd h₀ Z a g vs s) (k : ∀ b o, b ∉ Z → s.heap.get? b = some o → s'.heap.get? b = some o) (hm : ∀ b ∈ Z, ∃ o, s'.heap.get? b = some o) (hg : s'.gens = s.gens) (ho : s'.os = s.os) : Walk fa cd h₀ Z a g vs s' := by
  obtain ⟨K, W1, Z1⟩ := W
  have C : Chg (· ∈ Z) (fun _ => False) s s' := ⟨k, fun _ _ _ e => by rw [hg]; exact e, ho⟩
  have bd : ∀ {X : Nat → Prop}, InB s X → InB s' X := fun h x y e q => h x y (by rw [← hg]; exact e) q
  refine ⟨fun b o e => k b o (fun h => by rw [(Z1 b h).1] at e; cases e) (K b o e), ?_, fun b hb => ⟨(Z1 b hb).1, hm b hb⟩⟩
  rcases W1 with ⟨nd, hgn, hag, hfl, G, hdp, hb, hz⟩ | ⟨e1, e2, e3, e4, e5⟩
  · exact .inl ⟨nd, hgn, hag, hfl, ⟨G.ok.chgS C nd 0 (fun b hb' h => (hz b h).1 hb') (fun b hb' h => (hz b h).2 hb') (fun _ _ h => h), G.apart, G.apartG, G.new⟩, hdp, bd hb, hz⟩
  · exact .inr ⟨e1, e2.at fun o e => k a o e5 e, by rw [hg]; exact e3, bd e4, e5⟩
/-- a new object is watched too -/
theorem Walk.watch {b : Addr} {s' : Shared} (W : Walk fa cd h₀ Z a g vs s) (hb : s.heap.get? b = none) (k : ∀ b o, s.heap.get? b = some o → s'.heap.get? b = some o) (hm : ∃ o, s'.heap.get? b = some o) (hg : s'.gens = s.gens) (ho : s'.os = s.os) : Walk fa cd h₀ (b :: Z) a g vs s' := by
  have W' := W.move (fun b o _ e => k b o e) (fun b hb => by obtain ⟨_, o, e⟩ := W.zs b hb; exact ⟨o, k b o e⟩) hg ho
  obtain ⟨K, W1, Z1⟩ := W
  refine ⟨W'.keep, ?_, fun c hc => ?_⟩
  · rcases W1 with ⟨nd, hgn, hag, hfl, G, hdp, hbd, hz⟩ | ⟨e1, e2, e3, e4, e5⟩
    · refine .inl ⟨nd, hgn, hag, hfl, G.chg (O := fun _ => False) (G := fun _ => False) ⟨fun b o _ e => k b o e, fun _ _ _ e => by rw [hg]; exact e, ho⟩ (fun _ _ h => h.elim) (fun _ _ h => h) (fun _ _ h => h), hdp, fun x y e q => hbd x y (by rw [← hg]; exact e) q, fun c hc => ?_⟩
      rcases List.mem_cons.mp hc with rfl | hc
      · refine ⟨fun h => ?_, fun h => ?_⟩
        · obtain ⟨o, e, _⟩ := G.ok.own nd 0 _ h
          rw [hb] at e; cases e
        · obtain ⟨o, e⟩ := G.ok.seqs nd 0 _ h
          rw [hb] at e; cases e
      · exact hz c hc
    · refine .inr ⟨e1, e2.at fun o e => k a o e, by rw [hg]; exact e3, fun x y e q => e4 x y (by rw [← hg]; exact e) q, fun h => ?_⟩
      rcases List.mem_cons.mp h with rfl | h
      · exact mapped_gen e2 hb
      · exact e5 h
  · rcases List.mem_cons.mp hc with rfl | hc
    · refine ⟨?_, hm⟩
      cases z : h₀.get? c with
      | none => rfl
      | some o => rw [K c o z] at hb; cases hb
    · exact ⟨(Z1 c hc).1, by obtain ⟨_, o, e⟩ := Z1 c hc; exact ⟨o, k c o e⟩⟩
end
end Mine

namespace Mine
open PySem PySem.W PySem.Calls PyProof.Rows

section
variable {prog : Program} {w : World} {A : Around} {E : Value → Shared → Prop} {s : Shared} {a : Addr} {lc : Value} {L : Addr} {fa la : Addr} {cd lcd : Value} {h₀ : Heap}

theorem Ok.seqs' : ∀ (nd : Nd) (k : Nat), Ok fa cd s nd k → ∀ b ∈ nd.seqs, ∃ o, s.heap.get? b = some o ∧ ¬ NotSeq o := by
  intro nd
  induction nd with
  | leaf v => intro k _ b hb; cases hb
  | seq a tup xs ih =>
    intro k ⟨⟨n, sl, e⟩, _, h⟩ b hb
    rcases List.mem_cons.mp hb with rfl | hb
    · exact ⟨_, e, fun z => z _ _ rfl⟩
    · exact ih 0 h b hb
  | sit a l tup i xs ih =>
    intro k ⟨_, ⟨items, ⟨n, sl, e⟩, _⟩, _, h⟩ b hb
    rcases List.mem_cons.mp hb with rfl | hb
    · exact ⟨_, e, fun z => z _ _ rfl⟩
    · exact ih 0 h b hb
  | fresh a g L x ih => intro k ⟨_, _, _, _, h⟩ b hb; exact ih 0 h b hb
  | aty a g L src ih => intro k ⟨_, _, _, _, h⟩ b hb; exact ih 0 h b hb
  | atf a g L src inn ih1 ih2 =>
    intro k ⟨_, _, _, _, _, h, h'⟩ b hb
    rcases List.mem_append.mp hb with hb | hb
    · exact ih1 0 h b hb
    · exact ih2 1 h' b hb
  | nil => intro k _ b hb; cases hb
  | cons x xs ih1 ih2 =>
    intro k ⟨_, _, h, h'⟩ b hb
    rcases List.mem_append.mp hb with hb | hb
    · exact ih1 0 h b hb
    · exact ih2 0 h' b hb

theorem look_walk : lawScope.names.lookup (Str.ofString "walk") = some .cell := by decide +kernel

/-- the law's state from its walk on -/
structure Mid (fa : Addr) (cd : Value) (h₀ : Heap) (L : Addr) (os : OsState) (Z : List Addr) (m : Str → Option Value) (c g : Nat) (vs : List Value) (s : Shared) : Prop where
  walk : Walk fa cd h₀ Z c g vs s
  ns : s.heap.Ns L m
  cell : s.heap.IsCell (L + 1) (some (.ref c))
  os : s.os = os
  hL : L ∈ Z
  hc : L + 1 ∈ Z

theorem third_ok {Q : Flow → Shared → Prop} {hC : Heap} {os : OsState} (hd : A.depth + 100 < recursionLimit) (hh : A.handled = none) (hG : LawG fa la cd lcd h₀) (B : Built fa cd L hC os h₀ s) (hcell : hC.IsCell (L + 1) none) (hcL : h₀.get? (L + 1) = none) (hL0 : h₀.get? L = none)
    (h : ∀ s' m V c g vs lvs, m "leaves" = some (.ref V) → LL s'.heap V lvs → Sims vs lvs → lvs.length ≤ 120 → V ≠ L → V ≠ L + 1 → Mid fa cd h₀ L os [L, L + 1, V] m c g vs s' → Q .next s') :
    wpAny (model prog w) A (exec (lawSt 3) (lenv a lc L)) Q E s := by
  obtain ⟨F, m, a0, xs, V, svs, bvs, lvs, rfl, rfl, rfl, hE, Flow, Fb, hout, I⟩ := B
  have X : Env0 A F fa la cd lcd h₀ := ⟨Flow, Fb, hG, hh, hd⟩
  have S := I.st
  have hGs := S.g X
  show wpAny _ _ (exec (.Assign [.Name "walk" _] (.Call (.Name "flatten_iterator" _) [.Subscript (.Name "heaps" _) (.Constant (.int 0) 0 _) _] [] _) _) _) _ _ _
  refine wpAny_Assign_Name ?_ (by rfl)
  show wpAny _ _ (do callWith _ (← eval (.Name "flatten_iterator" _) (lenv a lc F.L)) [] (backTo _ (starEach [.Subscript (.Name "heaps" _) (.Constant (.int 0) 0 _) _] (lenv a lc F.L))) (backToKw _ (keywordEach [] (lenv a lc F.L)))) _ _ _
  refine wpAny_bind (ldFlat hGs ?_)
  obtain ⟨o, pm, doc, ho, hdat⟩ := id hGs.e.fn
  refine callWith_function (o := o) (fd := docDef "flatten_iterator" flatParams flatBody flatScope pm cd doc) ?_
  refine evalArgs_plain (spliced_cons ?_)
  refine Subscript_ (ldL look_heaps S.ns S.hm.1 (kInt (k := 0) (pos := default) ?_))
  have S1 := S.toks (s.toks + 1)
  obtain ⟨nH, eH⟩ := id S1.sh.hH
  have hHl : ({ s with toks := s.toks + 1 } : Shared).heap.IsList F.H (([(a0, xs)].map fun p => Value.ref p.1).reverse).toArray := ⟨_, eH, rfl, _, rfl⟩
  refine subscriptTail_builtinR hHl.typeIs slot_list_getitem.lookup (wpAny_getItem_list (Q := fun r s' => r = .ref a0 ∧ _) (x := .ref a0) hHl (by decide) (by decide) rfl ⟨rfl, ?_⟩)
  refine spliced_nil ⟨⟨ho, hdat⟩, ?_⟩
  have SA := S1.sh.absorb
  obtain ⟨hok, hown, hseq⟩ := SA.tree (.seq a0 false xs) (by simp [trees])
  have hownN : (Nd.seq a0 false xs).own.Nodup := by
    have := SA.own
    simpa [trees] using this
  have hogsN : (Nd.seq a0 false xs).ogs.Nodup := by
    have := SA.ogs
    simpa [trees] using this
  refine call_flat hGs.e (Nat.lt_of_le_of_lt (Nat.le_add_right _ _) hd) fun c L' h' nm qn tk n1 n2 n3 hk hgen hns => ?_
  have C := chg_push (s := { s with toks := s.toks + 1 }) (s' := { s with heap := h', gens := s.gens.push (.fresh (.func flatBody (fenv fa cd L'))), toks := tk }) hk rfl rfl
  have hok' := hok.chg C (fun _ _ h => h.elim) _ _ (fun _ _ h => h) (fun _ _ h => h)
  have nn : ∀ {b}, F.hB.get? b = none → h₀.get? b = none := fun {b} e => by
    cases z : h₀.get? b with
    | none => rfl
    | some o => rw [(Fb b o z).1] at e; cases e
  have mapd : ∀ b ∈ (Nd.seq a0 false xs).own, s.heap.get? b ≠ none := fun b hb q => by
    obtain ⟨o, e, _⟩ := hok.own _ _ b hb
    have e' : s.heap.get? b = some o := e
    rw [q] at e'; cases e'
  have mapg : ∀ x ∈ (Nd.seq a0 false xs).ogs, x < s.gens.size := fun x hx => by
    obtain ⟨y, q⟩ := hok.ogs _ _ x hx
    rw [Array.getElem?_eq_some_iff] at q; exact q.1
  have k0 : ∀ b o, h₀.get? b = some o → s.heap.get? b = some o := S.sh.keep0 Fb
  have hdp : xs.dp ≤ 22 := by have := I.dps.1; simpa using this
  have G : Good fa cd h₀ { s with heap := h', gens := s.gens.push (.fresh (.func flatBody (fenv fa cd L'))), toks := tk } (.fresh c s.gens.size L' (.seq a0 false xs)) 0 := by
    refine ⟨⟨⟨nm, qn, #[], hgen, .inl ⟨rfl, rfl⟩⟩, by simp, hns, trivial, hok'⟩, ?_, ?_, fun b hb => ?_⟩
    · refine List.nodup_cons.mpr ⟨fun h => ?_, List.nodup_cons.mpr ⟨fun h => mapd _ h n2, hownN⟩⟩
      rcases List.mem_cons.mp h with h | h
      · exact n3 h
      · exact mapd _ h n1
    · exact List.nodup_cons.mpr ⟨fun h => Nat.lt_irrefl _ (mapg _ h), hogsN⟩
    · rcases List.mem_cons.mp hb with rfl | hb
      · exact nn (S.sh.mapped _ n1)
      rcases List.mem_cons.mp hb with rfl | hb
      · exact nn (S.sh.mapped _ n2)
      · exact nn (hown b hb)
  have hcell1 : s.heap.IsCell (F.L + 1) none := by
    obtain ⟨oc, ec, dc⟩ := hcell
    refine ⟨oc, S.sh.keep _ oc (fun hb => ?_) ec, dc⟩
    rcases List.mem_cons.mp hb with z | hb
    · exact absurd z (Nat.succ_ne_self _)
    · have : F.L + 1 ∈ [F.H, F.S, F.P, F.V0, F.a0] := by rw [hE] at hb; exact hb
      rw [hout _ this] at ec; cases ec
  obtain ⟨oL, eL, nsL⟩ := ns_notSeq S.ns
  obtain ⟨oc, ec, dc⟩ := id hcell1
  have nsc : NotSeq oc := fun its n q => by rw [dc] at q; cases q
  obtain ⟨nV, eV⟩ := id S.sh.hV
  have eV' : s.heap.get? V = _ := eV
  have VL : V ≠ F.L := Ne.symm (ns_ne S.ns S.sh.hV)
  have Vc : V ≠ F.L + 1 := fun q => by
    have := S.sh.hV
    rw [q] at this
    exact this.notNS ec nsc
  have hBL : ∃ o, F.hB.get? F.L = some o := Flow.L
  have hBc : ∃ o, F.hB.get? (F.L + 1) = some o := let ⟨o, e, _⟩ := hcell; ⟨o, e⟩
  have W : Walk fa cd h₀ [F.L, F.L + 1, V] c s.gens.size xs.fl { s with heap := h', gens := s.gens.push (.fresh (.func flatBody (fenv fa cd L'))), toks := tk } := by
    refine ⟨fun b o e => hk b o (k0 b o e), .inl ⟨.fresh c s.gens.size L' (.seq a0 false xs), trivial, rfl, rfl, G, ?_, ?_, fun b hb => ?_⟩, fun b hb => ?_⟩
    · show xs.dp + 1 + 1 ≤ 26; omega
    · have := (Bd.push (s := s) (s' := { s with heap := h', gens := s.gens.push (.fresh (.func flatBody (fenv fa cd L'))), toks := tk }) [] rfl) (fun _ => False) (fun x y e b => (S.sh.gens x y e b).elim)
      exact fun x y e b => (this x y e b).elim (fun z => z.elim) fun z => nomatch z
    · simp only [List.mem_cons, List.not_mem_nil, or_false] at hb
      refine ⟨fun hm => ?_, fun hm => ?_⟩
      · rcases List.mem_cons.mp hm with q | hm
        · subst q
          rcases hb with q | q | q
          · rw [q, eL] at n1; cases n1
          · rw [q, ec] at n1; cases n1
          · rw [q, eV'] at n1; cases n1
        rcases List.mem_cons.mp hm with q | hm
        · subst q
          rcases hb with q | q | q
          · rw [q, eL] at n2; cases n2
          · rw [q, ec] at n2; cases n2
          · rw [q, eV'] at n2; cases n2
        · have hn := hown b hm
          rcases hb with q | q | q
          · obtain ⟨o, e⟩ := hBL; rw [← q, hn] at e; cases e
          · obtain ⟨o, e⟩ := hBc; rw [← q, hn] at e; cases e
          · obtain ⟨o, e, ns⟩ := hok.own _ _ b hm
            have e' : s.heap.get? b = some o := e
            rw [q] at e'
            exact S.sh.hV.notNS e' ns
      · rcases hb with q | q | q
        · obtain ⟨o, e, ns⟩ := hok.seqs' _ _ b hm
          have e' : s.heap.get? b = some o := e
          rw [q, eL] at e'; cases e'; exact ns nsL
        · obtain ⟨o, e, ns⟩ := hok.seqs' _ _ b hm
          have e' : s.heap.get? b = some o := e
          rw [q, ec] at e'; cases e'; exact ns nsc
        · exact hseq b hm (by rw [q]; simp [muts])
    · simp only [List.mem_cons, List.not_mem_nil, or_false] at hb
      rcases hb with rfl | rfl | rfl
      · exact ⟨hL0, oL, hk _ _ eL⟩
      · exact ⟨hcL, oc, hk _ _ ec⟩
      · refine ⟨?_, _, hk _ _ eV'⟩
        cases z : h₀.get? b with
        | none => rfl
        | some o =>
          rcases S.sh.lowV with q | q
          · exact absurd (by rw [q]; simp) (Fb b o z).2
          · rw [nn q] at z; cases z
  refine wpAny_storeName_cell (env := lenv a lc F.L) rfl look_walk (c := F.L + 1) (by simp [lenv, newEnv]) (v₀ := none) (hcell1.keeps hk) fun h2 hc2 hs2 => ?_
  have W2 : Walk fa cd h₀ [F.L, F.L + 1, V] c s.gens.size xs.fl { s with heap := h2, gens := s.gens.push (.fresh (.func flatBody (fenv fa cd L'))), toks := tk } := by
    refine W.move (fun b o nb e => (hs2.2 b fun q => nb (by rw [q]; simp)).trans e) (fun b hb => ?_) rfl rfl
    by_cases q : b = F.L + 1
    · subst q
      obtain ⟨o, e, _⟩ := hc2
      exact ⟨o, e⟩
    · obtain ⟨_, o, e⟩ := W.zs b hb
      exact ⟨o, (hs2.2 b q).trans e⟩
  have hLn : F.L ≠ F.L + 1 := Ne.symm (Nat.succ_ne_self _)
  refine h _ m V c s.gens.size xs.fl lvs S.hm.2.2.2 (S.sh.hV.at fun o e => (hs2.2 V Vc).trans (hk _ _ e)) ?_ I.lsz VL Vc ⟨W2, (S.ns.keeps hk).sameBut hs2 hLn, hc2, S.sh.os, by simp, by simp⟩
  have := I.sim
  have e : flp [(a0, xs)] = xs.fl := by show [] ++ xs.fl = xs.fl; rfl
  rw [e] at this; exact this
end
end Mine

namespace Mine
open PySem PySem.W PySem.Calls PyProof.Rows

theorem checkBC {id : String} {args : List Value} (hk : builtinKind id = none) (ha : argsOk id ⟨args, []⟩) : checkBuiltinCall id ⟨args, []⟩ = pure () := by
  simp only [checkBuiltinCall, hk]
  cases hsig : Manifest.signature? id with
  | none => rfl
  | some sig =>
    simp only [argsOk, hsig] at ha
    exact ha
theorem entry_next0 : entryFor table "next" = some Builtin.«next» := entryFor_of_fast (by kernel_rfl)
theorem kind_next0 : builtinKind "next" = none := by decide +kernel
theorem plain_next0 : plainId "next" = true := by decide +kernel
theorem args_next0 (a b : Value) : argsOk "next" ⟨[a, b], []⟩ := by unfold argsOk; kernel_rfl

section
variable {prog : Program} {w : World} {A : Around} {E : Value → Shared → Prop} {s : Shared}

theorem codeJ_builtin {id : String} {b : Builtin} {args : List Value} {R : Result → Shared → Prop} (hp : plainId id = true) (hb : entryFor table id = some b)
    (hc : wpJ (model prog w) A.in1 (b ⟨args, []⟩) (fun fin s' => match fin with | .done f => R (.ok f) s' | .again c' => c'.quiet = true ∧ codeJ (model prog w) A c' R s') (fun e s' => R (.error e) s') s) :
    codeJ (model prog w) A (.builtin id ⟨args, []⟩) R s := by
  refine codeJ_of_tree ?_
  rw [den_builtin hb, Around.under_plainId hp]
  exact hc
theorem codeJ_call_fn {id : String} {b : Builtin} {args : List Value} {R : Result → Shared → Prop} (hk : builtinKind id = none) (hp : plainId id = true) (hb : entryFor table id = some b) (ha : argsOk id ⟨args, []⟩)
    (hc : wpJ (model prog w) A.in1 (b ⟨args, []⟩) (fun fin s' => match fin with | .done f => R (.ok f) s' | .again c' => c'.quiet = true ∧ codeJ (model prog w) A c' R s') (fun e s' => R (.error e) s') s) :
    codeJ (model prog w) A (.call (.builtin id) ⟨args, []⟩) R s := by
  refine codeJ_of_tree ?_
  show wpJ _ A.in1 (do checkBuiltinCall id ⟨args, []⟩; again (.builtin id ⟨args, []⟩)) _ _ s
  rw [checkBC hk ha]
  exact wpJ_bindA (wpAny_pure (wpJ_pure ⟨plainId_quiet hp _, codeJ_builtin hp hb hc⟩))
theorem call_fn_J {id : String} {b : Builtin} {args : List Value} {Q : Value → Shared → Prop} (hk : builtinKind id = none) (hp : plainId id = true) (hb : entryFor table id = some b) (ha : argsOk id ⟨args, []⟩)
    (hc : wpJ (model prog w) A.in1 (b ⟨args, []⟩) (fun fin s' => ∃ v, fin = .done (.ret v) ∧ Q v s') E s) : wpJ (model prog w) A (PySem.call (.builtin id) args) Q E s := by
  refine wpJ_call (codeJ_call_fn hk hp hb ha (wpJ_mono hc (fun fin s' x => ?_) fun _ _ x => x))
  obtain ⟨v, rfl, x⟩ := x
  exact x

theorem callWithB_J {pos : Pos} {id : String} {first : List Value} {args : List (Bool × Sem Value)} {Q : Value → Shared → Prop} (hplain : args.any (·.1) = false)
    (h : wpAny (model prog w) A (evalArgs (.builtin id) true args []) (fun a s₁ => wpJ (model prog w) A (PySem.call (.builtin id) (first ++ a.pos) a.kw) Q E s₁) E s) :
    wpJ (model prog w) A (callWith pos (.builtin id) first args []) Q E s := by
  unfold callWith
  refine wpJ_bindA (wpAny_holding (wpAny_mono h (fun a s₁ h₁ => wpJ_bindA (wpAny_standAt ?_)) fun _ _ x => x))
  simp only [hplain, List.any_nil, Bool.or_false]
  refine wpJ_bindA (wpAny_pure ?_)
  exact wpJ_bind (wpJ_mono h₁ (fun r s₂ hr => wpJ_bindA (wpAny_holding (wpAny_point (wpJ_pure hr)))) fun _ _ x => x)
theorem callWithT_J {pos : Pos} {T : String} {first : List Value} {args : List (Bool × Sem Value)} {Q : Value → Shared → Prop} (hplain : args.any (·.1) = false)
    (h : wpAny (model prog w) A (evalArgs (.type T) true args []) (fun a s₁ => wpJ (model prog w) A (PySem.call (.type T) (first ++ a.pos) a.kw) Q E s₁) E s) :
    wpJ (model prog w) A (callWith pos (.type T) first args []) Q E s := by
  unfold callWith
  refine wpJ_bindA (wpAny_holding (wpAny_mono h (fun a s₁ h₁ => wpJ_bindA (wpAny_standAt ?_)) fun _ _ x => x))
  simp only [hplain, List.any_nil, Bool.or_false]
  refine wpJ_bindA (wpAny_pure ?_)
  exact wpJ_bind (wpJ_mono h₁ (fun r s₂ hr => wpJ_bindA (wpAny_holding (wpAny_point (wpJ_pure hr)))) fun _ _ x => x)

variable {fa la : Addr} {cd lcd : Value} {h₀ : Heap} {Z : List Addr} {c g : Nat} {vs : List Value}

theorem Walk.typ (W : Walk fa cd h₀ Z c g vs s) : s.TypeIs (.ref c) "generator" := by
  rcases W.alive with ⟨nd, hg, hag, _, G, _⟩ | ⟨_, ho, _⟩
  · have := G.ok.obj hg
    rw [hag] at this
    exact genO_type this
  · exact genO_type ho

theorem pyNext_walk (hE₀ : EnvG fa cd h₀) {Q : Option Value → Shared → Prop} (hA : A.handled = none) (hd : A.depth + 40 < recursionLimit) (W : Walk fa cd h₀ Z c g vs s)
    (hQ : ∀ v rest s', vs = v :: rest → Walk fa cd h₀ Z c g rest s' → Held Z s s' → Q (some v) s') (hN : ∀ s', vs = [] → Walk fa cd h₀ Z c g [] s' → Held Z s s' → InB s' (fun _ => False) → Q none s') : wpJ (model prog w) A (pyNext (.ref c)) Q E s :=
  pyNext_J (walk_next hE₀ hA hd W (fun v rest s' e W' H => ⟨v, rfl, hQ v rest s' e W' H⟩) fun s' _ e W' H hb hst => ⟨hst, hN s' e W' H hb⟩)

/-- next(walk, dflt) -/
theorem call_next2 (hE₀ : EnvG fa cd h₀) {d : Value} {Q : Value → Shared → Prop} (hA : A.handled = none) (hd : A.depth + 50 < recursionLimit) (W : Walk fa cd h₀ Z c g vs s)
    (hQ : ∀ v rest s', vs = v :: rest → Walk fa cd h₀ Z c g rest s' → Held Z s s' → Q v s') (hN : ∀ s', vs = [] → Walk fa cd h₀ Z c g [] s' → Held Z s s' → InB s' (fun _ => False) → Q d s') : wpJ (model prog w) A (PySem.call (.builtin "next") [.ref c, d]) Q E s := by
  refine call_fn_J kind_next0 plain_next0 entry_next0 (args_next0 _ _) ?_
  show wpJ _ _ (someArgs "next" 1 2 ⟨[.ref c, d], []⟩ >>= _) _ _ _
  refine wpJ_bindA (wpAny_of_eq (a := [Value.ref c, d]) (by rfl) ?_)
  show wpJ _ _ (specialOf (.ref c) "__next__" >>= _) _ _ _
  refine wpJ_bindA (wpAny_specialOf W.typ slot_gen_next.lookup ?_)
  show wpJ _ _ (pyNext (.ref c) >>= _) _ _ _
  refine wpJ_bind (pyNext_walk hE₀ hA (Nat.lt_of_le_of_lt (by show A.depth + 0 + 0 + 40 ≤ A.depth + 50; omega) hd) W (fun v rest s' e W' H => ?_) fun s' e W' H hb => ?_)
  · exact wpJ_pure ⟨v, rfl, hQ v rest s' e W' H⟩
  · exact wpJ_pure ⟨d, rfl, hN s' e W' H hb⟩
end
end Mine

namespace Mine
open PySem PySem.W PySem.Calls PyProof.Rows

def compE : Expr := match lawSt 4 with | .Assign _ e _ => e | _ => .Constant .none 0 default
def cscope : Scope := match compE with | .ListComp _ _ sc _ => sc | _ => default
def cElt : Expr := match compE with | .ListComp e _ _ _ => e | _ => .Constant .none 0 default
def cIter : Expr := match compE with | .ListComp _ [⟨_, i, _, _⟩] _ _ => i | _ => .Constant .none 0 default
def cPos : Pos := match compE with | .ListComp _ _ _ p => p | _ => default
def cTp : Pos := match compE with | .ListComp _ [⟨.Name _ p, _, _, _⟩] _ _ => p | _ => default
theorem compE_eq : compE = .ListComp cElt [⟨.Name "k" cTp, cIter, [], 0⟩] cscope cPos := rfl
def cscope2 : Scope := { cscope with names := [(Str.ofString ".0", .local), (Str.ofString "k", .local), (Str.ofString "next", .globalImplicit), (Str.ofString "walk", .cell)] }
def cenv (a : Addr) (lc : Value) (L C : Addr) : Env := { (newEnv cscope C mainGlobals [(Str.ofString "walk", L + 1)] (lenv a lc L).qual none .none (some (lenv a lc L)) builtinsNs) with scope := cscope2 }

theorem Walk.shift {fa : Addr} {cd : Value} {h₀ : Heap} {Z Z2 : List Addr} {c g : Nat} {vs : List Value} {s s' : Shared} (W : Walk fa cd h₀ Z c g vs s) (k : ∀ b o, b ∉ Z → s.heap.get? b = some o → s'.heap.get? b = some o) (hs : ∀ b ∈ Z2, b ∈ Z) (hm : ∀ b ∈ Z2, ∃ o, s'.heap.get? b = some o) (hg : s'.gens = s.gens) (ho : s'.os = s.os) : Walk fa cd h₀ Z2 c g vs s' := by
  obtain ⟨K, W1, Z1⟩ := W
  have C : Chg (· ∈ Z) (fun _ => False) s s' := ⟨k, fun _ _ _ e => by rw [hg]; exact e, ho⟩
  have bd : ∀ {X : Nat → Prop}, InB s X → InB s' X := fun h x y e q => h x y (by rw [← hg]; exact e) q
  refine ⟨fun b o e => k b o (fun h => by rw [(Z1 b h).1] at e; cases e) (K b o e), ?_, fun b hb => ⟨(Z1 b (hs b hb)).1, hm b hb⟩⟩
  rcases W1 with ⟨nd, hgn, hag, hfl, G, hdp, hb, hz⟩ | ⟨e1, e2, e3, e4, e5⟩
  · exact .inl ⟨nd, hgn, hag, hfl, ⟨G.ok.chgS C nd 0 (fun b hb' h => (hz b h).1 hb') (fun b hb' h => (hz b h).2 hb') (fun _ _ h => h), G.apart, G.apartG, G.new⟩, hdp, bd hb, fun b hb => hz b (hs b hb)⟩
  · exact .inr ⟨e1, e2.at fun o e => k c o e5 e, by rw [hg]; exact e3, bd e4, fun h => e5 (hs c h)⟩

section
variable {prog : Program} {w : World} {A : Around} {s : Shared} {fa la : Addr} {cd lcd : Value} {h₀ : Heap} {Z : List Addr} {c g : Nat} {vs : List Value} {a : Addr} {lc : Value} {L C : Addr}

theorem Held.trans {s' s'' : Shared} (h : Held Z s s') (h' : Held Z s' s'') : Held Z s s'' := ⟨fun b hb => (h'.get b hb).trans (h.get b hb), h'.os.trans h.os⟩
theorem Held.sub {Z2 : List Addr} {s' : Shared} (h : Held Z s s') (hs : ∀ b ∈ Z2, b ∈ Z) : Held Z2 s s' := ⟨fun b hb => h.get b (hs b hb), h.os⟩
theorem IsCell.same {h h' : Heap} {b : Addr} {v : Option Value} (x : h.IsCell b v) (e : h'.get? b = h.get? b) : h'.IsCell b v := let ⟨o, e', d⟩ := x; ⟨o, e.trans e', d⟩
theorem Ns.same {h h' : Heap} {b : Addr} {m : Str → Option Value} (x : h.Ns b m) (e : h'.get? b = h.get? b) : h'.Ns b m := x.at fun o q => e.trans q
theorem LL.same {h h' : Heap} {b : Addr} {l : List Value} (x : LL h b l) (e : h'.get? b = h.get? b) : LL h' b l := x.at fun o q => e.trans q

/-- the element: next(walk, 'none') -/
theorem elt_J (hG : LawG fa la cd lcd h₀) {Q : Value → Shared → Prop} (hA : A.handled = none) (hd : A.depth + 50 < recursionLimit) (hZ : L + 1 ∈ Z) (W : Walk fa cd h₀ Z c g vs s) (hc : s.heap.IsCell (L + 1) (some (.ref c)))
    (hQ : ∀ v rest s', vs = v :: rest → Walk fa cd h₀ Z c g rest s' → Held Z s s' → Q v s') (hv : vs ≠ []) : wpJ (model prog w) A (eval cElt (cenv a lc L C)) Q (fun _ _ => False) s := by
  show wpJ _ _ (do callWith _ (← eval (.Name "next" _) (cenv a lc L C)) [] (backTo _ (starEach [.Name "walk" _, .Constant (.str "none") 0 _] (cenv a lc L C))) (backToKw _ (keywordEach [] (cenv a lc L C)))) _ _ _
  refine wpJ_bindA (ldB (hG.keeps W.keep) rfl rfl rfl (show cscope2.names.lookup (Str.ofString "next") = some .globalImplicit by decide +kernel) (v := .builtin "next") (by simp [bltList]) ?_)
  refine callWithB_J rfl (evalArgs_plain (spliced_cons (wpAny_Name (wpAny_loadName_cell rfl (show cscope2.names.lookup (Str.ofString "walk") = some .cell by decide +kernel) (c := L + 1) (by simp [cenv, newEnv]) hc ?_) (by decide))))
  refine spliced_cons (Constant_str (k := 0) (pos := default) (spliced_nil ?_))
  have W' : Walk fa cd h₀ Z c g vs { s with toks := s.toks + 1 } := W.move (fun _ _ _ e => e) (fun b hb => (W.zs b hb).2) rfl rfl
  exact call_next2 hG.e hA hd W' (fun v rest s' e Wn H => hQ v rest s' e Wn ⟨H.get, H.os⟩) fun s' e _ _ _ => (hv e).elim

theorem comp_loop (hG : LawG fa la cd lcd h₀) {R : Result → Shared → Prop} {I D : Addr} {Z0 : List Addr} (hA : A.handled = none) (hd : A.depth + 60 < recursionLimit) (hZ0 : L + 1 ∈ Z0) (n1 : I ≠ C) (n2 : I ≠ D) (n3 : D ≠ C) (nI : I ∉ Z0) (nC : C ∉ Z0) (nD : D ∉ Z0) :
    ∀ (n : Nat) (s : Shared) (vs got : List Value) (x : Int) (mC : Str → Option Value), n ≤ vs.length → got.length + n ≤ 1000 → Walk fa cd h₀ (I :: C :: D :: Z0) c g vs s → s.heap.Ns C mC → IsRangeIter s.heap I x n 1 → LL s.heap D got → s.heap.IsCell (L + 1) (some (.ref c)) →
      (∀ s' mC', Walk fa cd h₀ (C :: D :: Z0) c g (vs.drop n) s' → s'.heap.Ns C mC' → LL s'.heap D (got ++ vs.take n) → Held Z0 s s' → R (.ok .next) s') →
      codeJ (model prog w) A (.compLoop (.ListComp cElt [⟨.Name "k" cTp, cIter, [], 0⟩] cscope cPos) 0 (.ref I) (.ref D) (cenv a lc L C)) R s := by
  intro n
  induction n with
  | zero =>
    intro s vs got x mC _ _ W hn hit hl hc hR
    refine codeJ_of_tree ?_
    show wpJ _ _ ((compTurn (.ListComp cElt [⟨.Name "k" cTp, cIter, [], 0⟩] cscope cPos) 0 (.ref I) (.ref D) (cenv a lc L C)).onRaise (fun x => do noteFrame x (cenv a lc L C); theTreesLotGoes x)) _ _ s
    refine wpJ_onRaise (wpJ_mono (E := fun _ _ => False) ?_ (fun _ _ q => q) fun _ _ q => q.elim)
    rw [compTurn_list1]
    refine wpJ_bindA (wpAny_standAt (wpJ_bindA (wpAny_pyNext_range_end hA hit (by decide) fun h' hx => wpJ_pure ?_)))
    have hx' : Heap.ExtBut I s.heap h' := hx
    have km : ∀ b ∈ C :: D :: Z0, h'.get? b = s.heap.get? b := fun b hb => by
      obtain ⟨_, o, e⟩ := W.zs b (.tail _ hb)
      rw [e]
      refine hx' b o (fun q => ?_) e
      subst q
      rcases List.mem_cons.mp hb with q | hb
      · exact n1 q
      rcases List.mem_cons.mp hb with q | hb
      · exact n2 q
      · exact nI hb
    refine hR _ mC (W.shift (fun b o nb e => hx' b o (fun q => nb (q ▸ .head _)) e) (fun b hb => .tail _ hb) (fun b hb => ?_) rfl rfl) (Ns.same hn (km C (.head _))) ?_ ⟨fun b hb => km b (.tail _ (.tail _ hb)), rfl⟩
    · obtain ⟨_, o, e⟩ := W.zs b (.tail _ hb)
      exact ⟨o, (km b hb).trans e⟩
    · have := hl.same (km D (.tail _ (.head _)))
      simpa using this
  | succ n ih =>
    intro s vs got x mC hlen hgl W hn hit hl hc hR
    refine codeJ_of_tree ?_
    show wpJ _ _ ((compTurn (.ListComp cElt [⟨.Name "k" cTp, cIter, [], 0⟩] cscope cPos) 0 (.ref I) (.ref D) (cenv a lc L C)).onRaise (fun x => do noteFrame x (cenv a lc L C); theTreesLotGoes x)) _ _ s
    refine wpJ_onRaise (wpJ_mono (E := fun _ _ => False) ?_ (fun _ _ q => q) fun _ _ q => q.elim)
    rw [compTurn_list1]
    refine wpJ_bindA (wpAny_standAt (wpJ_bindA (wpAny_pyNext_range_item hit (by omega) fun h1 hit1 hs1 => ?_)))
    replace hs1 : Heap.SameBut I s.heap h1 := hs1
    refine wpJ_bindA (m := letOwnedTupleGo (.Name "k" cTp) (.ref I) _) (wpAny_pure ?_)
    have hn1 : h1.Ns C mC := hn.at fun o e => (hs1.2 C (Ne.symm n1)).trans e
    rw [PySem.assign_Name]
    refine wpJ_bindA (wpAny_bind (wpAny_standAt (wpAny_bindName (wpAny_storeName_local (env := cenv a lc L C) (show cscope2.names.lookup (Str.ofString "k") = some .local by decide +kernel) hn1 (fun h2 hn2 hs2 => ?_) rfl))))
    replace hs2 : Heap.SameBut C h1 h2 := hs2
    have km2 : ∀ b, b ≠ I → b ≠ C → h2.get? b = s.heap.get? b := fun b q1 q2 => (hs2.2 b q2).trans (hs1.2 b q1)
    have hit2 : IsRangeIter h2 I (x + 1) n 1 := by
      have e : h2.get? I = h1.get? I := hs2.2 I n1
      have q : h1.get? I = _ := hit1
      show h2.get? I = _
      rw [e, q]
      have : ((n + 1 : Nat) : Int) - 1 = (n : Int) := by omega
      rw [this]
    have memZ : ∀ b ∈ I :: C :: D :: Z0, ∃ o, h2.get? b = some o := fun b hb => by
      by_cases q1 : b = I
      · subst q1; exact ⟨_, hit2⟩
      by_cases q2 : b = C
      · subst q2
        obtain ⟨o, e, _⟩ := ns_notSeq hn2
        exact ⟨o, e⟩
      · obtain ⟨_, o, e⟩ := W.zs b hb
        exact ⟨o, (km2 b q1 q2).trans e⟩
    have nz : ∀ b ∈ Z0, b ≠ I ∧ b ≠ C ∧ b ≠ D := fun b hb => ⟨fun q => nI (q ▸ hb), fun q => nC (q ▸ hb), fun q => nD (q ▸ hb)⟩
    have W2 : Walk fa cd h₀ (I :: C :: D :: Z0) c g vs { s with heap := h2, toks := s.toks + 1 + 1 } := W.move (fun b o nb e => (km2 b (fun q => nb (q ▸ .head _)) (fun q => nb (q ▸ .tail _ (.head _)))).trans e) memZ rfl rfl
    have hc2 : h2.IsCell (L + 1) (some (.ref c)) := IsCell.same hc (km2 _ (nz _ hZ0).1 (nz _ hZ0).2.1)
    refine wpJ_bind (wpJ_bind (elt_J hG hA (by show A.depth + 0 + 0 + 50 < _; omega) (.tail _ (.tail _ (.tail _ hZ0))) W2 hc2 (fun v rest s3 e W3 H3 => ?_) (fun q => by rw [q] at hlen; exact absurd hlen (by simp))))
    have hl2 : LL h2 D got := hl.same (km2 D (Ne.symm n2) n3)
    have hl3 : LL s3.heap D got := hl2.same (H3.get D (by simp))
    obtain ⟨nn, el⟩ := id hl3
    have hsz : got.toArray.size ≤ sizeLine := by
      have : got.toArray.size = got.length := by simp
      rw [this]; exact Nat.le_trans (by omega : got.length ≤ 1000) (by decide)
    refine wpJ_bindA (wpAny_list_append_plain (hsz := hsz) ⟨nn, el⟩ fun h4 hl4 hs4 => wpJ_pure ?_)
    have hl4' : LL h4 D (got ++ [v]) := by
      obtain ⟨n', e'⟩ := hl4
      rw [push_toA] at e'
      exact ⟨n', e'⟩
    replace hs4 : Heap.SameBut D s3.heap h4 := hs4
    have km4 : ∀ b ∈ I :: C :: D :: Z0, b ≠ D → h4.get? b = h2.get? b := fun b hb q => (hs4.2 b q).trans (H3.get b hb)
    have W4 : Walk fa cd h₀ (I :: C :: D :: Z0) c g rest { s3 with heap := h4 } := W3.move (fun b o nb e => (hs4.2 b fun q => nb (by rw [q]; simp)).trans e) (fun b hb => by
      by_cases q : b = D
      · subst q
        obtain ⟨o, e, _⟩ := hl4'.mapped
        exact ⟨o, e⟩
      · obtain ⟨o, e⟩ := memZ b hb
        exact ⟨o, (km4 b hb q).trans e⟩) rfl rfl
    have hs0 : Held Z0 s { s3 with heap := h4 } := ⟨fun b hb => ((km4 b (.tail _ (.tail _ (.tail _ hb))) (nz b hb).2.2).trans (km2 b (nz b hb).1 (nz b hb).2.1)), H3.os⟩
    have e1 : vs = v :: rest := e
    refine wpJ_pure ⟨rfl, ih _ rest (got ++ [v]) (x + 1) _ ?_ ?_ W4 (Ns.same hn2 (km4 C (by simp) (Ne.symm n3))) ?_ hl4' (IsCell.same hc (hs0.get _ hZ0)) fun s' mC' W' hn' hl' H' => ?_⟩
    · rw [e1] at hlen; simpa using hlen
    · rw [List.length_append]; simp only [List.length_cons, List.length_nil]; omega
    · show h4.get? I = _
      rw [km4 I (.head _) n2]; exact hit2
    · refine hR s' mC' (by rw [e1]; exact W') hn' ?_ (hs0.trans H')
      rw [e1]
      have : got ++ (v :: rest).take (n + 1) = (got ++ [v]) ++ rest.take n := by simp
      rw [this]; exact hl'
end
end Mine

namespace Mine
open PySem PySem.W PySem.Calls PyProof.Rows

def fPos : Pos := match lawSt 4 with | .Assign [.Name _ p] _ _ => p | _ => default
def sPos : Pos := match lawSt 4 with | .Assign _ _ p => p | _ => default
theorem st4_eq : lawSt 4 = .Assign [.Name "first" fPos] (.ListComp cElt [⟨.Name "k" cTp, cIter, [], 0⟩] cscope cPos) sPos := rfl
theorem swaps4 (a : Addr) (lc : Value) (L : Addr) : swapsWith (.ListComp cElt [⟨.Name "k" cTp, cIter, [], 0⟩] cscope cPos) (some (.Name "first" fPos)) sPos.line (lenv a lc L) = pure true := by rfl
theorem closure_comp (a : Addr) (lc : Value) (L : Addr) : closureFor cscope (lenv a lc L) = pure [(Str.ofString "walk", L + 1)] := by rfl
theorem names_comp (a : Addr) (lc : Value) (L : Addr) : (cscope.names.map fun x : Str × NameKind => match x with | (n, k) => if (k == .free && (lenv a lc L).scope.kind == .function && (lenv a lc L).kindOf n == some .cell) = true then (n, NameKind.cell) else (n, k)) = cscope2.names := by rfl

section
variable {prog : Program} {w : World} {A : Around} {s : Shared} {fa la : Addr} {cd lcd : Value} {h₀ : Heap} {Z : List Addr} {c g : Nat} {vs : List Value} {a : Addr} {lc : Value} {L C : Addr} {m : Str → Option Value} {os : OsState} {V : Addr} {lvs : List Value}

theorem comp_start {R : Result → Shared → Prop} {I D : Addr} {x : Int} {n : Nat} (hit : IsRangeIter s.heap I x n 1)
    (h : codeJ (model prog w) A (.compLoop (.ListComp cElt [⟨.Name "k" cTp, cIter, [], 0⟩] cscope cPos) 0 (.ref I) (.ref D) (cenv a lc L C)) R s) :
    codeJ (model prog w) A (.compStart (.ListComp cElt [⟨.Name "k" cTp, cIter, [], 0⟩] cscope cPos) 0 (.ref I) (.ref D) (cenv a lc L C)) R s := by
  refine codeJ_of_tree ?_
  show wpJ _ _ ((compStart (.ListComp cElt [⟨.Name "k" cTp, cIter, [], 0⟩] cscope cPos) 0 (.ref I) (.ref D) (cenv a lc L C)).onRaise (fun x => do noteFrame x (cenv a lc L C); standAt theWindowsPlace)) _ _ s
  refine wpJ_onRaise (wpJ_mono (E := fun _ _ => False) ?_ (fun _ _ q => q) fun _ _ q => q.elim)
  unfold compStart
  show wpJ _ _ (ask >>= _) _ _ s
  refine wpJ_bindA (wpAny_askSetting ?_)
  split
  · first
      | exact wpJ_bindA (wpAny_pure (wpJ_pure ⟨rfl, h⟩))
      | exact wpJ_pure ⟨rfl, h⟩
  · refine wpJ_bindA (wpAny_rule ?_)
    refine wpJ_bindA (wpAny_standAt ?_)
    exact wpJ_bindA (wpAny_pyIter_rangeiter hit (wpJ_pure ⟨rfl, h⟩))

theorem fdiv2 (n : Nat) : ((n : Int).fdiv 2) = ((n / 2 : Nat) : Int) := by
  rw [Int.fdiv_eq_ediv_of_nonneg _ (by decide)]; omega

/-- new objects are watched too -/
theorem Walk.watches {bs : List Addr} {s' : Shared} (W : Walk fa cd h₀ Z c g vs s) (hb : ∀ b ∈ bs, s.heap.get? b = none) (k : ∀ b o, s.heap.get? b = some o → s'.heap.get? b = some o) (hm : ∀ b ∈ bs, ∃ o, s'.heap.get? b = some o) (hg : s'.gens = s.gens) (ho : s'.os = s.os) : Walk fa cd h₀ (bs ++ Z) c g vs s' := by
  have W' := W.move (fun b o _ e => k b o e) (fun b hb => by obtain ⟨_, o, e⟩ := W.zs b hb; exact ⟨o, k b o e⟩) hg ho
  obtain ⟨K, W1, Z1⟩ := W
  refine ⟨W'.keep, ?_, fun d hc => ?_⟩
  · rcases W1 with ⟨nd, hgn, hag, hfl, G, hdp, hbd, hz⟩ | ⟨e1, e2, e3, e4, e5⟩
    · refine .inl ⟨nd, hgn, hag, hfl, G.chg (O := fun _ => False) (G := fun _ => False) ⟨fun b o _ e => k b o e, fun _ _ _ e => by rw [hg]; exact e, ho⟩ (fun _ _ h => h.elim) (fun _ _ h => h) (fun _ _ h => h), hdp, fun x y e q => hbd x y (by rw [← hg]; exact e) q, fun d hc => ?_⟩
      rcases List.mem_append.mp hc with hc | hc
      · refine ⟨fun h => ?_, fun h => ?_⟩
        · obtain ⟨o, e, _⟩ := G.ok.own nd 0 _ h
          rw [hb d hc] at e; cases e
        · obtain ⟨o, e⟩ := G.ok.seqs nd 0 _ h
          rw [hb d hc] at e; cases e
      · exact hz d hc
    · refine .inr ⟨e1, e2.at fun o e => k c o e, by rw [hg]; exact e3, fun x y e q => e4 x y (by rw [← hg]; exact e) q, fun h => ?_⟩
      rcases List.mem_append.mp h with h | h
      · exact mapped_gen e2 (hb c h)
      · exact e5 h
  · rcases List.mem_append.mp hc with hc | hc
    · refine ⟨?_, hm d hc⟩
      cases z : h₀.get? d with
      | none => rfl
      | some o => have := K d o z; rw [hb d hc] at this; cases this
    · exact ⟨(Z1 d hc).1, by obtain ⟨_, o, e⟩ := Z1 d hc; exact ⟨o, k d o e⟩⟩

/-- the comprehension's block, from a clean state -/
theorem comp_block (hG : LawG fa la cd lcd h₀) {Q : Flow → Shared → Prop} {I D : Addr} {n : Nat} {s4 : Shared} (hA : A.handled = none) (hd : A.depth + 80 < recursionLimit) (M : Mid fa cd h₀ L os [L, L + 1, V] m c g vs s) (hl : LL s.heap V lvs) (hn : n ≤ vs.length) (hn2 : n ≤ 1000)
    (k : ∀ b o, s.heap.get? b = some o → s4.heap.get? b = some o) (hg : s4.gens = s.gens) (ho : s4.os = s.os) (fI : s.heap.get? I = none) (fD : s.heap.get? D = none) (fC : s.heap.get? C = none) (n1 : I ≠ C) (n2 : I ≠ D) (n3 : D ≠ C) (hVne : V ≠ L)
    (hit : IsRangeIter s4.heap I 0 n 1) (hD : LL s4.heap D []) (hC : ∃ mC, s4.heap.Ns C mC)
    (h : ∀ s' D, Mid fa cd h₀ L os [L, L + 1, V, D] (fun y => if y = Str.ofString "first" then some (.ref D) else m y) c g (vs.drop n) s' → LL s'.heap V lvs → LL s'.heap D (vs.take n) → D ≠ L → D ≠ L + 1 → D ≠ V → Q .next s') :
    codeJ (model prog w) (A.mark none) (.compStart (.ListComp cElt [⟨.Name "k" cTp, cIter, [], 0⟩] cscope cPos) 0 (.ref I) (.ref D) (cenv a lc L C))
      (fun r s' => match r with
        | .ok _ => wpJ (model prog w) A (assign (.Name "first" fPos) (lenv a lc L) (.ref D)) (fun _ s'' => wpJ (model prog w) A (comprehension.letGo (cenv a lc L C) (fun vs : List (Str × NameKind) => vs.flatMap fun x => match x with | (n, k) => if (k == .cell) = true then (Option.map Value.ref ((cenv a lc L C).cells.lookup n)).toList else []) [(Str.ofString "k", .local)]) (fun _ s' => Q .next s') (fun _ _ => False) s'') (fun _ _ => False) s'
        | .error _ => False) s4 := by
  obtain ⟨mC, hC⟩ := hC
  have W0 := M.walk
  have memL : ∀ b ∈ [L, L + 1, V], ∃ o, s.heap.get? b = some o := fun b hb => (W0.zs b hb).2
  have ne : ∀ b ∈ [L, L + 1, V], b ≠ I ∧ b ≠ C ∧ b ≠ D := fun b hb => by
    obtain ⟨o, e⟩ := memL b hb
    exact ⟨(fun q => by rw [q, fI] at e; cases e), (fun q => by rw [q, fC] at e; cases e), (fun q => by rw [q, fD] at e; cases e)⟩
  have W1 : Walk fa cd h₀ (I :: C :: D :: [L, L + 1, V]) c g vs s4 := by
    refine W0.watches (bs := [I, C, D]) (fun b hb => ?_) k (fun b hb => ?_) hg ho
    · simp only [List.mem_cons, List.not_mem_nil, or_false] at hb
      rcases hb with rfl | rfl | rfl
      · exact fI
      · exact fC
      · exact fD
    · simp only [List.mem_cons, List.not_mem_nil, or_false] at hb
      rcases hb with rfl | rfl | rfl
      · exact ⟨_, hit⟩
      · obtain ⟨o, e, _⟩ := ns_notSeq hC; exact ⟨o, e⟩
      · obtain ⟨o, e, _⟩ := hD.mapped; exact ⟨o, e⟩
  have hc4 : s4.heap.IsCell (L + 1) (some (.ref c)) := M.cell.keeps k
  refine comp_start (A := A.mark none) hit ?_
  refine comp_loop hG (A := A.mark none) hA (by show A.depth + 60 < _; omega) (Z0 := [L, L + 1, V]) (by simp) n1 n2 n3 (fun hb => (ne I hb).1 rfl) (fun hb => (ne C hb).2.1 rfl) (fun hb => (ne D hb).2.2 rfl) n s4 vs [] 0 mC hn (by simpa using hn2) W1 hC hit hD hc4 fun s5 mC5 W5 hC5 hD5 H5 => ?_
  have hn5 : s5.heap.Ns L m := Ns.same (M.ns.keeps k) (H5.get L (by simp))
  refine wpJ_of_any (wpAny_assign_Name (wpAny_storeName_local (env := lenv a lc L) (show lawScope.names.lookup (Str.ofString "first") = some .local by decide +kernel) hn5 (fun h6 hn6 hs6 => ?_) rfl))
  replace hs6 : Heap.SameBut L s5.heap h6 := hs6
  have nL : L ≠ C := (ne L (by simp)).2.1
  have hC6 : h6.Ns C mC5 := hC5.sameBut hs6 (Ne.symm nL)
  refine wpJ_of_any (wpAny_comp_letGo (cenv := cenv a lc L C) (by rfl) _ _ mC5 (fun x hx _ => ?_) hC6 fun h7 m7 hn7 hs7 => ?_)
  · rw [List.mem_singleton.mp hx]; exact (show cscope2.names.lookup (Str.ofString "k") = some .local by decide +kernel)
  replace hs7 : Heap.SameBut C h6 h7 := hs7
  have km : ∀ b, b ≠ L → b ≠ C → h7.get? b = s5.heap.get? b := fun b q1 q2 => (hs7.2 b q2).trans (hs6.2 b q1)
  have hL7 : h7.Ns L (fun y => if y = Str.ofString "first" then some (.ref D) else m y) := hn6.sameBut hs7 nL
  have hVL : V ≠ L ∧ L + 1 ≠ L := ⟨hVne, Nat.succ_ne_self _⟩
  have hDL : D ≠ L ∧ D ≠ L + 1 ∧ D ≠ V := ⟨fun q => (ne L (by simp)).2.2 q.symm, fun q => (ne (L + 1) (by simp)).2.2 q.symm, fun q => (ne V (by simp)).2.2 q.symm⟩
  have gV : h7.get? V = s4.heap.get? V := (km V hVL.1 (ne V (by simp)).2.1).trans (H5.get V (by simp))
  have gc : h7.get? (L + 1) = s4.heap.get? (L + 1) := (km (L + 1) hVL.2 (ne (L + 1) (by simp)).2.1).trans (H5.get (L + 1) (by simp))
  have gD : h7.get? D = s5.heap.get? D := km D hDL.1 n3
  refine h _ D ⟨W5.shift (fun b o nb e => (km b (fun q => nb (by rw [q]; simp)) (fun q => nb (by rw [q]; simp))).trans e) (fun b hb => ?_) (fun b hb => ?_) rfl rfl, hL7, IsCell.same hc4 gc, ?_, by simp, by simp⟩ ((hl.at fun o e => k _ _ e).same gV) ?_ hDL.1 hDL.2.1 hDL.2.2
  · simp only [List.mem_cons, List.not_mem_nil, or_false] at hb ⊢
    rcases hb with z | z | z | z <;> simp [z]
  · simp only [List.mem_cons, List.not_mem_nil, or_false] at hb
    rcases hb with rfl | rfl | rfl | rfl
    · obtain ⟨o, e, _⟩ := ns_notSeq hL7; exact ⟨o, e⟩
    · obtain ⟨o, e, _⟩ := hc4; exact ⟨o, gc.trans e⟩
    · obtain ⟨o, e, _⟩ := (hl.at fun o e => k _ _ e).mapped; exact ⟨o, gV.trans e⟩
    · obtain ⟨o, e, _⟩ := hD5.mapped; exact ⟨o, gD.trans e⟩
  · show s5.os = os
    rw [H5.os, ho]; exact M.os
  · have := hD5.same gD
    simpa using this

theorem fourth_ok (hG : LawG fa la cd lcd h₀) {Q : Flow → Shared → Prop} (hA : A.handled = none) (hd : A.depth + 80 < recursionLimit) (M : Mid fa cd h₀ L os [L, L + 1, V] m c g vs s) (hV : m "leaves" = some (.ref V)) (hl : LL s.heap V lvs) (hlen : vs.length = lvs.length) (hlsz : lvs.length ≤ 120) (n1 : V ≠ L) (n2 : V ≠ L + 1)
    (h : ∀ s' D, Mid fa cd h₀ L os [L, L + 1, V, D] (fun y => if y = Str.ofString "first" then some (.ref D) else m y) c g (vs.drop (lvs.length / 2)) s' → LL s'.heap V lvs → LL s'.heap D (vs.take (lvs.length / 2)) → D ≠ L → D ≠ L + 1 → D ≠ V → Q .next s') :
    wpJ (model prog w) A (exec (lawSt 4) (lenv a lc L)) Q (fun _ _ => False) s := by
  have hG' : LawG fa la cd lcd s.heap := hG.keeps M.walk.keep
  rw [st4_eq, exec_Assign_Name_used _ _ _ _ (swaps4 a lc L)]
  refine wpJ_bindA (wpAny_standAt (wpJ_bind ?_))
  show wpJ _ _ (do let _ ← comprehension (.ListComp cElt [⟨.Name "k" cTp, cIter, [], 0⟩] cscope cPos) cscope (lenv a lc L) _ (newList []) false (eval cIter (lenv a lc L)) (some (assign (.Name "first" fPos) (lenv a lc L)))) _ _ _
  refine wpJ_bind ?_
  unfold comprehension
  rw [closure_comp]
  refine wpJ_bindA ?_
  show wpAny _ _ (eval (.Call (.Name "range" _) [.BinOp (.Call (.Name "len" _) [.Name "leaves" _] [] _) .FloorDiv (.Constant (.int 2) 0 _) _] [] _) (lenv a lc L)) _ _ _
  show wpAny _ _ (do callWith _ (← eval (.Name "range" _) (lenv a lc L)) [] (backTo _ (starEach [.BinOp (.Call (.Name "len" _) [.Name "leaves" _] [] _) .FloorDiv (.Constant (.int 2) 0 _) _] (lenv a lc L))) (backToKw _ (keywordEach [] (lenv a lc L)))) _ _ _
  refine wpAny_bind (ldB' hG' (by decide +kernel) (v := .type "range") (by simp [bltList]) ?_)
  refine PyProof.Rows.callWith_type rfl (evalArgs_plain (spliced_cons (wpAny_BinOp (do_len hG' look_leaves M.ns hV hl (by omega) fun t => kInt (k := 0) (pos := default) (AutoIntOps.floordiv_1 (by decide) ?_ ?_)))))
  · have hdig : Builtin.divisionGoesByPylong lvs.length 2 = false := by
      unfold Builtin.divisionGoesByPylong
      have : decide ((if ((2 : Int) == 0) = true then 0 else (2 : Int).natAbs.log2 / 30 + 1) > 300) = false := by decide +kernel
      simp only [this, Bool.false_and]
    rw [hdig]; decide
  refine spliced_nil (call_range_1 ?_)
  have k1 : ∀ b o, s.heap.get? b = some o → (s.heap.push { cls := .type "range", data := .fields #[.int 0 (s.toks + 1 + 1 + 1 + 1), .int ((lvs.length : Int).fdiv 2) (s.toks + 1 + 1 + 1), .int 1 (s.toks + 1 + 1 + 1 + 1 + 1)] }).get? b = some o := fun b o e => Heap.get?_push_of_some _ e
  have hr := IsRange.new s.heap 0 ((lvs.length : Int).fdiv 2) 1 (s.toks + 1 + 1 + 1 + 1) (s.toks + 1 + 1 + 1) (s.toks + 1 + 1 + 1 + 1 + 1)
  refine wpJ_bindA (wpAny_standAt ?_)
  refine wpJ_bindA (m := foldedSetIterable cIter (lenv a lc L) (.ref s.heap.objs.size)) (wpAny_of_eq (a := Value.ref s.heap.objs.size) (by rfl) ?_)
  refine wpJ_bindA (wpAny_holding (wpAny_pyIter_range hr (small_one (by decide) (by decide) ?_ ?_) ?_))
  · rw [fdiv2]; omega
  · rw [fdiv2]; omega
  rw [if_pos (by rfl)]
  refine wpJ_bindA (wpAny_standAt ?_)
  refine wpJ_bindA (wpAny_newList ?_ (Nat.zero_le _))
  refine wpJ_bindA (wpAny_pure ?_)
  refine wpJ_bindA (wpAny_newFunctionEnv (show ∀ x ∈ cscope.names, x.2 ≠ .cell by decide +kernel) (by intro x hx; cases hx) (fun h' hns hsb => ?_) rfl)
  have hsb' : Heap.SameBut ((((s.heap.push { cls := .type "range", data := .fields #[.int 0 (s.toks + 1 + 1 + 1 + 1), .int ((lvs.length : Int).fdiv 2) (s.toks + 1 + 1 + 1), .int 1 (s.toks + 1 + 1 + 1 + 1 + 1)] }).push { cls := .type "range_iterator", data := .fields #[rawInt 0, rawInt (Builtin.Range.rangeSize 0 ((lvs.length : Int).fdiv 2) 1), rawInt 1] }).push { cls := .type "list", data := .seq ([] : List Value).toArray })).objs.size
      ((((s.heap.push { cls := .type "range", data := .fields #[.int 0 (s.toks + 1 + 1 + 1 + 1), .int ((lvs.length : Int).fdiv 2) (s.toks + 1 + 1 + 1), .int 1 (s.toks + 1 + 1 + 1 + 1 + 1)] }).push { cls := .type "range_iterator", data := .fields #[rawInt 0, rawInt (Builtin.Range.rangeSize 0 ((lvs.length : Int).fdiv 2) 1), rawInt 1] }).push { cls := .type "list", data := .seq ([] : List Value).toArray }).push { cls := .type "dict", data := .dict #[] }) h' := hsb
  have hns' : h'.Ns ((((s.heap.push { cls := .type "range", data := .fields #[.int 0 (s.toks + 1 + 1 + 1 + 1), .int ((lvs.length : Int).fdiv 2) (s.toks + 1 + 1 + 1), .int 1 (s.toks + 1 + 1 + 1 + 1 + 1)] }).push { cls := .type "range_iterator", data := .fields #[rawInt 0, rawInt (Builtin.Range.rangeSize 0 ((lvs.length : Int).fdiv 2) 1), rawInt 1] }).push { cls := .type "list", data := .seq ([] : List Value).toArray })).objs.size (fun x => ([] : List (Str × Value)).reverse.lookup x) := hns
  have hsize : Builtin.Range.rangeSize 0 ((lvs.length : Int).fdiv 2) 1 = ((lvs.length / 2 : Nat) : Int) := by
    rw [rangeSize_one, fdiv2]
    split <;> omega
  have z1 : (s.heap.push { cls := .type "range", data := .fields #[.int 0 (s.toks + 1 + 1 + 1 + 1), .int ((lvs.length : Int).fdiv 2) (s.toks + 1 + 1 + 1), .int 1 (s.toks + 1 + 1 + 1 + 1 + 1)] }).objs.size = s.heap.objs.size + 1 := Heap.size_push ..
  suffices hs : ∀ h1 : Heap, h1.objs.size = s.heap.objs.size + 1 → (∀ b o, s.heap.get? b = some o → h1.get? b = some o) →
      Heap.SameBut ((h1.push { cls := .type "range_iterator", data := .fields #[rawInt 0, rawInt (Builtin.Range.rangeSize 0 ((lvs.length : Int).fdiv 2) 1), rawInt 1] }).push { cls := .type "list", data := .seq ([] : List Value).toArray }).objs.size
        (((h1.push { cls := .type "range_iterator", data := .fields #[rawInt 0, rawInt (Builtin.Range.rangeSize 0 ((lvs.length : Int).fdiv 2) 1), rawInt 1] }).push { cls := .type "list", data := .seq ([] : List Value).toArray }).push { cls := .type "dict", data := .dict #[] }) h' →
      h'.Ns ((h1.push { cls := .type "range_iterator", data := .fields #[rawInt 0, rawInt (Builtin.Range.rangeSize 0 ((lvs.length : Int).fdiv 2) 1), rawInt 1] }).push { cls := .type "list", data := .seq ([] : List Value).toArray }).objs.size (fun x => ([] : List (Str × Value)).reverse.lookup x) →
      codeJ (model prog w) (A.mark none) (.compStart (.ListComp cElt [⟨.Name "k" cTp, cIter, [], 0⟩] cscope cPos) 0 (.ref h1.objs.size) (.ref (h1.push { cls := .type "range_iterator", data := .fields #[rawInt 0, rawInt (Builtin.Range.rangeSize 0 ((lvs.length : Int).fdiv 2) 1), rawInt 1] }).objs.size)
        (cenv a lc L ((h1.push { cls := .type "range_iterator", data := .fields #[rawInt 0, rawInt (Builtin.Range.rangeSize 0 ((lvs.length : Int).fdiv 2) 1), rawInt 1] }).push { cls := .type "list", data := .seq ([] : List Value).toArray }).objs.size))
        (fun r s' => match r with
        | .ok _ => wpJ (model prog w) A (assign (.Name "first" fPos) (lenv a lc L) (.ref (h1.push { cls := .type "range_iterator", data := .fields #[rawInt 0, rawInt (Builtin.Range.rangeSize 0 ((lvs.length : Int).fdiv 2) 1), rawInt 1] }).objs.size)) (fun _ s'' => wpJ (model prog w) A (comprehension.letGo (cenv a lc L ((h1.push { cls := .type "range_iterator", data := .fields #[rawInt 0, rawInt (Builtin.Range.rangeSize 0 ((lvs.length : Int).fdiv 2) 1), rawInt 1] }).push { cls := .type "list", data := .seq ([] : List Value).toArray }).objs.size) (fun vs : List (Str × NameKind) => vs.flatMap fun x => match x with | (n, k) => if (k == .cell) = true then (Option.map Value.ref ((cenv a lc L ((h1.push { cls := .type "range_iterator", data := .fields #[rawInt 0, rawInt (Builtin.Range.rangeSize 0 ((lvs.length : Int).fdiv 2) 1), rawInt 1] }).push { cls := .type "list", data := .seq ([] : List Value).toArray }).objs.size).cells.lookup n)).toList else []) [(Str.ofString "k", .local)]) (fun _ s' => Q .next s') (fun _ _ => False) s'') (fun _ _ => False) s'
        | .error _ => False) { s with heap := h', toks := s.toks + 1 + 1 + 1 + 1 + 1 + 1 } by
    refine wpJ_holding (wpJ_bind (wpJ_attempt (wpJ_holding (wpJ_run (h := none) ?_))))
    refine codeJ_mono (hs _ z1 k1 hsb' hns') (fun r s' hr => ?_)
    cases r with
    | error e => exact hr.elim
    | ok f =>
      refine wpJ_bindA (wpAny_rule (wpJ_bind (wpJ_holding (wpJ_mono hr (fun _ s2 h2 => ?_) fun _ _ x => x))))
      exact wpJ_bind (wpJ_mono h2 (fun _ s3 h3 => wpJ_pure (wpJ_pure (wpJ_pure h3))) fun _ _ x => x)
  intro h1 hz1 hk1 hsb1 hns1
  generalize hh2 : h1.push { cls := .type "range_iterator", data := .fields #[rawInt 0, rawInt (Builtin.Range.rangeSize 0 ((lvs.length : Int).fdiv 2) 1), rawInt 1] } = h2 at hsb1 hns1 ⊢
  have z2 : h2.objs.size = h1.objs.size + 1 := by rw [← hh2, Heap.size_push]
  have k2 : ∀ b o, h1.get? b = some o → h2.get? b = some o := fun b o e => by rw [← hh2]; exact Heap.get?_push_of_some _ e
  have i2 : IsRangeIter h2 h1.objs.size 0 ((lvs.length / 2 : Nat) : Int) 1 := by
    rw [← hh2, hsize]; exact Heap.get?_push_size _ rfl
  generalize hh3 : h2.push { cls := .type "list", data := .seq ([] : List Value).toArray } = h3 at hsb1 hns1 ⊢
  have z3 : h3.objs.size = h2.objs.size + 1 := by rw [← hh3, Heap.size_push]
  have k3 : ∀ b o, h2.get? b = some o → h3.get? b = some o := fun b o e => by rw [← hh3]; exact Heap.get?_push_of_some _ e
  have l3 : LL h3 h2.objs.size [] := by rw [← hh3]; exact LL.new h2 []
  have k4 : ∀ b o, h3.get? b = some o → h'.get? b = some o := fun b o e => hsb1.extBut b o (Nat.ne_of_lt (Heap.lt_size e)) (Heap.get?_push_of_some _ e)
  have fr : ∀ q : Nat, s.heap.objs.size ≤ q → s.heap.get? q = none := fun q hq => Heap.get?_none_of_le hq
  have lt : ∀ {x y : Nat}, x < y → ¬ (x = y) := fun h => Nat.ne_of_lt h
  exact comp_block hG hA hd M hl (n := lvs.length / 2) (by omega) (by omega) (fun b o e => k4 _ _ (k3 _ _ (k2 _ _ (hk1 _ _ e)))) rfl rfl (fr _ (by omega)) (fr _ (by omega)) (fr _ (by omega)) (lt (by omega)) (lt (by omega)) (lt (by omega)) n1 (k4 _ _ (k3 _ _ i2)) (l3.at fun o e => k4 _ _ e) ⟨_, hns1⟩ h
end
end Mine

namespace Mine
open PySem PySem.W PySem.Calls PyProof.Rows

section
variable {prog : Program} {w : World} {A : Around} {E : Value → Shared → Prop} {s : Shared} {fa la : Addr} {cd lcd : Value} {h₀ : Heap} {Z : List Addr} {c g : Nat} {vs : List Value}

theorem callSpecial_J1 {T : String} {name : Str} {id : String} {b : Builtin} {self x : Value} {Q : Option Value → Shared → Prop} (h : Slot T name id) (hT : s.TypeIs self T) (hb : entryFor table id = some b) (ha : argsOk id ⟨[self, x], []⟩)
    (hc : wpJ (model prog w) A.in1 (b ⟨[self, x], []⟩) (fun fin s' => match fin with | .done f => ∃ v, f = .ret v ∧ Q (some v) s' | .again c' => c'.quiet = true ∧ codeJ (model prog w) A c' (fun r s' => ∃ v, r = .ok (.ret v) ∧ Q (some v) s') s') (fun _ _ => False) s) :
    wpJ (model prog w) A (callSpecial? self name [x] []) Q E s := by
  simp only [callSpecial?]
  refine wpJ_bindA (wpAny_specialOf hT h.lookup ?_)
  simp only [h.bind]
  refine wpJ_holding (wpJ_bind (wpJ_pure (wpJ_bind ?_)))
  refine wpJ_call (codeJ_mono (R := fun r s' => ∃ v, r = .ok (.ret v) ∧ Q (some v) s') (codeJ_entry h hT hb ha (wpJ_mono hc (fun fin s' x => ?_) fun _ _ x => x.elim)) fun r s' x => ?_)
  · cases fin with
    | done f => obtain ⟨v, rfl, x⟩ := x; exact ⟨v, rfl, x⟩
    | again c' => exact x
  · obtain ⟨v, rfl, x⟩ := x
    exact wpJ_pure x

theorem typeCall_J {T newId initId : String} {Bi : Builtin} {x : Value} {Q Q₁ : Value → Shared → Prop} (ft : TypeCalled T newId initId)
    (hct : checkTypeCall T ⟨[x], []⟩ = pure ()) (entryI : entryFor table initId = some Bi)
    (hnew : codeAny (model prog w) A.in1 (.call (.builtin newId) ⟨[.type T, x], []⟩) (wants Q₁ fun _ _ => False) s)
    (hnext : ∀ obj s₁, Q₁ obj s₁ → s₁.TypeIs obj T ∧ argsOk initId ⟨[obj, x], []⟩ ∧
      wpJ (model prog w) A.in1.in1 (Bi ⟨[obj, x], []⟩) (fun fin s' => match fin with | .done f => ∃ v, f = .ret v ∧ (v = .none ∧ Q obj s') | .again c' => c'.quiet = true ∧ codeJ (model prog w) A.in1 c' (fun r s' => ∃ v, r = .ok (.ret v) ∧ (v = .none ∧ Q obj s')) s') (fun _ _ => False) s₁) :
    wpJ (model prog w) A (PySem.call (.type T) [x]) Q E s := by
  obtain ⟨c, tl, hmro⟩ := ft.mro
  refine wpJ_call (codeJ_of_tree ?_)
  show wpJ _ _ (callAny (.type T) _) _ _ _
  refine wpJ_pure ⟨Code.quiet_builtin _ (by decide +kernel), codeJ_of_tree ?_⟩
  rw [den_builtin F.entry_type_call, Around.under_plain (weight_type_call_type T [x] []) rfl]
  unfold Builtin.«type.__call__»
  have h1 := ft.notType
  have h2 := ft.canCreate
  simp only [h1, h2, Bool.false_eq_true, if_false, hct, hmro, ft.made, pure_bind, List.isEmpty_cons]
  refine wpJ_bindA (wpAny_holding (wpAny_call (codeAny_mono hnew fun r s₁ hr => ?_)))
  cases r with
  | error e => exact hr.elim
  | ok fl =>
    cases fl with
    | ret obj =>
      obtain ⟨hT, hok, hi⟩ := hnext _ _ hr
      refine wpJ_bindA (wpAny_isInstance hT ft.sub ?_)
      rw [if_neg (by decide)]
      refine wpJ_bind (wpJ_holding (wpJ_mono (callSpecial_J1 (E := fun _ _ => False) (Q := fun o s' => ∃ v, o = some v ∧ v = .none ∧ Q obj s') ft.init hT entryI hok (wpJ_mono hi (fun fin s' q => ?_) fun _ _ q => q)) (fun o s' q => ?_) fun _ _ q => q.elim))
      · cases fin with
        | done f =>
          obtain ⟨v, e, q⟩ := q
          exact ⟨v, e, v, rfl, q⟩
        | again c' => exact ⟨q.1, codeJ_mono q.2 fun r s' q => by obtain ⟨v, e, q⟩ := q; exact ⟨v, e, v, rfl, q⟩⟩
      · obtain ⟨v, rfl, rfl, q⟩ := q
        exact wpJ_pure q
    | _ => exact hr.elim

/-- list.extend.loop over the walk -/
theorem extend_loop_J (hE₀ : EnvG fa cd h₀) {D : Addr} (hA : A.handled = none) (hd : A.depth + 50 < recursionLimit) : ∀ (n : Nat) (s : Shared) (vs got : List Value), vs.length = n → got.length + n ≤ 1000 → Walk fa cd h₀ (D :: Z) c g vs s → LL s.heap D got → D ∉ Z →
    ∀ R : Result → Shared → Prop, (∀ s', Walk fa cd h₀ (D :: Z) c g [] s' → Held Z s s' → LL s'.heap D (got ++ vs) → R (.ok (.ret .none)) s') →
    codeJ (model prog w) A (.builtin "list.extend.loop" ⟨[.ref D, .ref c, .none], []⟩) R s := by
  intro n
  induction n with
  | zero =>
    intro s vs got hn hsz W hl hD R hR
    have : vs = [] := List.length_eq_zero_iff.mp hn
    subst this
    refine codeJ_builtin F.plain_extend_loop F.entry_extend_loop ?_
    show wpJ _ _ (pyNext (.ref c) >>= _) _ _ s
    refine wpJ_bind (pyNext_walk hE₀ (A := A.in1) hA (by show A.depth + 40 < _; omega) W (fun v rest s' e => by cases e) fun s' _ W' H _ => ?_)
    refine wpJ_pure (hR s' W' (H.sub fun b hb => .tail _ hb) ?_)
    have := hl.same (H.get D (.head _))
    simpa using this
  | succ n ih =>
    intro s vs got hn hsz W hl hD R hR
    refine codeJ_builtin F.plain_extend_loop F.entry_extend_loop ?_
    show wpJ _ _ (pyNext (.ref c) >>= _) _ _ s
    refine wpJ_bind (pyNext_walk hE₀ (A := A.in1) hA (by show A.depth + 40 < _; omega) W (fun v rest s1 e W1 H1 => ?_) fun s' e _ _ _ => by rw [e] at hn; cases hn)
    have hl1 := hl.same (H1.get D (.head _))
    obtain ⟨nn, el⟩ := id hl1
    show wpJ _ _ (updateSeq D (·.push v) >>= _) _ _ _
    have hz : got.toArray.size ≤ sizeLine := by
      have e : got.toArray.size = got.length := by simp
      rw [e]; exact Nat.le_trans (by omega : got.length ≤ 1000) (by decide)
    have hz' : (got.toArray.push v).size ≤ sizeLine + 1 := by rw [Array.size_push]; omega
    refine wpJ_bindA (wpAny_updateSeq (hz := hz) (_hz' := hz') el rfl ?_)
    have hfin := IsL.update el (fun xs => xs.push v)
    rw [push_toA] at hfin
    generalize hh : s1.heap.update D (Obj.mapSeq fun xs => xs.push v) = h2 at hfin
    have hsb : Heap.SameBut D s1.heap h2 := by rw [← hh]; exact Heap.SameBut.update ..
    have W2 : Walk fa cd h₀ (D :: Z) c g rest { s1 with heap := h2 } := W1.move (fun b o nb e => (hsb.2 b fun q => nb (q ▸ .head _)).trans e) (fun b hb => by
      by_cases q : b = D
      · subst q; exact ⟨_, hfin⟩
      · obtain ⟨_, o, e⟩ := W1.zs b hb
        exact ⟨o, (hsb.2 b q).trans e⟩) rfl rfl
    have H2 : Held Z s { s1 with heap := h2 } := ⟨fun b hb => (hsb.2 b fun q => hD (q ▸ hb)).trans (H1.get b (.tail _ hb)), H1.os⟩
    refine wpJ_pure ⟨plainId_quiet F.plain_extend_loop _, ih _ rest (got ++ [v]) (by rw [e] at hn; simpa using hn) (by rw [List.length_append]; simp only [List.length_cons, List.length_nil]; omega) W2 ⟨_, hfin⟩ hD R fun s' W' H' hl' => hR s' W' (H2.trans H') ?_⟩
    rw [e]
    have : got ++ v :: rest = (got ++ [v]) ++ rest := by simp
    rw [this]; exact hl'

theorem Walk.iter {Q : Value → Shared → Prop} (W : Walk fa cd h₀ Z c g vs s) (h : Q (.ref c) s) : wpAny (model prog w) A (pyIter (.ref c)) Q E s := by
  rcases W.alive with ⟨nd, hg, hag, _, G, _⟩ | ⟨_, ho, _⟩
  · have := G.ok.obj hg
    rw [hag] at this
    exact iter_gen this h
  · exact iter_gen ho h

/-- list(walk) -/
theorem call_listJ (hE₀ : EnvG fa cd h₀) {Q : Value → Shared → Prop} (hA : A.handled = none) (hd : A.depth + 60 < recursionLimit) (W : Walk fa cd h₀ Z c g vs s) (hlen : vs.length ≤ 1000)
    (hQ : ∀ s' D, Walk fa cd h₀ (D :: Z) c g [] s' → Held Z s s' → LL s'.heap D vs → D ∉ Z → Q (.ref D) s') : wpJ (model prog w) A (PySem.call (.type "list") [.ref c]) Q E s := by
  refine typeCall_J (Q₁ := fun obj s₁ => obj = .ref s.heap.objs.size ∧ s₁ = { s with heap := s.heap.push { cls := .type "list", data := .seq #[] } }) F.called_list (F.typeCall_list_1 _) F.entry_list_init (code_list_new _ ⟨rfl, rfl⟩) fun obj s₁ h₁ => ?_
  obtain ⟨rfl, rfl⟩ := h₁
  have hfr : s.heap.get? s.heap.objs.size = none := Heap.get?_none_of_le (Nat.le_refl _)
  have hDZ : s.heap.objs.size ∉ Z := fun h => by obtain ⟨_, o, e⟩ := W.zs _ h; rw [hfr] at e; cases e
  have l0 : LL (s.heap.push { cls := .type "list", data := .seq #[] }) s.heap.objs.size [] := LL.new s.heap []
  have W1 : Walk fa cd h₀ (s.heap.objs.size :: Z) c g vs { s with heap := s.heap.push { cls := .type "list", data := .seq #[] } } := W.watch hfr (fun b o e => Heap.get?_push_of_some _ e) (by obtain ⟨o, e, _⟩ := l0.mapped; exact ⟨o, e⟩) rfl rfl
  have H1 : Held Z s { s with heap := s.heap.push { cls := .type "list", data := .seq #[] } } := ⟨fun b hb => by obtain ⟨_, o, e⟩ := W.zs b hb; rw [e]; exact Heap.get?_push_of_some _ e, rfl⟩
  generalize hD : s.heap.objs.size = D at *
  generalize hs1 : ({ s with heap := s.heap.push { cls := .type "list", data := .seq #[] } } : Shared) = s1 at *
  have l1 : LL s1.heap D [] := by rw [← hs1]; exact l0
  obtain ⟨n0, e0⟩ := id l1
  refine ⟨⟨_, e0, rfl⟩, F.args_list_init_2 _ _, ?_⟩
  show wpJ _ _ (do let old ← Builtin.List.listItems (.ref D); Builtin.List.listUpdate (.ref D) (fun _ => #[]); letGo old.toList.reverse; Builtin.List.listExtendWith (.ref D) (.ref c) .none) _ _ _
  unfold Builtin.List.listItems
  refine wpJ_bindA (wpAny_bind (wpAny_seqItems e0 rfl (wpAny_pure ?_)))
  show wpJ _ _ (updateSeq D (fun _ => #[]) >>= fun _ => letGo (#[] : Array Value).toList.reverse >>= fun _ => Builtin.List.listExtendWith (.ref D) (.ref c) .none) _ _ _
  have step : ∀ (s2 : Shared) (f : Array Value → Array Value) (its : List Value) (n2 : Nat) (its' : List Value), IsL s2.heap D its.toArray n2 → f its.toArray = its'.toArray → Walk fa cd h₀ (D :: Z) c g vs s2 → Held Z s s2 →
      Walk fa cd h₀ (D :: Z) c g vs { s2 with heap := s2.heap.update D (Obj.mapSeq f) } ∧ Held Z s { s2 with heap := s2.heap.update D (Obj.mapSeq f) } ∧ LL (s2.heap.update D (Obj.mapSeq f)) D its' := by
    intro s2 f its n2 its' e2 hf W2 H2
    have hfin := IsL.update e2 f
    rw [hf] at hfin
    have hsb : Heap.SameBut D s2.heap (s2.heap.update D (Obj.mapSeq f)) := Heap.SameBut.update ..
    refine ⟨W2.move (fun b o nb e => (hsb.2 b fun q => nb (q ▸ .head _)).trans e) (fun b hb => ?_) rfl rfl, ⟨fun b hb => (hsb.2 b fun q => hDZ (q ▸ hb)).trans (H2.get b hb), H2.os⟩, ⟨_, hfin⟩⟩
    by_cases q : b = D
    · subst q; exact ⟨_, hfin⟩
    · obtain ⟨_, o, e⟩ := W2.zs b hb
      exact ⟨o, (hsb.2 b q).trans e⟩
  refine wpJ_bindA (wpAny_updateSeq e0 rfl ?_)
  obtain ⟨W2, H2, l2⟩ := step s1 (fun _ => #[]) [] n0 [] e0 rfl W1 H1
  have l2' : LL ({ s1 with heap := s1.heap.update D (Obj.mapSeq fun _ => #[]) } : Shared).heap D [] := l2
  generalize ({ s1 with heap := s1.heap.update D (Obj.mapSeq fun _ => #[]) } : Shared) = s2 at W2 H2 l2' ⊢
  clear l2
  obtain ⟨n2, e2⟩ := id l2'
  refine wpJ_bindA (wpAny_letGo ?_)
  unfold Builtin.List.listExtendWith
  refine wpJ_bindA (wpAny_typeOf (T := "generator") W2.typ ?_)
  have hDc : D ≠ c := fun q => by
    obtain ⟨o, e, ec⟩ := W2.typ
    have e' : s2.heap.get? D = _ := e2
    rw [q] at e'
    have e'' : s2.heap.get? c = some o := e
    rw [e''] at e'
    cases e'
    have ec' : Value.type "list" = Value.type "generator" := ec
    exact absurd ec' (by decide)
  have h1 : Builtin.List.listSameRef (.ref D) (.ref c) = false := by simp [Builtin.List.listSameRef, hDc]
  have h2 : (Value.type "generator" == Value.type "list") = false := by decide
  have h3 : (Value.type "generator" == Value.type "tuple") = false := by decide
  simp only [h1, h2, h3, Bool.or_false, Bool.false_eq_true, if_false]
  refine wpJ_bindA (W2.iter ?_)
  refine wpJ_bindA (wpAny_holding ?_)
  unfold Builtin.List.listLengthHint
  refine wpAny_bind (wpAny_specialOf W2.typ F.gen_no_len ?_)
  show wpAny _ _ (specialOf (Value.ref c) (Str.ofString "__length_hint__") >>= _) _ _ _
  refine wpAny_bind (wpAny_specialOf W2.typ F.gen_no_hint ?_)
  refine wpAny_pure ?_
  show wpJ _ _ (rule "list.extend.makes-room" >>= fun _ => Builtin.List.listTouch (.ref D) >>= fun _ => again (.builtin "list.extend.loop" ⟨[.ref D, .ref c, .none], []⟩)) _ _ _
  refine wpJ_bindA (wpAny_rule ?_)
  refine wpJ_bindA ?_
  show wpAny _ _ (updateSeq D (·.push .none) >>= fun _ => updateSeq D (·.pop)) _ _ _
  refine wpAny_bind (wpAny_updateSeq e2 rfl ?_)
  obtain ⟨W3, H3, l3⟩ := step s2 (fun xs => xs.push .none) [] n2 [.none] e2 rfl W2 H2
  obtain ⟨n3, e3⟩ := id l3
  refine wpAny_updateSeq (hz := by decide) (o := _) e3 rfl ?_
  obtain ⟨W4, H4, l4⟩ := step _ (fun xs => xs.pop) [.none] n3 [] e3 rfl W3 H3
  refine wpJ_pure ⟨plainId_quiet F.plain_extend_loop _, extend_loop_J hE₀ (A := A.in1) hA (by show A.depth + 50 < _; omega) vs.length _ vs [] rfl (by simpa using hlen) W4 l4 hDZ _ fun s' W' H' hl' => ⟨.none, rfl, rfl, hQ s' D W' (H4.trans H') (by simpa using hl') hDZ⟩⟩
end
end Mine

namespace Mine
open PySem PySem.W PySem.Calls PyProof.Rows

def rPos : Pos := match lawSt 5 with | .Assign [.Name _ p] _ _ => p | _ => default
def rVal : Expr := match lawSt 5 with | .Assign _ e _ => e | _ => .Constant .none 0 default
def rPos2 : Pos := match lawSt 5 with | .Assign _ _ p => p | _ => default
theorem st5_eq : lawSt 5 = .Assign [.Name "rest" rPos] rVal rPos2 := rfl
theorem swaps5 (a : Addr) (lc : Value) (L : Addr) : swapsWith rVal (some (.Name "rest" rPos)) rPos2.line (lenv a lc L) = pure false := by rfl

section
variable {prog : Program} {w : World} {A : Around} {E : Value → Shared → Prop} {s : Shared} {fa la : Addr} {cd lcd : Value} {h₀ : Heap} {Z : List Addr} {c g : Nat} {vs : List Value} {a : Addr} {lc : Value} {L C : Addr} {m : Str → Option Value} {os : OsState} {V : Addr} {lvs : List Value}

theorem ldWalk {pos : Pos} {Q : Value → Shared → Prop} (hc : s.heap.IsCell (L + 1) (some (.ref c))) (h : Q (.ref c) s) : wpAny (model prog w) A (eval (.Name "walk" pos) (lenv a lc L)) Q E s :=
  wpAny_Name (wpAny_loadName_cell rfl look_walk (c := L + 1) (by simp [lenv, newEnv]) hc h) (by decide)

/-- list(walk) as an expression -/
theorem list_expr (hG : LawG fa la cd lcd h₀) {p1 p2 p3 : Pos} {Q : Value → Shared → Prop} (hA : A.handled = none) (hd : A.depth + 60 < recursionLimit) (W : Walk fa cd h₀ Z c g vs s) (hc : s.heap.IsCell (L + 1) (some (.ref c))) (hlen : vs.length ≤ 1000)
    (hQ : ∀ s' D, Walk fa cd h₀ (D :: Z) c g [] s' → Held Z s s' → LL s'.heap D vs → D ∉ Z → Q (.ref D) s') : wpJ (model prog w) A (eval (.Call (.Name "list" p1) [.Name "walk" p2] [] p3) (lenv a lc L)) Q (fun _ _ => False) s := by
  show wpJ _ _ (do callWith p3 (← eval (.Name "list" p1) (lenv a lc L)) [] (backTo p3 (starEach [.Name "walk" p2] (lenv a lc L))) (backToKw p3 (keywordEach [] (lenv a lc L)))) _ _ _
  refine wpJ_bindA (ldB' (hG.keeps W.keep) (by decide +kernel) (v := .type "list") (by simp [bltList]) ?_)
  refine callWithT_J rfl (evalArgs_plain (spliced_cons (ldWalk hc (spliced_nil ?_))))
  exact call_listJ hG.e hA hd W hlen hQ

theorem fifth_ok (hG : LawG fa la cd lcd h₀) {Q : Flow → Shared → Prop} {D : Addr} (hA : A.handled = none) (hd : A.depth + 80 < recursionLimit) (M : Mid fa cd h₀ L os [L, L + 1, V, D] m c g vs s) (hlen : vs.length ≤ 1000) (hV : V ≠ L ∧ V ≠ L + 1) (hD : D ≠ L ∧ D ≠ L + 1) {got : List Value} (hl : LL s.heap V lvs) (hl2 : LL s.heap D got)
    (h : ∀ s' D2, Mid fa cd h₀ L os [D2, L, L + 1, V, D] (fun y => if y = Str.ofString "rest" then some (.ref D2) else m y) c g [] s' → LL s'.heap V lvs → LL s'.heap D got → LL s'.heap D2 vs → Q .next s') :
    wpJ (model prog w) A (exec (lawSt 5) (lenv a lc L)) Q (fun _ _ => False) s := by
  rw [st5_eq, PySem.exec_Assign_Name (lenv a lc L) _ _ _ _ (swaps5 a lc L)]
  refine wpJ_bindA (wpAny_standAt (wpJ_bind ?_))
  show wpJ _ _ (eval (.Call (.Name "list" _) [.Name "walk" _] [] _) (lenv a lc L)) _ _ _
  refine list_expr hG hA (by omega) M.walk M.cell hlen fun s1 D2 W1 H1 l1 hDZ => ?_
  refine wpJ_bindA (wpAny_standAt ?_)
  have hn1 := Ns.same M.ns (H1.get L (by simp))
  refine wpJ_bindA (wpAny_bindName (wpAny_storeName_local (env := lenv a lc L) (show lawScope.names.lookup (Str.ofString "rest") = some .local by decide +kernel) hn1 (fun h2 hn2 hs2 => ?_) rfl))
  replace hs2 : Heap.SameBut L s1.heap h2 := hs2
  have hD2 : D2 ≠ L ∧ D2 ≠ L + 1 ∧ D2 ≠ V ∧ D2 ≠ D := by
    simp only [List.mem_cons, List.not_mem_nil, or_false, not_or] at hDZ
    exact ⟨hDZ.1, hDZ.2.1, hDZ.2.2.1, hDZ.2.2.2⟩
  have e1 : ∀ b, b ≠ L → h2.get? b = s1.heap.get? b := fun b q => hs2.2 b q
  have eV : h2.get? V = s.heap.get? V := (e1 V hV.1).trans (H1.get V (by simp))
  have eD : h2.get? D = s.heap.get? D := (e1 D hD.1).trans (H1.get D (by simp))
  have ec : h2.get? (L + 1) = s.heap.get? (L + 1) := (e1 (L + 1) (Nat.succ_ne_self _)).trans (H1.get (L + 1) (by simp))
  refine wpJ_pure (h _ D2 ⟨W1.move (fun b o nb e => (e1 b fun q => nb (by rw [q]; simp)).trans e) (fun b hb => ?_) rfl rfl, hn2, IsCell.same M.cell ec, H1.os.trans M.os, by simp, by simp⟩ (hl.same eV) (hl2.same eD) (l1.same (e1 D2 hD2.1)))
  by_cases q : b = L
  · subst q
    obtain ⟨o, e, _⟩ := ns_notSeq hn2
    exact ⟨o, e⟩
  · obtain ⟨_, o, e⟩ := W1.zs b hb
    exact ⟨o, (e1 b q).trans e⟩

theorem EqAt_sim {y x : Value} (h : Sim y x) : SeqAt.EqAt A s y x true := by
  rcases h with ⟨rfl, rfl⟩ | ⟨i, t, t', rfl, rfl⟩ | ⟨z, t, t', rfl, rfl⟩
  · intro prog w E Q hq
    unfold eqBool
    refine wpAny_holding ?_
    refine wpAny_ite_split (fun hab => ?_) (fun _ => ?_)
    · exact wpAny_bind (wpAny_rule (wpAny_pure hq))
    · exact wpAny_bind (SeqAt.RcAt.none_none prog w E _ (wpAny_truthy_bool hq))
  · have := SeqAt.EqAt.int_int (A := A) (s := s) i t i t'
    simpa using this
  · have := SeqAt.EqAt.str_str (A := A) (s := s) z t z t'
    simpa using this

theorem Sims.get {a b : List Value} (h : Sims a b) : ∀ (j : Nat) (h1 : j < a.length) (h2 : j < b.length), Sim a[j] b[j] := by
  induction h with
  | nil => intro j h1; exact absurd h1 (Nat.not_lt_zero _)
  | cons x y ih =>
    intro j h1 h2
    cases j with
    | zero => exact x
    | succ j => exact ih j (by simpa using h1) (by simpa using h2)

theorem BoolOp_andJ {env : Env} {e₁ e₂ : Expr} {rest : List Expr} {pos : Pos} {Q : Value → Shared → Prop}
    (h : wpJ (model prog w) A (eval e₁ env) (fun v s₁ => v = .bool true ∧ wpJ (model prog w) A (eval (.BoolOp .And (e₂ :: rest) pos) env) Q E s₁) E s) :
    wpJ (model prog w) A (eval (.BoolOp .And (e₁ :: e₂ :: rest) pos) env) Q E s := by
  show wpJ _ _ (do
    let v ← eval e₁ env
    standAt pos
    let c ← holding [v] (truthy v)
    match BoolOp.And, c with
    | .And, false | .Or, true => pure v
    | _, _ => boolOp pos .And (eval e₂ env :: evalEach rest env)) Q E s
  refine wpJ_bind (wpJ_mono h (fun v s₁ h₁ => ?_) fun _ _ x => x)
  obtain ⟨rfl, h₁⟩ := h₁
  exact wpJ_bindA (wpAny_standAt (wpJ_bindA (wpAny_holding (wpAny_truthy_bool h₁))))
theorem Compare1_J {env : Env} {l r : Expr} {op : CmpOp} {pos : Pos} {Q : Value → Shared → Prop} (hm : behindInMarks op r = false)
    (h : wpJ (model prog w) A (eval l env) (fun a s₁ => wpAny (model prog w) A (eval r env) (fun b s₂ => wpAny (model prog w) A (compareOp op a b) Q E s₂) E s₁) E s) :
    wpJ (model prog w) A (eval (.Compare l [op] [r] pos) env) Q E s := by
  rw [PySem.eval_Compare1, markedBehindIn_of_false hm]
  exact wpJ_bind (wpJ_mono h (fun a s₁ h₁ => wpJ_of_any (wpAny_bind (wpAny_holding (wpAny_mono h₁ (fun b s₂ h₂ => wpAny_bind (wpAny_standAt (wpAny_operating h₂))) fun _ _ x => x)))) fun _ _ x => x)

theorem sixth_ok (hG : LawG fa la cd lcd h₀) {Q : Flow → Shared → Prop} {D D2 : Addr} {k : Nat} (hA : A.handled = none) (hd : A.depth + 80 < recursionLimit) (hu : A.units + 10 < cLine) (M : Mid fa cd h₀ L os [D2, L, L + 1, V, D] m c g [] s)
    (hV : m "leaves" = some (.ref V)) (hF : m "first" = some (.ref D)) (hR : m "rest" = some (.ref D2)) (hl : LL s.heap V lvs) (hl1 : LL s.heap D (vs.take k)) (hl2 : LL s.heap D2 (vs.drop k)) (hs : Sims vs lvs) (hlsz : lvs.length ≤ 120)
    (h : ∀ s', Mid fa cd h₀ L os [D2, L, L + 1, V, D] m c g [] s' → InB s' (fun _ => False) → Q (.ret (.bool true)) s') :
    wpJ (model prog w) A (exec (lawSt 6) (lenv a lc L)) Q (fun _ _ => False) s := by
  show wpJ _ _ (exec (.Return (some (.BoolOp .And [.Compare (.BinOp (.Name "first" _) .Add (.Name "rest" _) _) [.Eq] [.Name "leaves" _] _, .Compare (.Call (.Name "list" _) [.Name "walk" _] [] _) [.Eq] [.List [] _] _,
    .Compare (.Call (.Name "next" _) [.Name "walk" _, .Constant (.str "none") 0 _] [] _) [.Eq] [.Constant (.str "none") 0 _] _] _)) _) (lenv a lc L)) _ _ _
  rw [exec_Return_some]
  refine wpJ_bindA (wpAny_standAt (wpJ_bind ?_))
  have hlenv : vs.length = lvs.length := hs.length
  refine BoolOp_andJ (Compare1_J (by rfl) (wpJ_of_any (wpAny_BinOp (ldL (show lawScope.names.lookup (Str.ofString "first") = some .local by decide +kernel) M.ns hF (ldL (show lawScope.names.lookup (Str.ofString "rest") = some .local by decide +kernel) M.ns hR ?_)))))
  obtain ⟨n1, e1⟩ := id hl1
  obtain ⟨n2, e2⟩ := id hl2
  have hsz : (vs.take k).toArray.size + (vs.drop k).toArray.size ≤ sizeLine := by
    have e : (vs.take k).toArray.size + (vs.drop k).toArray.size = vs.length := by simp; omega
    rw [e]; exact Nat.le_trans (by omega : vs.length ≤ 1000) (by decide)
  refine P.add_list (hsz := hsz) e1 e2 ?_
  have hcat : (vs.take k).toArray ++ (vs.drop k).toArray = vs.toArray := by simp
  rw [hcat]
  generalize hh1 : s.heap.push { cls := .type "list", data := .seq vs.toArray } = h1
  have k1 : ∀ b o, s.heap.get? b = some o → h1.get? b = some o := fun b o e => by rw [← hh1]; exact Heap.get?_push_of_some _ e
  have l1 : h1.IsList s.heap.objs.size vs.toArray := ⟨_, by rw [← hh1]; exact Heap.get?_push_size _ rfl, rfl, _, rfl⟩
  obtain ⟨nV, eV⟩ := id hl
  have lV : h1.IsList V lvs.toArray := ⟨_, k1 _ _ eV, rfl, nV, rfl⟩
  refine ldL (s := { s with heap := h1 }) look_leaves (M.ns.keeps k1) hV ?_
  refine SeqAt.eq_listAt (e := fun _ => true) l1 lV (by simp [hlenv]) (by omega) (fun j h1 h2 => ?_) ?_
  · have q1 : j < vs.length := by simpa using h1
    have q2 : j < lvs.length := by simpa using h2
    have := hs.get j q1 q2
    simpa using EqAt_sim this
  have hall : ((List.range vs.toArray.size).all fun _ => true) = true := by simp
  rw [hall]
  refine ⟨rfl, ?_⟩
  have W1 : Walk fa cd h₀ [D2, L, L + 1, V, D] c g [] { s with heap := h1 } := M.walk.move (fun b o _ e => k1 b o e) (fun b hb => by obtain ⟨_, o, e⟩ := M.walk.zs b hb; exact ⟨o, k1 b o e⟩) rfl rfl
  have M1 : Mid fa cd h₀ L os [D2, L, L + 1, V, D] m c g [] { s with heap := h1 } := ⟨W1, M.ns.keeps k1, M.cell.keeps k1, M.os, by simp, by simp⟩
  generalize ({ s with heap := h1 } : Shared) = s1 at M1
  refine BoolOp_andJ (Compare1_J (by rfl) (list_expr hG hA (by omega) M1.walk M1.cell (Nat.zero_le _) fun s2 D3 W2 H2 l2 hD3 => ?_))
  refine wpAny_List_spliced (spliced_nil ⟨Nat.zero_le _, ?_⟩)
  generalize hh3 : s2.heap.push { cls := .type "list", data := .seq ([] : List Value).toArray } = h3
  have k3 : ∀ b o, s2.heap.get? b = some o → h3.get? b = some o := fun b o e => by rw [← hh3]; exact Heap.get?_push_of_some _ e
  obtain ⟨n3, e3⟩ := id l2
  have lA : h3.IsList D3 ([] : List Value).toArray := ⟨_, k3 _ _ e3, rfl, n3, rfl⟩
  have lB : h3.IsList s2.heap.objs.size ([] : List Value).toArray := ⟨_, by rw [← hh3]; exact Heap.get?_push_size _ rfl, rfl, _, rfl⟩
  refine SeqAt.eq_listAt (s := { s2 with heap := h3 }) (e := fun _ => true) lA lB rfl (by omega) (fun j h1 _ => absurd h1 (by simp)) ?_
  refine ⟨rfl, ?_⟩
  have W3 : Walk fa cd h₀ [D2, L, L + 1, V, D] c g [] { s2 with heap := h3 } := W2.shift (fun b o _ e => k3 b o e) (fun b hb => .tail _ hb) (fun b hb => by obtain ⟨_, o, e⟩ := W2.zs b (.tail _ hb); exact ⟨o, k3 b o e⟩) rfl rfl
  have M3 : Mid fa cd h₀ L os [D2, L, L + 1, V, D] m c g [] { s2 with heap := h3 } := ⟨W3, (Ns.same M1.ns (H2.get L (by simp))).keeps k3, Heap.IsCell.keeps (IsCell.same M1.cell (H2.get (L + 1) (by simp))) k3, H2.os.trans M1.os, by simp, by simp⟩
  generalize ({ s2 with heap := h3 } : Shared) = s3 at M3
  show wpJ _ _ (eval (.Compare (.Call (.Name "next" _) [.Name "walk" _, .Constant (.str "none") 0 _] [] _) [.Eq] [.Constant (.str "none") 0 _] _) (lenv a lc L)) _ _ _
  refine Compare1_J (by rfl) ?_
  show wpJ _ _ (do callWith _ (← eval (.Name "next" _) (lenv a lc L)) [] (backTo _ (starEach [.Name "walk" _, .Constant (.str "none") 0 _] (lenv a lc L))) (backToKw _ (keywordEach [] (lenv a lc L)))) _ _ _
  refine wpJ_bindA (ldB' (hG.keeps M3.walk.keep) (by decide +kernel) (v := .builtin "next") (by simp [bltList]) ?_)
  refine callWithB_J rfl (evalArgs_plain (spliced_cons (ldWalk M3.cell (spliced_cons (Constant_str (k := 0) (pos := default) (spliced_nil ?_))))))
  have W4 : Walk fa cd h₀ [D2, L, L + 1, V, D] c g [] { s3 with toks := s3.toks + 1 } := M3.walk.move (fun _ _ _ e => e) (fun b hb => (M3.walk.zs b hb).2) rfl rfl
  refine call_next2 hG.e hA (by omega) W4 (fun v rest s' e => by cases e) fun s5 _ W5 H5 B5 => ?_
  refine Constant_str (k := 0) (pos := default) ?_
  refine PyProof.Rows.eq_str ?_
  have hb : ((Str.ofString "none") == (Str.ofString "none")) = true := by decide
  rw [hb]
  refine wpJ_pure (h _ ⟨W5.move (fun _ _ _ e => e) (fun b hb => (W5.zs b hb).2) rfl rfl, Ns.same M3.ns (H5.get L (by simp)), IsCell.same M3.cell (H5.get (L + 1) (by simp)), H5.os.trans M3.os, by simp, by simp⟩ B5)
end
end Mine

namespace Mine
open PySem PySem.W PySem.Calls PyProof.Rows

theorem ints_of {cl : Str → Option Addr} {h : Heap} : ∀ {vs : List Value} {xs : List WData} {as : List Addr}, ReadsAllW [] cl h vs xs as → WShape.hasItems [] xs .int = true → (∀ v ∈ vs, ∃ x t, v = Value.int x t) ∧ vs.length = xs.length
  | [], _, _, .nil, _ => ⟨fun _ h => (nomatch h), rfl⟩
  | v :: vs, x :: xs, _, .cons r1 r2, hx => by
    have hx' : WShape.has [] x .int = true ∧ WShape.hasItems [] xs .int = true := by simpa [WShape.hasItems] using hx
    obtain ⟨i, rfl⟩ := hasW_int hx'.1
    obtain ⟨h1, h2⟩ := ints_of r2 hx'.2
    refine ⟨fun u hu => ?_, by simp [h2]⟩
    rcases List.mem_cons.mp hu with rfl | hu
    · cases r1 with
      | int i t => exact ⟨i, t, rfl⟩
    · exact h1 u hu

theorem args_of {args : List WData} (hpre : rr.claim.pre args = true) : ∃ xs, args = [.list xs] ∧ WShape.hasItems [] xs .int = true ∧ xs.length ≤ 63 := by
  obtain ⟨h1, h2⟩ := pre_splitW (r := rr.toRowW) hpre
  have h1' : WShape.hasAll [] args [.list .int] = true := h1
  obtain ⟨d, r, rfl, hd, hr⟩ := hasAllW_cons h1'
  obtain rfl := hasAllW_nil hr
  obtain ⟨xs, rfl, hx⟩ := hasW_list hd
  refine ⟨xs, rfl, hx, ?_⟩
  have h2' : (WTm.and (.not (.lt (.lit (.int 63)) (.len (.arg 0)))) (.lit (.bool true))).holds [] { args := [.list xs] } = true := h2
  have hv := w_not (R := []) (e := { args := [.list xs] }) (w_lt w_lit (w_len_list (w_arg (i := 0) rfl)) : (WTm.lt (.lit (.int 63)) (.len (.arg 0))).value [] { args := [.list xs] } = some (.bool (decide ((63 : Int) < xs.length))))
  obtain ⟨h3, _⟩ := holds_andW h2'
  unfold WTm.holds at h3
  rw [hv] at h3
  by_cases hc : (63 : Int) < xs.length
  · simp [hc] at h3
  · omega

theorem no_cleanup {s : Shared} (h : InB s (fun _ => False)) : leftWithCleanup s.gens = false := by
  unfold leftWithCleanup
  rw [Array.any_eq_false]
  intro i hi
  intro hq
  split at hq
  · rename_i k l c p fs cl heq
    have : s.gens[i]? = some (.suspended k l c p fs cl) := by rw [Array.getElem?_eq_getElem hi, heq]
    exact h i _ this ⟨k, l, c, p, fs, by rw [hq]⟩
  · cases hq

section
variable {prog : Program} {w : World} {A : Around} {E : Value → Shared → Prop} {s : Shared}
theorem execs_consJ {st : Stmt} {rest : List Stmt} {env : Env} {Q : Flow → Shared → Prop} (h : wpJ (model prog w) A (exec st env) (fun f s' => f = .next ∧ wpJ (model prog w) A (execs rest env) Q E s') E s) : wpJ (model prog w) A (execs (st :: rest) env) Q E s := by
  show wpJ _ _ (exec st env >>= fun f => match f with | .next => execs rest env | f => pure f) _ _ _
  refine wpJ_bind (wpJ_mono h (fun f s' x => ?_) fun _ _ x => x)
  obtain ⟨rfl, x⟩ := x
  exact x
theorem execs_lastJ {st : Stmt} {env : Env} {v : Value} {Q : Flow → Shared → Prop} (h : wpJ (model prog w) A (exec st env) (fun f s' => f = .ret v ∧ Q (.ret v) s') E s) : wpJ (model prog w) A (execs [st] env) Q E s := by
  show wpJ _ _ (exec st env >>= fun f => match f with | .next => execs [] env | f => pure f) _ _ _
  refine wpJ_bind (wpJ_mono h (fun f s' x => ?_) fun _ _ x => x)
  obtain ⟨rfl, x⟩ := x
  exact wpJ_pure x
end

def dLaw : DefRec × List (Str × Expr) := (defOf qv rr.name).get (by decide +kernel)

theorem call_ok : CallJ dLaw.1 dLaw.2 := by
  intro w s₀ s₁ mg mb G a o pm cd doc dV kV ho hdat hcd hD hmg hgens args vals as hpre hlay hrd hwl hlo
  obtain ⟨fa, la, cdF, lcd, hG⟩ := lawG_of G
  obtain ⟨xs, rfl, hx, hlen⟩ := args_of hpre
  have hdV : dV = .none := by
    rcases hD.pos with ⟨_, e⟩ | ⟨ne, _⟩
    · exact e
    · exact absurd (by rfl) ne
  have hkV : kV = .none := by
    rcases hD.kw with ⟨_, e⟩ | ⟨ne, _⟩
    · exact e
    · exact absurd (by rfl) ne
  subst hdV hkV
  have hdat' : o.data = .func (docDef "law" lawParams lawBody lawScope pm cd doc) := hdat
  have hcd' : s₁.heap.CodeRec cd "law" := hcd
  cases hrd with
  | cons r1 r2 =>
    cases r2
    cases r1 with
    | list h1 h2 h3 h4 =>
      rename_i sc osc vs n as'
      obtain ⟨hints, hvl⟩ := ints_of h4 hx
      have hl : s₁.heap.IsList sc vs := ⟨osc, h1, h2, n, h3⟩
      have hsz : vs.size ≤ 100 := by
        have : vs.size = vs.toList.length := by simp
        omega
      have hint : ∀ (j : Nat) v, vs[j]? = some v → ∃ x t, v = Value.int x t := fun j v hv => hints v (by
        rw [Array.getElem?_eq_some_iff] at hv
        obtain ⟨hj, rfl⟩ := hv
        simp)
      refine call_law (by decide) ho hdat' hcd' hG.e.lim fun h' tk hk hns hcell => ?_
      generalize hL : s₁.heap.objs.size = L at hns hcell ⊢
      have hL0 : s₁.heap.get? L = none := Heap.get?_none_of_le (by rw [hL]; exact Nat.le_refl _)
      have hL1 : s₁.heap.get? (L + 1) = none := Heap.get?_none_of_le (by rw [hL]; exact Nat.le_succ _)
      generalize hs1 : ({ s₁ with heap := h', toks := tk } : Shared) = se
      have hse : se.heap = h' := by rw [← hs1]
      have hge : se.gens = #[] := by rw [← hs1]; exact hgens
      have hoe : se.os = s₁.os := by rw [← hs1]
      rw [← hse] at hns hcell hk
      have hA : (callerA.deeper (lenv a cd L)).handled = none := rfl
      have hd : (callerA.deeper (lenv a cd L)).depth + 100 < recursionLimit := by show callerA.depth + 1 + 100 < recursionLimit; decide
      have hu : (callerA.deeper (lenv a cd L)).units + 10 < cLine := by show callerA.units + 3 + 10 < cLine; decide
      generalize callerA.deeper (lenv a cd L) = A at hA hd hu ⊢
      rw [lawBody_split]
      obtain ⟨oL, eL, _⟩ := ns_notSeq hns
      refine execs_consJ (wpJ_of_any (first_ok hA hns fun s2 St => ⟨rfl, ?_⟩))
      refine execs_consJ (wpJ_of_any (second_ok hA hd hG hk hL0 ⟨oL, eL⟩ (if_pos rfl) hl hint hsz hge St fun s3 hI => ⟨rfl, ?_⟩))
      obtain ⟨F, m, ps, bs, V, sv, lvs, rfl, hB, hos, hE, Flow, Fb, hout, I⟩ := hI
      have X : Env0 A F fa la cdF lcd s₁.heap := ⟨Flow, Fb, hG, hA, hd⟩
      have WI : WInv fa cdF F m ps V sv.reverse (bs.map Value.bool).reverse lvs s3 := ⟨I.st, I.dps, I.sim, I.ne, I.len, fun p hp => by have := I.szs p hp; have := I.len; omega, by have := I.lsz; omega⟩
      refine execs_consJ (wpJ_of_any (while_ok X WI fun s4 m4 a0 xs4 I4 => ⟨rfl, ?_⟩))
      have B4 : Built fa cdF F.L se.heap se.os s₁.heap s4 := ⟨F, m4, a0, xs4, V, _, _, lvs, rfl, hB, hos, hE, Flow, Fb, hout, I4⟩
      refine execs_consJ (wpJ_of_any (third_ok hd hA hG B4 hcell hL1 hL0 fun s5 m5 V5 c g vs5 lvs5 hV5 hl5 hs5 hz5 n1 n2 M5 => ⟨rfl, ?_⟩))
      have hlen5 := hs5.length
      refine execs_consJ (fourth_ok hG hA (by omega) M5 hV5 hl5 hlen5 hz5 n1 n2 fun s6 D M6 hl6 hD6 d1 d2 d3 => ⟨rfl, ?_⟩)
      refine execs_consJ (fifth_ok hG hA (by omega) M6 (by rw [List.length_drop]; omega) ⟨n1, n2⟩ ⟨d1, d2⟩ hl6 hD6 fun s7 D2 M7 hl7 hD7 hD27 => ⟨rfl, ?_⟩)
      refine execs_lastJ (sixth_ok hG hA (by omega) hu M7 (vs := vs5) (k := lvs5.length / 2) ?_ ?_ ?_ hl7 hD7 hD27 hs5 hz5 fun s8 M8 B8 => ⟨rfl, rfl, ?_, ?_, no_cleanup B8⟩)
      · rw [if_neg (by decide), if_neg (by decide)]; exact hV5
      · rw [if_neg (by decide), if_pos rfl]
      · exact if_pos rfl
      · exact M8.walk.keep
      · exact M8.os.trans hoe
end Mine

namespace Mine
open PySem PySem.W PySem.Calls PyProof.Rows
set_option maxHeartbeats 8000000 in
theorem said : PySem.Challenge.rw_eu0022_01.wellSaid = true := by decide +kernel
set_option maxHeartbeats 8000000 in
theorem hlaw : defOf qv rr.name = some (dLaw.1, dLaw.2) := by rfl
end Mine

open PySem PySem.W PyProof.Rows
set_option maxHeartbeats 8000000 in
theorem PySem.Challenge.cw_eu0022_01_holds : PySem.Challenge.rw_eu0022_01.Holds := by
  refine holds_law Mine.said fun said' => ?_
  refine Mine.holdsJ Mine.hlaw (by rfl) (by rfl) said' (by decide +kernel) ⟨rfl, rfl, rfl, rfl, rfl, by decide +kernel⟩ ?_ Mine.call_ok
  w_witness2
