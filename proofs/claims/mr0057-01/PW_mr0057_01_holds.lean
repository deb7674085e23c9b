import PyProof.Rows.All
import Wide.All
import OpenK.AllK
import Wide.FinOn
import PySem.Builtin.Sre.Common
import PySem.Challenge.RW_mr0057_01
set_option Elab.async false

section
open PySem PySem.W PyProof.Rows
namespace Mine

/-- the one question that the scanner's step asks of the collector -/
def isAsk : Code → Bool
  | .builtin id ⟨[.int n t], []⟩ => id == "gc.ask" && n == 13 && t == 0
  | _ => false

theorem isAsk_eq {c : Code} (h : isAsk c = true) : c = .builtin "gc.ask" ⟨[.int 13 0], []⟩ := by
  unfold isAsk at h
  split at h
  · simp only [Bool.and_eq_true, beq_iff_eq] at h
    obtain ⟨⟨rfl, rfl⟩, rfl⟩ := h
    rfl
  · cases h

def den₁ (c : Code) : Sem Fin := bif isAsk c then .pure (.done (.ret (.bool false))) else denote table c
def M₁ (prog : Program) (w : World) : Model := ⟨den₁, prog, w⟩

theorem den₁_of_not {c : Code} (h : isAsk c = false) : den₁ c = denote table c := by unfold den₁; rw [h]; rfl
theorem den₁_of {c : Code} (h : isAsk c = true) : den₁ c = .pure (.done (.ret (.bool false))) := by unfold den₁; rw [h]; rfl

theorem entry_ask : entryFor table "gc.ask" = some Builtin.«gc.ask» := entryFor_of_fast (by kernel_rfl)
theorem den_ask : denote table (.builtin "gc.ask" ⟨[.int 13 0], []⟩) = .pure (.again (.builtin "lifetime.ask" ⟨[.int 13 0], []⟩)) := by
  simp only [denote, entry_ask, Builtin.«gc.ask», again]
  rfl

theorem ask_loud (args : Args) : (Code.builtin "lifetime.ask" args).quiet = false := by
  unfold Code.quiet Thread.loud Thread.atCollectorCode Thread.atExit Thread.yieldsInsideHandler
  have h : ("lifetime.ask" : String).startsWith "lifetime." = true := by decide +kernel
  simp [h]

theorem no_ask {prog : Program} {w : World} {Γ : Ctx} {p : Pos} {c : Code} {s : Shared} {e : End} {s' : Shared} (h : isAsk c = true) :
    ¬ Runs (model prog w) Γ p (denote table c) [] s e s' := by
  intro r
  rw [isAsk_eq h, den_ask] at r
  cases r with
  | again hq _ => rw [ask_loud] at hq; cases hq

theorem runs_M₁ {prog : Program} {w : World} {Γ : Ctx} {p : Pos} {t : Sem Fin} {fs : List Frame} {s : Shared} {e : End} {s' : Shared}
    (h : Runs (model prog w) Γ p t fs s e s') : Runs (M₁ prog w) Γ p t fs s e s' := by
  have den : ∀ {Γ : Ctx} {p : Pos} {c : Code} {s : Shared} {e : End} {s' : Shared}, Runs (model prog w) Γ p ((model prog w).den c) [] s e s' →
      Runs (M₁ prog w) Γ p ((model prog w).den c) [] s e s' → Runs (M₁ prog w) Γ p ((M₁ prog w).den c) [] s e s' := by
    intro Γ p c s e s' h1 h2
    cases ha : isAsk c with
    | true => exact absurd h1 (no_ask ha)
    | false =>
      have : (M₁ prog w).den c = (model prog w).den c := den₁_of_not ha
      rw [this]; exact h2
  induction h with
  | done => exact .done
  | raise => exact .raise
  | again hq h ih => exact .again hq (den h ih)
  | rule _ ih => exact .rule ih
  | «at» _ ih => exact .at ih
  | load ho _ ih => exact .load ho ih
  | update ho _ ih => exact .update ho ih
  | loadIfAlive _ ih => exact .loadIfAlive ih
  | point _ ih => exact .point ih
  | alloc _ ih => exact .alloc ih
  | fresh _ ih => exact .fresh ih
  | ask _ ih => exact .ask ih
  | choose hn _ ih => exact .choose hn ih
  | os _ ih => exact .os ih
  | handled _ ih => exact .handled ih
  | genState hg _ ih => exact .genState hg ih
  | stack _ ih => exact .stack ih
  | thread _ ih => exact .thread ih
  | newGen _ ih => exact .newGen ih
  | call h _ ih1 ih2 => exact .call (den h ih1) ih2
  | callSusp h ih => exact .callSusp (den h ih)
  | yield => exact .yield
  | resumeFresh hg h hq _ ih1 ih2 => exact .resumeFresh hg (den h ih1) hq ih2
  | resumeSuspended hg _ hq _ ih1 ih2 => exact .resumeSuspended hg ih1 hq ih2
  | resumeJustStarted hg hv _ ih => exact .resumeJustStarted hg hv ih
  | resumeThrowFresh hg _ ih => exact .resumeThrowFresh hg ih
  | resumeRunning hg _ ih => exact .resumeRunning hg ih
  | resumeFinished hg _ ih => exact .resumeFinished hg ih
  | segRet _ _ ih1 ih2 => exact .segRet ih1 ih2
  | segGen _ _ ih1 ih2 => exact .segGen ih1 ih2
  | segSuspOut hs _ ih => exact .segSuspOut hs ih
  | segSuspGen hs _ hq _ ih1 ih2 => exact .segSuspGen hs ih1 hq ih2

theorem den_M₁ {prog : Program} {w : World} {Γ : Ctx} {p : Pos} {c : Code} {s : Shared} {e : End} {s' : Shared} (h1 : Runs (model prog w) Γ p ((model prog w).den c) [] s e s') :
      Runs (M₁ prog w) Γ p ((M₁ prog w).den c) [] s e s' := by
    cases ha : isAsk c with
    | true => exact absurd h1 (no_ask ha)
    | false =>
      have : (M₁ prog w).den c = (model prog w).den c := den₁_of_not ha
      rw [this]; exact runs_M₁ h1

theorem wakes_M₁ {prog : Program} {w : World} {Γ : Ctx} {p : Pos} {g : Nat} {r : Resume} {s : Shared} {res : GenResult} {s' : Shared}
    (h : Wakes (model prog w) Γ p g r s res s') : Wakes (M₁ prog w) Γ p g r s res s' := by
  unfold Wakes at h ⊢
  split at h
  · exact h
  · split at h
    · obtain ⟨e₁, s₁, h1, h2, h3, h4⟩ := h
      exact ⟨e₁, s₁, den_M₁ h1, h2, h3, h4⟩
    · exact h
    · exact h
  · obtain ⟨e₁, s₁, h1, h2, h3, h4⟩ := h
    exact ⟨e₁, s₁, runs_M₁ h1, h2, h3, h4⟩
  · exact h
  · exact h

open Sem (wp) in
theorem wp_M₁ {α : Type} {prog : Program} {w : World} {Γ : Ctx} (t : Sem α) : ∀ {Q : α → Pos → Shared → Prop} {E : Value → Pos → Shared → Prop} {p : Pos} {s : Shared},
    wp (model prog w) Γ t Q E p s → wp (M₁ prog w) Γ t Q E p s := by
  induction t with
  | pure a => intro Q E p s h; exact h
  | raise e => intro Q E p s h; exact h
  | unsupported _ => intro Q E p s h; exact h
  | finish _ => intro Q E p s h; exact h
  | rule _ k ih => intro Q E p s h; exact ih () h
  | «at» _ k ih => intro Q E p s h; exact ih () h
  | load _ _ k ih => intro Q E p s h; obtain ⟨o, ho, h⟩ := h; exact ⟨o, ho, ih o h⟩
  | update _ _ _ k ih => intro Q E p s h; exact ⟨h.1, ih () h.2⟩
  | alloc _ k ih => intro Q E p s h; exact ih _ h
  | loadIfAlive _ k ih => intro Q E p s h; exact ih _ h
  | point _ k ih => intro Q E p s h; exact ih () h
  | register _ _ _ => intro Q E p s h; exact h
  | fresh k ih => intro Q E p s h; exact ih _ h
  | ask k ih => intro Q E p s h; exact ih _ h
  | choose _ _ k ih => intro Q E p s h; exact ⟨h.1, ih _ h.2⟩
  | os _ _ k ih => intro Q E p s h; exact ih _ h
  | call c hd g l k ih =>
    intro Q E p s h
    obtain ⟨r, s', hr, h⟩ := h
    exact ⟨r, s', den_M₁ hr, ih _ h⟩
  | handled _ k ih => intro Q E p s h; exact ih _ h
  | newGen _ k ih => intro Q E p s h; exact ih _ h
  | genState _ k ih => intro Q E p s h; obtain ⟨st, hs, h⟩ := h; exact ⟨st, hs, ih _ h⟩
  | resume _ _ _ k ih =>
    intro Q E p s h
    obtain ⟨res, s', hw, h⟩ := h
    exact ⟨res, s', wakes_M₁ hw, ih _ h⟩
  | yield _ _ _ _ _ => intro Q E p s h; exact h
  | stack k ih => intro Q E p s h; exact ih _ h
  | fork _ _ _ => intro Q E p s h; exact h
  | thread k ih => intro Q E p s h; exact ih _ h
  | await _ _ _ _ _ _ => intro Q E p s h; exact h

/-- what holds of a tree in the library's model holds in the second one -/
theorem any_M₁ {α : Type} {prog : Program} {w : World} {A : Around} {t : Sem α} {Q : α → Shared → Prop} {E : Value → Shared → Prop} {s : Shared}
    (h : wpAny (model prog w) A t Q E s) : wpAny (M₁ prog w) A t Q E s := fun Γ p hΓ => wp_M₁ t (h Γ p hΓ)

/-! the run: each step of the second machine is one or two of the first -/

theorem asleep_watching {s : Shared} (h : s.asleep) : s.watching = false := by
  unfold Shared.watching; rw [h.1]; rfl

theorem ask_turn {prog : Program} {w : World} {s : Shared} (hz : s.asleep) (c : Code) (pos : Pos) (st : List Frame) :
    sstep (denote table) prog w (.single s ⟨.pure (.again (.builtin "lifetime.ask" ⟨[.int 13 0], []⟩)), c, pos, st⟩) =
      .go (.single s ⟨.pure (.done (.ret (.bool false))), c, pos, st⟩) := by
  have hw := asleep_watching hz
  have h1 : (Config.single s ⟨.pure (.again (.builtin "lifetime.ask" ⟨[.int 13 0], []⟩)), c, pos, st⟩).collect? w.params = none := by
    simp [Config.collect?, Config.single, hw]
  have h2 : (Config.single s ⟨.pure (.again (.builtin "lifetime.ask" ⟨[.int 13 0], []⟩)), c, pos, st⟩).collectable = [] := by
    simp [Config.collectable, Config.single, hw]
  have h3 : (Config.single s ⟨.pure (.again (.builtin "lifetime.ask" ⟨[.int 13 0], []⟩)), c, pos, st⟩).moves w.params.profile = [.run 0] := by
    simp [Config.moves, Config.single, movesFrom, Thread.moves]
  have hp : (Config.single s ⟨.pure (.again (.builtin "lifetime.ask" ⟨[.int 13 0], []⟩)), c, pos, st⟩).pick w = .ok (.run 0, .single s ⟨.pure (.again (.builtin "lifetime.ask" ⟨[.int 13 0], []⟩)), c, pos, st⟩) := by
    simp only [Config.pick, h1, h2, Config.pickThread, h3]
    cases w.params.lifetimes <;> simp
  have hsp : Thread.special ⟨.pure (.again (.builtin "lifetime.ask" ⟨[.int 13 0], []⟩)), c, pos, st⟩ = true := by
    have h : ("lifetime.ask" : String).startsWith "lifetime." = true := by decide +kernel
    simp [Thread.special, Thread.atCollectorCode, h]
  have hls : ∀ others, lifeStep (denote table) prog w others s ⟨.pure (.again (.builtin "lifetime.ask" ⟨[.int 13 0], []⟩)), c, pos, st⟩ =
      .go s ⟨.pure (.done (.ret (.bool false))), c, pos, st⟩ := by
    intro others
    have hc : collectorTurn? w.params others s ⟨.pure (.again (.builtin "lifetime.ask" ⟨[.int 13 0], []⟩)), c, pos, st⟩ =
        some (s, ⟨.pure (.done (.ret (.bool false))), c, pos, st⟩) := by
      simp only [collectorTurn?, askTurn, hw, Bool.not_false, Bool.or_true, if_true]
      rfl
    simp only [lifeStep, hsp, if_true, hc, hz.2, Bool.false_and]
    rfl
  unfold sstep
  rw [hp]
  show Config.move _ _ _ _ _ = _
  simp only [Config.move, Config.run, Config.single, entering_same]
  simp [hsp, others_single, hls, Thread.finalizes]

inductive StepRel (prog : Program) (w : World) (s : Shared) (t : Thread) : Prop
  | same (h : step den₁ prog w s t = step (denote table) prog w s t)
  | asks (s₁ : Shared) (c : Code) (pos : Pos) (st : List Frame) (ha : isAsk c = true) (h₁ : step den₁ prog w s t = .go s₁ ⟨den₁ c, c, pos, st⟩) (h₂ : step (denote table) prog w s t = .go s₁ ⟨denote table c, c, pos, st⟩)

theorem stepRel (prog : Program) (w : World) (s : Shared) (t : Thread) : StepRel prog w s t := by
  obtain ⟨heap, gens, drawn, toks, os⟩ := s
  obtain ⟨cur, code, pos, stack⟩ := t
  cases cur with
  | pure fin =>
    cases fin with
    | done f => exact .same rfl
    | again c =>
      cases ha : isAsk c with
      | false => exact .same (by simp only [step, den₁_of_not ha])
      | true => exact .asks _ c _ _ ha rfl rfl
  | call c h g l k =>
    cases ha : isAsk c with
    | false => exact .same (by simp only [step, den₁_of_not ha])
    | true => exact .asks _ c _ _ ha rfl rfl
  | resume g r l k =>
    cases hg : gens[g]? with
    | none => exact .same (by simp only [step, hg])
    | some st =>
      cases st with
      | fresh c =>
        cases r with
        | throw x => exact .same (by simp only [step, hg])
        | send v =>
          cases ha : isAsk c with
          | false => exact .same (by simp only [step, hg, den₁_of_not ha])
          | true =>
            cases v with
            | none => exact .asks ⟨heap, gens.setIfInBounds g .running, drawn, toks, os⟩ c pos (.gen g k l code pos :: stack) ha (by simp only [step, hg]) (by simp only [step, hg])
            | _ => exact .same (by simp only [step, hg])
      | _ => exact .same (by simp only [step, hg])
  | _ => exact .same rfl

theorem sim {prog : Program} {w : World} {o : Outcome} {s' : Shared} (ho : ∀ x, o ≠ .unsupported x) (n : Nat) : ∀ (s : Shared) (t : Thread), s.asleep →
    runN den₁ prog w n s t = .halted o s' → (∀ k s₁ t₁, runN den₁ prog w k s t = .running s₁ t₁ → t₁.calm = true) →
    ∃ m, schedN (denote table) prog w m (.single s t) = .halted o s' := by
  induction n with
  | zero => intro s t _ h _; simp [runN] at h
  | succ n ih =>
    intro s t hz h hc
    have hcalm : t.calm = true := hc 0 s t rfl
    have hnext : ∀ s₁ t₁, step den₁ prog w s t = .go s₁ t₁ → (∀ k s₂ t₂, runN den₁ prog w k s₁ t₁ = .running s₂ t₂ → t₂.calm = true) := by
      intro s₁ t₁ hs k s₂ t₂ hk
      refine hc (k + 1) s₂ t₂ ?_
      simp only [runN, hs]; exact hk
    have hasl : ∀ s₁ t₁, step den₁ prog w s t = .go s₁ t₁ → s₁.asleep := by
      intro s₁ t₁ hs
      simp only [Shared.asleep, step_life den₁ prog w s s₁ t t₁ hs]; exact hz
    simp only [runN] at h
    rcases stepRel prog w s t with hsame | ⟨s₁, c, pos, st, ha, h₁, h₂⟩
    · rcases sstep_single (denote table) prog w s t hcalm hz with hs | hs
      · cases hst : step den₁ prog w s t with
        | go s₁ t₁ =>
          rw [hst] at h
          obtain ⟨m, hm⟩ := ih s₁ t₁ (hasl _ _ hst) h (hnext _ _ hst)
          refine ⟨m + 1, ?_⟩
          simp only [schedN, hs, ← hsame, hst, Step.lift]
          exact hm
        | halt o₁ s₁ =>
          rw [hst] at h
          injection h with e1 e2
          subst e1 e2
          refine ⟨1, ?_⟩
          simp only [schedN, hs, ← hsame, hst, Step.lift]
      · rw [hsame, hs] at h
        injection h with e1 e2
        exact absurd e1.symm (ho _)
    · rw [h₁] at h
      obtain ⟨m, hm⟩ := ih s₁ _ (hasl _ _ h₁) h (hnext _ _ h₁)
      refine ⟨m + 2, ?_⟩
      rcases sstep_single (denote table) prog w s t hcalm hz with hs | hs
      · rw [show m + 2 = (m + 1) + 1 from rfl]
        simp only [schedN, hs, h₂, Step.lift]
        rw [isAsk_eq ha, den_ask, ask_turn (hasl _ _ h₁)]
        rw [isAsk_eq ha] at hm
        exact hm
      · rw [h₂] at hs; cases hs

/-- the second model's trees, from the claim's caller, in the first machine -/
theorem ends_M₁ {prog : Program} {w : World} {t : Sem Fin} {s : Shared} {R : Result → Shared → Prop} (hreg : s.asleep)
    (h : Sem.wp (M₁ prog w) ⟨.builtin "claim.caller" {}, none, none, [], none⟩ t (fun fin _ s' => ∃ f, fin = .done f ∧ (R (.ok f) s' ∧ leftWithCleanup s'.gens = false))
      (fun e _ s' => R (.error e) s' ∧ leftWithCleanup s'.gens = false) default s) :
    ∃ n r s' s'', schedN (denote table) prog w n (.single s ⟨t, .builtin "claim.caller" {}, default, []⟩) = .halted (outcomeOf r) s' ∧ s'.heap.life = s.heap.life ∧ s'.forget = s''.forget ∧ R r s'' := by
  have h' : Sem.wp (M₁ prog w) ⟨.builtin "claim.caller" {}, none, none, [], none⟩ t
      (Sem.finPost (M₁ prog w) ⟨.builtin "claim.caller" {}, none, none, [], none⟩ fun r s' => R r s' ∧ leftWithCleanup s'.gens = false)
      (fun e _ s' => R (.error e) s' ∧ leftWithCleanup s'.gens = false) default s := by
    refine Sem.wp_mono _ _ t (fun fin p s' hq => ?_) (fun _ _ _ x => x) _ _ h
    obtain ⟨f, rfl, hq⟩ := hq
    exact hq
  obtain ⟨n, r, s', hn, hR⟩ := (wp_iff_halts t R default s).mp h'
  obtain ⟨n', s'', h1, h2, hc⟩ := (halts_real_iff (M := M₁ prog w) s'.forget).mpr ⟨n, s', hn, rfl⟩
  obtain ⟨m, hm⟩ := sim (o := outcomeOf r) (by intro x; cases r <;> nofun) n' s _ hreg h1 hc
  exact ⟨m, r, s'', s', hm, runN_life _ _ _ h1, h2, hR⟩

end Mine
end

section
open PySem PySem.W PyProof.Rows
namespace Mine

/-- a code that is no step of an iterator over a callable -/
def notNext : Code → Bool
  | .builtin id _ => id != "callable_iterator.__next__"
  | _ => true

structure Clean (Γ : Ctx) : Prop where
  code : notNext Γ.code = true
  below : ∀ x ∈ Γ.below, notNext x.1 = true

section
variable {α β : Type} {prog : Program} {w : World} {A : Around} {E : Value → Shared → Prop} {s : Shared}

/-- the second model's trees, in contexts where no such step is under way -/
def wpP (prog : Program) (w : World) (A : Around) (t : Sem α) (Q : α → Shared → Prop) (E : Value → Shared → Prop) (s : Shared) : Prop :=
  ∀ Γ p, Γ.In A → Clean Γ → Sem.wp (M₁ prog w) Γ t (fun a _ s' => Q a s') (fun e _ s' => E e s') p s

def codeP (prog : Program) (w : World) (A : Around) (c : Code) (R : Result → Shared → Prop) (s : Shared) : Prop :=
  ∀ Γ p, Γ.code = c → Γ.Below A → (∀ x ∈ Γ.below, notNext x.1 = true) → wpCode (M₁ prog w) Γ R p s

theorem wpP_any {t : Sem α} {Q : α → Shared → Prop} (h : wpAny (M₁ prog w) A t Q E s) : wpP prog w A t Q E s := fun Γ p hΓ _ => h Γ p hΓ
theorem wpP_of {t : Sem α} {Q : α → Shared → Prop} (h : wpAny (model prog w) A t Q E s) : wpP prog w A t Q E s := wpP_any (any_M₁ h)

theorem wpP_pure {a : α} {Q : α → Shared → Prop} (h : Q a s) : wpP prog w A (pure a) Q E s := fun _ _ _ _ => h
theorem wpP_mono {t : Sem α} {Q Q' : α → Shared → Prop} {E' : Value → Shared → Prop} (h : wpP prog w A t Q E s)
    (hQ : ∀ a s, Q a s → Q' a s) (hE : ∀ e s, E e s → E' e s) : wpP prog w A t Q' E' s :=
  fun Γ p hΓ hc => Sem.wp_mono _ Γ t (fun a _ s => hQ a s) (fun e _ s => hE e s) p s (h Γ p hΓ hc)
theorem wpP_bind {m : Sem α} {f : α → Sem β} {Q : β → Shared → Prop} (h : wpP prog w A m (fun a s' => wpP prog w A (f a) Q E s') E s) :
    wpP prog w A (m >>= f) Q E s := fun Γ p hΓ hc => by
  rw [Sem.wp_bind']
  exact Sem.wp_mono _ Γ m (fun a p' s' h' => h' Γ p' hΓ hc) (fun _ _ _ h' => h') p s (h Γ p hΓ hc)
/-- an off-path tree, then the rest -/
theorem wpP_bind_of {m : Sem α} {f : α → Sem β} {Q : β → Shared → Prop} (h : wpAny (model prog w) A m (fun a s' => wpP prog w A (f a) Q E s') E s) :
    wpP prog w A (m >>= f) Q E s := wpP_bind (wpP_of h)
theorem wpP_holding {vs : List Value} {m : Sem α} {Q : α → Shared → Prop} (h : wpP prog w A m Q E s) : wpP prog w A (holding vs m) Q E s :=
  fun Γ p hΓ hc => by rw [Sem.wp_holding]; exact h Γ p hΓ hc
theorem wpP_keep {vs : List Value} {m : Sem α} {Q : α → Shared → Prop} (h : wpP prog w A m Q E s) : wpP prog w A (m.keep vs) Q E s :=
  fun Γ p hΓ hc => by rw [Sem.wp_keep]; exact h Γ p hΓ hc
theorem wpP_onRaise {m : Sem α} {k : Value → Sem Unit} {Q : α → Shared → Prop}
    (h : wpP prog w A m Q (fun _ _ => False) s) : wpP prog w A (m.onRaise k) Q E s := fun Γ p hΓ hc => by
  rw [Sem.wp_onRaise]
  exact Sem.wp_mono _ Γ m (fun _ _ _ h' => h') (fun e p' s' h' => h'.elim) p s (h Γ p hΓ hc)
theorem wpP_standAt {pos : Pos} {Q : Unit → Shared → Prop} (h : Q () s) : wpP prog w A (standAt pos) Q E s := fun _ _ _ _ => h
theorem wpP_point {Q : Unit → Shared → Prop} (h : Q () s) : wpP prog w A point Q E s := fun _ _ _ _ => h

theorem clean_enter {Γ : Ctx} (h : Clean Γ) (c : Code) (hd : Option Value) (p : Pos) : ∀ x ∈ (Γ.enter c hd p).below, notNext x.1 = true := by
  intro x hx
  rcases List.mem_cons.mp hx with rfl | hx
  · exact h.code
  · exact h.below x hx

theorem wpP_run {c : Code} {Q : Flow → Shared → Prop}
    (hc : codeP prog w A c (fun r s' => match r with | .ok f => Q f s' | .error e => E e s') s) : wpP prog w A (run c) Q E s := by
  intro Γ p hΓ hcl
  show Sem.wp _ Γ (.call c none false [] fun | .ok f => .pure f | .error e => .raise e) _ _ p s
  rw [Sem.wp_call]
  obtain ⟨r, s', hr, hq⟩ := hc (Γ.enter c none p) p rfl (hΓ.enter c none p nofun) (clean_enter hcl c none p)
  refine ⟨r, s', hr, ?_⟩
  cases r <;> exact hq
theorem wpP_runValue {c : Code} {Q : Value → Shared → Prop}
    (hc : codeP prog w A c (fun r s' => match r with | .ok (.ret v) => Q v s' | .ok _ => False | .error e => E e s') s) : wpP prog w A (runValue c) Q E s := by
  unfold runValue
  refine wpP_bind (wpP_run ?_)
  intro Γ p h1 h2 h3
  obtain ⟨r, s', hr, hq⟩ := hc Γ p h1 h2 h3
  refine ⟨r, s', hr, ?_⟩
  cases r with
  | error e => exact hq
  | ok f => cases f <;> first | exact hq.elim | exact wpP_pure hq
theorem wpP_call {f : Value} {pos : List Value} {kw : List (Str × Value)} {Q : Value → Shared → Prop}
    (hc : codeP prog w A (.call f ⟨pos, kw⟩) (fun r s' => match r with | .ok (.ret v) => Q v s' | .ok _ => False | .error e => E e s') s) : wpP prog w A (call f pos kw) Q E s :=
  wpP_runValue hc

theorem codeP_mono {c : Code} {R R' : Result → Shared → Prop} (h : codeP prog w A c R s) (hR : ∀ r s, R r s → R' r s) : codeP prog w A c R' s :=
  fun Γ p h1 h2 h3 => wpCode_mono hR (h Γ p h1 h2 h3)
theorem codeP_of {c : Code} {R : Result → Shared → Prop} (h : codeAny (model prog w) A c R s) : codeP prog w A c R s := by
  intro Γ p h1 h2 h3
  obtain ⟨r, s', hr, hq⟩ := h Γ p h1 h2
  exact ⟨r, s', den_M₁ hr, hq⟩

theorem codeP_of_tree {c : Code} {R : Result → Shared → Prop} (hn : notNext c = true)
    (h : wpP prog w (A.under c) (den₁ c) (fun fin s' => match fin with
      | .done f => R (.ok f) s'
      | .again c' => c'.quiet = true ∧ codeP prog w A c' R s') (fun e s' => R (.error e) s') s) : codeP prog w A c R s := by
  intro Γ p h1 h2 h3
  have h := h Γ p (h1 ▸ h2.in) ⟨h1 ▸ hn, h3⟩
  show ∃ r s', Runs (M₁ prog w) Γ p (den₁ Γ.code) [] s (.ret r) s' ∧ R r s'
  rw [h1]
  refine (Sem.wp_iff_runs (M₁ prog w) Γ (den₁ c) R p s).mp (Sem.wp_mono _ Γ _ (fun fin p' s' hf => ?_) (fun _ _ _ x => x) p s h)
  cases fin with
  | done f => exact hf
  | again c' =>
    exact ⟨hf.1, hf.2 (Γ.goto c') p' rfl (h2.goto c') h3⟩
end

theorem clean_caller : Clean ⟨.builtin "claim.caller" {}, none, none, [], none⟩ := ⟨by simp [notNext], fun x hx => nomatch hx⟩

/-- what the call must show, in the second model -/
abbrev WalkP (q : Program) (loose : List Str) (XP : (Str → Option Value) → Heap → Prop) (YP : World → Heap → Prop) (r : RowW) (d : DefRec) (kwd : List (Str × Expr)) : Prop :=
  ∀ (w : World) (s₀ s₁ : Shared) (mg mb : Str → Option Value), Ground q loose r.records XP w s₀ mg mb s₁.heap → YP w s₁.heap → ∀ (a : Addr) (o : Obj) (pm cd doc dV kV : Value), s₁.heap.get? a = some o →
    o.data = .func { Calls.docDef d.name d.params d.body d.scope pm cd doc with defaults := dV, kwdefaults := kV } → s₁.heap.CodeRec cd d.name → Dflts mg s₁.heap d.params kwd dV kV → mg d.name = some (.ref a) → s₁.gens = #[] →
    ∀ (args : List WData) (vals : List Value) (as : List Addr), r.claim.pre args = true → WData.layableAll args = true → ReadsAllW r.records (classAt s₀.heap) s₁.heap vals args as → WellAll w.params s₁.heap vals args → (∀ a ∈ as, (a == sysModules) = false) →
      wpP r.prog w callerA (call (.ref a) vals) (fun v s' => GoodWG r.claim (classAt s₀.heap) (ExcName.means s₀.heap) args s₁ (.ok (.ret v)) s') (fun _ _ => False) s₁

theorem callFrom_M₁ {c : ClaimW} {tree : List Value → Sem Fin} {w : World} {s : Shared} {free : Addr → Prop} {gens : Prop} {kept : Heap → Prop} (hz : s.asleep) (hgens : s.gens = #[])
    (hspec : ∀ args, c.pre args = true → WData.layableAll args = true →
      ∀ ord : List DictEntry → List DictEntry, (∀ l, (ord l).Perm l) →
      ∃ vs s₁, layAllW c.records (classAt s.heap) w.params ord args s = some (vs, s₁) ∧
        wpP c.prog w callerA (tree vs) (fun fin s' => ∃ f, fin = .done f ∧ (c.Ends s args vs s₁ (.ok f) s' ∧ s'.os = s.os ∧ AllBare s'.gens ∧ kept s'.heap)) (fun _ _ => False) s₁) :
    c.CallFrom (fun vs => ⟨tree vs, .builtin "claim.caller" {}, default, []⟩) w free gens kept s := by
  intro args hpre hlay ord hord
  obtain ⟨vs, s₁, hlaid, hcode⟩ := hspec args hpre hlay ord hord
  have hal := layAllW_rest _ _ _ hlaid
  have hwp := hcode ⟨.builtin "claim.caller" {}, none, none, [], none⟩ default caller_in clean_caller
  obtain ⟨k, r, s', s'', hsched, hlf, hfo, hcase, hos, hkp⟩ := ends_M₁ (R := fun r s' => c.Ends s args vs s₁ r s' ∧ s'.os = s.os ∧ kept s'.heap) (Shared.asleep_of_life hal.2.2.2 hz)
    (Sem.wp_mono _ _ _ (fun fin _ s' hq => by obtain ⟨f, e, h1, h2, h3, h4⟩ := hq; exact ⟨f, e, ⟨h1, h2, h4⟩, leftWithCleanup_false_of_bare h3⟩) (fun e _ s' x => x.elim) _ _ hwp)
  obtain ⟨eh, _, _, eo, _⟩ := Shared.forget_eq hfo
  have hcase := hcase.congr eh
  have hkp : kept s'.heap := eh ▸ hkp
  rw [← eo] at hos
  have hlife : s'.heap.life = s.heap.life := hlf.trans hal.2.2.2
  refine ⟨vs, s₁, hlaid, k, _, s', hsched, ?_, (fun _ i x hx => by rw [hgens] at hx; simp at hx), hkp, by rw [hlife], Shared.rest_eq hos⟩
  rcases hcase with ⟨v, rfl, d1, d2, d3, d4, d5⟩ | ⟨e, ob, cls, rfl, d1, d2, d3, d4, d5⟩
  · exact .inl ⟨v, rfl, d1, d2, d3, fun b o y _ => d4 b o y, d5⟩
  · exact .inr ⟨e, ob, cls, rfl, d1, d2, d3, d4, fun b o y _ => d5 b o y⟩

/-- the head of an open row, its call shown in the second model (it bears the arguments of the library's own) -/
theorem PySem.W.holds_open {r : OpenRow} {q : Program} {loose : List Str} {Xt : Shared → Bool} {XP : (Str → Option Value) → Heap → Prop} {α : Type} {Yf : Shared → α} {Ya : World → α} {YP : World → Heap → Prop} {d : DefRec} {kwd : List (Str × Expr)} {N : Nat}
    (left : LeftO r.prog q loose Xt Yf Ya N) (hY : ∀ w s, Yf s = Ya w → YP w s.heap) (hYk : ∀ w h h', YP w h → (∀ b o, h.get? b = some o → h'.get? b = some o) → YP w h')
    (hX : ∀ s, Xt s = true → XP (s.heap.nsMap mainGlobals) s.heap) (hXk : ∀ mg h h', XP mg h → (∀ b o, h.get? b = some o → h'.get? b = some o) → XP mg h')
    (hdef : defOf q r.name = some (d, kwd)) (hp : r.prog.theDef r.name = some (d.params, d.body, d.scope)) (hk : kwWritten? d.params.kwonlyargs d.params.kw_defaults = some kwd) (hRf : ∀ s, Xt s = true → RecFacts r.records s.heap) (hwr : (!r.writes || r.records.isEmpty) = true)
    (k1 : r.wellSaid = true) (ok : (chainsOk q && opensWell r.prog && (frees r.toRowW && r.within.isEmpty)) = true) (hb : r.prog.bare) (hw : r.toRowW.promised)
    (call : WalkP q loose XP YP r.toRowW d kwd) : r.Holds := by
  refine ⟨k1, hw, ?_⟩
  obtain ⟨ok, k5⟩ := Bool.and_eq_true_iff.mp ok
  obtain ⟨hch, o1⟩ := Bool.and_eq_true_iff.mp ok
  obtain ⟨k5, k6⟩ := Bool.and_eq_true_iff.mp k5
  obtain ⟨hsame, hu, ha, hap, hm⟩ := frees_parts k5
  refine ⟨⟨hb, o1, by show r.makers.map _ = []; rw [hm]; rfl⟩, hw.witness, fun w => ⟨(left.behind hX hch w).1, fun s' hs' => ?_⟩⟩
  obtain ⟨s₀, hf, hg0, s, hT, hz, hgens, hg, G00, y⟩ := (left.behind (XP := fun mg h => XP mg h ∧ RecFacts r.records h) (fun s hs => ⟨hX s hs, hRf s hs⟩) hch w).2 s' hs'
  have G0 : Ground q loose [] XP w s (s.heap.nsMap mainGlobals) (s.heap.nsMap builtinsNs) s.heap := ⟨G00.T, G00.B, G00.D, G00.TE, G00.TD, G00.W, G00.X.1, G00.cls, G00.has, G00.apart, G00.once, G00.K⟩
  have RF := G00.X.2
  have hT' := hT
  have pin : ∀ n ∈ (if r.pinned then [r.name] else []), isTheDefsW r.prog s.heap n := by
    intro n hn
    obtain rfl : n = r.name := by split at hn <;> simp_all
    exact pinned_of_view hg G0 hdef hp hk
  refine ⟨s₀, hf, hg0, s, hT, pin, RF.1, RF.2.1, ?_⟩
  have hgens : s.gens = #[] := Array.eq_empty_of_size_eq_zero (beq_iff_eq.mp hgens)
  have G : Ground q loose r.records XP w s _ _ s.heap := RF.ground G0
  refine callFrom_M₁ (c := r.claim) (tree := fun vs => do match ← nsGet mainNs r.name with
      | some f => do ret (← PySem.call f vs)
      | none => unsupported "claim.caller:no-such-global") hz hgens fun args hpre hlay ord hord => ?_
  obtain ⟨⟨vs, s₁⟩, hlaid⟩ := Option.isSome_iff_exists.mp (layAllW_isSome (P := w.params) (ord := ord) G.has args r.args s (pre_splitW hpre).1)
  have keeps := layAllW_keeps _ _ _ hlaid
  have hal := layAllW_rest _ _ _ hlaid
  obtain ⟨as, hrd, hin, hold⟩ := reads_layAllW hord _ _ _ hlaid hlay s₁.heap (fun _ _ e => e)
  have L : Laid r.records w s s₁ args vs as := ⟨⟨ord, hord, hlaid⟩, hrd, hin, hold, keeps, hal.1.trans hgens, hal.2.2.1⟩
  have G₁ := G.keeps hXk keeps
  obtain ⟨a, o, pm, cd, doc, dV, kV, h1, h2, h3, h4, h5⟩ := G₁.fn hdef
  have h := call w s s₁ _ _ G₁ (hYk _ _ _ (hY w s y) keeps) a o pm cd doc dV kV h2 h3 h4 h5 (defOf_name hdef ▸ h1) L.gens args vs as hpre hlay L.reads L.well (L.low G.low)
  have hi := ident_freeW hu ha hap
  have hwi : r.claim.within = [] := List.isEmpty_iff.mp k6
  refine ⟨vs, s₁, hlaid, wpP_bind_of (wpAny_nsGet G₁.T.g ?_)⟩
  rw [h1]
  refine wpP_bind (wpP_mono h (fun v s' g => wpP_pure ⟨_, rfl, ?_⟩) fun _ _ x => x)
  have z := g.laid (c := r.claim) hsame hwi hi L
  exact ⟨z.1, z.2.1, z.2.2, fun q => ⟨namesKept_of hT' hg _ keeps g.2.1.old, noTable hwr q⟩⟩
end Mine
end

section
open PySem PySem.W PyProof.Rows
namespace Mine
set_option maxRecDepth 100000
set_option maxHeartbeats 8000000
open_top hd for _root_.PySem.Challenge.rw_mr0057_01
end Mine
end

section
namespace Mine
namespace Rx

def setLen : List Nat → Option Nat
  | [] => none
  | c :: r => if c = 93 then some 0 else if c = 10 then none else (setLen r).map (· + 1)
def find : List Nat → Option (Nat × Nat × Nat)
  | [] => none
  | c :: r =>
    if c ≠ 91 then some (0, 0, ((c :: r).takeWhile (· != 91)).length)
    else match setLen r with
      | some n => some (0, 1, n + 2)
      | none => if r.contains 93 then (find r).map fun x => (x.1 + 1, x.2.1, x.2.2) else some (0, 2, r.length + 1)
end Rx

namespace Pl
open Rx

/-! the parts so far, and the part at hand -/
abbrev St := List (List Nat) × List Nat
def put (P : St) (c : Nat) : St := if c = 44 then (P.1 ++ [P.2], []) else (P.1, P.2 ++ [c])
def feed (P : St) (x : List Nat) : St := x.foldl put P
def add (P : St) (x : List Nat) : St := (P.1, P.2 ++ x)
def q2 (c : Nat) : Nat := if c = 34 then 39 else c
def fin (P : St) : List (List Nat) := if P.2 = [] then P.1 else P.1 ++ [P.2]

theorem feed_append (P : St) (x y : List Nat) : feed P (x ++ y) = feed (feed P x) y := List.foldl_append
theorem feed_nil (P : St) : feed P [] = P := rfl
theorem feed_cons (P : St) (c : Nat) (x : List Nat) : feed P (c :: x) = feed (put P c) x := rfl

/-! the reading, sign by sign -/
def read : Nat → St → List Nat → St
  | 0, P, _ => P
  | _ + 1, P, [] => P
  | n + 1, P, c :: r =>
    if c ≠ 91 then read n (put P (q2 c)) r
    else match setLen r with
      | some k => read n (add P (34 :: r.take k ++ [34])) (r.drop (k + 1))
      | none => if r.contains 93 then read n P r else add P (34 :: r)

theorem setLen_lt : ∀ {r : List Nat} {k : Nat}, setLen r = some k → k < r.length
  | [], _, h => by simp [setLen] at h
  | c :: r, k, h => by
    simp only [setLen] at h
    split at h
    · cases h; simp
    · split at h
      · cases h
      · cases hs : setLen r with
        | none => rw [hs] at h; cases h
        | some n =>
          rw [hs] at h
          cases h
          have := setLen_lt hs
          simp; omega

theorem read_fuel : ∀ (n m : Nat) (P : St) (l : List Nat), l.length ≤ n → l.length ≤ m → read n P l = read m P l
  | 0, m, P, l, h1, h2 => by
    have : l = [] := List.eq_nil_of_length_eq_zero (by omega)
    subst this
    cases m <;> rfl
  | n + 1, 0, P, l, h1, h2 => by
    have : l = [] := List.eq_nil_of_length_eq_zero (by omega)
    subst this
    rfl
  | n + 1, m + 1, P, [], _, _ => rfl
  | n + 1, m + 1, P, c :: r, h1, h2 => by
    simp only [List.length_cons] at h1 h2
    simp only [read]
    split
    · exact read_fuel n m _ r (by omega) (by omega)
    · split
      · rename_i k hk
        have := setLen_lt hk
        exact read_fuel n m _ _ (by simp; omega) (by simp; omega)
      · split
        · exact read_fuel n m _ r (by omega) (by omega)
        · rfl
def rd (P : St) (l : List Nat) : St := read l.length P l
theorem rd_nil (P : St) : rd P [] = P := rfl
theorem rd_plain (P : St) {c : Nat} {r : List Nat} (h : c ≠ 91) : rd P (c :: r) = rd (put P (q2 c)) r := by
  simp only [rd, List.length_cons, read, if_pos h]
theorem rd_set (P : St) {r : List Nat} {k : Nat} (h : setLen r = some k) : rd P (91 :: r) = rd (add P (34 :: r.take k ++ [34])) (r.drop (k + 1)) := by
  simp only [rd, List.length_cons, read, h]
  simp only [ne_eq, not_true_eq_false, if_false]
  exact read_fuel _ _ _ _ (by simp) (Nat.le_refl _)
theorem rd_skip (P : St) {r : List Nat} (h : setLen r = none) (h' : r.contains 93 = true) : rd P (91 :: r) = rd P r := by
  simp only [rd, List.length_cons, read, h, h']
  simp
theorem rd_open (P : St) {r : List Nat} (h : setLen r = none) (h' : r.contains 93 = false) : rd P (91 :: r) = add P (34 :: r) := by
  simp only [rd, List.length_cons, read, h, h']
  simp

theorem rd_run : ∀ (P : St) (x r : List Nat), (∀ c ∈ x, c ≠ 91) → rd P (x ++ r) = rd (feed P (x.map q2)) r
  | P, [], r, _ => rfl
  | P, c :: x, r, h => by
    rw [List.cons_append, rd_plain P (h c (.head _)), rd_run _ x r fun d hd => h d (.tail _ hd)]
    rfl

/-! the header and its reader -/
def esc (c : Nat) : List Nat := if c = 92 then [92, 92] else if c = 34 then [92, 34] else [c]
def held (x : List Nat) : List Nat := x.flatMap esc

def write (k : Nat) (x : List Nat) : List Nat :=
  if k = 1 then 34 :: held (x.drop 1).dropLast ++ [34] else if k = 2 then 34 :: held (x.drop 1) else x.map q2

def pieces : Nat → List Nat → List (Nat × List Nat)
  | 0, _ => []
  | n + 1, l => match find l with
    | none => []
    | some (a, k, m) => (k, (l.drop a).take m) :: pieces n (l.drop (a + m))
def header (n : Nat) (l : List Nat) : List Nat := (pieces n l).flatMap fun x => write x.1 x.2

structure Ps where
  res : List (List Nat)
  part : List Nat
  escape : Bool
  quote : Bool
def pstep (s : Ps) (c : Nat) : Ps :=
  if s.escape then { s with part := s.part ++ [c], escape := false }
  else if s.quote then
    if c = 92 then { s with escape := true }
    else if c = 34 then { s with part := s.part ++ [c], quote := false }
    else { s with part := s.part ++ [c] }
  else if c = 44 then { s with res := s.res ++ [s.part], part := [] }
  else if c = 34 then { s with part := s.part ++ [c], quote := true }
  else { s with part := s.part ++ [c] }
def parse (h : List Nat) : List (List Nat) :=
  let s := h.foldl pstep ⟨[], [], false, false⟩
  if s.part = [] then s.res else s.res ++ [s.part]

theorem p_run : ∀ (x : List Nat) (P : St), (∀ c ∈ x, c ≠ 34) → x.foldl pstep ⟨P.1, P.2, false, false⟩ = ⟨(feed P x).1, (feed P x).2, false, false⟩
  | [], P, _ => rfl
  | c :: x, P, h => by
    have hc : c ≠ 34 := h c (.head _)
    have e : pstep ⟨P.1, P.2, false, false⟩ c = ⟨(put P c).1, (put P c).2, false, false⟩ := by
      simp only [pstep, put, Bool.false_eq_true, if_false, if_neg hc]
      split <;> rfl
    rw [List.foldl_cons, e, p_run x (put P c) fun d hd => h d (.tail _ hd)]
    rfl
theorem p_held : ∀ (x : List Nat) (res : List (List Nat)) (part : List Nat), (held x).foldl pstep ⟨res, part, false, true⟩ = ⟨res, part ++ x, false, true⟩
  | [], res, part => by simp [held]
  | c :: x, res, part => by
    have e : (esc c).foldl pstep ⟨res, part, false, true⟩ = ⟨res, part ++ [c], false, true⟩ := by
      unfold esc
      by_cases h1 : c = 92
      · subst h1; rfl
      · by_cases h2 : c = 34
        · subst h2; rfl
        · simp [h1, h2, pstep]
    show (esc c ++ held x).foldl pstep _ = _
    rw [List.foldl_append, e, p_held x]
    simp
theorem q2_ne (c : Nat) : q2 c ≠ 34 := by unfold q2; split <;> omega

theorem find_plain {c : Nat} {r : List Nat} (h : c ≠ 91) : find (c :: r) = some (0, 0, ((c :: r).takeWhile (· != 91)).length) := by simp [find, h]
theorem find_set {r : List Nat} {k : Nat} (h : setLen r = some k) : find (91 :: r) = some (0, 1, k + 2) := by simp [find, h]
theorem find_open {r : List Nat} (h : setLen r = none) (h' : r.contains 93 = false) : find (91 :: r) = some (0, 2, r.length + 1) := by
  simp only [find, h, h']; simp
theorem find_skip {r : List Nat} (h : setLen r = none) (h' : r.contains 93 = true) : find (91 :: r) = (find r).map fun x => (x.1 + 1, x.2.1, x.2.2) := by
  simp only [find, h, h']; simp

theorem pieces_skip {n : Nat} {r : List Nat} (h : setLen r = none) (h' : r.contains 93 = true) : pieces n (91 :: r) = pieces n r := by
  cases n with
  | zero => rfl
  | succ n =>
    simp only [pieces, find_skip h h']
    cases find r with
    | none => rfl
    | some x =>
      obtain ⟨a, k, m⟩ := x
      simp only [Option.map_some, List.drop_succ_cons]
      rw [show a + 1 + m = a + m + 1 by omega, List.drop_succ_cons]

theorem take_takeWhile (p : Nat → Bool) : ∀ l : List Nat, l.take (l.takeWhile p).length = l.takeWhile p
  | [] => rfl
  | c :: r => by
    rw [List.takeWhile_cons]
    split
    · simp [take_takeWhile p r]
    · rfl
theorem drop_takeWhile (p : Nat → Bool) : ∀ l : List Nat, l.drop (l.takeWhile p).length = l.dropWhile p
  | [] => rfl
  | c :: r => by
    rw [List.takeWhile_cons, List.dropWhile_cons]
    split
    · simp [drop_takeWhile p r]
    · rfl

theorem take_dropLast : ∀ {r : List Nat} {k : Nat}, k < r.length → (r.take (k + 1)).dropLast = r.take k
  | [], _, h => by simp at h
  | c :: r, 0, _ => by simp
  | c :: r, k + 1, h => by
    have hk : k < r.length := by simpa using h
    have := take_dropLast hk
    rw [List.take_succ_cons, List.take_succ_cons, List.dropLast_cons_of_ne_nil (by
      cases r with
      | nil => simp at hk
      | cons y r => simp), this]
theorem mem_takeWhile {p : Nat → Bool} : ∀ {l : List Nat} {c : Nat}, c ∈ l.takeWhile p → p c = true
  | [], _, h => nomatch h
  | x :: r, c, h => by
    rw [List.takeWhile_cons] at h
    split at h
    · rcases List.mem_cons.mp h with rfl | h
      · assumption
      · exact mem_takeWhile h
    · cases h
theorem drop_cut (x : List Nat) (c : Nat) (r : List Nat) : (x ++ c :: r).drop (x.length + 1) = r := by
  induction x with
  | nil => rfl
  | cons y x ih => simp

/-- the header's reader, from any state outside of quotes -/
theorem parse_header : ∀ (n : Nat) (l : List Nat) (P : St), l.length ≤ n →
    ∃ q, (header n l).foldl pstep ⟨P.1, P.2, false, false⟩ = ⟨(rd P l).1, (rd P l).2, false, q⟩ := by
  intro n l
  induction hl : l.length using Nat.strongRecOn generalizing n l with
  | _ N ih =>
    intro P hn
    subst hl
    cases l with
    | nil =>
      refine ⟨false, ?_⟩
      cases n <;> rfl
    | cons c r =>
      obtain ⟨n, rfl⟩ : ∃ k, n = k + 1 := ⟨n - 1, by simp only [List.length_cons] at hn; omega⟩
      simp only [List.length_cons] at hn
      by_cases hc : c = 91
      · subst hc
        cases hs : setLen r with
        | some k =>
          have hk := setLen_lt hs
          have e : header (n + 1) (91 :: r) = (34 :: held (r.take k) ++ [34]) ++ header n (r.drop (k + 1)) := by
            simp only [header, pieces, find_set hs, List.flatMap_cons]
            rw [show 0 + (k + 2) = k + 1 + 1 by omega, List.drop_succ_cons]
            congr 1
            simp only [write, if_true, List.drop_zero]
            rw [show (91 :: r).take (k + 2) = 91 :: r.take (k + 1) from rfl, List.drop_succ_cons, List.drop_zero, take_dropLast hk]
          rw [e, List.foldl_append, rd_set P hs]
          obtain ⟨q, hq⟩ := ih (r.drop (k + 1)).length (by simp only [List.length_drop, List.length_cons]; omega) n (r.drop (k + 1)) rfl (add P (34 :: r.take k ++ [34])) (by rw [List.length_drop]; omega)
          refine ⟨q, ?_⟩
          rw [← hq]
          congr 1
          rw [List.cons_append, List.foldl_cons, List.foldl_append]
          show List.foldl pstep (List.foldl pstep ⟨P.1, P.2 ++ [34], false, true⟩ _) _ = _
          rw [p_held]
          simp [pstep, add]
        | none =>
          cases h93 : r.contains 93 with
          | true =>
            have e : header (n + 1) (91 :: r) = header (n + 1) r := by simp only [header, pieces_skip hs h93]
            rw [e, rd_skip P hs h93]
            exact ih r.length (by simp) (n + 1) r rfl P (by omega)
          | false =>
            have e : header (n + 1) (91 :: r) = 34 :: held r := by
              simp only [header, pieces, find_open hs h93, List.flatMap_cons]
              rw [show 0 + (r.length + 1) = r.length + 1 by omega, List.drop_succ_cons, List.drop_length]
              have : pieces n ([] : List Nat) = [] := by cases n <;> rfl
              rw [this]
              simp [write]
            rw [e, rd_open P hs h93, List.foldl_cons]
            refine ⟨true, ?_⟩
            show List.foldl pstep ⟨P.1, P.2 ++ [34], false, true⟩ _ = _
            rw [p_held]
            simp [add]
      · have e : header (n + 1) (c :: r) = ((c :: r).takeWhile (· != 91)).map q2 ++ header n ((c :: r).dropWhile (· != 91)) := by
          simp only [header, pieces, find_plain hc, List.flatMap_cons, List.drop_zero, Nat.zero_add]
          rw [take_takeWhile, drop_takeWhile]
          rfl
        have hpos : 0 < ((c :: r).takeWhile (· != 91)).length := by
          rw [List.takeWhile_cons, show (c != 91) = true from bne_iff_ne.mpr hc]
          simp
        have hlen : ((c :: r).dropWhile (· != 91)).length < (c :: r).length := by
          rw [← drop_takeWhile, List.length_drop]
          simp only [List.length_cons]; omega
        have hr : rd P (c :: r) = rd (feed P (((c :: r).takeWhile (· != 91)).map q2)) ((c :: r).dropWhile (· != 91)) := by
          rw [← rd_run P _ _ (fun d hd => bne_iff_ne.mp (mem_takeWhile (p := fun x => x != 91) hd)), List.takeWhile_append_dropWhile]
        rw [e, List.foldl_append, p_run _ P (fun d hd => by obtain ⟨x, _, rfl⟩ := List.mem_map.mp hd; exact q2_ne x), hr]
        exact ih _ hlen n _ rfl _ (by simp only [List.length_cons] at hlen; omega)

theorem parse_eq {n : Nat} {l : List Nat} (h : l.length ≤ n) : parse (header n l) = fin (rd ([], []) l) := by
  obtain ⟨q, e⟩ := parse_header n l ([], []) h
  simp only [parse, e, fin]

/-! the law's own reading -/
def splitOn (d : Nat) : List Nat → List (List Nat)
  | [] => [[]]
  | c :: r => if c = d then [] :: splitOn d r else match splitOn d r with
    | [] => [[c]]
    | x :: xs => (c :: x) :: xs
theorem splitOn_ne (d : Nat) : ∀ l, splitOn d l ≠ []
  | [] => by simp [splitOn]
  | c :: r => by
    simp only [splitOn]
    split
    · simp
    · split <;> simp
theorem splitOn_free {d : Nat} : ∀ {l : List Nat}, (∀ c ∈ l, c ≠ d) → splitOn d l = [l]
  | [], _ => rfl
  | c :: r, h => by
    simp only [splitOn, if_neg (h c (.head _)), splitOn_free (l := r) fun x hx => h x (.tail _ hx)]
theorem splitOn_cut {d : Nat} : ∀ {x : List Nat} (r : List Nat), (∀ c ∈ x, c ≠ d) → splitOn d (x ++ d :: r) = x :: splitOn d r
  | [], r, _ => by simp [splitOn]
  | c :: x, r, h => by
    simp only [List.cons_append, splitOn, if_neg (h c (.head _)), splitOn_cut (x := x) r fun y hy => h y (.tail _ hy)]

def joinRows (P : St) : List (List Nat) → St
  | [] => P
  | x :: xs => xs.foldl (fun P y => (P.1 ++ [P.2], y)) (add P x)
theorem joinRows_split : ∀ (x : List Nat) (P : St), joinRows P (splitOn 44 x) = feed P x
  | [], P => by simp [splitOn, joinRows, add, feed]
  | c :: x, P => by
    simp only [splitOn, feed_cons, put]
    by_cases hc : c = 44
    · rw [if_pos hc, if_pos hc, ← joinRows_split x]
      cases hs : splitOn 44 x with
      | nil => exact absurd hs (splitOn_ne 44 x)
      | cons y ys => simp [joinRows, add]
    · rw [if_neg hc, if_neg hc, ← joinRows_split x]
      cases hs : splitOn 44 x with
      | nil => exact absurd hs (splitOn_ne 44 x)
      | cons y ys => simp [joinRows, add]

/-- the place of the opening bracket, from a start -/
def idx (d : Nat) : List Nat → Option Nat
  | [] => none
  | c :: r => if c = d then some 0 else (idx d r).map (· + 1)
def behindLast (d : Nat) : List Nat → Nat
  | [] => 0
  | c :: r => if r.contains d then behindLast d r + 1 else if c = d then 1 else 0
def placeOf (last : Bool) (x : List Nat) : Option Nat :=
  let b := if last then 0 else behindLast 10 x
  (idx 91 (x.drop b)).map (· + b)
def turn (last : Bool) (P : St) (x : List Nat) : St :=
  let run := match placeOf last x with | some k => x.take k | none => x ++ (if last then [] else [93])
  let P := joinRows P (splitOn 44 ((run.filter (· != 91)).map q2))
  match placeOf last x with
  | some k => add P (34 :: x.drop (k + 1) ++ (if last then [] else [34]))
  | none => P
def turns (P : St) : List (List Nat) → St
  | [] => P
  | [x] => turn true P x
  | x :: y :: r => turns (turn false P x) (y :: r)
def parts (l : List Nat) : List (List Nat) := fin (turns ([], []) (splitOn 93 l))

theorem idx_none : ∀ {l : List Nat} {d : Nat}, idx d l = none → ∀ c ∈ l, c ≠ d
  | [], _, _, c, hc => nomatch hc
  | x :: r, d, h, c, hc => by
    simp only [idx] at h
    split at h
    · cases h
    · rename_i hx
      cases hr : idx d r with
      | some k => rw [hr] at h; cases h
      | none =>
        rcases List.mem_cons.mp hc with rfl | hc
        · exact hx
        · exact idx_none hr c hc
theorem idx_some : ∀ {l : List Nat} {d k : Nat}, idx d l = some k → l = l.take k ++ d :: l.drop (k + 1) ∧ (∀ c ∈ l.take k, c ≠ d)
  | [], _, _, h => by simp [idx] at h
  | x :: r, d, k, h => by
    simp only [idx] at h
    split at h
    · rename_i hx
      cases h
      subst hx
      exact ⟨by simp, fun c hc => by simp at hc⟩
    · rename_i hx
      cases hr : idx d r with
      | none => rw [hr] at h; cases h
      | some j =>
        rw [hr] at h
        cases h
        obtain ⟨h1, h2⟩ := idx_some hr
        refine ⟨?_, fun c hc => ?_⟩
        · show x :: r = x :: (r.take j ++ d :: r.drop (j + 1))
          rw [← h1]
        · rcases List.mem_cons.mp (show c ∈ x :: r.take j from hc) with rfl | hc
          · exact hx
          · exact h2 c hc
theorem behind_le (d : Nat) : ∀ l : List Nat, behindLast d l ≤ l.length
  | [] => Nat.le_refl _
  | c :: r => by
    simp only [behindLast]
    have := behind_le d r
    split
    · simp; omega
    · split <;> simp
theorem behind_free (d : Nat) : ∀ l : List Nat, ∀ c ∈ l.drop (behindLast d l), c ≠ d
  | [], c, hc => by simp at hc
  | x :: r, c, hc => by
    simp only [behindLast] at hc
    split at hc
    · exact behind_free d r c (by simpa using hc)
    · rename_i hr
      have hfree : ∀ y ∈ r, y ≠ d := fun y hy e => hr (List.contains_iff_mem.mpr (e ▸ hy))
      split at hc
      · exact hfree c (by simpa using hc)
      · rename_i hx
        rcases List.mem_cons.mp (show c ∈ x :: r from by simpa using hc) with rfl | hc
        · exact hx
        · exact hfree c hc
/-- what stands ahead of it ends with the sign, if there is any -/
theorem behind_last (d : Nat) : ∀ l : List Nat, l.take (behindLast d l) = [] ∨ ∃ y, l.take (behindLast d l) = y ++ [d]
  | [] => .inl rfl
  | x :: r => by
    simp only [behindLast]
    split
    · rename_i hr
      right
      rcases behind_last d r with h | ⟨y, h⟩
      · exfalso
        have hb := behind_free d r
        have : r.drop (behindLast d r) = r := by
          have := List.take_append_drop (behindLast d r) r
          rw [h, List.nil_append] at this
          exact this
        rw [this] at hb
        exact hb d (List.contains_iff_mem.mp hr) rfl
      · exact ⟨x :: y, by rw [List.take_succ_cons, h]; rfl⟩
    · split
      · rename_i hx
        right
        exact ⟨[], by simp [hx]⟩
      · left; rfl

theorem setLen_nl : ∀ (y r : List Nat), (∀ c ∈ y, c ≠ 93) → (10 ∈ y) → setLen (y ++ r) = none
  | [], _, _, h => nomatch h
  | c :: y, r, h, h' => by
    simp only [List.cons_append, setLen, if_neg (h c (.head _))]
    by_cases hc : c = 10
    · rw [if_pos hc]
    · rw [if_neg hc, setLen_nl y r (fun d hd => h d (.tail _ hd)) (by rcases List.mem_cons.mp h' with e | e; exact absurd e.symm hc; exact e)]
      rfl
theorem setLen_close : ∀ (y r : List Nat), (∀ c ∈ y, c ≠ 93) → (∀ c ∈ y, c ≠ 10) → setLen (y ++ 93 :: r) = some y.length
  | [], r, _, _ => by simp [setLen]
  | c :: y, r, h, h' => by
    simp only [List.cons_append, setLen, if_neg (h c (.head _)), if_neg (h' c (.head _)), setLen_close y r (fun d hd => h d (.tail _ hd)) (fun d hd => h' d (.tail _ hd))]
    rfl
theorem setLen_free : ∀ (y : List Nat), (∀ c ∈ y, c ≠ 93) → setLen y = none
  | [], _ => rfl
  | c :: y, h => by
    simp only [setLen, if_neg (h c (.head _)), setLen_free y fun d hd => h d (.tail _ hd)]
    split <;> rfl

/-- lines that end ahead of the closing bracket: their opening brackets go -/
theorem rd_lines : ∀ (A B r : List Nat) (P : St), (A = [] ∨ ∃ y, A = y ++ [10]) → (∀ c ∈ A, c ≠ 93) → (∀ c ∈ B, c ≠ 93) →
    rd P (A ++ (B ++ 93 :: r)) = rd (feed P ((A.filter (· != 91)).map q2)) (B ++ 93 :: r)
  | [], B, r, P, _, _, _ => rfl
  | c :: A, B, r, P, hA, h1, h2 => by
    have hA' : A = [] ∨ ∃ y, A = y ++ [10] := by
      rcases hA with h | ⟨y, h⟩
      · cases h
      · cases y with
        | nil => left; exact (by simpa using h : c = 10 ∧ A = []).2
        | cons z y => right; exact ⟨y, by simpa using (List.cons.inj h).2⟩
    have ih := fun P => rd_lines A B r P hA' (fun d hd => h1 d (.tail _ hd)) h2
    by_cases hc : c = 91
    · subst hc
      have hne : A ≠ [] := by
        rintro rfl
        rcases hA with h | ⟨y, h⟩
        · cases h
        · cases y with
          | nil => simp at h
          | cons z y => simp at h
      have h10 : 10 ∈ A := by
        rcases hA' with h | ⟨y, h⟩
        · exact absurd h hne
        · rw [h]; simp
      rw [List.cons_append, rd_skip P (setLen_nl A _ (fun d hd => h1 d (.tail _ hd)) h10) (by simp), ih P]
      simp
    · rw [List.cons_append, rd_plain P hc, ih]
      rw [List.filter_cons_of_pos (by simpa using hc)]
      rfl

theorem filter_free {x : List Nat} (h : ∀ c ∈ x, c ≠ 91) : x.filter (· != 91) = x := List.filter_eq_self.mpr fun c hc => bne_iff_ne.mpr (h c hc)

theorem turn_last (P : St) (x : List Nat) (h : ∀ c ∈ x, c ≠ 93) : turn true P x = rd P x := by
  simp only [turn, placeOf, joinRows_split, if_true, List.drop_zero]
  cases hi : idx 91 x with
  | none =>
    have hf := idx_none hi
    simp only [Option.map_none, List.append_nil]
    rw [filter_free hf]
    have := rd_run P x [] hf
    rw [List.append_nil] at this
    rw [this, rd_nil]
  | some k =>
    obtain ⟨h1, h2⟩ := idx_some hi
    simp only [Option.map_some, Nat.add_zero, List.append_nil]
    rw [filter_free h2]
    have hd : ∀ c ∈ x.drop (k + 1), c ≠ 93 := fun c hc => h c (List.mem_of_mem_drop hc)
    conv => rhs; rw [h1]
    rw [rd_run P _ _ h2, rd_open _ (setLen_free _ hd) (by
      cases hcc : (x.drop (k + 1)).contains 93 with
      | false => rfl
      | true => exact absurd rfl (hd 93 (List.contains_iff_mem.mp hcc)))]
theorem turn_mid (P : St) (x r : List Nat) (h : ∀ c ∈ x, c ≠ 93) : rd P (x ++ 93 :: r) = rd (turn false P x) r := by
  simp only [turn, placeOf, joinRows_split, Bool.false_eq_true, if_false]
  generalize hb : behindLast 10 x = b
  have hA := behind_last 10 x
  have hB := behind_free 10 x
  rw [hb] at hA hB
  have hx : x = x.take b ++ x.drop b := (List.take_append_drop b x).symm
  have hAf : ∀ c ∈ x.take b, c ≠ 93 := fun c hc => h c (List.mem_of_mem_take hc)
  have hBf : ∀ c ∈ x.drop b, c ≠ 93 := fun c hc => h c (List.mem_of_mem_drop hc)
  have e0 : rd P (x ++ 93 :: r) = rd (feed P (((x.take b).filter (· != 91)).map q2)) (x.drop b ++ 93 :: r) := by
    conv => lhs; rw [hx, List.append_assoc]
    exact rd_lines _ _ r P hA hAf hBf
  rw [e0]
  cases hi : idx 91 (x.drop b) with
  | none =>
    have hf := idx_none hi
    simp only [Option.map_none]
    rw [rd_run _ _ _ hf, rd_plain _ (by decide)]
    conv => rhs; rw [hx]
    rw [List.filter_append, List.filter_append, List.map_append, List.map_append, feed_append, feed_append, filter_free hf]
    rfl
  | some k =>
    obtain ⟨h1, h2⟩ := idx_some hi
    simp only [Option.map_some]
    have e1 : x.take (k + b) = x.take b ++ (x.drop b).take k := by
      rw [Nat.add_comm, List.take_add]
    have e2 : x.drop (k + b + 1) = (x.drop b).drop (k + 1) := by rw [List.drop_drop]; congr 1; omega
    rw [e1, e2, List.filter_append, List.map_append, feed_append, filter_free h2]
    conv => lhs; rw [h1]
    rw [List.append_assoc, rd_run _ _ _ h2, List.cons_append]
    have hd93 : ∀ c ∈ (x.drop b).drop (k + 1), c ≠ 93 := fun c hc => hBf c (List.mem_of_mem_drop hc)
    have hd10 : ∀ c ∈ (x.drop b).drop (k + 1), c ≠ 10 := fun c hc => hB c (List.mem_of_mem_drop hc)
    rw [rd_set _ (setLen_close _ r hd93 hd10)]
    rw [List.take_left, drop_cut]

theorem mem_splitOn_free : ∀ (l : List Nat) (d : Nat), ∀ x ∈ splitOn d l, ∀ c ∈ x, c ≠ d
  | [], d, x, hx, c, hc => by
    simp only [splitOn, List.mem_singleton] at hx
    subst hx; cases hc
  | y :: r, d, x, hx, c, hc => by
    simp only [splitOn] at hx
    have ih := mem_splitOn_free r d
    split at hx
    · rcases List.mem_cons.mp hx with rfl | hx
      · cases hc
      · exact ih x hx c hc
    · rename_i hy
      cases hs : splitOn d r with
      | nil => exact absurd hs (splitOn_ne d r)
      | cons z zs =>
        rw [hs] at hx ih
        rcases List.mem_cons.mp hx with rfl | hx
        · rcases List.mem_cons.mp hc with rfl | hc
          · exact hy
          · exact ih z (.head _) c hc
        · exact ih x (.tail _ hx) c hc

/-- a text is its chunks, glued -/
def glue (d : Nat) : List (List Nat) → List Nat
  | [] => []
  | [x] => x
  | x :: y :: r => x ++ d :: glue d (y :: r)
theorem glue_split (d : Nat) : ∀ l : List Nat, glue d (splitOn d l) = l
  | [] => rfl
  | c :: r => by
    have ih := glue_split d r
    simp only [splitOn]
    cases hs : splitOn d r with
    | nil => exact absurd hs (splitOn_ne d r)
    | cons z zs =>
      rw [hs] at ih
      split
      · rename_i hc
        simp only [glue, List.nil_append, ih, hc]
      · cases zs with
        | nil => simp only [glue] at ih ⊢; rw [ih]
        | cons u us => simp only [glue, List.cons_append] at ih ⊢; rw [ih]

theorem turns_eq : ∀ (xs : List (List Nat)) (P : St), xs ≠ [] → (∀ x ∈ xs, ∀ c ∈ x, c ≠ 93) → turns P xs = rd P (glue 93 xs)
  | [], _, h, _ => absurd rfl h
  | [x], P, _, h => turn_last P x (h x (.head _))
  | x :: y :: r, P, _, h => by
    simp only [turns, glue]
    rw [turns_eq (y :: r) _ (by simp) fun z hz => h z (.tail _ hz), turn_mid P x _ (h x (.head _))]

/-- the two readings are one -/
theorem law {n : Nat} {l : List Nat} (h : l.length ≤ n) : parse (header n l) = parts l := by
  rw [parse_eq h, parts, turns_eq _ _ (splitOn_ne 93 l) (mem_splitOn_free l 93), glue_split]

end Pl
end Mine
end

section
open PySem
namespace Mine
namespace Rx
open PySem.Sre PySem.Sre.M

def code : Array Nat := #[14, 4, 0, 1, 4294967295, 7, 14, 17, 0, 24, 6, 1, 4294967295, 20, 91, 1, 17, 1, 15, 37, 17, 17, 2, 16, 91, 26, 5, 0, 4294967295, 2, 1, 16, 93, 17, 3, 15, 20, 18, 17, 4, 16, 91, 24, 6, 0, 4294967295, 20, 93, 1, 6, 5, 17, 5, 15, 2, 0, 1]

/-- the machine on this pattern -/
def S (t : Array Nat) (s0 pc pos hd : Nat) (om : Bool) (mk : Array (Option Nat)) (lm li : Int) (fs : List Sre.Frame) (wt : Nat) (an : Option Bool) (sn : Seen) : M :=
  { code := code, text := t, lim := t.size, start := s0, lastStart := t.size, pc := pc, pos := pos, handed := hd, outermost := om, marks := mk, lastmark := lm, lastindex := li, frames := fs, weight := wt, answer := an, seen := sn }

/-- m' is reached in at most n steps -/
inductive Go : Nat → M → M → Prop
  | refl (n m) : Go n m m
  | step {n m m'} (h : m.outcome = none) (g : Go n m.step m') : Go (n + 1) m m'

theorem Go.mono {a b : Nat} {m m' : M} (h : Go a m m') (hab : a ≤ b) : Go b m m' := by
  induction h generalizing b with
  | refl => exact .refl _ _
  | step ho _ ih =>
    obtain ⟨b, rfl⟩ : ∃ c, b = c + 1 := ⟨b - 1, by omega⟩
    exact .step ho (ih (by omega))
theorem Go.trans {a b : Nat} {m m' m'' : M} (h : Go a m m') (h' : Go b m' m'') : Go (a + b) m m'' := by
  induction h with
  | refl => exact h'.mono (by omega)
  | step ho _ ih => rw [Nat.add_right_comm]; exact .step ho (ih h')
theorem Go.next {n : Nat} {m m' m'' : M} (e : m.step = m') (h : m.outcome = none) (g : Go n m' m'') : Go (n + 1) m m'' := .step h (e ▸ g)

section
variable {t : Array Nat} {s0 pos hd : Nat} {om : Bool} {mk : Array (Option Nat)} {lm li : Int} {fs : List Sre.Frame} {wt : Nat} {sn : Seen}

theorem out_S {pc : Nat} {an : Option Bool} : (S t s0 pc pos hd om mk lm li fs wt an sn).outcome = none := rfl

abbrev kp (lm li : Int) : Sre.Kept := { lastmark := lm, lastindex := li, whole := false, marks := #[] }
abbrev fB (alt pos : Nat) (om : Bool) (lm li : Int) : Sre.Frame := { wait := .nextBranch, pc := alt, pos := pos, outermost := om, kept := kp lm li }
abbrev fN (pos : Nat) (om : Bool) : Sre.Frame := { wait := .nextStart, pc := 5, pos := pos, outermost := om }
abbrev fG (pc pos : Nat) (om : Bool) (count : Int) (lm li : Int) : Sre.Frame := { wait := .giveBack, pc := pc, pos := pos, outermost := om, count := count, kept := kp lm li }
abbrev fT (pc pos : Nat) (om : Bool) (count : Int) (lm li : Int) : Sre.Frame := { wait := .takeMore, pc := pc, pos := pos, outermost := om, count := count, kept := kp lm li }

theorem st5 (hw : wt < 1000) : (S t s0 5 pos hd om mk lm li fs wt none sn).step = S t s0 7 pos pos om mk lm li (fB 6 pos om lm li :: fs) (wt + 1) none (sn.add 7) := by
  show (if wt + 1 + 0 > 16777216 then _ else _) = _
  rw [if_neg (by omega)]
  rfl
theorem st7 : (S t s0 7 pos hd om mk (-1) (-1) fs wt none sn).step = S t s0 9 pos hd om (mk.setIfInBounds 0 (some pos)) 0 (-1) fs wt none (sn.add 17) := rfl
theorem st16 : (S t s0 16 pos hd om mk 0 (-1) fs wt none sn).step = S t s0 18 pos hd om (mk.setIfInBounds 1 (some pos)) 1 1 fs wt none (sn.add 17) := by
  show M.mark (S t s0 16 pos hd om mk 0 (-1) fs wt none (sn.add 17)) 1 = _
  simp [M.mark, S, List.range, List.range.loop]
  try decide
theorem st18 : (S t s0 18 pos hd om mk lm li fs wt none sn).step = S t s0 56 pos hd om mk lm li fs wt none (sn.add 15) := rfl
theorem st35 : (S t s0 35 pos hd om mk lm li fs wt none sn).step = S t s0 56 pos hd om mk lm li fs wt none (sn.add 15) := rfl
theorem st53 : (S t s0 53 pos hd om mk lm li fs wt none sn).step = S t s0 56 pos hd om mk lm li fs wt none (sn.add 15) := rfl
theorem st56 : (S t s0 56 pos hd om mk lm li fs wt none sn).step = S t s0 56 pos pos om mk lm li fs wt (some true) (sn.add 1) := by cases om <;> rfl
theorem st21 : (S t s0 21 pos hd om mk (-1) (-1) fs wt none sn).step = S t s0 23 pos hd om (((mk.setIfInBounds 0 none).setIfInBounds 1 none).setIfInBounds 2 (some pos)) 2 (-1) fs wt none (sn.add 17) := by
  show M.mark (S t s0 21 pos hd om mk (-1) (-1) fs wt none (sn.add 17)) 2 = _
  simp [M.mark, S, List.range, List.range.loop]
  try decide
theorem st33 : (S t s0 33 pos hd om mk 2 (-1) fs wt none sn).step = S t s0 35 pos hd om (mk.setIfInBounds 3 (some pos)) 3 2 fs wt none (sn.add 17) := by
  show M.mark (S t s0 33 pos hd om mk 2 (-1) fs wt none (sn.add 17)) 3 = _
  simp [M.mark, S, List.range, List.range.loop]
  try decide
theorem st38 : (S t s0 38 pos hd om mk (-1) (-1) fs wt none sn).step = S t s0 40 pos hd om (((((mk.setIfInBounds 0 none).setIfInBounds 1 none).setIfInBounds 2 none).setIfInBounds 3 none).setIfInBounds 4 (some pos)) 4 (-1) fs wt none (sn.add 17) := by
  show M.mark (S t s0 38 pos hd om mk (-1) (-1) fs wt none (sn.add 17)) 4 = _
  simp [M.mark, S, List.range, List.range.loop]
  try decide
theorem st51 : (S t s0 51 pos hd om mk 4 (-1) fs wt none sn).step = S t s0 53 pos hd om (mk.setIfInBounds 5 (some pos)) 5 3 fs wt none (sn.add 17) := by
  show M.mark (S t s0 51 pos hd om mk 4 (-1) fs wt none (sn.add 17)) 5 = _
  simp [M.mark, S, List.range, List.range.loop]
  try decide
/- yes: out of each frame -/
theorem yG {pc p : Nat} {o : Bool} {c l1 l2 : Int} {pc0 : Nat} : (S t s0 pc0 pos hd om mk lm li (fG pc p o c l1 l2 :: fs) wt (some true) sn).step = S t s0 pc p hd o mk lm li fs (wt - 1) (some true) sn := rfl
theorem yT {pc p : Nat} {o : Bool} {c l1 l2 : Int} {pc0 : Nat} : (S t s0 pc0 pos hd om mk lm li (fT pc p o c l1 l2 :: fs) wt (some true) sn).step = S t s0 pc p hd o mk lm li fs (wt - 1) (some true) sn := rfl
theorem yB {pc p : Nat} {o : Bool} {l1 l2 : Int} {pc0 : Nat} : (S t s0 pc0 pos hd om mk lm li (fB pc p o l1 l2 :: fs) wt (some true) sn).step = S t s0 pc p hd o mk lm li fs (wt - 1) (some true) sn := rfl
theorem yN {p : Nat} {o : Bool} {pc0 : Nat} : (S t s0 pc0 pos hd om mk lm li (fN p o :: fs) wt (some true) sn).step = S t s0 5 p hd o mk lm li fs (wt - 1) (some true) sn := rfl
theorem yE {pc0 : Nat} : (S t s0 pc0 pos hd om mk lm li [] wt (some true) sn).step = { S t s0 pc0 pos hd om mk lm li [] wt (some true) sn with outcome := some .matched } := rfl
theorem nE {pc0 : Nat} : (S t s0 pc0 pos hd om mk lm li [] wt (some false) sn).step = { S t s0 pc0 pos hd om mk lm li [] wt (some false) sn with outcome := some .failed } := rfl
/- no: the next alternative -/
theorem nB6 {p : Nat} {o : Bool} {l1 l2 : Int} {pc0 : Nat} (hw : wt < 1000) : (S t s0 pc0 pos hd om mk lm li (fB 6 p o l1 l2 :: fs) (wt + 1) (some false) sn).step = S t s0 21 p p o mk l1 l2 (fB 20 p o l1 l2 :: fs) (wt + 1) none sn := by
  show (if wt + 1 + 0 > 16777216 then _ else _) = _
  rw [if_neg (by omega)]
  rfl
theorem nB20 {p : Nat} {o : Bool} {l1 l2 : Int} {pc0 : Nat} (hw : wt < 1000) : (S t s0 pc0 pos hd om mk lm li (fB 20 p o l1 l2 :: fs) (wt + 1) (some false) sn).step = S t s0 38 p p o mk l1 l2 (fB 37 p o l1 l2 :: fs) (wt + 1) none sn := by
  show (if wt + 1 + 0 > 16777216 then _ else _) = _
  rw [if_neg (by omega)]
  rfl
theorem nB37 {p : Nat} {o : Bool} {l1 l2 : Int} {pc0 : Nat} : (S t s0 pc0 pos hd om mk lm li (fB 37 p o l1 l2 :: fs) wt (some false) sn).step = S t s0 37 p hd o mk l1 l2 fs (wt - 1) (some false) sn := rfl
theorem nN {p : Nat} {o : Bool} {pc0 : Nat} (hp : p < t.size) : (S t s0 pc0 pos hd om mk lm li [fN p o] 1 (some false) sn).step = S t (p + 1) 5 (p + 1) (p + 1) false mk (-1) (-1) [fN (p + 1) false] 1 none sn := by
  show (if p < t.size then _ else _) = _
  rw [if_pos hp]
  rfl
theorem nNend {p : Nat} {o : Bool} {pc0 : Nat} (hp : ¬ p < t.size) : (S t s0 pc0 pos hd om mk lm li [fN p o] 1 (some false) sn).step = S t s0 5 p hd o mk lm li [] 0 (some false) sn := by
  show (if p < t.size then _ else _) = _
  rw [if_neg hp]
  rfl
/- single signs -/
theorem st23n (hp : ¬ pos < t.size) : (S t s0 23 pos hd om mk lm li fs wt none sn).step = S t s0 23 pos hd om mk lm li fs wt (some false) (sn.add 16) := by
  show (if pos ≥ t.size then _ else _) = _
  rw [if_pos (by omega)]
  rfl
theorem st23 (hp : pos < t.size) (hc : t.getD pos 0 = 91) : (S t s0 23 pos hd om mk lm li fs wt none sn).step = S t s0 25 (pos + 1) hd om mk lm li fs wt none (sn.add 16) := by
  show (if pos ≥ t.size then _ else match (Except.ok (t.getD pos 0 == 91, sn.add 16) : Except String (Bool × Seen)) with | .error why => _ | .ok (false, seen) => _ | .ok (true, seen) => _) = _
  rw [if_neg (by omega), hc]
  rfl
theorem st40n (hp : ¬ pos < t.size) : (S t s0 40 pos hd om mk lm li fs wt none sn).step = S t s0 40 pos hd om mk lm li fs wt (some false) (sn.add 16) := by
  show (if pos ≥ t.size then _ else _) = _
  rw [if_pos (by omega)]
  rfl
theorem st40 (hp : pos < t.size) (hc : t.getD pos 0 = 91) : (S t s0 40 pos hd om mk lm li fs wt none sn).step = S t s0 42 (pos + 1) hd om mk lm li fs wt none (sn.add 16) := by
  show (if pos ≥ t.size then _ else match (Except.ok (t.getD pos 0 == 91, sn.add 16) : Except String (Bool × Seen)) with | .error why => _ | .ok (false, seen) => _ | .ok (true, seen) => _) = _
  rw [if_neg (by omega), hc]
  rfl
theorem st31e (hp : ¬ pos < t.size) : (S t s0 31 pos hd om mk lm li fs wt none sn).step = S t s0 31 pos hd om mk lm li fs wt (some false) (sn.add 16) := by
  show (if pos ≥ t.size then _ else _) = _
  rw [if_pos (by omega)]
  rfl
theorem st31 (hp : pos < t.size) (hc : t.getD pos 0 = 93) : (S t s0 31 pos hd om mk lm li fs wt none sn).step = S t s0 33 (pos + 1) hd om mk lm li fs wt none (sn.add 16) := by
  show (if pos ≥ t.size then _ else match (Except.ok (t.getD pos 0 == 93, sn.add 16) : Except String (Bool × Seen)) with | .error why => _ | .ok (false, seen) => _ | .ok (true, seen) => _) = _
  rw [if_neg (by omega), hc]
  rfl
theorem st31n (hp : pos < t.size) (hc : t.getD pos 0 ≠ 93) : (S t s0 31 pos hd om mk lm li fs wt none sn).step = S t s0 31 pos hd om mk lm li fs wt (some false) (sn.add 16) := by
  show (if pos ≥ t.size then _ else match (Except.ok (t.getD pos 0 == 93, sn.add 16) : Except String (Bool × Seen)) with | .error why => _ | .ok (false, seen) => _ | .ok (true, seen) => _) = _
  rw [if_neg (by omega), beq_false_of_ne hc]
  rfl
/- the lazy repeat -/
theorem st25 (hw : wt < 1000) (hp : pos ≤ t.size) : (S t s0 25 pos hd om mk lm li fs wt none sn).step = S t s0 31 pos pos om mk lm li (fT 25 pos om 0 lm li :: fs) (wt + 1) none ((sn.add 26).add 2) := by
  show (if ((0 : Nat) : Int) > (t.size : Int) - pos then _ else match Sre.run code t 29 (min 0 ((t.size : Int) - pos).toNat) pos 0 ((sn.add 26).add 2) with | .error why => M.stick (S t s0 25 pos hd om mk lm li fs wt none (sn.add 26)) why | .ok (n, seen) => _) = _
  rw [if_neg (by omega), Nat.zero_min]
  show (if wt + 1 + 0 > 16777216 then _ else _) = _
  rw [if_neg (by omega)]
  rfl
theorem nTend {p : Nat} {o : Bool} {c l1 l2 : Int} {pc0 : Nat} (hp : ¬ p < t.size) : (S t s0 pc0 pos hd om mk lm li (fT 25 p o c l1 l2 :: fs) (wt + 1) (some false) sn).step = S t s0 25 p hd o mk l1 l2 fs wt (some false) sn := by
  show (if c + 1 > ((4294967295 : Nat) : Int) && (4294967295 : Nat) != 4294967295 then _ else if p ≥ t.size then _ else _) = _
  rw [if_neg (by simp), if_pos (by omega)]
  rfl
theorem nT10 {p : Nat} {o : Bool} {c l1 l2 : Int} {pc0 : Nat} (hp : p < t.size) (hc : t.getD p 0 = 10) : (S t s0 pc0 pos hd om mk lm li (fT 25 p o c l1 l2 :: fs) (wt + 1) (some false) sn).step = S t s0 25 p hd o mk l1 l2 fs wt (some false) sn := by
  show (if c + 1 > ((4294967295 : Nat) : Int) && (4294967295 : Nat) != 4294967295 then _ else if p ≥ t.size then _ else match (Except.ok (t.getD p 0 != 10, sn) : Except String (Bool × Seen)) with | .error why => _ | .ok (false, seen) => _ | .ok (true, seen) => _) = _
  rw [if_neg (by simp), if_neg (by omega), hc]
  rfl
theorem nT {p : Nat} {o : Bool} {c l1 l2 : Int} {pc0 : Nat} (hw : wt < 1000) (hp : p < t.size) (hc : t.getD p 0 ≠ 10) : (S t s0 pc0 pos hd om mk lm li (fT 25 p o c l1 l2 :: fs) (wt + 1) (some false) sn).step = S t s0 31 (p + 1) (p + 1) o mk l1 l2 (fT 25 (p + 1) o (c + 1) l1 l2 :: fs) (wt + 1) none sn := by
  show (if c + 1 > ((4294967295 : Nat) : Int) && (4294967295 : Nat) != 4294967295 then _ else if p ≥ t.size then _ else match (Except.ok (t.getD p 0 != 10, sn) : Except String (Bool × Seen)) with | .error why => _ | .ok (false, seen) => _ | .ok (true, seen) => _) = _
  rw [if_neg (by simp), if_neg (by omega), show (t.getD p 0 != 10) = true from bne_iff_ne.mpr hc]
  show (if wt + 1 + 0 > 16777216 then _ else _) = _
  rw [if_neg (by omega)]
  rfl
/- the end -/
theorem st49 (hp : pos = t.size) : (S t s0 49 pos hd om mk lm li fs wt none sn).step = S t s0 51 pos hd om mk lm li fs wt none ((sn.add 6).add 48) := by
  show (match (Except.ok (pos == t.size || (pos + 1 == t.size && t.getD pos 0 == 10)) : Except String Bool) with | .error why => M.stick (S t s0 49 pos hd om mk lm li fs wt none (sn.add 6)) why | .ok yes => if yes then S t s0 51 pos hd om mk lm li fs wt none ((sn.add 6).add 48) else S t s0 49 pos hd om mk lm li fs wt (some false) ((sn.add 6).add 48)) = _
  rw [show (pos == t.size || (pos + 1 == t.size && t.getD pos 0 == 10)) = true from by simp [hp]]
  rfl
theorem st49n (hp : pos < t.size) (hq : pos + 1 < t.size ∨ t.getD pos 0 ≠ 10) : (S t s0 49 pos hd om mk lm li fs wt none sn).step = S t s0 49 pos hd om mk lm li fs wt (some false) ((sn.add 6).add 48) := by
  show (match (Except.ok (pos == t.size || (pos + 1 == t.size && t.getD pos 0 == 10)) : Except String Bool) with | .error why => M.stick (S t s0 49 pos hd om mk lm li fs wt none (sn.add 6)) why | .ok yes => if yes then S t s0 51 pos hd om mk lm li fs wt none ((sn.add 6).add 48) else S t s0 49 pos hd om mk lm li fs wt (some false) ((sn.add 6).add 48)) = _
  rw [show (pos == t.size || (pos + 1 == t.size && t.getD pos 0 == 10)) = false from by
    rcases hq with h | h
    · have h1 : (pos == t.size) = false := beq_false_of_ne (by omega)
      have h2 : (pos + 1 == t.size) = false := beq_false_of_ne (by omega)
      simp [h1, h2]
    · have h1 : (pos == t.size) = false := beq_false_of_ne (by omega)
      rw [h1, beq_false_of_ne h]; simp]
  rfl
theorem nG0 {p : Nat} {o : Bool} {l1 l2 : Int} {pc0 : Nat} : (S t s0 pc0 pos hd om mk lm li (fG 42 p o 0 l1 l2 :: fs) (wt + 1) (some false) sn).step = S t s0 42 p hd o mk l1 l2 fs wt (some false) sn := rfl
theorem nG {p : Nat} {o : Bool} {c : Nat} {l1 l2 : Int} {pc0 : Nat} (hw : wt < 1000) : (S t s0 pc0 pos hd om mk lm li (fG 42 p o ((c + 1 : Nat) : Int) l1 l2 :: fs) (wt + 1) (some false) sn).step = S t s0 49 (p - 1) (p - 1) o mk l1 l2 (fG 42 (p - 1) o (c : Int) l1 l2 :: fs) (wt + 1) none sn := by
  show (if ((c + 1 : Nat) : Int) - 1 < ((0 : Nat) : Int) then _ else _) = _
  rw [if_neg (by omega), show ((c + 1 : Nat) : Int) - 1 = (c : Int) from by omega]
  show (if wt + 1 + 0 > 16777216 then _ else _) = _
  rw [if_neg (by omega)]
  rfl

/- runs of one sign -/
theorem run_not (i L : Nat) (h : ∀ c sn, accepts code i c sn = .ok (c != L, sn)) : ∀ (n p found : Nat) (sn : Seen), p + n = t.size →
    Sre.run code t i n p found sn = .ok (found + ((t.toList.drop p).takeWhile (· != L)).length, sn)
  | 0, p, found, sn, e => by
    rw [List.drop_of_length_le (by rw [Array.length_toList]; omega)]
    rfl
  | n + 1, p, found, sn, e => by
    have hp : p < t.toList.length := by rw [Array.length_toList]; omega
    have hg : t.getD p 0 = t.toList[p] := by simp [Array.getD, show p < t.size by omega]
    rw [List.drop_eq_getElem_cons hp, List.takeWhile_cons, ← hg]
    simp only [Sre.run, h]
    cases hc : (t.getD p 0 != L) with
    | false =>
      show Except.ok (found, sn) = _
      simp
    | true =>
      show Sre.run code t i n (p + 1) (found + 1) sn = _
      rw [run_not i L h n (p + 1) (found + 1) sn (by omega)]
      simp only [if_true, List.length_cons]
      congr 2
      omega
theorem acc13 (c : Nat) (sn : Seen) : accepts code 13 c sn = .ok (c != 91, sn) := rfl
theorem acc46 (c : Nat) (sn : Seen) : accepts code 46 c sn = .ok (c != 93, sn) := rfl
theorem st9e (hp : ¬ pos < t.size) : (S t s0 9 pos hd om mk lm li fs wt none sn).step = S t s0 9 pos hd om mk lm li fs wt (some false) (sn.add 24) := by
  show (if ((1 : Nat) : Int) > (t.size : Int) - pos then _ else _) = _
  rw [if_pos (by omega)]
  rfl
theorem st9n (hp : pos < t.size) (hsz : t.size ≤ 4294967295) (hc : t.getD pos 0 = 91) : (S t s0 9 pos hd om mk lm li fs wt none sn).step = S t s0 9 pos hd om mk lm li fs wt (some false) ((sn.add 24).add 20) := by
  show (if ((1 : Nat) : Int) > (t.size : Int) - pos then _ else match Sre.run code t 13 (min 4294967295 ((t.size : Int) - pos).toNat) pos 0 ((sn.add 24).add 20) with | .error why => _ | .ok (n, seen) => _) = _
  have hp' : pos < t.toList.length := by rw [Array.length_toList]; omega
  have hg : t.getD pos 0 = t.toList[pos] := by simp [Array.getD, hp]
  rw [if_neg (by omega), Nat.min_eq_right (by omega), run_not 13 91 acc13 _ _ _ _ (by omega), List.drop_eq_getElem_cons hp', List.takeWhile_cons, ← hg, hc]
  rfl
theorem st9 (hw : wt < 1000) (hp : pos < t.size) (hsz : t.size ≤ 4294967295) (hc : t.getD pos 0 ≠ 91) {n : Nat} (hn : n = ((t.toList.drop pos).takeWhile (· != 91)).length) :
    (S t s0 9 pos hd om mk lm li fs wt none sn).step = S t s0 16 (pos + n) (pos + n) om mk lm li (fG 9 (pos + n) om n lm li :: fs) (wt + 1) none ((sn.add 24).add 20) := by
  show (if ((1 : Nat) : Int) > (t.size : Int) - pos then _ else match Sre.run code t 13 (min 4294967295 ((t.size : Int) - pos).toNat) pos 0 ((sn.add 24).add 20) with | .error why => _ | .ok (n, seen) => _) = _
  rw [if_neg (by omega), Nat.min_eq_right (by omega), run_not 13 91 acc13 _ _ _ _ (by omega), ← hn, Nat.zero_add]
  have h1 : 0 < n := by
    have hp' : pos < t.toList.length := by rw [Array.length_toList]; omega
    have hg : t.getD pos 0 = t.toList[pos] := by simp [Array.getD, hp]
    rw [hn, List.drop_eq_getElem_cons hp', List.takeWhile_cons, ← hg, show (t.getD pos 0 != 91) = true from bne_iff_ne.mpr hc]
    simp
  show (if n < 1 then _ else _) = _
  rw [if_neg (by omega)]
  show (if wt + 1 + 0 > 16777216 then _ else _) = _
  rw [if_neg (by omega)]
  rfl
theorem st42 (hw : wt < 1000) (hp : pos ≤ t.size) (hsz : t.size ≤ 4294967295) {n : Nat} (hn : n = ((t.toList.drop pos).takeWhile (· != 93)).length) :
    (S t s0 42 pos hd om mk lm li fs wt none sn).step = S t s0 49 (pos + n) (pos + n) om mk lm li (fG 42 (pos + n) om n lm li :: fs) (wt + 1) none ((sn.add 24).add 20) := by
  show (if ((0 : Nat) : Int) > (t.size : Int) - pos then _ else match Sre.run code t 46 (min 4294967295 ((t.size : Int) - pos).toNat) pos 0 ((sn.add 24).add 20) with | .error why => _ | .ok (n, seen) => _) = _
  rw [if_neg (by omega), Nat.min_eq_right (by omega), run_not 46 93 acc46 _ _ _ _ (by omega), ← hn, Nat.zero_add]
  show (if n < 0 then _ else _) = _
  rw [if_neg (by omega)]
  show (if wt + 1 + 0 > 16777216 then _ else _) = _
  rw [if_neg (by omega)]
  rfl
end

/-! one try, at one place -/
structure Done (b e k : Nat) (m : M) : Prop where
  out : m.outcome = some .matched
  start : m.start = b
  handed : m.handed = e
  last : m.lastmark = ((2 * k + 1 : Nat) : Int)
  low : ∀ i, i < 2 * k → m.marks.getD i none = none
  lo : m.marks.getD (2 * k) none = some b
  hi : m.marks.getD (2 * k + 1) none = some e

section
variable {t : Array Nat} {p : Nat} {o : Bool} {mk : Array (Option Nat)} {sn : Seen}

theorem size6 {mk : Array (Option Nat)} (h : mk.size = 6) : ∃ a b c d e f, mk = #[a, b, c, d, e, f] := by
  obtain ⟨l⟩ := mk
  match l, h with
  | [a, b, c, d, e, f], _ => exact ⟨a, b, c, d, e, f, rfl⟩

theorem alt1_ok (hm : mk.size = 6) (hp : p < t.size) (hsz : t.size ≤ 4294967295) (hc : t.getD p 0 ≠ 91) {n : Nat} (hn : n = ((t.toList.drop p).takeWhile (· != 91)).length) :
    ∃ m, Go 10 (S t p 5 p p o mk (-1) (-1) [fN p o] 1 none sn) m ∧ Done p (p + n) 0 m := by
  refine ⟨_, .next (st5 (by decide)) rfl (.next st7 rfl (.next (st9 (by decide) hp hsz hc hn) rfl (.next st16 rfl (.next st18 rfl (.next st56 rfl (.next yG rfl (.next yB rfl (.next yN rfl (.next yE rfl (.refl _ _)))))))))), ?_⟩
  obtain ⟨a, b, c, d, e, f, rfl⟩ := size6 hm
  exact ⟨rfl, rfl, rfl, rfl, fun i hi => by omega, rfl, rfl⟩
theorem alt1_no (hsz : t.size ≤ 4294967295) (hc : p < t.size → t.getD p 0 = 91) :
    ∃ mk' sn', mk'.size = mk.size ∧ Go 4 (S t p 5 p p o mk (-1) (-1) [fN p o] 1 none sn) (S t p 21 p p o mk' (-1) (-1) [fB 20 p o (-1) (-1), fN p o] 2 none sn') := by
  by_cases hp : p < t.size
  · exact ⟨_, _, by simp, .next (st5 (by decide)) rfl (.next st7 rfl (.next (st9n hp hsz (hc hp)) rfl (.next (nB6 (by decide)) rfl (.refl _ _))))⟩
  · exact ⟨_, _, by simp, .next (st5 (by decide)) rfl (.next st7 rfl (.next (st9e hp) rfl (.next (nB6 (by decide)) rfl (.refl _ _))))⟩

theorem getD_drop {q : Nat} (h : q < t.size) : t.toList.drop q = t.getD q 0 :: t.toList.drop (q + 1) := by
  have hp : q < t.toList.length := by rw [Array.length_toList]; omega
  rw [List.drop_eq_getElem_cons hp]
  congr 1
  simp [Array.getD, h]
theorem drop_end {q : Nat} (h : ¬ q < t.size) : t.toList.drop q = [] := List.drop_of_length_le (by rw [Array.length_toList]; omega)

theorem lazyLoop {fs : List Sre.Frame} : ∀ (d q : Nat) (c : Int) (sn : Seen), d = t.size - q → q ≤ t.size → ∃ sn',
    match setLen (t.toList.drop q) with
    | some n => q + n < t.size ∧ ∃ c', Go (2 * d + 1) (S t p 31 q q o mk 2 (-1) (fT 25 q o c 2 (-1) :: fs) 3 none sn) (S t p 33 (q + n + 1) (q + n) o mk 2 (-1) (fT 25 (q + n) o c' 2 (-1) :: fs) 3 none sn')
    | none => ∃ q', Go (2 * d + 2) (S t p 31 q q o mk 2 (-1) (fT 25 q o c 2 (-1) :: fs) 3 none sn) (S t p 25 q' q' o mk 2 (-1) fs 2 (some false) sn')
  | 0, q, c, sn, hd, hq => by
    have hq' : ¬ q < t.size := by omega
    rw [drop_end hq']
    exact ⟨_, q, .next (st31e hq') rfl (.next (nTend hq') rfl (.refl _ _))⟩
  | d + 1, q, c, sn, hd, hq => by
    have hq' : q < t.size := by omega
    rw [getD_drop hq']
    simp only [setLen]
    by_cases h93 : t.getD q 0 = 93
    · rw [if_pos h93]
      exact ⟨_, by omega, c, .next (st31 hq' h93) rfl (.refl _ _)⟩
    · rw [if_neg h93]
      by_cases h10 : t.getD q 0 = 10
      · rw [if_pos h10]
        exact ⟨_, q, .next (st31n hq' h93) rfl (.next (nT10 hq' h10) rfl (.refl _ _))⟩
      · rw [if_neg h10]
        obtain ⟨sn', ih⟩ := lazyLoop (fs := fs) d (q + 1) (c + 1) (sn.add 16) (by omega) (by omega)
        refine ⟨sn', ?_⟩
        cases hs : setLen (t.toList.drop (q + 1)) with
        | none =>
          rw [hs] at ih
          obtain ⟨q', g⟩ := ih
          exact ⟨q', (Go.next (st31n hq' h93) rfl (.next (nT (by decide) hq' h10) rfl g)).mono (by omega)⟩
        | some n =>
          rw [hs] at ih
          obtain ⟨hb, c', g⟩ := ih
          show q + (n + 1) < t.size ∧ _
          refine ⟨by omega, c', ?_⟩
          rw [show q + (n + 1) = q + 1 + n from by omega]
          exact (Go.next (st31n hq' h93) rfl (.next (nT (by decide) hq' h10) rfl g)).mono (by omega)

theorem alt2_ok (hm : mk.size = 6) (hp : p < t.size) (hc : t.getD p 0 = 91) {n : Nat} (hn : setLen (t.toList.drop (p + 1)) = some n) :
    ∃ m, Go (2 * t.size + 20) (S t p 21 p p o mk (-1) (-1) [fB 20 p o (-1) (-1), fN p o] 2 none sn) m ∧ Done p (p + (n + 2)) 1 m := by
  obtain ⟨sn', h⟩ := lazyLoop (t := t) (p := p) (o := o) (mk := ((mk.setIfInBounds 0 none).setIfInBounds 1 none).setIfInBounds 2 (some p)) (fs := [fB 20 p o (-1) (-1), fN p o]) (t.size - (p + 1)) (p + 1) 0 ((((sn.add 17).add 16).add 26).add 2) rfl (by omega)
  rw [hn] at h
  obtain ⟨hb, c', g⟩ := h
  refine ⟨_, (Go.next st21 rfl (.next (st23 hp hc) rfl (.next (st25 (by decide) (by omega)) rfl (g.trans (.next st33 rfl (.next st35 rfl (.next st56 rfl (.next yT rfl (.next yB rfl (.next yN rfl (.next yE rfl (.refl 0 _)))))))))))).mono (by omega), ?_⟩
  have he : p + 1 + n + 1 = p + (n + 2) := by omega
  obtain ⟨a, b, c, d, e, f, rfl⟩ := size6 hm
  refine ⟨rfl, rfl, he, rfl, fun i hi => ?_, rfl, congrArg some he⟩
  match i, hi with
  | 0, _ => rfl
  | 1, _ => rfl
theorem alt2_no (hc : p < t.size → t.getD p 0 = 91 ∧ setLen (t.toList.drop (p + 1)) = none) :
    ∃ mk' sn', mk'.size = mk.size ∧ Go (2 * t.size + 20) (S t p 21 p p o mk (-1) (-1) [fB 20 p o (-1) (-1), fN p o] 2 none sn) (S t p 38 p p o mk' (-1) (-1) [fB 37 p o (-1) (-1), fN p o] 2 none sn') := by
  by_cases hp : p < t.size
  · obtain ⟨sn', h⟩ := lazyLoop (t := t) (p := p) (o := o) (mk := ((mk.setIfInBounds 0 none).setIfInBounds 1 none).setIfInBounds 2 (some p)) (fs := [fB 20 p o (-1) (-1), fN p o]) (t.size - (p + 1)) (p + 1) 0 ((((sn.add 17).add 16).add 26).add 2) rfl (by omega)
    rw [(hc hp).2] at h
    obtain ⟨q', g⟩ := h
    exact ⟨_, _, by simp, (Go.next st21 rfl (.next (st23 hp (hc hp).1) rfl (.next (st25 (by decide) (by omega)) rfl (g.trans (.next (nB20 (by decide)) rfl (.refl 0 _)))))).mono (by omega)⟩
  · exact ⟨_, _, by simp, (Go.next st21 rfl (.next (st23n hp) rfl (.next (nB20 (by decide)) rfl (.refl 0 _)))).mono (by omega)⟩

theorem greedyLoop {fs : List Sre.Frame} {b : Nat} : ∀ (c : Nat) (pc0 pos0 hd0 : Nat) (lm li : Int) (sn : Seen), b + c < t.size → ∃ q' hd' sn',
    Go (2 * c + 1) (S t p pc0 pos0 hd0 o mk lm li (fG 42 (b + c) o (c : Int) 4 (-1) :: fs) 3 (some false) sn) (S t p 42 q' hd' o mk 4 (-1) fs 2 (some false) sn')
  | 0, pc0, pos0, hd0, lm, li, sn, h => ⟨_, _, _, .next nG0 rfl (.refl _ _)⟩
  | c + 1, pc0, pos0, hd0, lm, li, sn, h => by
    obtain ⟨q', hd', sn', g⟩ := greedyLoop (fs := fs) (b := b) c 49 (b + c) (b + c) 4 (-1) ((sn.add 6).add 48) (by omega)
    have e : b + (c + 1) - 1 = b + c := by omega
    refine ⟨q', hd', sn', (Go.next (nG (by decide)) rfl ?_).mono (Nat.le_refl _)⟩
    rw [e]
    exact (Go.next (st49n (by omega) (.inl (by omega))) rfl g).mono (by omega)

theorem takeWhile_le {l : List Nat} {L : Nat} : (l.takeWhile (· != L)).length ≤ l.length := (List.takeWhile_sublist _).length_le
theorem takeWhile_all {L : Nat} : ∀ {l : List Nat}, l.contains L = false → (l.takeWhile (· != L)).length = l.length
  | [], _ => rfl
  | c :: r, h => by
    rw [List.contains_cons, Bool.or_eq_false_iff] at h
    rw [List.takeWhile_cons]
    have : (c != L) = true := by
      have := h.1
      simp only [beq_eq_false_iff_ne] at this
      exact bne_iff_ne.mpr (Ne.symm this)
    rw [this]
    simp [takeWhile_all h.2]
theorem takeWhile_stop {L : Nat} : ∀ {l : List Nat}, l.contains L = true → (l.takeWhile (· != L)).length < l.length ∧ l[(l.takeWhile (· != L)).length]? = some L
  | [], h => by simp at h
  | c :: r, h => by
    rw [List.takeWhile_cons]
    by_cases hc : c = L
    · subst hc; simp
    · have h1 : (c != L) = true := bne_iff_ne.mpr hc
      rw [h1]
      rw [List.contains_cons, Bool.or_eq_true] at h
      have h2 : r.contains L = true := by
        rcases h with h | h
        · exact absurd (beq_iff_eq.mp h).symm hc
        · exact h
      have := takeWhile_stop h2
      simpa using this

theorem alt3_ok (hm : mk.size = 6) (hp : p < t.size) (hsz : t.size ≤ 4294967295) (hc : t.getD p 0 = 91) (hn : (t.toList.drop (p + 1)).contains 93 = false) :
    ∃ m, Go 20 (S t p 38 p p o mk (-1) (-1) [fB 37 p o (-1) (-1), fN p o] 2 none sn) m ∧ Done p t.size 2 m := by
  have hn' : t.size - (p + 1) = ((t.toList.drop (p + 1)).takeWhile (· != 93)).length := by
    rw [takeWhile_all hn, List.length_drop, Array.length_toList]
  have he : p + 1 + (t.size - (p + 1)) = t.size := by omega
  refine ⟨_, (Go.next st38 rfl (.next (st40 hp hc) rfl (.next (st42 (by decide) (by omega) hsz hn') rfl (.next (st49 he) rfl (.next st51 rfl (.next st53 rfl (.next st56 rfl (.next yG rfl (.next yB rfl (.next yN rfl (.next yE rfl (.refl 0 _)))))))))))).mono (by omega), ?_⟩
  obtain ⟨a, b, c, d, e, f, rfl⟩ := size6 hm
  refine ⟨rfl, rfl, he, rfl, fun i hi => ?_, rfl, congrArg some he⟩
  match i, hi with
  | 0, _ => rfl
  | 1, _ => rfl
  | 2, _ => rfl
  | 3, _ => rfl
theorem alt3_no (hsz : t.size ≤ 4294967295) (hc : p < t.size → t.getD p 0 = 91 ∧ (t.toList.drop (p + 1)).contains 93 = true) :
    ∃ pc' pos' hd' mk' sn', mk'.size = mk.size ∧ Go (2 * t.size + 20) (S t p 38 p p o mk (-1) (-1) [fB 37 p o (-1) (-1), fN p o] 2 none sn) (S t p pc' pos' hd' o mk' (-1) (-1) [fN p o] 1 (some false) sn') := by
  by_cases hp : p < t.size
  · obtain ⟨h91, h93⟩ := hc hp
    obtain ⟨hlt, hat⟩ := takeWhile_stop h93
    generalize hn : ((t.toList.drop (p + 1)).takeWhile (· != 93)).length = n at hlt hat
    rw [List.length_drop, Array.length_toList] at hlt
    have hbc : p + 1 + n < t.size := by omega
    have hg : t.getD (p + 1 + n) 0 = 93 := by
      rw [List.getElem?_drop] at hat
      simp [Array.getD_eq_getD_getElem?, ← Array.getElem?_toList, hat]
    obtain ⟨q', hd', sn', g⟩ := greedyLoop (t := t) (p := p) (o := o) (mk := ((((mk.setIfInBounds 0 none).setIfInBounds 1 none).setIfInBounds 2 none).setIfInBounds 3 none).setIfInBounds 4 (some p)) (fs := [fB 37 p o (-1) (-1), fN p o]) (b := p + 1) n 49 (p + 1 + n) (p + 1 + n) 4 (-1) ((((((sn.add 17).add 16).add 24).add 20).add 6).add 48) hbc
    exact ⟨_, _, _, _, _, by simp, (Go.next st38 rfl (.next (st40 hp h91) rfl (.next (st42 (by decide) (by omega) hsz hn.symm) rfl (.next (st49n hbc (.inr (by rw [hg]; decide))) rfl (g.trans (.next nB37 rfl (.refl 0 _))))))).mono (by omega)⟩
  · exact ⟨_, _, _, _, _, by simp, (Go.next st38 rfl (.next (st40n hp) rfl (.next nB37 rfl (.refl 0 _)))).mono (by omega)⟩
end

/-! the search -/
theorem search {t : Array Nat} (hsz : t.size ≤ 4294967295) : ∀ (d p : Nat) (o : Bool) (mk : Array (Option Nat)) (sn : Seen), d = t.size - p → p ≤ t.size → mk.size = 6 → ∃ m,
    Go ((d + 1) * (6 * t.size + 100)) (S t p 5 p p o mk (-1) (-1) [fN p o] 1 none sn) m ∧
    match find (t.toList.drop p) with
    | some (a, k, n) => Done (p + a) (p + a + n) k m
    | none => m.outcome = some .failed := by
  intro d
  induction d with
  | zero =>
    intro p o mk sn hd hp hm
    have hp' : ¬ p < t.size := by omega
    obtain ⟨mk1, sn1, h1, g1⟩ := alt1_no (mk := mk) (sn := sn) (o := o) hsz (fun h => absurd h hp')
    obtain ⟨mk2, sn2, h2, g2⟩ := alt2_no (t := t) (p := p) (mk := mk1) (sn := sn1) (o := o) (fun h => absurd h hp')
    obtain ⟨pc3, pos3, hd3, mk3, sn3, h3, g3⟩ := alt3_no (t := t) (p := p) (mk := mk2) (sn := sn2) (o := o) hsz (fun h => absurd h hp')
    refine ⟨_, ((g1.trans (g2.trans (g3.trans (.next (nNend hp') rfl (.next nE rfl (.refl 0 _)))))).mono (by omega)), ?_⟩
    rw [drop_end hp']
    rfl
  | succ d ih =>
    intro p o mk sn hd hp hm
    have hp' : p < t.size := by omega
    have hN : (d + 1 + 1) * (6 * t.size + 100) = (d + 1) * (6 * t.size + 100) + (6 * t.size + 100) := Nat.succ_mul _ _
    rw [getD_drop hp']
    simp only [find]
    by_cases h91 : t.getD p 0 = 91
    · rw [if_neg (by simpa using h91)]
      obtain ⟨mk1, sn1, h1, g1⟩ := alt1_no (mk := mk) (sn := sn) (o := o) hsz (fun _ => h91)
      cases hs : setLen (t.toList.drop (p + 1)) with
      | some n =>
        obtain ⟨m, g, dn⟩ := alt2_ok (o := o) (sn := sn1) (h1.trans hm) hp' h91 hs
        exact ⟨m, (g1.trans g).mono (by omega), dn⟩
      | none =>
        obtain ⟨mk2, sn2, h2, g2⟩ := alt2_no (t := t) (p := p) (mk := mk1) (sn := sn1) (o := o) (fun _ => ⟨h91, hs⟩)
        cases hc : (t.toList.drop (p + 1)).contains 93 with
        | false =>
          obtain ⟨m, g, dn⟩ := alt3_ok (o := o) (sn := sn2) (h2.trans (h1.trans hm)) hp' hsz h91 hc
          refine ⟨m, (g1.trans (g2.trans g)).mono (by omega), ?_⟩
          simp only [Bool.false_eq_true, if_false]
          rw [show p + 0 + ((t.toList.drop (p + 1)).length + 1) = t.size by rw [List.length_drop, Array.length_toList]; omega]
          exact dn
        | true =>
          obtain ⟨pc3, pos3, hd3, mk3, sn3, h3, g3⟩ := alt3_no (t := t) (p := p) (mk := mk2) (sn := sn2) (o := o) hsz (fun _ => ⟨h91, hc⟩)
          obtain ⟨m, g, dn⟩ := ih (p + 1) false mk3 sn3 (by omega) (by omega) (h3.trans (h2.trans (h1.trans hm)))
          refine ⟨m, (g1.trans (g2.trans (g3.trans (.next (nN hp') rfl g)))).mono (by omega), ?_⟩
          simp only [if_true]
          cases hf : find (t.toList.drop (p + 1)) with
          | none => rw [hf] at dn; exact dn
          | some x =>
            obtain ⟨a, k, n⟩ := x
            rw [hf] at dn
            show Done (p + (a + 1)) (p + (a + 1) + n) k m
            rw [show p + (a + 1) = p + 1 + a by omega]
            exact dn
    · rw [if_pos h91]
      obtain ⟨m, g, dn⟩ := alt1_ok (o := o) (sn := sn) hm hp' hsz h91 rfl
      rw [getD_drop hp'] at dn
      exact ⟨m, g.mono (by omega), dn⟩

theorem go_runFor : ∀ (k : Nat) {n : Nat} {m m' : M}, Go n m m' → m'.outcome.isSome = true → Go (n - k) (m.runFor k) m'
  | 0, n, m, m', g, _ => by rw [Nat.sub_zero]; exact g
  | k + 1, n, m, m', g, h => by
    simp only [M.runFor]
    cases g with
    | refl => rw [if_pos h]; exact .refl _ _
    | step ho g =>
      rw [ho]
      simp only [Option.isSome_none, Bool.false_eq_true, if_false]
      exact (go_runFor k g h).mono (by omega)
theorem go_end {n : Nat} {m m' : M} (g : Go n m m') (hn : n = 0) : m = m' := by
  cases g with
  | refl => rfl
  | step => omega

theorem forSearch_eq {t : Array Nat} {p : Nat} (hp : p < t.size) : ∃ sn, Sre.forSearch code t 3 p t.size false = S t p 5 p p true (Array.replicate 6 none) (-1) (-1) [fN p true] 1 none sn := by
  refine ⟨({} : Seen).add 14, ?_⟩
  show (if decide (p > t.size) || decide (t.size - p < 1) then _ else _) = _
  rw [if_neg (by simp; omega)]
  rfl
theorem forSearch_end {t : Array Nat} : ∃ m, Go 1 (Sre.forSearch code t 3 t.size t.size false) m ∧ m.outcome = some .failed := by
  have h : ∃ m : M, Sre.forSearch code t 3 t.size t.size false = m.say false ∧ m.outcome = none ∧ m.frames = [] := by
    refine ⟨{ code := code, text := t, lim := t.size, start := t.size, pc := 5, pos := t.size, handed := t.size, marks := Array.replicate 6 none, mustAdvance := false, seen := ({} : Seen).add 14 }, ?_, ?_, ?_⟩
    · show (if decide (t.size > t.size) || decide (t.size - t.size < 1) then _ else _) = _
      rw [if_pos (by simp)]
      rfl
    · rfl
    · rfl
  obtain ⟨m, e, ho, hf⟩ := h
  rw [e]
  refine ⟨_, .next rfl ho (.refl _ _), ?_⟩
  simp only [M.step, M.say, ho, hf]
  rfl

/-- the whole search, from any place -/
theorem found {t : Array Nat} (hsz : t.size ≤ 1000) {p : Nat} (hp : p ≤ t.size) : ∃ m, Go (2 ^ 60) (Sre.forSearch code t 3 p t.size false) m ∧
    match find (t.toList.drop p) with
    | some (a, k, n) => Done (p + a) (p + a + n) k m
    | none => m.outcome = some .failed := by
  by_cases h : p < t.size
  · obtain ⟨sn, e⟩ := forSearch_eq h
    obtain ⟨m, g, x⟩ := search (t := t) (by omega) (t.size - p) p true (Array.replicate 6 none) sn rfl hp (by simp)
    rw [e]
    refine ⟨m, g.mono ?_, x⟩
    have h1 : t.size - p + 1 ≤ 1001 := by omega
    have h2 : 6 * t.size + 100 ≤ 6100 := by omega
    exact Nat.le_trans (Nat.mul_le_mul h1 h2) (by decide)
  · obtain rfl : p = t.size := by omega
    obtain ⟨m, g, x⟩ := forSearch_end (t := t)
    rw [drop_end h]
    exact ⟨m, g.mono (by decide), x⟩
end Rx
end Mine
end

section
open PySem PyProof.Rows
namespace Mine
namespace Tx
open PySem.Builtin PySem.Builtin.Str Mine.Pl

/-- a text by its signs -/
abbrev str (l : List Nat) : PySem.Str := ⟨l.toArray⟩

theorem str_len (l : List Nat) : (str l).length = l.length := by simp [PySem.Str.length]
theorem str_append (a b : List Nat) : str a ++ str b = str (a ++ b) := PySem.Str.ext' (by simp [PySem.Str.cps_append])
theorem str_of (x : PySem.Str) : x = str x.cps.toList := PySem.Str.ext' (by simp)
theorem str_inj {a b : List Nat} (h : str a = str b) : a = b := by
  have := congrArg (fun x : PySem.Str => x.cps.toList) h
  simpa using this

theorem glue_free {d : Nat} : ∀ {xs : List (List Nat)}, xs ≠ [] → (∀ x ∈ xs, ∀ c ∈ x, c ≠ d) → splitOn d (glue d xs) = xs
  | [], h, _ => absurd rfl h
  | [x], _, h => splitOn_free (h x (.head _))
  | x :: y :: r, _, h => by
    simp only [glue]
    rw [splitOn_cut _ (h x (.head _)), glue_free (by simp) fun z hz => h z (.tail _ hz)]
theorem join_glue (c : Nat) : ∀ ps : List PySem.Str, (PySem.Str.join ⟨#[c]⟩ ps).cps.toList = glue c (ps.map (·.cps.toList))
  | [] => rfl
  | [x] => rfl
  | x :: y :: r => by
    show ((x ++ ⟨#[c]⟩ ++ PySem.Str.join ⟨#[c]⟩ (y :: r)) : PySem.Str).cps.toList = _
    rw [PySem.Str.cps_append, PySem.Str.cps_append, Array.toList_append, Array.toList_append, join_glue c (y :: r)]
    simp [glue]
theorem split_ne (x : PySem.Str) (y : PySem.Str) : Txt.split x y ≠ [] := by
  unfold Txt.split
  split
  · simp
  · split
    · simp
    · rw [StrLaws.partsBetween_eq]
      obtain ⟨p, r, e⟩ := StrLaws.partsFrom_ne x y.length 0 (occurrences x y 0 x.length (x.length + 1))
      rw [e]; simp
theorem split_toList (l : List Nat) (c : Nat) : (Txt.split (str l) ⟨#[c]⟩).map (·.cps.toList) = splitOn c l := by
  have h1 := StrLaws.join_split (str l) ⟨#[c]⟩
  have h2 := StrLaws.split_free (str l) c
  have h3 := congrArg (fun x : PySem.Str => x.cps.toList) h1
  simp only [join_glue] at h3
  have h4 : glue c ((Txt.split (str l) ⟨#[c]⟩).map (·.cps.toList)) = l := by simpa using h3
  have h5 := glue_free (d := c) (xs := (Txt.split (str l) ⟨#[c]⟩).map (·.cps.toList)) (by simpa using split_ne (str l) ⟨#[c]⟩) (by
    intro x hx d hd e
    obtain ⟨p, hp, rfl⟩ := List.mem_map.mp hx
    exact h2 p hp (e ▸ hd))
  rw [← h5, h4]
theorem split_eq (l : List Nat) (c : Nat) : Txt.split (str l) ⟨#[c]⟩ = (splitOn c l).map str := by
  rw [← split_toList, List.map_map]
  conv => lhs; rw [← List.map_id (Txt.split (str l) ⟨#[c]⟩)]
  exact List.map_congr_left fun x _ => str_of x

def repl (c : Nat) (z : List Nat) (l : List Nat) : List Nat := l.flatMap fun d => if d = c then z else [d]
def joinL (z : List Nat) : List (List Nat) → List Nat
  | [] => []
  | [x] => x
  | x :: y :: r => x ++ z ++ joinL z (y :: r)
theorem join_L (z : List Nat) : ∀ ps : List (List Nat), PySem.Str.join (str z) (ps.map str) = str (joinL z ps)
  | [] => rfl
  | [x] => rfl
  | x :: y :: r => by
    show (str x ++ str z ++ PySem.Str.join (str z) ((y :: r).map str) : PySem.Str) = _
    rw [join_L z (y :: r), str_append, str_append]
    rfl
theorem joinL_split (c : Nat) (z : List Nat) : ∀ l : List Nat, joinL z (splitOn c l) = repl c z l
  | [] => rfl
  | d :: l => by
    have ih := joinL_split c z l
    simp only [splitOn, repl, List.flatMap_cons]
    cases hs : splitOn c l with
    | nil => exact absurd hs (splitOn_ne c l)
    | cons y ys =>
      rw [hs] at ih
      split
      · simp only [joinL, List.nil_append, ih, repl]
      · cases ys with
        | nil => simp only [joinL] at ih ⊢; rw [ih]; rfl
        | cons u us => simp only [joinL, List.cons_append] at ih ⊢; rw [ih]; rfl
theorem replace_eq (l : List Nat) (c : Nat) (z : List Nat) : Txt.replace (str l) ⟨#[c]⟩ (str z) = str (repl c z l) := by
  rw [StrLaws.replace_one, split_eq, join_L, joinL_split]

theorem joinL_nil : ∀ ps : List (List Nat), joinL [] ps = ps.flatten
  | [] => rfl
  | [x] => by simp [joinL]
  | x :: y :: r => by
    simp only [joinL]
    rw [joinL_nil (y :: r)]
    simp
theorem join_empty (ps : List (List Nat)) : Txt.join (PySem.Str.ofString "") (ps.map str) = str ps.flatten := by
  show glued _ _ = _
  rw [StrLaws.glued_eq_join, show PySem.Str.ofString "" = str [] from by decide +kernel, join_L, joinL_nil]
theorem join_ok {texts : List PySem.Str} {B : Nat} (hB : ∀ y ∈ texts, y.length ≤ B) (h : texts.length * B ≤ 16777216) : JoinOk (PySem.Str.ofString "") texts = true := by
  have h0 : (PySem.Str.ofString "").length = 0 := by decide +kernel
  have := StrLaws.joinFits (sep := PySem.Str.ofString "") hB (by rw [h0]; omega)
  unfold JoinOk
  rw [this]
  rfl
theorem repl_one (c d : Nat) (l : List Nat) : repl c [d] l = l.map fun x => if x = c then d else x := by
  unfold repl
  induction l with
  | nil => rfl
  | cons x l ih => simp only [List.flatMap_cons, List.map_cons, ih]; split <;> rfl
theorem repl_none (c : Nat) (l : List Nat) : repl c [] l = l.filter (· != c) := by
  unfold repl
  induction l with
  | nil => rfl
  | cons x l ih =>
    simp only [List.flatMap_cons, ih]
    by_cases h : x = c
    · simp [h]
    · rw [if_neg h]; simp [h]
theorem held_eq (l : List Nat) : repl 34 [92, 34] (repl 92 [92, 92] l) = held l := by
  unfold repl held
  induction l with
  | nil => rfl
  | cons x l ih =>
    simp only [List.flatMap_cons, List.flatMap_append, ih]
    congr 1
    unfold esc
    by_cases h : x = 92
    · subst h; rfl
    · by_cases h' : x = 34
      · subst h'; rfl
      · simp [h, h']
theorem held_len (l : List Nat) : (held l).length ≤ 2 * l.length := by
  unfold held
  induction l with
  | nil => simp
  | cons x l ih =>
    simp only [List.flatMap_cons, List.length_append, List.length_cons]
    have : (esc x).length ≤ 2 := by unfold esc; split <;> (try split) <;> simp
    omega

/-! cuts -/
theorem slice_to (l : List Nat) {k : Nat} (h : k ≤ l.length) : Txt.slice (str l) none (some (k : Int)) = str (l.take k) := by
  have := StrLaws.sliceText_to (x := str l) (j := (k : Int)) ⟨by omega, by simpa using h⟩
  rw [show Txt.slice (str l) none (some (k : Int)) = StrLaws.sliceText (str l) none (some (k : Int)) from rfl, this]
  simp
theorem slice_from (l : List Nat) {k : Nat} (h : k ≤ l.length) : Txt.slice (str l) (some (k : Int)) none = str (l.drop k) := by
  have := StrLaws.sliceText_from (x := str l) (i := (k : Int)) ⟨by omega, by simpa using h⟩
  rw [show Txt.slice (str l) (some (k : Int)) none = StrLaws.sliceText (str l) (some (k : Int)) none from rfl, this]
  simp only [Int.toNat_natCast, List.toList_toArray]
  rw [List.take_of_length_le (by simp)]
theorem slice_mid (l : List Nat) (h : 2 ≤ l.length) : Txt.slice (str l) (some 1) (some (-1)) = str ((l.drop 1).dropLast) := by
  have h1 := StrLaws.sliceText_neg_hi (str l) (some 1) (j := -1) (by omega) (by rw [str_len]; omega)
  have h2 := StrLaws.sliceText_plain (x := str l) (i := 1) (j := -1 + (str l).length) ⟨by omega, by rw [str_len]; omega, by rw [str_len]; simp; omega⟩
  rw [show Txt.slice (str l) (some 1) (some (-1)) = StrLaws.sliceText (str l) (some 1) (some (-1)) from rfl, h1, h2]
  rw [str_len]
  congr 1
  rw [show (-1 + (l.length : Int) - 1).toNat = l.length - 2 by omega, show (1 : Int).toNat = 1 from rfl, List.toList_toArray, List.dropLast_eq_take, List.length_drop]
  congr 1

/-! places -/
theorem idx_spec {d : Nat} : ∀ {l : List Nat}, (idx d l = none ∧ ∀ v, v < l.length → l[v]? ≠ some d) ∨ ∃ k, idx d l = some k ∧ k < l.length ∧ l[k]? = some d ∧ ∀ v, v < k → l[v]? ≠ some d
  | [] => .inl ⟨rfl, fun v h => by simp at h⟩
  | x :: r => by
    simp only [idx]
    by_cases hx : x = d
    · right
      exact ⟨0, if_pos hx, by simp, by simp [hx], fun v hv => by omega⟩
    · rw [if_neg hx]
      rcases idx_spec (d := d) (l := r) with ⟨h1, h2⟩ | ⟨k, h1, h2, h3, h4⟩
      · left
        refine ⟨by rw [h1]; rfl, fun v hv => ?_⟩
        cases v with
        | zero => simpa using hx
        | succ v => simpa using h2 v (by simpa using hv)
      · right
        refine ⟨k + 1, by rw [h1]; rfl, by simpa using h2, by simpa using h3, fun v hv => ?_⟩
        cases v with
        | zero => simpa using hx
        | succ v => simpa using h4 v (by omega)
theorem getD_str {l : List Nat} {v : Nat} (hv : v < l.length) : (str l).cps.getD v 0 = l[v] := by simp [Array.getD, hv]
theorem find_from (l : List Nat) (c : Nat) {b : Nat} (hb : b ≤ l.length) : Txt.find3 (str l) ⟨#[c]⟩ (b : Int) = match idx c (l.drop b) with | some k => ((k + b : Nat) : Int) | none => -1 := by
  have hfi : fromIndex (str l).length (b : Int) = b := by unfold fromIndex; rw [if_neg (by omega)]; omega
  have hget : ∀ v, b ≤ v → v < l.length → ((str l).cps.getD v 0 = c ↔ (l.drop b)[v - b]? = some c) := by
    intro v h1 h2
    rw [getD_str h2, List.getElem?_drop, show b + (v - b) = v by omega, List.getElem?_eq_getElem h2]
    simp
  rcases StrLaws.find3_spec (str l) c (b : Int) with ⟨h1, h2⟩ | ⟨k, h1, h2, h3, h4, h5⟩
  · rw [h1]
    rw [hfi, str_len] at h2
    rcases idx_spec (d := c) (l := l.drop b) with ⟨e, _⟩ | ⟨k, e, hk, hk2, _⟩
    · rw [e]
    · exfalso
      rw [List.length_drop] at hk
      refine h2 (k + b) (by omega) (by omega) ((hget _ (by omega) (by omega)).mpr ?_)
      rw [show k + b - b = k by omega]; exact hk2
  · rw [h1]
    rw [hfi] at h2 h5
    rw [str_len] at h3
    rcases idx_spec (d := c) (l := l.drop b) with ⟨e, hn⟩ | ⟨j, e, hj, hj2, hj3⟩
    · exact absurd ((hget k h2 h3).mp h4) (hn (k - b) (by rw [List.length_drop]; omega))
    · rw [e]
      have : k = j + b := by
        rw [List.length_drop] at hj
        rcases Nat.lt_trichotomy k (j + b) with h | h | h
        · exact absurd ((hget k h2 h3).mp h4) (hj3 (k - b) (by omega))
        · exact h
        · exact absurd ((hget (j + b) (by omega) (by omega)).mpr (by rw [show j + b - b = j by omega]; exact hj2)) (h5 (j + b) (by omega) (by omega))
      rw [this]
theorem rfind_eq (l : List Nat) (c : Nat) : Txt.rfind (str l) ⟨#[c]⟩ + 1 = (behindLast c l : Int) := by
  have hat : ∀ i, StrLaws.At (str l) ⟨#[c]⟩ (str l).length i ↔ l[i]? = some c := fun i => by
    have := StrLaws.subAt_one (str l) c i
    simpa [StrLaws.At] using this
  have hfree := behind_free c l
  have hlast := behind_last c l
  have hle := behind_le c l
  generalize behindLast c l = b at hfree hlast hle
  have hno : ∀ k, b ≤ k → l[k]? ≠ some c := fun k hk e => by
    have hm : c ∈ l.drop b := by
      refine List.mem_of_getElem? (i := k - b) ?_
      rw [List.getElem?_drop, show b + (k - b) = k by omega]; exact e
    exact hfree c hm rfl
  unfold Txt.rfind
  rcases StrLaws.last_spec (str l) ⟨#[c]⟩ with ⟨h1, h2⟩ | ⟨i, h1, h2, h3⟩
  · rw [h1]
    rcases hlast with e | ⟨y, e⟩
    · have hb : b = 0 := by
        have := congrArg List.length e
        simp only [List.length_take, List.length_nil] at this
        omega
      subst hb; rfl
    · exfalso
      have hl := congrArg List.length e
      simp only [List.length_take, List.length_append, List.length_singleton] at hl
      refine h2 y.length ((hat _).mpr ?_)
      have h3 : (l.take b)[y.length]? = some c := by rw [e]; simp
      rw [List.getElem?_take_of_lt (by omega)] at h3
      exact h3
  · rw [h1]
    have hi := (hat i).mp h2
    have hib : i < b := Nat.lt_of_not_le fun h => hno i h hi
    rcases hlast with e | ⟨y, e⟩
    · exfalso
      have := congrArg List.length e
      simp only [List.length_take, List.length_nil] at this
      omega
    · have hl := congrArg List.length e
      simp only [List.length_take, List.length_append, List.length_singleton] at hl
      have h4 : (l.take b)[y.length]? = some c := by rw [e]; simp
      rw [List.getElem?_take_of_lt (by omega)] at h4
      have : i = y.length := by
        rcases Nat.lt_trichotomy i y.length with h | h | h
        · exact absurd ((hat _).mpr h4) (h3 y.length h)
        · exact h
        · omega
      show (i : Int) + 1 = b
      omega
end Tx
end Mine
end

section
open PySem PySem.W PyProof.Rows
namespace Mine
namespace Wk
open PySem.Calls

/-- the text's defs, by their place in it -/
def D (i : Nat) : DefRec := match _root_.PySem.Challenge.pw_mr0057_01.main.body[i]? with
  | some (.FunctionDef name args body _ _ _ scope _ _ pos) => ⟨name, args, body, scope, pos⟩
  | _ => ⟨⟨#[]⟩, ⟨[], [], none, [], [], none, []⟩, [], ⟨.module, [], false, false, []⟩, default⟩

def FnAt (h : Heap) (a : Addr) (d : DefRec) : Prop :=
  ∃ o pm cd doc, h.get? a = some o ∧ o.data = .func (docDef d.name d.params d.body d.scope pm cd doc) ∧ h.CodeRec cd d.name
theorem FnAt.keeps {h h' : Heap} {a : Addr} {d : DefRec} (x : FnAt h a d) (hk : ∀ b o, h.get? b = some o → h'.get? b = some o) : FnAt h' a d :=
  let ⟨o, pm, cd, doc, h1, h2, h3⟩ := x; ⟨o, pm, cd, doc, hk _ _ h1, h2, h3.keeps hk⟩

/-- a def is entered by its arguments, and ends without an exception -/
theorem enter {prog : Program} {w : World} {A : Around} {R : Result → Shared → Prop} {s : Shared} {a : Addr} {d : DefRec} {args : List Value} {binds : List (Str × Value)}
    (hf : FnAt s.heap a d) (hlim : s.heap.NoLimit) (hroom : A.depth < recursionLimit)
    (hbind : ∀ pm cd doc, bindArgs (docDef d.name d.params d.body d.scope pm cd doc) ⟨args, []⟩ = pure binds)
    (hloc : ∀ x ∈ binds, d.scope.names.lookup x.1 = some .local)
    (h : ∀ L cd h₁, Fr s.heap L h₁ (fun x => binds.reverse.lookup x) →
      wpAny (model prog w) (A.deeper (envOf d.name d.scope L a cd)) (execs d.body (envOf d.name d.scope L a cd))
        (fun f s' => R (.ok (.ret (match f with | .ret v => v | _ => .none))) s') (fun _ _ => False)
        { s with heap := h₁, toks := s.toks + binds.length })
    (hco : d.scope.isCoroutine = false) (hgen : d.scope.isGenerator = false) (hk : d.scope.kind = .function)
    (hcell : ∀ x ∈ d.scope.names, x.2 ≠ .cell) :
    codeAny (model prog w) A (.call (.ref a) ⟨args, []⟩) R s := by
  obtain ⟨o, pm, cd, doc, ho, hd, hc⟩ := hf
  exact call_plain_ret hroom ho hd hlim hc (hbind pm cd doc) hloc (fun h₁ F => h _ cd h₁ F) hco hgen hk hcell

/-! a frame: some of its names, and the things it has made -/
def setV (x : Str) (v : Value) : List (Str × Value) → List (Str × Value)
  | [] => [(x, v)]
  | p :: r => if p.1 = x then (x, v) :: r.map (fun q => if q.1 = x then (x, v) else q) else p :: setV x v r
theorem mem_setV {x : Str} {v : Value} : ∀ {vs : List (Str × Value)} {p : Str × Value}, p ∈ setV x v vs → p = (x, v) ∨ (p.1 ≠ x ∧ p ∈ vs)
  | [], p, h => .inl (List.mem_singleton.mp h)
  | q :: r, p, h => by
    simp only [setV] at h
    split at h
    · rcases List.mem_cons.mp h with h | h
      · exact .inl h
      · obtain ⟨z, hz, rfl⟩ := List.mem_map.mp h
        split
        · exact .inl rfl
        · rename_i hne
          exact .inr ⟨hne, .tail _ hz⟩
    · rename_i hq
      rcases List.mem_cons.mp h with rfl | h
      · exact .inr ⟨hq, .head _⟩
      · rcases mem_setV h with h | ⟨h1, h2⟩
        · exact .inl h
        · exact .inr ⟨h1, .tail _ h2⟩

abbrev Thing := Addr × (Obj → Prop)
structure Fm (h₀ : Heap) (L : Addr) (vs : List (Str × Value)) (os : List Thing) (h : Heap) : Prop where
  fr : ∃ m, Fr h₀ L h m ∧ ∀ p ∈ vs, m p.1 = some p.2
  nw : ∀ p ∈ os, (∃ o, h.get? p.1 = some o ∧ p.2 o) ∧ p.1 ≠ L ∧ h₀.get? p.1 = none
  nd : (os.map (·.1)).Nodup

section
variable {h₀ h h' : Heap} {L : Addr} {vs : List (Str × Value)} {os : List Thing}
theorem Fm.keep (F : Fm h₀ L vs os h) {b : Addr} {o : Obj} (e : h₀.get? b = some o) : h.get? b = some o := let ⟨_, f, _⟩ := F.fr; f.keep b o e
theorem Fm.start {m : Str → Option Value} (f : Fr h₀ L h m) (hv : ∀ p ∈ vs, m p.1 = some p.2) : Fm h₀ L vs [] h :=
  { fr := ⟨m, f, hv⟩, nw := (fun _ hp => by cases hp), nd := List.nodup_nil }
theorem Fm.grown (F : Fm h₀ L vs os h) (hk : ∀ b o, h.get? b = some o → h'.get? b = some o) : Fm h₀ L vs os h' :=
  let ⟨m, f, hv⟩ := F.fr
  ⟨⟨m, f.keeps hk, hv⟩, fun p hp => let ⟨⟨o, ho, x⟩, r⟩ := F.nw p hp; ⟨⟨o, hk _ _ ho, x⟩, r⟩, F.nd⟩
theorem Fm.vars {vs' : List (Str × Value)} (F : Fm h₀ L vs os h) (hs : ∀ p ∈ vs', p ∈ vs) : Fm h₀ L vs' os h :=
  let ⟨m, f, hv⟩ := F.fr
  ⟨⟨m, f, fun p hp => hv p (hs p hp)⟩, F.nw, F.nd⟩
theorem Fm.fewer {os' : List Thing} (F : Fm h₀ L vs os h) (hs : List.Sublist os' os) : Fm h₀ L vs os' h :=
  ⟨F.fr, fun p hp => F.nw p (hs.subset hp), (hs.map (·.1)).nodup F.nd⟩
theorem Fm.perm {os' : List Thing} (F : Fm h₀ L vs os h) (hs : List.Perm os' os) : Fm h₀ L vs os' h :=
  ⟨F.fr, fun p hp => F.nw p (hs.subset hp), (hs.map (·.1)).nodup_iff.mpr F.nd⟩
theorem Fm.size (F : Fm h₀ L vs os h) : (∀ p ∈ os, p.1 < h.objs.size) ∧ L < h.objs.size :=
  ⟨fun p hp => let ⟨⟨_, ho, _⟩, _⟩ := F.nw p hp; Heap.lt_size ho, let ⟨_, f, _⟩ := F.fr; f.ns.lt⟩
/-- a new thing -/
theorem Fm.push (F : Fm h₀ L vs os h) (o : Obj) {P : Obj → Prop} (hp : P o) (hf : o.isFreed = false := by rfl) : Fm h₀ L vs ((h.objs.size, P) :: os) (h.push o) := by
  have hk : ∀ b x, h.get? b = some x → (h.push o).get? b = some x := fun b x e => Heap.get?_push_of_some _ e
  have G := F.grown hk
  refine ⟨G.fr, fun p hp' => ?_, ?_⟩
  · rcases List.mem_cons.mp hp' with rfl | hp'
    · refine ⟨⟨o, Heap.get?_push_size _ hf, hp⟩, Nat.ne_of_gt F.size.2, ?_⟩
      cases hq : h₀.get? h.objs.size with
      | none => rfl
      | some o' => exact absurd (Heap.lt_size (F.keep hq)) (Nat.lt_irrefl _)
    · exact G.nw p hp'
  · refine List.nodup_cons.mpr ⟨fun hm => ?_, F.nd⟩
    obtain ⟨p, hp', e⟩ := List.mem_map.mp hm
    have := F.size.1 p hp'
    rw [e] at this
    exact Nat.lt_irrefl _ this
/-- a thing of its own turns -/
theorem Fm.turn {a : Addr} {P P' : Obj → Prop} {pre post : List Thing} (F : Fm h₀ L vs (pre ++ (a, P) :: post) h) (hs : Heap.SameBut a h h') (ho : ∃ o, h'.get? a = some o ∧ P' o) :
    Fm h₀ L vs (pre ++ (a, P') :: post) h' := by
  obtain ⟨m, f, hv⟩ := F.fr
  obtain ⟨_, hL, hn⟩ := F.nw (a, P) (by simp)
  have hnd := F.nd
  rw [List.map_append, List.map_cons, List.nodup_append] at hnd
  obtain ⟨_, n2, n3⟩ := hnd
  have hpost := (List.nodup_cons.mp n2).1
  have ne : ∀ p, p ∈ pre ∨ p ∈ post → p.1 ≠ a := fun p hp e => by
    rcases hp with hp | hp
    · exact n3 p.1 (List.mem_map_of_mem hp) a (.head _) e
    · exact hpost (List.mem_map.mpr ⟨p, hp, e⟩)
  refine ⟨⟨m, ⟨f.ns.sameBut hs (Ne.symm hL), fun b o e => (hs.2 b fun q => ?_).trans (f.keep b o e), f.above⟩, hv⟩, fun p hp => ?_, ?_⟩
  · rw [q] at e; rw [hn] at e; cases e
  · rcases List.mem_append.mp hp with hp | hp
    · obtain ⟨⟨o, ho', x⟩, r⟩ := F.nw p (List.mem_append_left _ hp)
      exact ⟨⟨o, (hs.2 _ (ne p (.inl hp))).trans ho', x⟩, r⟩
    · rcases List.mem_cons.mp hp with rfl | hp
      · exact ⟨ho, hL, hn⟩
      · obtain ⟨⟨o, ho', x⟩, r⟩ := F.nw p (List.mem_append_right _ (.tail _ hp))
        exact ⟨⟨o, (hs.2 _ (ne p (.inr hp))).trans ho', x⟩, r⟩
  · have := F.nd
    simpa using this
theorem Fm.turn0 {a : Addr} {P P' : Obj → Prop} {post : List Thing} (F : Fm h₀ L vs ((a, P) :: post) h) (hs : Heap.SameBut a h h') (ho : ∃ o, h'.get? a = some o ∧ P' o) :
    Fm h₀ L vs ((a, P') :: post) h' := Fm.turn (pre := []) F hs ho
theorem Fm.turn1 {a : Addr} {P P' : Obj → Prop} {q : Thing} {post : List Thing} (F : Fm h₀ L vs (q :: (a, P) :: post) h) (hs : Heap.SameBut a h h') (ho : ∃ o, h'.get? a = some o ∧ P' o) :
    Fm h₀ L vs (q :: (a, P') :: post) h' := Fm.turn (pre := [q]) F hs ho
theorem Fm.thing {a : Addr} {P : Obj → Prop} (F : Fm h₀ L vs os h) (hm : (a, P) ∈ os) : ∃ o, h.get? a = some o ∧ P o := (F.nw _ hm).1
/-- a thing is what it is now -/
theorem Fm.pin {a : Addr} {P : Obj → Prop} {pre post : List Thing} (F : Fm h₀ L vs (pre ++ (a, P) :: post) h) : ∃ o, P o ∧ Fm h₀ L vs (pre ++ (a, fun x => x = o) :: post) h := by
  obtain ⟨o, ho, hp⟩ := F.thing (a := a) (P := P) (by simp)
  exact ⟨o, hp, Fm.turn F ⟨rfl, fun _ _ => rfl⟩ ⟨o, ho, rfl⟩⟩
end

section
variable {M : Model} {A : Around} {E : Value → Shared → Prop} {s : Shared} {name : Str} {scope : Scope} {L a : Addr} {cd : Value} {h₀ : Heap} {vs : List (Str × Value)} {os : List Thing}

/-- a name is read -/
theorem ldv {x : Str} {pos : Pos} {v : Value} {Q : Value → Shared → Prop} (F : Fm h₀ L vs os s.heap) (hv : (x, v) ∈ vs) (h : Q v s)
    (hk : scope.kind = .function := by rfl) (hl : (envOf name scope L a cd).kindOf x = some .local := by rfl)
    (hd : (x == ("__debug__" : Str)) = false := by decide) :
    wpAny M A (eval (.Name x pos) (envOf name scope L a cd)) Q E s := let ⟨_, f, hm⟩ := F.fr; ld f (hm _ hv) h hk hl hd
theorem ldnv {x : Str} {v : Value} {Q : Value → Shared → Prop} (F : Fm h₀ L vs os s.heap) (hv : (x, v) ∈ vs) (h : Q v s)
    (hk : scope.kind = .function := by rfl) (hl : (envOf name scope L a cd).kindOf x = some .local := by rfl) :
    wpAny M A (loadName (envOf name scope L a cd) x) Q E s := let ⟨_, f, hm⟩ := F.fr; ldn f (hm _ hv) h hk hl
theorem Fm.stored {h h' : Heap} {x : Str} {v : Value} {m m' : Str → Option Value} (F : Fm h₀ L vs os h) (f : Fr h₀ L h m) (hm : ∀ p ∈ vs, m p.1 = some p.2)
    (hm' : m' = fun y => if y = x then some v else m y) (hn : h'.Ns L m') (hs : Heap.SameBut L h h') : Fm h₀ L (setV x v vs) os h' := by
  refine ⟨⟨m', f.set hn hs, fun p hp => ?_⟩, fun p hp => ?_, F.nd⟩
  · subst hm'
    rcases mem_setV hp with rfl | ⟨h1, h2⟩
    · exact if_pos rfl
    · exact (if_neg h1).trans (hm p h2)
  · obtain ⟨⟨o, ho, x⟩, r⟩ := F.nw p hp
    exact ⟨⟨o, (hs.2 _ r.1).trans ho, x⟩, r⟩
/-- a name is bound -/
theorem stv {x : Str} {v : Value} {Q : Unit → Shared → Prop} (F : Fm h₀ L vs os s.heap)
    (h : ∀ h', Fm h₀ L (setV x v vs) os h' → Q () { s with heap := h', toks := s.toks + 1 })
    (hk : scope.kind = .function := by rfl) (hl : (envOf name scope L a cd).kindOf x = some .local := by rfl) :
    wpAny M A (storeName (envOf name scope L a cd) x v) Q E s := by
  obtain ⟨m, f, hm⟩ := F.fr
  exact wpAny_storeName_local hl f.ns (fun h' hn hs => h h' (F.stored f hm rfl hn hs))
    (by show (scope.kind == .class || (scope.kind == .module && L != mainGlobals)) = false; rw [hk]; rfl)
end

/-! the globals -/
structure Nm (mg mb : Str → Option Value) : Prop where
  separate : mg "separate" = some (.ref 43)
  parse : mg "parse_http_list" = some (.ref 48)
  text : mg "_law_text" = some (.ref 55)
  held : mg "_law_held" = some (.ref 62)
  header : mg "_law_header" = some (.ref 69)
  parts : mg "_law_parts" = some (.ref 74)
  twin : mg "_twin_re_1" = some (.ref 36)
  chr0 : mg "chr" = none
  len0 : mg "len" = none
  range0 : mg "range" = none
  chr : mb "chr" = some (.builtin "chr")
  len : mb "len" = some (.builtin "len")
  range : mb "range" = some (.type "range")
structure Gl (mg mb : Str → Option Value) (h : Heap) : Prop where
  g : h.Ns mainGlobals mg
  b : h.Ns builtinsNs mb
  lim : h.NoLimit
  separate : FnAt h 43 (D 3)
  parse : FnAt h 48 (D 5)
  text : FnAt h 55 (D 7)
  held : FnAt h 62 (D 8)
  header : FnAt h 69 (D 9)
  parts : FnAt h 74 (D 10)
theorem Gl.keeps {mg mb : Str → Option Value} {h h' : Heap} (G : Gl mg mb h) (hk : ∀ b o, h.get? b = some o → h'.get? b = some o) : Gl mg mb h' :=
  ⟨G.g.keeps hk, G.b.keeps hk, G.lim.keeps hk, G.separate.keeps hk, G.parse.keeps hk, G.text.keeps hk, G.held.keeps hk, G.header.keeps hk, G.parts.keeps hk⟩
section
variable {M : Model} {A : Around} {E : Value → Shared → Prop} {s : Shared} {name : Str} {scope : Scope} {L a : Addr} {cd : Value} {mg mb : Str → Option Value}
theorem gv {x : Str} {pos : Pos} {v : Value} {Q : Value → Shared → Prop} (G : Gl mg mb s.heap) (hv : mg x = some v) (h : Q v s)
    (hk : scope.kind = .function := by rfl) (hl : (envOf name scope L a cd).kindOf x = some .globalImplicit := by rfl)
    (hd : (x == ("__debug__" : Str)) = false := by decide) :
    wpAny M A (eval (.Name x pos) (envOf name scope L a cd)) Q E s := Name_function_global hk hl (loadGlobal_global G.g hv h) hd
theorem bv {x : Str} {pos : Pos} {v : Value} {Q : Value → Shared → Prop} (G : Gl mg mb s.heap) (hm : mg x = none) (hv : mb x = some v) (h : Q v s)
    (hk : scope.kind = .function := by rfl) (hl : (envOf name scope L a cd).kindOf x = some .globalImplicit := by rfl)
    (hd : (x == ("__debug__" : Str)) = false := by decide) :
    wpAny M A (eval (.Name x pos) (envOf name scope L a cd)) Q E s := Name_function_global hk hl (loadGlobal_builtin G.g hm G.b hv h) hd
end

section
variable {M : Model} {A : Around} {E : Value → Shared → Prop} {s : Shared} {env : Env}
theorem cw1 {pos : Pos} {id : String} {first : List Value} {e : Expr} {Q : Value → Shared → Prop}
    (h : wpAny M A (eval e env) (fun v s₁ => wpAny M A (call (.builtin id) (first ++ [v])) Q E s₁) E s) (hs : starEach [e] env = [(false, eval e env)] := by rfl) :
    wpAny M A (callWith pos (.builtin id) first (backTo pos (starEach [e] env)) []) Q E s := by
  rw [hs]
  exact callWith_builtin rfl (evalArgs_plain (spliced_cons (wpAny_mono h (fun v s₁ h₁ => spliced_nil h₁) fun _ _ x => x)))
theorem cw2 {pos : Pos} {id : String} {first : List Value} {e e' : Expr} {Q : Value → Shared → Prop}
    (h : wpAny M A (eval e env) (fun v s₁ => wpAny M A (eval e' env) (fun v' s₂ => wpAny M A (call (.builtin id) (first ++ [v, v'])) Q E s₂) E s₁) E s) (hs : starEach [e, e'] env = [(false, eval e env), (false, eval e' env)] := by rfl) :
    wpAny M A (callWith pos (.builtin id) first (backTo pos (starEach [e, e'] env)) []) Q E s := by
  rw [hs]
  exact callWith_builtin rfl (evalArgs_plain (spliced_cons (wpAny_mono h (fun v s₁ h₁ => spliced_cons (wpAny_mono h₁ (fun v' s₂ h₂ => spliced_nil h₂) fun _ _ x => x)) fun _ _ x => x)))
/-- a call of a built-in by its name -/
theorem cn1 {x : Str} {p pos : Pos} {id : String} {e : Expr} {Q : Value → Shared → Prop}
    (h : wpAny M A (eval (.Name x p) env) (fun f s₁ => f = .builtin id ∧ wpAny M A (eval e env) (fun v s₂ => wpAny M A (call (.builtin id) [v]) Q E s₂) E s₁) E s)
    (hs : starEach [e] env = [(false, eval e env)] := by rfl) :
    wpAny M A (eval (.Call (.Name x p) [e] [] pos) env) Q E s := by
  refine Call_Name1 (wpAny_mono h (fun f s₁ h₁ => ?_) fun _ _ x => x) hs
  obtain ⟨rfl, h₁⟩ := h₁
  exact callWith_builtin rfl (evalArgs_plain (spliced_cons (wpAny_mono h₁ (fun v s₁ h₁ => spliced_nil h₁) fun _ _ x => x)))
end
theorem FnAt.at {h : Heap} {a : Addr} {d : DefRec} (x : FnAt h a d) : ∃ o fd, h.get? a = some o ∧ o.data = .func fd := let ⟨o, _, _, _, h1, h2, _⟩ := x; ⟨o, _, h1, h2⟩
section
variable {prog : Program} {w : World} {A : Around} {E : Value → Shared → Prop} {s : Shared} {env : Env}
/-- a call of a def of the text by its name -/
theorem cf1 {x : Str} {p pos : Pos} {a : Addr} {d : DefRec} {e : Expr} {Q : Value → Shared → Prop}
    (h : wpAny (model prog w) A (eval (.Name x p) env) (fun f s₁ => f = .ref a ∧ wpAny (model prog w) A (eval e env) (fun v s₂ => FnAt s₂.heap a d ∧
      codeAny (model prog w) A (.call (.ref a) ⟨[v], []⟩) (fun r s' => match r with | .ok (.ret v) => Q v s' | .ok _ => False | .error e => E e s') s₂) E s₁) E s)
    (hs : starEach [e] env = [(false, eval e env)] := by rfl) :
    wpAny (model prog w) A (eval (.Call (.Name x p) [e] [] pos) env) Q E s := by
  refine Call_Name1 (wpAny_mono h (fun f s₁ h₁ => ?_) fun _ _ x => x) hs
  obtain ⟨rfl, h₁⟩ := h₁
  unfold callWith
  refine wpAny_bind (wpAny_holding (evalArgs_plain (spliced_cons (wpAny_mono h₁ (fun v s₂ h₂ => spliced_nil ?_) fun _ _ x => x))))
  obtain ⟨hf, h₂⟩ := h₂
  obtain ⟨o, fd, ho, hd⟩ := hf.at
  refine wpAny_bind (wpAny_standAt ?_)
  have tail : ∀ {t : Sem Value}, wpAny (model prog w) A t Q E s₂ → wpAny (model prog w) A (t >>= fun r => holding [r] point >>= fun _ => pure r) Q E s₂ :=
    fun ht => wpAny_bind (wpAny_mono ht (fun r s₂ hr => wpAny_bind (wpAny_holding (wpAny_point (wpAny_pure hr)))) fun _ _ x => x)
  refine wpAny_bind (m := keeperOf (.ref a)) ?_
  unfold keeperOf
  refine wpAny_bind (wpAny_load ho ?_)
  rw [hd]
  refine wpAny_pure ?_
  exact tail (by unfold callMarked; exact wpAny_keep (wpAny_call h₂))
end

/-! the things -/
def lst (its : List Value) : Obj → Prop := fun o => ∃ n, o = { cls := .type "list", data := .seq its.toArray n }
theorem lst_plain {h : Heap} {a : Addr} {its : List Value} (x : ∃ o, h.get? a = some o ∧ lst its o) : h.PlainList a its.toArray := let ⟨_, ho, n, e⟩ := x; ⟨n, e ▸ ho⟩
theorem lst_isList {h : Heap} {a : Addr} {its : List Value} (x : ∃ o, h.get? a = some o ∧ lst its o) : h.IsList a its.toArray := (lst_plain x).isList
theorem lst_of {h : Heap} {a : Addr} {its : List Value} (x : h.PlainList a its.toArray) : ∃ o, h.get? a = some o ∧ lst its o := let ⟨n, e⟩ := x; ⟨_, e, n, rfl⟩

section
variable {prog : Program} {w : World} {M : Model} {A : Around} {E : Value → Shared → Prop} {s : Shared} {h₀ : Heap} {L : Addr} {vs : List (Str × Value)} {os : List Thing}
theorem newListv {its : List Value} {Q : Value → Shared → Prop} (F : Fm h₀ L vs os s.heap)
    (h : ∀ h', Fm h₀ L vs ((s.heap.objs.size, lst its) :: os) h' → (∀ b o, s.heap.get? b = some o → h'.get? b = some o) → Q (.ref s.heap.objs.size) { s with heap := h' }) (hsz : its.length ≤ sizeLine := by size_fits) :
    wpAny M A (newList its) Q E s := wpAny_newList (h _ (F.push _ ⟨_, rfl⟩) fun _ _ e => Heap.get?_push_of_some _ e) hsz
/-- a list's own append, the list at the head of the things -/
theorem appendv {l : Addr} {its : List Value} {x : Value} {Q : Value → Shared → Prop} (F : Fm h₀ L vs ((l, lst its) :: os) s.heap)
    (h : ∀ h', Fm h₀ L vs ((l, lst (its ++ [x])) :: os) h' → Q .none { s with heap := h' }) (hsz : its.length ≤ sizeLine) :
    wpAny (model prog w) A (call (.builtin "list.append") [.ref l, x]) Q E s := by
  refine wpAny_list_append_plain (lst_plain (F.thing (.head _))) (fun h' hl hs => h h' (F.turn0 hs (lst_of ?_))) (by simpa using hsz)
  rw [List.push_toArray] at hl
  exact hl
theorem getAppendv {l : Addr} {its : List Value} {pl : Sem Bool} {Q : Value × List Value → Shared → Prop} (F : Fm h₀ L vs ((l, lst its) :: os) s.heap) (h : Q (.builtin "list.append", [.ref l]) s) :
    wpAny M A (getMethod (.ref l) "append" pl) Q E s := by
  obtain ⟨o, ho, n, rfl⟩ := F.thing (.head _)
  exact Calls.getMethod_list_append ho rfl rfl h
end

/-- what a step leaves of the state -/
def Mv (s s' : Shared) : Prop := ∃ h' tk, s' = { s with heap := h', toks := tk }
theorem Mv.refl (s : Shared) : Mv s s := ⟨s.heap, s.toks, rfl⟩
theorem Mv.trans {s s' s'' : Shared} (x : Mv s s') (y : Mv s' s'') : Mv s s'' := by
  obtain ⟨h, k, rfl⟩ := x; obtain ⟨h', k', rfl⟩ := y; exact ⟨h', k', rfl⟩
theorem Mv.mk (s : Shared) (h' : Heap) (tk : Nat) : Mv s { s with heap := h', toks := tk } := ⟨h', tk, rfl⟩

/-- a loop over a thing that is drawn from -/
theorem for_loop {prog : Program} {w : World} {A : Around} {R : Result → Shared → Prop} {s : Shared} {name : Str} {scope : Scope} {L a I : Addr} {cd : Value} {h₀ : Heap} {x : Str} {px : Pos} {body : List Stmt}
    {fp : List Addr} {n : Nat} {P : Nat → Value → Prop} {St : Nat → Heap → Prop} (W : Walks prog w A I fp [I] n P St)
    (J : Nat → List (Str × Value) → List Thing → Prop) {vs : List (Str × Value)} {os : List Thing} {PI : Obj → Prop}
    (hlive : ∀ i h, St i h → ∃ o, h.get? I = some o) (hfp : ∀ b ∈ fp, b = I ∨ ∃ o, h₀.get? b = some o) (F : Fm h₀ L vs ((I, PI) :: os) s.heap) (hst : St 0 s.heap) (hJ : J 0 vs os)
    (hbody : ∀ i v vs os (rest : List Thing) (s : Shared), i < n → P i v → J i vs os → Fm h₀ L (setV x v vs) (os ++ rest) s.heap →
      wpAny (model prog w) A (execs body (envOf name scope L a cd)) (fun f s' => (f = .next ∨ f = .cont) ∧ Mv s s' ∧ ∃ vs' os', J (i + 1) vs' os' ∧ Fm h₀ L vs' (os' ++ rest) s'.heap) (fun _ _ => False) s)
    (hR : ∀ vs os s', J n vs os → Fm h₀ L vs os s'.heap → Mv s s' → R (.ok .next) s')
    (hk : scope.kind = .function := by rfl) (hl : (envOf name scope L a cd).kindOf x = some .local := by rfl) :
    codeAny (model prog w) A (.forLoop (.Name x px) (.ref I) body [] (envOf name scope L a cd)) R s := by
  refine codeAny_forLoop (fun k s' => ∃ i vs os PI, Mv s s' ∧ i ≤ n ∧ k = n - i ∧ J i vs os ∧ Fm h₀ L vs ((I, PI) :: os) s'.heap ∧ St i s'.heap) ?_ n ⟨0, vs, os, PI, Mv.refl s, Nat.zero_le _, rfl, hJ, F, hst⟩
  rintro k s' ⟨i, vs, os, PI, hmv, hi, rfl, hJ, F, hst⟩
  obtain ⟨_, hIL, hI0⟩ := F.nw (I, PI) (.head _)
  have again : ∀ {h' : Heap} {os' : List Thing} {vs' : List (Str × Value)} {PI : Obj → Prop} {h : Heap} {oI : Obj}, Fm h₀ L vs' ((I, PI) :: os') h → (∀ b o, b ∉ [I] → h.get? b = some o → h'.get? b = some o) → h'.get? I = some oI →
      Fm h₀ L vs' ((I, fun x => x = oI) :: os') h' := by
    intro h' os' vs' PI h oI F hk' hoI
    obtain ⟨m, f, hv⟩ := F.fr
    refine ⟨⟨m, ⟨f.ns.at' fun o e => hk' _ _ (by simpa using Ne.symm hIL) e, fun b o e => hk' b o (fun hb => ?_) (f.keep b o e), f.above⟩, hv⟩, fun p hp => ?_, F.nd⟩
    · rw [List.mem_singleton.mp hb, hI0] at e; cases e
    · rcases List.mem_cons.mp hp with rfl | hp
      · exact ⟨⟨oI, hoI, rfl⟩, hIL, hI0⟩
      · obtain ⟨⟨o, ho, y⟩, r⟩ := F.nw p (.tail _ hp)
        refine ⟨⟨o, hk' _ _ (fun hb => ?_) ho, y⟩, r⟩
        exact (List.nodup_cons.mp F.nd).1 (List.mem_map.mpr ⟨p, hp, List.mem_singleton.mp hb⟩)
  by_cases hlt : i < n
  · refine W.item i _ _ _ hlt hst fun v h₁ tk hP hst₁ hk₁ => ?_
    obtain ⟨oI, hoI⟩ := hlive _ _ hst₁
    have F₁ := again F hk₁ hoI
    refine wpAny_assign_Name (stv F₁ (fun h₂ F₂ => ?_) hk hl)
    refine wpAny_mono (hbody i v vs os [(I, fun x => x = oI)] _ hlt hP hJ (F₂.perm (List.perm_append_singleton _ _))) (fun f s₃ h₃ => ?_) fun _ _ h => h.elim
    obtain ⟨hf, hmv₃, vs', os', hJ', F₃⟩ := h₃
    have F₄ : Fm h₀ L vs' ((I, fun x => x = oI) :: os') s₃.heap := F₃.perm (List.perm_append_singleton _ _).symm
    have hend : ∃ m, m < n - i ∧ ∃ j vs os PI, Mv s s₃ ∧ j ≤ n ∧ m = n - j ∧ J j vs os ∧ Fm h₀ L vs ((I, PI) :: os) s₃.heap ∧ St j s₃.heap := by
      refine ⟨n - (i + 1), by omega, i + 1, vs', os', _, (hmv.trans (Mv.mk s' h₂ (tk + 1))).trans hmv₃, hlt, rfl, hJ', F₄, W.frame _ _ _ hst₁ fun b hb o e => ?_⟩
      rcases hfp b hb with rfl | ⟨o', ho'⟩
      · rw [hoI] at e; cases e
        obtain ⟨o', ho', rfl⟩ := F₄.thing (.head _)
        exact ho'
      · rw [F₁.keep ho'] at e; cases e
        exact F₄.keep ho'
    rcases hf with rfl | rfl <;> exact hend
  · obtain rfl : i = n := by omega
    refine W.done _ _ _ hst fun h' tk hk' => ?_
    refine wpAny_execs_nil (hR vs os _ hJ ?_ (hmv.trans (Mv.mk s' h' tk)))
    obtain ⟨m, f, hv⟩ := F.fr
    refine ⟨⟨m, ⟨f.ns.at' fun o e => hk' _ _ (by simpa using Ne.symm hIL) e, fun b o e => hk' b o (fun hb => ?_) (f.keep b o e), f.above⟩, hv⟩, fun p hp => ?_, (List.nodup_cons.mp F.nd).2⟩
    · rw [List.mem_singleton.mp hb, hI0] at e; cases e
    · obtain ⟨⟨o, ho, y⟩, r⟩ := F.nw p (.tail _ hp)
      refine ⟨⟨o, hk' _ _ (fun hb => ?_) ho, y⟩, r⟩
      exact (List.nodup_cons.mp F.nd).1 (List.mem_map.mpr ⟨p, hp, List.mem_singleton.mp hb⟩)
end Wk
end Mine
end

section
open PySem PySem.W PyProof.Rows
set_option maxRecDepth 100000
namespace Mine
namespace Wk
open PySem.Calls PySem.Builtin PySem.Builtin.Str Mine.Pl Mine.Tx

section
variable {prog : Program} {w : World} {A : Around} {E : Value → Shared → Prop} {s : Shared}

theorem replaceM {x y z : PySem.Str} {t u v : Tok} {Q : Value → Shared → Prop} (hu : u ≠ 0) (hv : v ≠ 0) (huv : u ≠ v) (hyz : (y == z) = false) (hb : x.length + (x.length + 1) * z.length ≤ 16777216)
    (hq : ∀ t' k, s.toks ≤ k → Q (.str (Txt.replace x y z) t') { s with toks := k }) : wpAny (model prog w) A (call (.builtin "str.replace") [.str x t, .str y u, .str z v]) Q E s := by
  have e : (2 : Nat) ^ 24 = 16777216 := by decide
  have hl : tooLong (x.length + (occurrences x y 0 x.length (x.length + 1)).length * z.length) = false := by
    have h1 := StrLaws.occ_length_le x y 0 x.length (x.length + 1)
    have h2 : (occurrences x y 0 x.length (x.length + 1)).length * z.length ≤ (x.length + 1) * z.length := Nat.mul_le_mul_right _ h1
    unfold tooLong sizeLine
    exact decide_eq_false (by omega)
  refine call_gives F.slot_str_replace (typeIs_str _ _ _) F.entry_str_replace (F.args_str_replace_3 _ _ _)
    (gives_str_replace x y z t u v fun _ => ⟨by simp [hu, hv], by simp [huv], hyz, hl⟩) ?_
  have hq' := hq
  unfold Txt.replace at hq'
  cases hc : ((occurrences x y 0 x.length (x.length + 1)).isEmpty || (y.length == 0 && z.length == 0))
  · rw [hc] at hq'
    simp only [Bool.false_eq_true, if_false] at hq' ⊢
    exact ⟨fits_replaced y hb, hq' _ _ (Nat.le_succ _)⟩
  · rw [hc] at hq'
    simp only [if_true] at hq' ⊢
    exact hq' t s.toks (Nat.le_refl _)

theorem repl_len (c : Nat) (z : List Nat) (k : Nat) (hz : z.length ≤ k) (hk : 1 ≤ k) : ∀ l : List Nat, (repl c z l).length ≤ k * l.length
  | [] => Nat.zero_le _
  | x :: l => by
    have ih := repl_len c z k hz hk l
    unfold repl at ih ⊢
    simp only [List.flatMap_cons, List.length_append, List.length_cons, Nat.mul_succ]
    have : (if x = c then z else [x]).length ≤ k := by
      split
      · exact hz
      · simpa using hk
    omega

theorem callWith_2 {env : Env} {pos : Pos} {id : String} {first : List Value} {x y : PySem.Str} {k1 k2 : Nat} {p1 p2 : Pos} {Q : Value → Shared → Prop}
    (h : wpAny (model prog w) A (call (.builtin id) (first ++ [.str x s.toks, .str y (s.toks + 1)])) Q E { s with toks := s.toks + 1 + 1 }) :
    wpAny (model prog w) A (callWith pos (.builtin id) first (backTo pos (starEach [.Constant (.str x) k1 p1, .Constant (.str y) k2 p2] env)) []) Q E s :=
  callWith_method1 (spliced_cons (Constant_str (k := k1) (pos := p1) (spliced_cons (Constant_str (k := k2) (pos := p2) (spliced_nil h)))))

theorem held_spec {l : List Nat} {t : Tok} {R : Result → Shared → Prop} (hf : FnAt s.heap 62 (D 8)) (hlim : s.heap.NoLimit) (hroom : A.depth < recursionLimit) (hl : l.length ≤ 1000)
    (hR : ∀ s' t', Mv s s' → (∀ b o, s.heap.get? b = some o → s'.heap.get? b = some o) → R (.ok (.ret (.str (str (held l)) t'))) s') :
    codeAny (model prog w) A (.call (.ref 62) ⟨[.str (str l) t], []⟩) R s := by
  refine enter (binds := [("signs", .str (str l) t)]) hf hlim hroom (fun _ _ _ => rfl) (locs rfl) (fun L cd h₁ F => ?_) rfl rfl rfl (by decide)
  refine wpAny_execs_cons (wpAny_Return_some (MethodCall_ (MethodCall_ (ld F rfl (GM.replace (callWith_2 ?_))))))
  have e1 : l.length + (l.length + 1) * 2 ≤ 16777216 := by omega
  refine replaceM (by simp) (by simp) (by simp) (by decide) (by rw [str_len]; exact e1) fun t' k hk => ?_
  refine GM.replace (callWith_2 ?_)
  rw [show (PySem.Str.ofString "\\\\") = str [92, 92] from by decide +kernel, show (PySem.Str.ofString "\\") = ⟨#[92]⟩ from by decide +kernel, replace_eq]
  have e2 : (repl 92 [92, 92] l).length ≤ 2 * l.length := repl_len 92 [92, 92] 2 (by decide) (by decide) l
  have e3 : (PySem.Str.ofString "\\\"").length = 2 := by decide +kernel
  have hk3 : s.toks + 1 + 1 + 1 ≤ k := hk
  refine replaceM (show k ≠ 0 by omega) (show k + 1 ≠ 0 by omega) (show k ≠ k + 1 by omega) (by decide) (by rw [str_len, e3]; omega) fun t'' k' hk' => ?_
  rw [show (PySem.Str.ofString "\\\"") = str [92, 34] from by decide +kernel, show (PySem.Str.ofString "\"") = ⟨#[34]⟩ from by decide +kernel, replace_eq, held_eq]
  exact hR _ _ ⟨_, _, rfl⟩ fun b o e => F.keep b o e
end
end Wk
end Mine
end

section
open PySem PySem.W PyProof.Rows
set_option maxRecDepth 100000
namespace Mine
namespace Wk
open PySem.Calls PySem.Builtin PySem.Builtin.Str Mine.Pl Mine.Tx

theorem strValues_snoc (xs : List (PySem.Str × Tok)) (x : PySem.Str) (u : Tok) : strValues (xs ++ [(x, u)]) = strValues xs ++ [.str x u] := by simp [strValues]
theorem strValues_len (xs : List (PySem.Str × Tok)) : (strValues xs).length = xs.length := by simp [strValues]
theorem sum_ones : ∀ {xs : List (PySem.Str × Tok)}, (∀ p ∈ xs, p.1.length = 1) → ((xs.map (·.1.cps.toList)).map List.length).sum = xs.length
  | [], _ => rfl
  | p :: xs, h => by
    have h1 : p.1.cps.toList.length = 1 := by have := h p (.head _); simpa [PySem.Str.length] using this
    simp only [List.map_cons, List.sum_cons, List.length_cons, h1, sum_ones fun q hq => h q (.tail _ hq)]
    omega
abbrev Vars := List (PySem.Str × Value)

section
variable {prog : Program} {w : World} {A : Around} {E : Value → Shared → Prop} {s : Shared} {mg mb : PySem.Str → Option Value}

abbrev textVs (l g : Addr) : Vars := [("script", .ref l), ("signs", .ref g)]
def TextJ (l g : Addr) (i : Nat) (vs : Vars) (os : List Thing) : Prop :=
  vs = textVs l g ∧ ∃ xs : List (PySem.Str × Tok), xs.length = i ∧ (∀ p ∈ xs, p.1.length = 1) ∧ os = [(g, lst (strValues xs))]
def TextQ (h₀ : Heap) (L l g : Addr) (i : Nat) (rest : List Thing) (s : Shared) (f : Flow) (s' : Shared) : Prop :=
  (f = .next ∨ f = .cont) ∧ Mv s s' ∧ ∃ vs' os', TextJ l g (i + 1) vs' os' ∧ Fm h₀ L vs' (os' ++ rest) s'.heap

theorem text_body {h₀ : Heap} {L l g : Addr} {cd : Value} {i : Nat} {v : Value} {vs : Vars} {os rest : List Thing} (G : Gl mg mb h₀) (N : Nm mg mb) (hi : i ≤ 100) (hv : ∃ k t, v = .int k t)
    (hJ : TextJ l g i vs os) (Fb : Fm h₀ L (setV "x" v vs) (os ++ rest) s.heap) {body : List Stmt} {tgt itr oe ps} (hb : (D 7).body[1]? = some (.For tgt itr body oe ps)) :
    wpAny (model prog w) A (execs body (envOf (D 7).name (D 7).scope L 55 cd)) (TextQ h₀ L l g i rest s) (fun _ _ => False) s := by
  cases hb
  obtain ⟨rfl, xs, hx1, hx2, rfl⟩ := hJ
  obtain ⟨k, t, rfl⟩ := hv
  have Fb' : Fm h₀ L [("script", .ref l), ("signs", .ref g), ("x", .int k t)] ((g, lst (strValues xs)) :: rest) s.heap := Fb
  have Gb : Gl mg mb s.heap := G.keeps fun b o e => Fb.keep e
  have hlen : (strValues xs).length ≤ sizeLine := by rw [strValues_len, hx1, sizeLine_eq]; omega
  have fin : ∀ (c : Nat) (u : Tok) (tk : Nat), wpAny (model prog w) A (call (.builtin "list.append") [.ref g, .str ⟨#[c]⟩ u])
      (fun v s₁ => match v with | .ref _ => False | _ => TextQ h₀ L l g i rest s .next s₁) (fun _ _ => False) { s with toks := tk } := by
    intro c u tk
    refine appendv (s := { s with toks := tk }) Fb' (fun h' F' => ⟨.inl rfl, ⟨h', tk, rfl⟩, _, _, ⟨rfl, xs ++ [(⟨#[c]⟩, u)], by simp [hx1], ?_, rfl⟩, ?_⟩) hlen
    · intro p hp
      rcases List.mem_append.mp hp with hp | hp
      · exact hx2 p hp
      · rw [List.mem_singleton.mp hp]; rfl
    · rw [strValues_snoc]
      exact F'.vars (by intro p hp; simp only [List.mem_cons, List.not_mem_nil, or_false] at hp ⊢; rcases hp with h | h <;> simp [h])
  refine wpAny_execs_cons (wpAny_Expr (MethodCall_ (ldv Fb' (.tail _ (.head _)) (getAppendv Fb' (cw1 (wpAny_IfExp ?_))))))
  refine wpAny_isTrue_Compare1 (wpAny_BinOp (ldv Fb' (.tail _ (.tail _ (.head _))) (wpAny_Constant_int (mod_int' (by decide) (wpAny_Constant_int (P.lt_int (wpAny_truthy_bool ?_)))))))
  have hm0 : 0 ≤ k.fmod 16 := Int.fmod_nonneg_of_pos _ (by decide)
  by_cases hk : k.fmod 16 < 14
  · simp only [hk, decide_true, if_true]
    refine Subscript_ (Constant_str (wpAny_BinOp (ldv Fb' (.tail _ (.tail _ (.head _))) (wpAny_Constant_int (mod_int' (by decide) ?_)))))
    refine subscriptTail_builtin (typeIs_str _ _ _) F.slot_str_getitem.lookup ?_
    generalize hx : (PySem.Str.ofString _) = x
    have hln : x.length = 14 := by subst hx; decide +kernel
    obtain ⟨c, hc⟩ := StrLaws.some_at (x := x) hm0 (by rw [hln]; exact hk)
    exact P.getItem_str (by simp; omega) (StrLaws.at_nonneg hm0 hc) (wpAny_mono (fin _ _ _) (fun v s₁ h => by cases v <;> first | exact h | exact wpAny_execs_nil h) fun _ _ h => h)
  · simp only [hk, decide_false, Bool.false_eq_true, if_false]
    refine cn1 (bv Gb N.chr0 N.chr ⟨rfl, wpAny_BinOp (wpAny_BinOp ?_)⟩)
    refine ldv Fb' (.tail _ (.tail _ (.head _))) (wpAny_Constant_int (floordiv_int (by decide) (wpAny_Constant_int (mod_int' (by decide) ?_))))
    have h1 : 0 ≤ (k.fdiv 16).fmod 55296 := Int.fmod_nonneg_of_pos _ (by decide)
    have h2 : (k.fdiv 16).fmod 55296 < 55296 := Int.fmod_lt_of_pos _ (by decide)
    exact P.chr_of_int (by simp; omega) (wpAny_mono (fin _ _ _) (fun v s₁ h => by cases v <;> first | exact h | exact wpAny_execs_nil h) fun _ _ h => h)

theorem text_spec {R : Result → Shared → Prop} {l : Addr} {its : List Value} (G : Gl mg mb s.heap) (N : Nm mg mb) (hroom : A.depth < recursionLimit) (hh : A.handled = none)
    (hl : s.heap.IsList l its.toArray) (hi : ∀ v ∈ its, ∃ i t, v = .int i t) (hn : its.length ≤ 100)
    (hR : ∀ s' t' (x : List Nat), x.length = its.length → Mv s s' → (∀ b o, s.heap.get? b = some o → s'.heap.get? b = some o) → R (.ok (.ret (.str (str x) t'))) s') :
    codeAny (model prog w) A (.call (.ref 55) ⟨[.ref l], []⟩) R s := by
  refine enter (binds := [("script", .ref l)]) G.text G.lim hroom (fun _ _ _ => rfl) (locs rfl) (fun L cd h₁ F => ?_) rfl rfl rfl (by decide)
  have F0 : Fm s.heap L [("script", .ref l)] [] h₁ := Fm.start F (fun p hp => by rw [List.mem_singleton.mp hp]; rfl)
  refine wpAny_execs_cons (wpAny_Assign_Name (List_ (spliced_nil (newListv F0 fun h₂ F2 _ => stv F2 fun h₃ F3 => ?_))))
  refine wpAny_execs_cons (wpAny_For (ldv F3 (.head _) (wpAny_pyIter_list (items := its.toArray) ?_ ?_)))
  · obtain ⟨o, ho, r⟩ := hl
    exact ⟨o, F3.keep ho, r⟩
  have hne : l ≠ h₃.objs.size := by
    obtain ⟨o, ho, _⟩ := hl
    exact Nat.ne_of_lt (Heap.lt_size (F3.keep ho))
  dsimp only at F3 ⊢
  generalize h₁.objs.size = g at F3
  have F3' : Fm s.heap L (textVs l g) [(g, lst [])] h₃ := F3
  refine for_loop (Walks.list (by exact hh) h₃.objs.size l hne its.toArray) (TextJ l g)
    (fun i h st => let ⟨o, ho, _⟩ := st.1; ⟨o, ho⟩) (fun b hb => ?_) (by exact F3'.push _ (P := fun _ => True) trivial rfl) ⟨⟨_, Heap.get?_push_size _ rfl, rfl, rfl⟩, ?_⟩ ⟨rfl, [], rfl, (by intro _ h; cases h), rfl⟩
    (fun i v vs os rest s' hi' hP hJ Fb => text_body G N (Nat.le_trans (Nat.le_of_lt (by simpa using hi')) hn) (hi v (by simpa using List.mem_of_getElem? (by simpa using hP))) hJ Fb rfl) ?_
  · simp only [List.mem_cons, List.not_mem_nil, or_false] at hb
    rcases hb with rfl | rfl
    · exact .inl rfl
    · obtain ⟨o, ho, _⟩ := hl; exact .inr ⟨o, ho⟩
  · obtain ⟨o, ho, r⟩ := hl
    exact ⟨o, Heap.get?_push_of_some _ (F3.keep ho), r⟩
  rintro vs os s' ⟨rfl, xs, hx1, hx2, rfl⟩ Fe hmv
  have hx1 : xs.length = its.length := by simpa using hx1
  refine wpAny_execs_cons (wpAny_Return_some (MethodCall_ (Constant_str (GM.join (cw1 (ldv Fe (.tail _ (.head _)) ?_))))))
  refine SC.join (l := xs) (lst_isList (Fe.thing (.head _))) rfl ?_ fun t' k => ?_
  · refine join_ok (B := 1) (fun y hy => ?_) (by rw [List.length_map]; omega)
    obtain ⟨p, hp, rfl⟩ := List.mem_map.mp hy
    exact Nat.le_of_eq (hx2 p hp)
  · have e : xs.map (·.1) = (xs.map (·.1.cps.toList)).map str := by
      rw [List.map_map]
      exact List.map_congr_left fun p _ => str_of p.1
    rw [e, join_empty]
    refine hR _ _ _ ?_ ?_ fun b o e => Fe.keep e
    · rw [List.length_flatten, ← hx1]; exact sum_ones hx2
    · exact Mv.trans ⟨_, _, rfl⟩ (hmv.trans ⟨_, _, rfl⟩)
end
end Wk
end Mine
end

section
open PySem PySem.W PyProof.Rows
set_option maxRecDepth 100000
namespace Mine
namespace Wk
open PySem.Calls PySem.Builtin PySem.Builtin.Str Mine.Pl Mine.Tx

theorem one_eq (c d : Nat) : ((⟨#[c]⟩ : PySem.Str) == ⟨#[d]⟩) = (c == d) := by
  by_cases h : c = d
  · subst h; simp
  · have : (⟨#[c]⟩ : PySem.Str) ≠ ⟨#[d]⟩ := fun e => h (by simpa using congrArg PySem.Str.cps e)
    rw [beq_false_of_ne this, beq_false_of_ne h]
theorem lit92 : PySem.Str.ofString "\\" = ⟨#[92]⟩ := by decide +kernel
theorem lit34 : PySem.Str.ofString "\"" = ⟨#[34]⟩ := by decide +kernel
theorem lit44 : PySem.Str.ofString "," = ⟨#[44]⟩ := by decide +kernel
theorem lit0 : PySem.Str.ofString "" = str [] := by decide +kernel

section
variable {prog : Program} {w : World} {A : Around} {E : Value → Shared → Prop} {s : Shared} {mg mb : PySem.Str → Option Value}

abbrev parseVs (S : Value) (r : Addr) (pt : Value) (e q : Bool) : Vars := [("s", S), ("res", .ref r), ("part", pt), ("escape", .bool e), ("quote", .bool q)]
def ParseQ (h₀ : Heap) (L r : Addr) (S : Value) (st : Ps) (rest : List Thing) (s : Shared) (f : Flow) (s' : Shared) : Prop :=
  (f = .next ∨ f = .cont) ∧ Mv s s' ∧ ∃ t' xs', xs'.map (·.1) = st.res.map str ∧ Fm h₀ L (parseVs S r (.str (str st.part) t') st.escape st.quote) ((r, lst (strValues xs')) :: rest) s'.heap

theorem parse_body {h₀ : Heap} {L r : Addr} {cd S : Value} {st : Ps} {c : Nat} {u t : Tok} {xs : List (PySem.Str × Tok)} {rest : List Thing} (hp : st.part.length ≤ 100000) (hr : st.res.length ≤ 100000)
    (hx : xs.map (·.1) = st.res.map str)
    (Fb : Fm h₀ L [("s", S), ("res", .ref r), ("part", .str (str st.part) t), ("escape", .bool st.escape), ("quote", .bool st.quote), ("cur", .str ⟨#[c]⟩ u)] ((r, lst (strValues xs)) :: rest) s.heap)
    {body : List Stmt} {tgt itr oe ps} (hb : (D 5).body[3]? = some (.For tgt itr body oe ps)) :
    wpAny (model prog w) A (execs body (envOf (D 5).name (D 5).scope L 48 cd)) (ParseQ h₀ L r S (pstep st c) rest s) (fun _ _ => False) s := by
  cases hb
  obtain ⟨res, part, e, q⟩ := st
  simp only at hp hr hx Fb
  have hsz : (str part).length + (⟨#[c]⟩ : PySem.Str).length ≤ sizeLine := by rw [str_len, sizeLine_eq]; show part.length + 1 ≤ _; omega
  have hap : str part ++ ⟨#[c]⟩ = str (part ++ [c]) := str_append part [c]
  have hlen : (strValues xs).length ≤ sizeLine := by
    have : xs.length = res.length := by have := congrArg List.length hx; simpa using this
    rw [strValues_len, this, sizeLine_eq]; omega
  -- the last line: the sign goes to the part at hand
  have last : ∀ {q : Bool} {s₁ : Shared} {rs : List Stmt} {p1 p2 p3 : Pos} {Q : Flow → Shared → Prop}, Fm h₀ L [("s", S), ("res", .ref r), ("part", .str (str part) t), ("escape", .bool false), ("quote", .bool q), ("cur", .str ⟨#[c]⟩ u)] ((r, lst (strValues xs)) :: rest) s₁.heap →
      (∀ t' tk h', Fm h₀ L [("s", S), ("res", .ref r), ("part", .str (str (part ++ [c])) t'), ("escape", .bool false), ("quote", .bool q), ("cur", .str ⟨#[c]⟩ u)] ((r, lst (strValues xs)) :: rest) h' →
        wpAny (model prog w) A (execs rs (envOf (D 5).name (D 5).scope L 48 cd)) Q (fun _ _ => False) { s₁ with heap := h', toks := tk }) →
      wpAny (model prog w) A (execs (.AugAssign (.Name "part" p1) .Add (.Name "cur" p2) p3 :: rs) (envOf (D 5).name (D 5).scope L 48 cd)) Q (fun _ _ => False) s₁ := by
    intro q s₁ rs p1 p2 p3 Q F1 k
    refine wpAny_execs_cons (wpAny_AugAssign_Name (ldnv F1 (.tail _ (.tail _ (.head _))) (ldv F1 (.tail _ (.tail _ (.tail _ (.tail _ (.tail _ (.head _)))))) (iadd_str (fun t' tk => ?_) hsz))))
    rw [hap]
    exact stv F1 fun h' F' => k t' _ h' F'
  have drop : ∀ {pt : Value} {e q : Bool} {os : List Thing} {h' : Heap}, Fm h₀ L [("s", S), ("res", .ref r), ("part", pt), ("escape", .bool e), ("quote", .bool q), ("cur", .str ⟨#[c]⟩ u)] os h' → Fm h₀ L (parseVs S r pt e q) os h' := by
    intro pt e q os h' F'
    exact F'.vars fun p hp => List.mem_append_left ([("cur", .str ⟨#[c]⟩ u)] : Vars) hp
  cases e with
  | true =>
    refine wpAny_execs_cons (wpAny_If (isTrue_plain (ldv Fb (.tail _ (.tail _ (.tail _ (.head _)))) (wpAny_truthy_bool ?_))))
    refine wpAny_execs_cons (wpAny_AugAssign_Name (ldnv Fb (.tail _ (.tail _ (.head _))) (ldv Fb (.tail _ (.tail _ (.tail _ (.tail _ (.tail _ (.head _)))))) (iadd_str (fun t' tk => ?_) hsz))))
    rw [hap]
    refine stv Fb fun h1 F1 => wpAny_execs_cons (wpAny_Assign_Name (wpAny_pure (stv F1 fun h2 F2 => wpAny_execs_cons (wpAny_Continue ?_))))
    exact ⟨.inr rfl, ⟨_, _, rfl⟩, t', xs, hx, drop F2⟩
  | false =>
    refine wpAny_execs_cons (wpAny_If (isTrue_plain (ldv Fb (.tail _ (.tail _ (.tail _ (.head _)))) (wpAny_truthy_bool ?_))))
    refine wpAny_execs_nil ?_
    refine wpAny_execs_cons (wpAny_If (isTrue_plain (ldv Fb (.tail _ (.tail _ (.tail _ (.tail _ (.head _))))) (wpAny_truthy_bool ?_))))
    cases q with
    | true =>
      refine wpAny_execs_cons (wpAny_If (wpAny_isTrue_Compare1 (ldv Fb (.tail _ (.tail _ (.tail _ (.tail _ (.tail _ (.head _)))))) (Constant_str (eq_str (wpAny_truthy_bool ?_))))))
      rw [lit92, one_eq]
      by_cases h92 : c = 92
      · subst h92
        refine wpAny_execs_cons (wpAny_Assign_Name (wpAny_pure (stv Fb fun h1 F1 => wpAny_execs_cons (wpAny_Continue ?_))))
        exact ⟨.inr rfl, ⟨_, _, rfl⟩, t, xs, hx, drop F1⟩
      · rw [beq_false_of_ne h92]
        refine wpAny_execs_cons (wpAny_If (wpAny_isTrue_Compare1 (ldv Fb (.tail _ (.tail _ (.tail _ (.tail _ (.tail _ (.head _)))))) (Constant_str (eq_str (wpAny_truthy_bool ?_))))))
        rw [lit34, one_eq]
        by_cases h34 : c = 34
        · subst h34
          refine wpAny_execs_cons (wpAny_Assign_Name (wpAny_pure (stv Fb fun h1 F1 => wpAny_execs_nil (wpAny_execs_nil ?_))))
          refine last (s₁ := { s with heap := h1, toks := _ }) F1 fun t' tk h2 F2 => wpAny_execs_cons (wpAny_Continue ?_)
          exact ⟨.inr rfl, ⟨_, _, rfl⟩, t', xs, hx, drop F2⟩
        · rw [beq_false_of_ne h34]
          refine wpAny_execs_nil (wpAny_execs_nil ?_)
          refine last (s₁ := { s with toks := _ }) Fb fun t' tk h2 F2 => wpAny_execs_cons (wpAny_Continue ?_)
          have e1 : pstep ⟨res, part, false, true⟩ c = ⟨res, part ++ [c], false, true⟩ := by simp [pstep, h92, h34]
          rw [e1]
          exact ⟨.inr rfl, ⟨_, _, rfl⟩, t', xs, hx, drop F2⟩
    | false =>
      refine wpAny_execs_nil ?_
      refine wpAny_execs_cons (wpAny_If (wpAny_isTrue_Compare1 (ldv Fb (.tail _ (.tail _ (.tail _ (.tail _ (.tail _ (.head _)))))) (Constant_str (eq_str (wpAny_truthy_bool ?_))))))
      rw [lit44, one_eq]
      by_cases h44 : c = 44
      · subst h44
        refine wpAny_execs_cons (wpAny_Expr (MethodCall_ (ldv Fb (.tail _ (.head _)) (getAppendv Fb (cw1 (ldv Fb (.tail _ (.tail _ (.head _))) (appendv (s := { s with toks := _ }) Fb (fun h1 F1 => ?_) hlen)))))))
        refine wpAny_execs_cons (wpAny_Assign_Name (Constant_str (stv F1 fun h2 F2 => wpAny_execs_cons (wpAny_Continue ?_))))
        refine ⟨.inr rfl, ⟨_, _, rfl⟩, s.toks + 1, xs ++ [(str part, t)], ?_, ?_⟩
        · simp [pstep, hx]
        · rw [strValues_snoc]
          have F3 := drop F2
          rw [lit0] at F3
          exact F3
      · rw [beq_false_of_ne h44]
        refine wpAny_execs_nil ?_
        refine wpAny_execs_cons (wpAny_If (wpAny_isTrue_Compare1 (ldv Fb (.tail _ (.tail _ (.tail _ (.tail _ (.tail _ (.head _)))))) (Constant_str (eq_str (wpAny_truthy_bool ?_))))))
        rw [lit34, one_eq]
        by_cases h34 : c = 34
        · subst h34
          refine wpAny_execs_cons (wpAny_Assign_Name (wpAny_pure (stv Fb fun h1 F1 => wpAny_execs_nil ?_)))
          refine last (s₁ := { s with heap := h1, toks := _ }) F1 fun t' tk h2 F2 => wpAny_execs_nil ?_
          exact ⟨.inl rfl, ⟨_, _, rfl⟩, t', xs, hx, drop F2⟩
        · rw [beq_false_of_ne h34]
          refine wpAny_execs_nil ?_
          refine last (s₁ := { s with toks := _ }) Fb fun t' tk h2 F2 => wpAny_execs_nil ?_
          have e1 : pstep ⟨res, part, false, false⟩ c = ⟨res, part ++ [c], false, false⟩ := by simp [pstep, h44, h34]
          rw [e1]
          exact ⟨.inl rfl, ⟨_, _, rfl⟩, t', xs, hx, drop F2⟩

def ParseJ (S : Value) (r : Addr) (h : List Nat) (i : Nat) (vs : Vars) (os : List Thing) : Prop :=
  ∃ t xs, xs.map (·.1) = ((h.take i).foldl pstep ⟨[], [], false, false⟩).res.map str ∧ os = [(r, lst (strValues xs))] ∧
    vs = parseVs S r (.str (str ((h.take i).foldl pstep ⟨[], [], false, false⟩).part) t) ((h.take i).foldl pstep ⟨[], [], false, false⟩).escape ((h.take i).foldl pstep ⟨[], [], false, false⟩).quote
theorem pstep_len (st : Ps) (c : Nat) : (pstep st c).part.length ≤ st.part.length + 1 ∧ (pstep st c).res.length ≤ st.res.length + 1 := by
  unfold pstep
  split
  · simp
  · split
    · split
      · simp
      · split <;> simp
    · split
      · simp
      · split <;> simp
theorem pfold_len : ∀ (h : List Nat) (st : Ps), (h.foldl pstep st).part.length ≤ st.part.length + h.length ∧ (h.foldl pstep st).res.length ≤ st.res.length + h.length
  | [], st => by simp
  | c :: h, st => by
    have h1 := pfold_len h (pstep st c)
    have h2 := pstep_len st c
    simp only [List.foldl_cons, List.length_cons]
    omega
end
end Wk
end Mine
end

section
open PySem PySem.W PyProof.Rows
set_option maxRecDepth 100000
namespace Mine
namespace Wk
open PySem.Calls PySem.Builtin PySem.Builtin.Str Mine.Pl Mine.Tx

section
variable {prog : Program} {w : World} {A : Around} {E : Value → Shared → Prop} {s : Shared} {mg mb : PySem.Str → Option Value}

theorem paired_strips : ∀ {xs : List (PySem.Str × Tok)} {ys : List Value}, Paired (fun v y => ∃ x t u, v = Value.str x t ∧ y = Value.str (Txt.strip x) u) (strValues xs) ys →
    ∃ zs : List (PySem.Str × Tok), ys = strValues zs ∧ zs.map (·.1) = xs.map fun p => Txt.strip p.1
  | [], _, h => by cases h; exact ⟨[], rfl, rfl⟩
  | p :: xs, _, h => by
    cases h with
    | cons h1 h2 =>
      obtain ⟨x, t, u, e, rfl⟩ := h1
      cases e
      obtain ⟨zs, rfl, hz⟩ := paired_strips h2
      exact ⟨(Txt.strip p.1, u) :: zs, rfl, by simp [hz]⟩

/-- the list of a list's texts, stripped -/
theorem strips {env : Env} {iter : Expr} {x : PySem.Str} {px p1 p2 p3 pos : Pos} {scope : Scope} {r : Addr} {pl : Addr → Sem Bool} {xs : List (PySem.Str × Tok)} {Q : Value → Shared → Prop} (hh : A.handled = none)
    (hfree : ∀ y ∈ scope.names, y.2 ≠ .free) (hcell : ∀ y ∈ scope.names, y.2 ≠ .cell) (hkind : scope.kind = .function)
    (hnames : ∀ y ∈ scope.names, y.2 = .local → scope.names.lookup y.1 = some .local) (hx : scope.names.lookup x = some .local) (hd : (x == ("__debug__" : PySem.Str)) = false)
    (he : ∀ C, eval (.Call (.Attribute (.Name x p1) "strip" p2) [] [] p3) (compEnv scope C env) = (do
      let ov ← eval (.Name x p1) (compEnv scope C env)
      standAt p2.atName
      let (f, first) ← holding [ov] (getMethod ov "strip" (pl C))
      callWith p3 f first (backTo p3 (starEach [] (compEnv scope C env))) []))
    (hs : ∀ x, foldedSetIterable iter env x = pure x)
    (hB : ∀ p ∈ xs, p.1.length ≤ sizeLine) (hn : xs.length ≤ sizeLine)
    (h : wpAny (model prog w) A (eval iter env) (fun v s₁ => v = .ref r ∧ s₁.heap.IsList r (strValues xs).toArray ∧
      ∀ D h' tk zs, s₁.heap.get? D = none → zs.map (·.1) = xs.map (fun p => Txt.strip p.1) → (∃ o, h'.get? D = some o ∧ lst (strValues zs) o) → (∀ b o, s₁.heap.get? b = some o → h'.get? b = some o) →
        Q (.ref D) { s₁ with heap := h', toks := tk }) E s) :
    wpAny (model prog w) A (eval (.ListComp (.Call (.Attribute (.Name x p1) "strip" p2) [] [] p3) [⟨.Name x px, iter, [], 0⟩] scope pos) env) Q E s := by
  refine wpAny_ListComp_walk (fun _ => true) (fun v y => ∃ x t u, v = Value.str x t ∧ y = Value.str (Txt.strip x) u) hfree hcell hkind hnames hx (wpAny_mono h (fun v s₁ h₁ => ?_) fun _ _ x => x) hs
  obtain ⟨rfl, hl, hQ⟩ := h₁
  have hrI : r ≠ s₁.heap.objs.size := by obtain ⟨o, ho, _⟩ := hl; exact Nat.ne_of_lt (Heap.lt_size ho)
  have hold : ∀ b o, s₁.heap.get? b = some o → (s₁.heap.push { cls := .type "list_iterator", data := .fields #[.ref r, .int 0 0] }).get? b = some o := fun b o e => Heap.get?_push_of_some _ e
  refine wpAny_pyIter_list hl ⟨s₁.heap.objs.size, [s₁.heap.objs.size, r], [s₁.heap.objs.size], (strValues xs).toArray.size, _, _, rfl, Walks.list hh _ r hrI (strValues xs).toArray, by simpa [strValues] using hn, ⟨⟨_, Heap.get?_push_size _ rfl, rfl, rfl⟩, ?_⟩, ?_, ⟨?_, ?_⟩, ?_⟩
  · obtain ⟨o, ho, y⟩ := hl; exact ⟨o, hold _ _ ho, y⟩
  · intro b hb
    simp only [List.mem_cons, List.not_mem_nil, or_false] at hb
    rcases hb with rfl | rfl
    · exact Heap.lt_size (Heap.get?_push_size _ rfl)
    · obtain ⟨o, ho, _⟩ := hl; exact Heap.lt_size (hold _ _ ho)
  · intro C i v s₃ m₃ E' _ _ _ _ _
    exact wpAny_pure ⟨rfl, s₃.heap, s₃.toks, rfl, fun _ _ e => e⟩
  · intro C i v s₃ m₃ E' hP _ hns hm _ _
    have hm' : v ∈ strValues xs := by simpa using List.mem_of_getElem? (by simpa using hP)
    obtain ⟨p, hp, rfl⟩ := List.mem_map.mp hm'
    rw [he C]
    refine wpAny_bind (wpAny_Name (wpAny_loadName_local (env := compEnv scope C env) hkind hx hns hm ?_) hd)
    refine wpAny_bind (wpAny_standAt (wpAny_bind (wpAny_holding (GM.strip ?_))))
    refine callWith_method0 (SC.strip (fun t' k => ⟨⟨_, _, _, rfl, rfl⟩, s₃.heap, k, rfl, fun _ _ e => e⟩) (hB p hp))
  · intro D h' tk ys vs hD hIs hPl hlen hP hF hk
    have hvs : vs = strValues xs := by
      refine List.ext_getElem? fun j => ?_
      cases hj : vs[j]? with
      | some v => have := hP j v hj; simpa using this.symm
      | none =>
        have : vs.length ≤ j := by simpa using hj
        rw [List.getElem?_eq_none]
        rw [hlen] at this
        simpa using this
    rw [List.filter_eq_self.mpr (fun _ _ => rfl), hvs] at hF
    obtain ⟨zs, hz1, hz2⟩ := paired_strips hF
    obtain ⟨n, hn'⟩ := hPl
    have hD0 : s₁.heap.get? D = none := by
      cases e : s₁.heap.get? D with
      | none => rfl
      | some o => have := hold _ _ e; rw [hD] at this; cases this
    refine hQ D h' tk zs hD0 hz2 ⟨_, hn', n, ?_⟩ fun b o e => hk b o (fun hb => ?_) (hold _ _ e)
    · rw [← hz1]
    · rw [List.mem_singleton.mp hb] at e
      exact absurd (Heap.lt_size e) (Nat.lt_irrefl _)

theorem pfold_mem {B : Nat} : ∀ (h : List Nat) (st : Ps), (∀ x ∈ st.res, x.length ≤ B) → st.part.length + h.length ≤ B → ∀ x ∈ (h.foldl pstep st).res, x.length ≤ B
  | [], st, h1, _ => h1
  | c :: h, st, h1, h2 => by
    simp only [List.length_cons] at h2
    rw [List.foldl_cons]
    have h3 := pstep_len st c
    refine pfold_mem h (pstep st c) ?_ (by omega)
    unfold pstep
    split
    · exact h1
    · split
      · split
        · exact h1
        · split <;> exact h1
      · split
        · intro x hx
          rcases List.mem_append.mp hx with hx | hx
          · exact h1 x hx
          · rw [List.mem_singleton.mp hx]; omega
        · split <;> exact h1

theorem pyIter_strv {x : PySem.Str} {t : Tok} {Q : Value → Shared → Prop}
    (hQ : ∀ (ty : String) (o : Obj), o.isFreed = false → (∀ A' : Around, A'.handled = none → Walks prog w A' s.heap.objs.size [s.heap.objs.size] [s.heap.objs.size] x.cps.size (SignAt x) (fun i h => h.IsStrIter s.heap.objs.size ty x t i)) →
      (s.heap.push o).IsStrIter s.heap.objs.size ty x t 0 → Q (.ref s.heap.objs.size) { s with heap := s.heap.push o }) : wpAny (model prog w) A (pyIter (.str x t)) Q E s := by
  cases ha : x.cps.all (· < 128)
  · exact wpAny_pyIter_wide ha (hQ _ _ rfl (fun A' hA => Walks.strWide hA _ x t) ⟨_, Heap.get?_push_size _ rfl, rfl, rfl⟩)
  · exact wpAny_pyIter_ascii ha (hQ _ _ rfl (fun A' hA => Walks.strAscii hA _ x t) ⟨_, Heap.get?_push_size _ rfl, rfl, rfl⟩)

theorem parse_spec {R : Result → Shared → Prop} {h : List Nat} {t : Tok} (G : Gl mg mb s.heap) (hroom : A.depth < recursionLimit) (hh : A.handled = none) (hn : h.length ≤ 10000)
    (hR : ∀ s' D zs, Mv s s' → (∀ b o, s.heap.get? b = some o → s'.heap.get? b = some o) → s.heap.get? D = none → (∃ o, s'.heap.get? D = some o ∧ lst (strValues zs) o) →
      zs.map (·.1) = (parse h).map (fun x => Txt.strip (str x)) → R (.ok (.ret (.ref D))) s') :
    codeAny (model prog w) A (.call (.ref 48) ⟨[.str (str h) t], []⟩) R s := by
  refine enter (binds := [("s", .str (str h) t)]) G.parse G.lim hroom (fun _ _ _ => rfl) (locs rfl) (fun L cd h₁ F => ?_) rfl rfl rfl (by decide)
  have F0 : Fm s.heap L [("s", .str (str h) t)] [] h₁ := Fm.start F (fun p hp => by rw [List.mem_singleton.mp hp]; rfl)
  refine wpAny_execs_cons (wpAny_Assign_Name (List_ (spliced_nil (newListv F0 fun h₂ F2 _ => stv F2 fun h₃ F3 => ?_))))
  refine wpAny_execs_cons (wpAny_Assign_Name (Constant_str (stv F3 fun h₄ F4 => ?_)))
  refine wpAny_execs_cons (wpAny_Assign_two (wpAny_pure (wpAny_assign_Name (stv F4 fun h₅ F5 => wpAny_assign_Name (stv F5 fun h₆ F6 => ?_)))))
  refine wpAny_execs_cons (wpAny_For (ldv F6 (.head _) (pyIter_strv fun ty o hof W hst => ?_)))
  dsimp only at F6 W hst ⊢
  generalize h₁.objs.size = r at F6
  rw [lit0] at F6
  have F6' : Fm s.heap L (parseVs (.str (str h) t) r (.str (str []) (s.toks + [(PySem.Str.ofString "s", Value.str (str h) t)].length + 1)) false false) [(r, lst [])] h₆ := F6
  refine for_loop (W _ hh) (ParseJ (.str (str h) t) r h) (fun i h' st => let ⟨o, ho, _⟩ := st; ⟨o, ho⟩) (fun b hb => .inl (List.mem_singleton.mp hb))
    (by exact F6'.push o (P := fun _ => True) trivial hof) hst ⟨_, [], rfl, rfl, rfl⟩ ?_ ?_
  · rintro i v vs os rest s' hi ⟨c, u, hc, rfl⟩ ⟨t', xs, hx, rfl, rfl⟩ Fb
    have hi' : i < h.length := by simpa using hi
    have hc' : h[i]? = some c := by simpa using hc
    have hl := pfold_len (h.take i) ⟨[], [], false, false⟩
    have ht : (h.take i).length ≤ h.length := by rw [List.length_take]; omega
    simp only [List.length_nil] at hl
    have hs : (h.take (i + 1)).foldl pstep ⟨[], [], false, false⟩ = pstep ((h.take i).foldl pstep ⟨[], [], false, false⟩) c := by
      rw [List.take_succ, hc']
      simp
    refine wpAny_mono (parse_body (by omega) (by omega) hx Fb rfl) (fun f s₁ h₁ => ?_) fun _ _ h => h
    obtain ⟨hf, hmv, t'', xs', hx', F'⟩ := h₁
    refine ⟨hf, hmv, _, _, ⟨t'', xs', ?_, rfl, ?_⟩, F'⟩
    · rw [hs]; exact hx'
    · rw [hs]
  · rintro vs os s' ⟨t', xs, hx, rfl, rfl⟩ Fe hmv
    have hsz : (str h).cps.size = h.length := by simp
    rw [hsz, List.take_length] at hx
    rw [hsz, List.take_length] at Fe
    have hl := pfold_len h ⟨[], [], false, false⟩
    simp only [List.length_nil, Nat.zero_add] at hl
    generalize hst : h.foldl pstep ⟨[], [], false, false⟩ = st at hx Fe hl
    have hparse : parse h = if st.part = [] then st.res else st.res ++ [st.part] := by simp only [parse, hst]
    have hxl : xs.length = st.res.length := by have := congrArg List.length hx; simpa using this
    have hlen : (strValues xs).length ≤ sizeLine := by rw [strValues_len, hxl, sizeLine_eq]; omega
    have fin : ∀ {s₁ : Shared} {xs' : List (PySem.Str × Tok)} {vs : Vars} {os : List Thing}, Mv s s₁ → Fm s.heap L vs ((r, lst (strValues xs')) :: os) s₁.heap → ((PySem.Str.ofString "res", Value.ref r) ∈ vs) → xs'.map (·.1) = (parse h).map str →
        (∀ x ∈ parse h, x.length ≤ 10000) → (parse h).length ≤ 10001 → wpAny (model prog w) (A.deeper (envOf (D 5).name (D 5).scope L 48 cd)) (execs ((D 5).body.drop 5) (envOf (D 5).name (D 5).scope L 48 cd))
        (fun f s' => R (.ok (.ret (match f with | .ret v => v | _ => .none))) s') (fun _ _ => False) s₁ := by
      intro s₁ xs' vs os hmv' F' hv hx' hb hc
      refine wpAny_execs_cons (wpAny_Return_some (strips (by exact hh) (by decide) (by decide) rfl (by decide) rfl (by decide) (fun _ => rfl) (fun _ => rfl) (fun p hp => ?_) ?_ (ldv F' hv ⟨rfl, lst_isList (F'.thing (.head _)), fun D h' tk zs hD hz ho hk => ?_⟩)))
      · have : p.1 ∈ (parse h).map str := hx' ▸ List.mem_map_of_mem hp
        obtain ⟨y, hy, e⟩ := List.mem_map.mp this
        rw [← e, str_len, sizeLine_eq]
        have := hb y hy
        omega
      · have := congrArg List.length hx'
        simp only [List.length_map] at this
        rw [this, sizeLine_eq]; omega
      · refine hR _ D zs (hmv'.trans ⟨_, _, rfl⟩) (fun b o e => hk b o (F'.keep e)) ?_ ho ?_
        · cases e : s.heap.get? D with
          | none => rfl
          | some o => have := F'.keep e; rw [hD] at this; cases this
        · rw [hz]
          have := congrArg (List.map Txt.strip) hx'
          simpa [Function.comp_def] using this
    have hmem : ∀ x ∈ st.res, x.length ≤ 10000 := by
      rw [← hst]
      exact pfold_mem h ⟨[], [], false, false⟩ (by simp) (by simpa using hn)
    refine wpAny_execs_cons (wpAny_If (isTrue_plain (ldv Fe (.tail _ (.tail _ (.head _))) (P.truthy_str ?_ ?_))))
    · rw [str_len]; omega
    rw [str_len]
    by_cases hp : st.part = []
    · rw [hp]
      refine wpAny_execs_nil (fin (s₁ := { s' with toks := _ }) ?_ Fe (.tail _ (.head _)) ?_ ?_ ?_)
      · exact Mv.trans ⟨_, _, rfl⟩ (hmv.trans ⟨_, _, rfl⟩)
      · rw [hparse, if_pos hp]; exact hx
      · rw [hparse, if_pos hp]; exact hmem
      · rw [hparse, if_pos hp]; omega
    · have : ((st.part.length : Int) != 0) = true := by
        have : st.part.length ≠ 0 := fun e => hp (List.eq_nil_of_length_eq_zero e)
        simp [this]
      rw [this]
      refine wpAny_execs_cons (wpAny_Expr (MethodCall_ (ldv Fe (.tail _ (.head _)) (getAppendv Fe (cw1 (ldv Fe (.tail _ (.tail _ (.head _))) (appendv (s := { s' with toks := _ }) Fe (fun h1 F1 => ?_) hlen)))))))
      have e1 : strValues xs ++ [.str (str st.part) t'] = strValues (xs ++ [(str st.part, t')]) := (strValues_snoc _ _ _).symm
      rw [e1] at F1
      refine wpAny_execs_nil (fin (s₁ := { s' with heap := h1, toks := _ }) ?_ F1 (.tail _ (.head _)) ?_ ?_ ?_)
      · exact Mv.trans ⟨_, _, rfl⟩ (hmv.trans ⟨_, _, rfl⟩)
      · rw [hparse, if_neg hp, List.map_append, hx]; simp
      · rw [hparse, if_neg hp]
        intro x hx
        rcases List.mem_append.mp hx with hx | hx
        · exact hmem x hx
        · rw [List.mem_singleton.mp hx]; omega
      · rw [hparse, if_neg hp, List.length_append, List.length_singleton]; omega
end
end Wk
end Mine
end

section
open PySem PySem.W PyProof.Rows
set_option maxRecDepth 100000
namespace Mine
namespace Wk
open PySem.Calls PySem.Builtin PySem.Builtin.Str Mine.Pl Mine.Tx

section
variable {prog : Program} {w : World} {A : Around} {E : Value → Shared → Prop} {s : Shared} {h₀ : Heap} {L : Addr} {vs : Vars} {os : List Thing}

theorem getLast {g : Addr} {its : List Value} {x : Value} {t : Tok} {Q : Value → Shared → Prop} (hl : s.heap.IsList g (its ++ [x]).toArray) (h : Q x s) :
    wpAny (model prog w) A (getItem (.ref g) (.int (-1) t)) Q E s := by
  refine wpAny_getItem_list_neg hl (by decide) (by simp; omega) (by decide) ?_ h
  simp only [List.size_toArray, List.length_append, List.length_singleton, List.getElem?_toArray]
  rw [show (-1 + ((its.length + 1 : Nat) : Int)).toNat = its.length by omega]
  simp

theorem mapSeq_set (its : Array Value) (n j : Nat) (v : Value) :
    Obj.mapSeq (·.setIfInBounds j v) { cls := .type "list", data := .seq its n } = { cls := .type "list", data := .seq (its.setIfInBounds j v) n } := by
  simp [Obj.mapSeq]

theorem setLast {g : Addr} {its : List Value} {x v : Value} {t : Tok} {Q : Unit → Shared → Prop} (F : Fm h₀ L vs ((g, lst (its ++ [x])) :: os) s.heap)
    (h : ∀ h', Fm h₀ L vs ((g, lst (its ++ [v])) :: os) h' → Q () { s with heap := h' }) :
    wpAny (model prog w) A (setItem (.ref g) (.int (-1) t) v) Q E s := by
  have hl := lst_isList (F.thing (.head _))
  obtain ⟨n, ho⟩ := lst_plain (F.thing (.head _))
  unfold setItem
  try with_reducible refine wpAny_holding ?_
  first | refine wpAny_bind (wpAny_pure ?_) | skip
  refine wpAny_bind (wpAny_sequenceKey hl.typeIs (by decide) ?_)
  refine wpAny_bind (wpAny_callSpecial?_slot (name := PySem.Str.ofString "__setitem__") hl.typeIs slot_list_setitem
    (wpAny_call_entry slot_list_setitem hl.typeIs entry_list_setitem ?_ (args_list_setitem _ _ _)))
  show wpAny _ _ (Builtin.List.listSubscript? (.int (-1) t) >>= _) _ _ s
  refine wpAny_bind (wpAny_listSubscript_int (fitsIndex_neg (by decide) (by decide)) ?_)
  show wpAny _ _ ((Builtin.List.listItems (.ref g) >>= fun xs => pure ((seqIndex? (-1) xs.size).bind fun i => xs[i]?.map (i, ·))) >>= _) _ _ s
  refine wpAny_bind (wpAny_bind ?_)
  show wpAny _ _ (seqItems? (.ref g) >>= _) _ _ s
  refine wpAny_bind (wpAny_seqItems ho rfl (wpAny_pure (wpAny_pure ?_)))
  have hidx : seqIndex? (-1) (its ++ [x]).toArray.size = some its.length := by
    rw [seqIndex_neg (by decide) (by simp; omega)]
    simp only [List.size_toArray, List.length_append, List.length_singleton]
    congr 1
    omega
  have hat : (its ++ [x]).toArray[its.length]? = some x := by simp
  rw [hidx]
  simp only [Option.bind_some, hat, Option.map_some]
  refine wpAny_bind (wpAny_setSeqItemAt ho rfl ?_)
  have hn : (its ++ [x]).toArray.setIfInBounds its.length v = (its ++ [v]).toArray := by simp
  have hfin : Fm h₀ L vs ((g, lst (its ++ [v])) :: os) (s.heap.update g (Obj.mapSeq (·.setIfInBounds its.length v))) := by
    refine F.turn0 (Heap.SameBut.update ..) ⟨_, Heap.get?_update_self _ ho (by rw [mapSeq_set]; rfl), n, ?_⟩
    rw [mapSeq_set, hn]
  first
    | exact wpAny_bind (wpAny_pure (wpAny_pure ⟨.none, rfl, wpAny_pure (h _ hfin)⟩))
    | exact wpAny_pure ⟨.none, rfl, wpAny_pure (h _ hfin)⟩

theorem mapSeq_append (its its2 : Array Value) (n : Nat) : ∃ n', Obj.mapSeq (fun x => x ++ its2) { cls := .type "list", data := .seq its n } = { cls := .type "list", data := .seq (its ++ its2) n' } :=
  ⟨_, by simp only [Obj.mapSeq]; rfl⟩
theorem extendv {g b : Addr} {its its2 : List Value} {Q : Value → Shared → Prop} (F : Fm h₀ L vs ((g, lst its) :: os) s.heap) (hb : ∃ o, s.heap.get? b = some o ∧ lst its2 o) (hsz : its.length + its2.length ≤ sizeLine)
    (h : ∀ h', Fm h₀ L vs ((g, lst (its ++ its2)) :: os) h' → Q .none { s with heap := h' }) :
    wpAny (model prog w) A (call (.builtin "list.extend") [.ref g, .ref b]) Q E s := by
  have hl := lst_isList (F.thing (.head _))
  obtain ⟨n, ho⟩ := lst_plain (F.thing (.head _))
  obtain ⟨n2, hb⟩ := lst_plain hb
  refine call_meets PySem.F.slot_list_extend hl.typeIs PySem.F.entry_list_extend (PySem.F.args_list_extend_2 _ _) (PySem.AutoSeq1.list_extend_list_list_0 g its.toArray n b its2.toArray n2 (extend_door (by simpa using hsz)) (by simp; omega) (by simp; omega)) ⟨ho, hb, ?_⟩
  obtain ⟨n', e⟩ := mapSeq_append its.toArray its2.toArray n
  refine h _ (F.turn0 (Heap.SameBut.update ..) ⟨_, Heap.get?_update_self _ ho (by rw [e]; rfl), n', ?_⟩)
  rw [e]; simp
theorem getMethodL {g : Addr} {name : PySem.Str} {id : String} {pl : Sem Bool} {Q : Value × List Value → Shared → Prop} {its : List Value} (hl : ∃ o, s.heap.get? g = some o ∧ lst its o) (slot : Slot "list" name id)
    (ty : typeOf (.builtin id) = pure (.type "method_descriptor")) (h : Q (.builtin id, [.ref g]) s) : wpAny (model prog w) A (getMethod (.ref g) name pl) Q E s := by
  obtain ⟨n, ho⟩ := lst_plain hl
  exact getMethod_builtin ⟨_, ho, rfl⟩ PySem.F.plainAttrs_list slot ty (fun a e => by cases e; exact ⟨_, ho, rfl⟩) h
theorem mapSeq_erase (its : Array Value) (n k : Nat) : ∃ n', Obj.mapSeq (fun xs => xs.eraseIdxIfInBounds k) { cls := .type "list", data := .seq its n } = { cls := .type "list", data := .seq (its.eraseIdxIfInBounds k) n' } :=
  ⟨_, by simp only [Obj.mapSeq]; rfl⟩
theorem popv {g : Addr} {its : List Value} {x : Value} {Q : Value → Shared → Prop} (F : Fm h₀ L vs ((g, lst (its ++ [x])) :: os) s.heap) (hsz : its.length + 1 ≤ sizeLine)
    (h : ∀ h', Fm h₀ L vs ((g, lst its) :: os) h' → Q x { s with heap := h' }) :
    wpAny (model prog w) A (call (.builtin "list.pop") [.ref g]) Q E s := by
  have hl := lst_isList (F.thing (.head _))
  obtain ⟨n, ho⟩ := lst_plain (F.thing (.head _))
  refine call_meets PySem.F.slot_list_pop hl.typeIs PySem.F.entry_list_pop (PySem.F.args_list_pop_1 _) (PySem.MeetsSeq.list_pop_last g (its ++ [x]).toArray n x (by simp) (by simpa using hsz)) ⟨ho, ?_⟩
  obtain ⟨n', e⟩ := mapSeq_erase (its ++ [x]).toArray n ((its ++ [x]).toArray.size - 1)
  refine h _ (F.turn0 (Heap.SameBut.update ..) ⟨_, Heap.get?_update_self _ ho (by rw [e]; rfl), n', ?_⟩)
  rw [e]
  simp [List.eraseIdx_append_of_length_le]
end
end Wk
end Mine
end

section
open PySem PySem.W PyProof.Rows
set_option maxRecDepth 100000
namespace Mine
namespace Wk
open PySem.Calls PySem.Builtin PySem.Builtin.Str Mine.Pl Mine.Tx

theorem Fm.swap {h₀ h : Heap} {L : Addr} {vs : Vars} {a b : Thing} {os : List Thing} (F : Fm h₀ L vs (a :: b :: os) h) : Fm h₀ L vs (b :: a :: os) h := F.perm (List.Perm.swap _ _ _)
theorem Fm.kept {h₀ : Heap} {L : Addr} {vs : Vars} {os : List Thing} : KeptH (Fm h₀ L vs os) := fun _ _ F => F.grown fun _ _ e => Heap.get?_push_of_some _ e

section
variable {prog : Program} {w : World} {A : Around} {E : Value → Shared → Prop} {s : Shared} {h₀ : Heap} {L : Addr} {vs : Vars} {os : List Thing}

theorem splitv {l : List Nat} {c : Nat} {t u : Tok} {Q : Value → Shared → Prop} (F : Fm h₀ L vs os s.heap) (hsz : l.length + 2 ≤ sizeLine)
    (h : ∀ zs h' k, zs.map (·.1) = (splitOn c l).map str → Fm h₀ L vs ((s.heap.objs.size, lst (strValues zs)) :: os) h' → Q (.ref s.heap.objs.size) { s with heap := h', toks := k }) :
    wpAny (model prog w) A (call (.builtin "str.split") [.str (str l) t, .str ⟨#[c]⟩ u]) Q E s := by
  have hy : ((⟨#[c]⟩ : PySem.Str).length == 0) = false := rfl
  have hsz' : (str l).length + 2 ≤ sizeLine := by rw [str_len]; exact hsz
  rw [← split_eq] at h
  generalize str l = x at h hsz' ⊢
  generalize (⟨#[c]⟩ : PySem.Str) = y at h hy ⊢
  have hn : (partsBetween x (occurrences x y 0 x.length (x.length + 1)) y.length).length ≤ sizeLine := by
    have e1 := StrLaws.occ_length_le x y 0 x.length (x.length + 1)
    rw [length_partsBetween]; omega
  have put : ∀ zs : List (PySem.Str × Tok), Fm h₀ L vs ((s.heap.objs.size, lst (strValues zs)) :: os) (s.heap.push { cls := .type "list", data := .seq (strValues zs).toArray }) := fun zs => F.push _ ⟨_, rfl⟩
  cases h1 : (decide (x.length < y.length) || decide (strKind x < strKind y))
  · cases hf : (occurrences x y 0 x.length (x.length + 1)).isEmpty
    · refine call_meets PySem.F.slot_str_split (typeIs_str _ _ _) PySem.F.entry_str_split (PySem.F.args_str_split_2 _ _) (meets_str_split_sep x y t u h1 hy hf (by omega) hn) ?_
      show wants Q E _ { s with toks := _, heap := s.heap.push { cls := .type "list", data := .seq (strsFrom s.toks (partsBetween x (occurrences x y 0 x.length (x.length + 1)) y.length)).toArray } }
      rw [strsFrom_eq]
      exact h (numbered s.toks _) _ _ ((numbered_texts _ _).trans ((if_neg (ne_true_of_eq_false h1)).trans (if_neg (ne_true_of_eq_false hf))).symm) (put _)
    · exact call_meets PySem.F.slot_str_split (typeIs_str _ _ _) PySem.F.entry_str_split (PySem.F.args_str_split_2 _ _) (meets_str_split_not_found x y t u h1 hy hf)
        (h [(x, t)] _ s.toks ((if_neg (ne_true_of_eq_false h1)).trans (if_pos hf)).symm (put [(x, t)]))
  · exact call_meets PySem.F.slot_str_split (typeIs_str _ _ _) PySem.F.entry_str_split (PySem.F.args_str_split_2 _ _) (meets_str_split_cannot_occur x y t u h1)
      (h [(x, t)] _ s.toks (if_pos h1).symm (put [(x, t)]))

theorem sliceTo {value slice : Expr} {l : List Nat} {t uj : Tok} {k : Nat} {Q : Value → Shared → Prop} (F : Fm h₀ L vs os s.heap) (hk : k ≤ l.length) (hsz : l.length ≤ sizeLine)
    (h : ∀ h' t' tk, Fm h₀ L vs os h' → Q (.str (str (l.take k)) t') { s with heap := h', toks := tk })
    (hs : subscripted slice false (.str (str l) t) (.ref s.heap.objs.size) = operate [.ref s.heap.objs.size, .str (str l) t] (getItem (.str (str l) t) (.ref s.heap.objs.size)) := by with_unfolding_all rfl)
    (ht : ∀ r, letTemporaryGo value (.str (str l) t) r = pure () := by intro _; with_unfolding_all rfl) :
    wpAny (model prog w) A (subscriptTail value slice (.str (str l) t) (.ref s.heap.objs.size)) Q E { s with heap := s.heap.push { cls := .type "slice", data := .fields #[.none, .int k uj, .none] } } :=
  tail_of_ItemOn (SBH.sliceItem_ns Fm.kept F (fun h' t' k' a => by rw [slice_to l hk]; exact h h' t' k' a) (by rw [str_len]; exact hsz)) hs ht
theorem sliceFrom {value slice : Expr} {l : List Nat} {t uj : Tok} {k : Nat} {Q : Value → Shared → Prop} (F : Fm h₀ L vs os s.heap) (hk : k ≤ l.length) (hsz : l.length ≤ sizeLine)
    (h : ∀ h' t' tk, Fm h₀ L vs os h' → Q (.str (str (l.drop k)) t') { s with heap := h', toks := tk })
    (hs : subscripted slice false (.str (str l) t) (.ref s.heap.objs.size) = operate [.ref s.heap.objs.size, .str (str l) t] (getItem (.str (str l) t) (.ref s.heap.objs.size)) := by with_unfolding_all rfl)
    (ht : ∀ r, letTemporaryGo value (.str (str l) t) r = pure () := by intro _; with_unfolding_all rfl) :
    wpAny (model prog w) A (subscriptTail value slice (.str (str l) t) (.ref s.heap.objs.size)) Q E { s with heap := s.heap.push { cls := .type "slice", data := .fields #[.int k uj, .none, .none] } } :=
  tail_of_ItemOn (SBH.sliceItem_sn Fm.kept F (fun h' t' k' a => by rw [slice_from l hk]; exact h h' t' k' a) (by rw [str_len]; exact hsz)) hs ht
theorem sliceMid {value slice : Expr} {l : List Nat} {t ui uj : Tok} {Q : Value → Shared → Prop} (F : Fm h₀ L vs os s.heap) (hk : 2 ≤ l.length) (hsz : l.length ≤ sizeLine)
    (h : ∀ h' t' tk, Fm h₀ L vs os h' → Q (.str (str (l.drop 1).dropLast) t') { s with heap := h', toks := tk })
    (hs : subscripted slice false (.str (str l) t) (.ref s.heap.objs.size) = operate [.ref s.heap.objs.size, .str (str l) t] (getItem (.str (str l) t) (.ref s.heap.objs.size)) := by with_unfolding_all rfl)
    (ht : ∀ r, letTemporaryGo value (.str (str l) t) r = pure () := by intro _; with_unfolding_all rfl) :
    wpAny (model prog w) A (subscriptTail value slice (.str (str l) t) (.ref s.heap.objs.size)) Q E { s with heap := s.heap.push { cls := .type "slice", data := .fields #[.int 1 ui, .int (-1) uj, .none] } } :=
  tail_of_ItemOn (SBH.sliceItem_ss Fm.kept F (fun h' t' k' a => by rw [slice_mid l hk]; exact h h' t' k' a) (by rw [str_len]; exact hsz)) hs ht
/-- a list from its k-th on -/
theorem sliceList {value slice : Expr} {a : Addr} {its : List Value} {k : Nat} {uk : Tok} {Q : Value → Shared → Prop} (F : Fm h₀ L vs os s.heap) (hl : s.heap.IsList a its.toArray) (hsz : its.length ≤ sizeLine)
    (h : ∀ h', Fm h₀ L vs ((s.heap.objs.size + 1, lst (its.drop k)) :: os) h' → Q (.ref (s.heap.objs.size + 1)) { s with heap := h' })
    (hs : subscripted slice false (.ref a) (.ref s.heap.objs.size) = operate [.ref s.heap.objs.size, .ref a] (getItem (.ref a) (.ref s.heap.objs.size)) := by with_unfolding_all rfl)
    (ht : ∀ r, letTemporaryGo value (.ref a) r = pure () := by intro _; with_unfolding_all rfl) :
    wpAny (model prog w) A (subscriptTail value slice (.ref a) (.ref s.heap.objs.size)) Q E { s with heap := s.heap.push { cls := .type "slice", data := .fields #[.int k uk, .none, .none] } } := by
  refine subscriptTail_ops (Heap.IsList.typeIs (s := { s with heap := s.heap.push { cls := .type "slice", data := .fields #[.int k uk, .none, .none] } }) (hl.push _)) list_getitem_lookup
    (wpAny_getItem_list_slice (hl.push _) (Heap.IsSliceOf.new ..) (.int _ _) .none .none (by simp) ?_ (by simpa using hsz)) hs ht
  show Q (.ref (s.heap.push _).objs.size) _
  have F1 := (F.push { cls := .type "slice", data := .fields #[.int k uk, .none, .none] } (P := fun _ => True) trivial).push { cls := .type "list", data := .seq (slicePick its.toArray (some (k : Int)) none none) } (P := lst (its.drop k)) ⟨_, by rw [slicePick_from']⟩
  rw [Heap.size_push] at F1 ⊢
  exact h _ (F1.fewer ((List.sublist_cons_self _ _).cons_cons _))

theorem neg1 {k pos : _} {pos' : Pos} {env : Env} {Q : Value → Shared → Prop} (h : ∀ t tk, Q (.int (-1) t) { s with toks := tk }) : wpAny (model prog w) A (eval (.UnaryOp .USub (.Constant (.int 1) k pos) pos') env) Q E s :=
  wpAny_UnaryOp (wpAny_Constant_int (P.neg_int (h _ _)))
theorem itemLast {value slice : Expr} {g : Addr} {its : List Value} {x : Value} {t : Tok} {Q : Value → Shared → Prop} (hl : s.heap.IsList g (its ++ [x]).toArray) (h : Q x s)
    (hs : subscripted slice false (.ref g) (.int (-1) t) = operate [.ref g, .int (-1) t] (getItem (.ref g) (.int (-1) t)) := by with_unfolding_all rfl) (hg : ∀ r, letTemporaryGo value (.ref g) r = pure () := by intro _; with_unfolding_all rfl) :
    wpAny (model prog w) A (subscriptTail value slice (.ref g) (.int (-1) t)) Q E s :=
  subscriptTail_builtin hl.typeIs slot_list_getitem.lookup (getLast hl h) hs hg
end

/-! the plain side -/
theorem behindLast_le (d : Nat) : ∀ l : List Nat, behindLast d l ≤ l.length
  | [] => Nat.zero_le _
  | c :: r => by
    have ih := behindLast_le d r
    simp only [behindLast, List.length_cons]
    split
    · omega
    · split <;> omega
theorem idx_lt {d : Nat} {l : List Nat} {k : Nat} (h : idx d l = some k) : k < l.length := by
  rcases idx_spec (d := d) (l := l) with ⟨e, _⟩ | ⟨k', e, hk, _⟩
  · rw [h] at e; cases e
  · rw [h] at e; cases e; exact hk
theorem placeOf_lt {last : Bool} {x : List Nat} {k : Nat} (h : Pl.placeOf last x = some k) : k < x.length := by
  simp only [Pl.placeOf, Option.map_eq_some_iff] at h
  obtain ⟨j, hj, rfl⟩ := h
  have := idx_lt hj
  rw [List.length_drop] at this
  have := behindLast_le 10 x
  cases last <;> simp at * <;> omega
def W (P : Pl.St) : Nat := (P.1.map List.length).sum + P.1.length + P.2.length
theorem W_put (P : Pl.St) (c : Nat) : W (put P c) = W P + 1 := by
  unfold put W
  split <;> simp [List.sum_append] <;> omega
theorem W_feed : ∀ (x : List Nat) (P : Pl.St), W (feed P x) = W P + x.length
  | [], P => rfl
  | c :: x, P => by rw [feed_cons, W_feed x, W_put, List.length_cons]; omega
theorem W_turn (last : Bool) (P : Pl.St) (x : List Nat) : W (turn last P x) ≤ W P + x.length + 3 := by
  have hrun : ∀ run : List Nat, W (joinRows P (splitOn 44 ((run.filter (· != 91)).map q2))) ≤ W P + run.length := by
    intro run
    rw [joinRows_split, W_feed, List.length_map]
    have := List.length_filter_le (· != 91) run
    omega
  unfold turn
  cases hp : Pl.placeOf last x with
  | none =>
    simp only
    have := hrun (x ++ (if last then [] else [93]))
    rw [List.length_append] at this
    have : (if last then [] else [93] : List Nat).length ≤ 1 := by cases last <;> simp
    omega
  | some k =>
    have hk := placeOf_lt hp
    have h1 := hrun (x.take k)
    rw [List.length_take] at h1
    simp only
    have e : ∀ (P : Pl.St) (y : List Nat), W (add P y) = W P + y.length := by intro P y; simp [W, add]; omega
    rw [e]
    have : (if last then [] else [34] : List Nat).length ≤ 1 := by cases last <;> simp
    simp only [List.length_append, List.length_cons, List.length_drop]
    omega
theorem le_sum_of : ∀ {l : List Nat} {a : Nat}, a ∈ l → a ≤ l.sum
  | b :: l, a, h => by
    rw [List.sum_cons]
    rcases List.mem_cons.mp h with rfl | h
    · omega
    · have := le_sum_of h; omega
theorem W_bounds (P : Pl.St) : P.1.length ≤ W P ∧ P.2.length ≤ W P ∧ ∀ y ∈ P.1, y.length ≤ W P := by
  refine ⟨by unfold W; omega, by unfold W; omega, fun y hy => ?_⟩
  have : y.length ≤ (P.1.map List.length).sum := le_sum_of (List.mem_map_of_mem hy)
  unfold W; omega
theorem joinRows_cons (P : Pl.St) (x : List Nat) (xs : List (List Nat)) : ((joinRows P (x :: xs)).1 ++ [(joinRows P (x :: xs)).2]) = (P.1 ++ [P.2 ++ x]) ++ xs := by
  have : ∀ (xs : List (List Nat)) (P : Pl.St), (xs.foldl (fun P y => (P.1 ++ [P.2], y)) P).1 ++ [(xs.foldl (fun P y => (P.1 ++ [P.2], y)) P).2] = P.1 ++ [P.2] ++ xs := by
    intro xs
    induction xs with
    | nil => intro P; simp
    | cons y ys ih => intro P; rw [List.foldl_cons, ih]; simp
  rw [joinRows, this]
  simp [add]
end Wk
end Mine
end

section
open PySem PySem.W PyProof.Rows
set_option maxRecDepth 100000
set_option maxHeartbeats 2000000
namespace Mine
namespace Wk
open PySem.Calls PySem.Builtin PySem.Builtin.Str Mine.Pl Mine.Tx

theorem lit91 : PySem.Str.ofString "[" = ⟨#[91]⟩ := by decide +kernel
theorem lit93 : PySem.Str.ofString "]" = ⟨#[93]⟩ := by decide +kernel
theorem lit10 : PySem.Str.ofString "\n" = ⟨#[10]⟩ := by decide +kernel
theorem lit39 : PySem.Str.ofString "'" = str [39] := by decide +kernel
theorem q2_eq (l : List Nat) : repl 34 [39] l = l.map q2 := by rw [repl_one]; rfl

theorem last_split {ws : List (PySem.Str × Tok)} {a : List (List Nat)} {b : List Nat} (h : ws.map (·.1) = (a ++ [b]).map str) : ∃ ys t, ws = ys ++ [(str b, t)] ∧ ys.map (·.1) = a.map str := by
  rw [List.map_append] at h
  obtain ⟨ys, zs, rfl, h1, h2⟩ := List.map_eq_append_iff.mp h
  match zs, h2 with
  | [(z, t)], h2 =>
    simp only [List.map_cons, List.map_nil, List.cons.injEq, and_true] at h2
    exact ⟨ys, t, by rw [h2], h1⟩

section
variable {prog : Program} {w : World} {A : Around} {E : Value → Shared → Prop} {s : Shared} {mg mb : PySem.Str → Option Value}

def placeV (o : Option Nat) : Int := match o with | some k => k | none => -1
theorem find_place (last : Bool) (x : List Nat) : Txt.find3 (str x) ⟨#[91]⟩ ((if last then 0 else behindLast 10 x : Nat) : Int) = placeV (Pl.placeOf last x) := by
  rw [find_from x 91 (by cases last; exact behindLast_le 10 x; exact Nat.zero_le _)]
  unfold Pl.placeOf placeV
  dsimp only
  cases idx 91 (x.drop (if last then 0 else behindLast 10 x)) <;> rfl
/-- the things in the loop: the parts at its head -/
def PartsQ (h₀ : Heap) (L p c : Addr) (T : Value) (Z : Pl.St) (cs : List Value) (rest : List Thing) (s : Shared) (f : Flow) (s' : Shared) : Prop :=
  (f = .next ∨ f = .cont) ∧ Mv s s' ∧ ∃ ys t, ys.map (·.1) = Z.1.map str ∧
    Fm h₀ L ([("text", T), ("parts", .ref p), ("chunks", .ref c)] : Vars) ((p, lst (strValues ys ++ [.str (str Z.2) t])) :: (c, lst cs) :: rest) s'.heap
abbrev partsBody : List Stmt := (D 10).body[2]?.elim [] fun | .For _ _ body _ _ => body | _ => []

/-- behind the run: the rows, and what is quoted -/
theorem parts_tail {h₀ : Heap} {L p c : Addr} {cd T : Value} {i : Nat} {t u tx t3 t4 : Tok} {Z : Pl.St} {x run : List Nat} {last : Bool} {pl : Option Nat} {ys : List (PySem.Str × Tok)} {cs : List Value} {rest : List Thing} {s₀ : Shared}
    (hZ : Wk.W Z ≤ 2000000) (hx : x.length ≤ 1000) (hrun : run.length ≤ 1001) (hpl : ∀ k, pl = some k → k < x.length) (hy : ys.map (·.1) = Z.1.map str) (hmv : Mv s₀ s)
    (F4 : Fm h₀ L ([("text", T), ("parts", .ref p), ("chunks", .ref c), ("number", .int i u), ("chunk", .str (str x) tx), ("last", .bool last), ("place", .int (placeV pl) t3)] : Vars) ((p, lst (strValues ys ++ [.str (str Z.2) t])) :: (c, lst cs) :: rest) s.heap) :
    wpAny (model prog w) A (storeName (envOf (D 10).name (D 10).scope L 74 cd) "run" (.str (str run) t4)) (fun _ s₁ => wpAny (model prog w) A (execs (partsBody.drop 4) (envOf (D 10).name (D 10).scope L 74 cd))
      (PartsQ h₀ L p c T (match pl with | some k => add (joinRows Z (splitOn 44 ((run.filter (· != 91)).map q2))) (34 :: x.drop (k + 1) ++ (if last then [] else [34])) | none => joinRows Z (splitOn 44 ((run.filter (· != 91)).map q2))) cs rest s₀) (fun _ _ => False) s₁) (fun _ _ => False) s := by
  have hZb := W_bounds Z
  have hsl : sizeLine = 16777216 := sizeLine_eq
  refine stv F4 fun h₅ F5 => ?_
  refine wpAny_execs_cons (wpAny_Assign_Name (MethodCall_ (MethodCall_ (MethodCall_ (ldv F5 (.tail _ (.tail _ (.tail _ (.tail _ (.tail _ (.tail _ (.tail _ (.head _)))))))) (GM.replace (callWith_2 ?_)))))))
  refine replaceM (by simp) (by simp) (by simp) (by decide) (by rw [str_len]; show _ + _ * 0 ≤ _; omega) fun t' k hk => ?_
  have hk : s.toks + 1 + 1 + 1 ≤ k := hk
  dsimp only
  rw [lit91, lit0, replace_eq, repl_none]
  have hrl : (run.filter (· != 91)).length ≤ 1001 := Nat.le_trans (List.length_filter_le _ _) hrun
  refine GM.replace (callWith_2 ?_)
  refine replaceM (show k ≠ 0 by omega) (show k + 1 ≠ 0 by omega) (show k ≠ k + 1 by omega) (by decide) (by rw [str_len, lit39]; show _ + _ * 1 ≤ _; omega) fun t'' k' hk' => ?_
  dsimp only
  rw [lit34, lit39, replace_eq, q2_eq]
  generalize hrr : (run.filter (· != 91)).map q2 = rr
  have hrrl : rr.length ≤ 1001 := by rw [← hrr, List.length_map]; exact hrl
  refine GM.split (cw1 (Constant_str ?_))
  rw [lit44]
  refine splitv F5 (by omega) fun zs h₆ k6 hz F6 => ?_
  dsimp only at F6 ⊢
  generalize h₅.objs.size = r at F6
  refine stv F6 fun h₇ F7 => ?_
  have hW : Wk.W (joinRows Z (splitOn 44 rr)) = Wk.W Z + rr.length := by rw [joinRows_split, W_feed]
  have hne := splitOn_ne 44 rr
  cases hsp : splitOn 44 rr with
  | nil => exact absurd hsp hne
  | cons row0 rows =>
    rw [hsp] at hz hW
    cases zs with
    | nil => cases hz
    | cons z zs =>
      obtain ⟨z0, tz⟩ := z
      simp only [List.map_cons, List.cons.injEq] at hz
      obtain ⟨rfl, hz⟩ := hz
      have hjoin := joinRows_cons Z row0 rows
      generalize hZ' : joinRows Z (row0 :: rows) = Z' at hjoin hW
      have hZb' := W_bounds Z'
      have hlen' := congrArg List.length hjoin
      simp only [List.length_append, List.length_singleton] at hlen'
      have hlast0 : row0.length + Z.2.length ≤ 3000000 := by
        have : Z.2 ++ row0 ∈ Z'.1 ++ [Z'.2] := by rw [hjoin]; simp
        have h1 : (Z.2 ++ row0).length ≤ Wk.W Z' := by
          rcases List.mem_append.mp this with h | h
          · exact hZb'.2.2 _ h
          · rw [List.mem_singleton.mp h]; exact hZb'.2.1
        rw [List.length_append] at h1
        omega
      have hyl : ys.length = Z.1.length := by have := congrArg List.length hy; simpa using this
      have hzl : zs.length = rows.length := by have := congrArg List.length hz; simpa using this
      have F7' : Fm h₀ L ([("text", T), ("parts", .ref p), ("chunks", .ref c), ("number", .int i u), ("chunk", .str (str x) tx), ("last", .bool last), ("place", .int (placeV pl) t3), ("run", .str (str run) t4), ("rows", .ref r)] : Vars)
          ((p, lst (strValues ys ++ [.str (str Z.2) t])) :: (r, lst (strValues ((str row0, tz) :: zs))) :: (c, lst cs) :: rest) h₇ := F7.swap
      clear F7 F6 F5 F4
      have hl7 := lst_isList (F7'.thing (.head _))
      have hr7 := lst_isList (F7'.thing (.tail _ (.head _)))
      refine wpAny_execs_cons (wpAny_Assign_Subscript (wpAny_BinOp (Subscript_ (ldv F7' (.tail _ (.head _)) (neg1 fun _ _ => itemLast hl7 (Subscript_ (ldv F7' (.tail _ (.tail _ (.tail _ (.tail _ (.tail _ (.tail _ (.tail _ (.tail _ (.head _))))))))) (wpAny_Constant_int (item_listL hr7 (by decide) (by decide) rfl (add_str (fun t7 k7 => ?_) (by rw [str_len, str_len]; omega)))))))))))
      dsimp only
      rw [str_append]
      refine ldv F7' (.tail _ (.head _)) (neg1 fun _ _ => setLast F7' fun h₈ F8 => ?_)
      dsimp only
      have hr8 := lst_isList (F8.thing (.tail _ (.head _)))
      refine wpAny_execs_cons (wpAny_Expr (MethodCall_ (ldv F8 (.tail _ (.head _)) (getMethodL (F8.thing (.head _)) PySem.F.slot_list_extend (by with_unfolding_all rfl) (cw1 (Subscript_ (ldv F8 (.tail _ (.tail _ (.tail _ (.tail _ (.tail _ (.tail _ (.tail _ (.tail _ (.head _))))))))) (wpAny_Slice (wpAny_Constant_int (k := 0) (pos := ⟨63, 26, 63, 27⟩) (wpAny_pure (wpAny_pure ?_)))))))))))
      refine sliceList (k := 1) F8 hr8 (by simp only [strValues_len, List.length_cons]; omega) fun h₉ F9 => ?_
      refine extendv F9.swap (F9.thing (.head _)) (by simp only [List.length_append, List.length_nil, strValues_len, List.length_drop, List.length_cons]; omega) fun h₁₀ F10 => ?_
      dsimp only
      have e10 : strValues ys ++ [.str (str (Z.2 ++ row0)) t7] ++ (strValues ((str row0, tz) :: zs)).drop 1 = strValues (ys ++ (str (Z.2 ++ row0), t7) :: zs) := by simp [strValues]
      rw [e10] at F10
      have hws : (ys ++ (str (Z.2 ++ row0), t7) :: zs).map (·.1) = (Z'.1 ++ [Z'.2]).map str := by
        rw [hjoin]
        simp only [List.map_append, List.map_cons, List.map_nil, hy, hz, List.append_assoc, List.singleton_append]
      obtain ⟨ys', tl, ews, hys'⟩ := last_split hws
      rw [ews, strValues_snoc] at F10
      have F11 : Fm h₀ L ([("text", T), ("parts", .ref p), ("chunks", .ref c), ("number", .int i u), ("chunk", .str (str x) tx), ("last", .bool last), ("place", .int (placeV pl) t3), ("run", .str (str run) t4), ("rows", .ref r)] : Vars)
          ((p, lst (strValues ys' ++ [.str (str Z'.2) tl])) :: (c, lst cs) :: rest) h₁₀ := F10.fewer (((List.sublist_cons_self _ _).trans (List.sublist_cons_self _ _)).cons_cons _)
      clear F10 F9 F8 F7' 
      have drop3 : ∀ {os : List Thing} {h' : Heap}, Fm h₀ L ([("text", T), ("parts", .ref p), ("chunks", .ref c), ("number", .int i u), ("chunk", .str (str x) tx), ("last", .bool last), ("place", .int (placeV pl) t3), ("run", .str (str run) t4), ("rows", .ref r)] : Vars) os h' → Fm h₀ L ([("text", T), ("parts", .ref p), ("chunks", .ref c)] : Vars) os h' := by
        intro os h' F'
        exact F'.vars fun q hq => List.mem_append_left ([("number", .int i u), ("chunk", .str (str x) tx), ("last", .bool last), ("place", .int (placeV pl) t3), ("run", .str (str run) t4), ("rows", .ref r)] : Vars) hq
      refine wpAny_execs_cons (wpAny_If (wpAny_isTrue_Compare1 (ldv F11 (.tail _ (.tail _ (.tail _ (.tail _ (.tail _ (.tail _ (.head _))))))) (wpAny_Constant_int (P.ge_int (wpAny_truthy_bool ?_))))))
      cases pl with
      | none => exact wpAny_execs_nil (wpAny_execs_nil ⟨.inl rfl, hmv.trans ⟨_, _, rfl⟩, ys', tl, hys', drop3 F11⟩)
      | some k =>
        have hk := hpl k rfl
        have e3 : decide (placeV (some k) ≥ 0) = true := decide_eq_true (Int.natCast_nonneg k)
        rw [e3]
        have hl11 := lst_isList (F11.thing (.head _))
        refine wpAny_execs_cons (wpAny_Assign_Subscript (wpAny_BinOp (wpAny_BinOp (wpAny_BinOp (Subscript_ (ldv F11 (.tail _ (.head _)) (neg1 fun _ _ => itemLast hl11 (Constant_str (add_str (fun t8 k8 => ?_) ?_)))))))))
        rotate_left
        · rw [str_len]; show _ + 1 ≤ _; omega
        dsimp only
        rw [show str Z'.2 ++ (⟨#[34]⟩ : PySem.Str) = str (Z'.2 ++ [34]) from str_append _ _]
        refine Subscript_ (ldv F11 (.tail _ (.tail _ (.tail _ (.tail _ (.head _))))) (wpAny_Slice (wpAny_BinOp (ldv F11 (.tail _ (.tail _ (.tail _ (.tail _ (.tail _ (.tail _ (.head _))))))) (wpAny_Constant_int (P.add_int (wpAny_pure (wpAny_pure ?_))))))))
        refine sliceFrom (k := k + 1) F11 hk (by omega) fun h₁₂ t12 k12 F12 => ?_
        refine add_str (fun t13 k13 => ?_) (by simp only [str_len, List.length_append, List.length_singleton, List.length_drop]; omega)
        dsimp only
        rw [str_append]
        refine wpAny_IfExp (isTrue_plain (ldv F12 (.tail _ (.tail _ (.tail _ (.tail _ (.tail _ (.head _)))))) (wpAny_truthy_bool ?_)))
        have fin : ∀ (t15 : Tok) (k15 : Nat), wpAny (model prog w) A (eval (.Name "parts" ⟨65, 12, 65, 17⟩) (envOf (D 10).name (D 10).scope L 74 cd)) (fun ov s₂ => wpAny (model prog w) A (eval (.UnaryOp .USub (.Constant (.int 1) 0 ⟨65, 19, 65, 20⟩) ⟨65, 18, 65, 20⟩) (envOf (D 10).name (D 10).scope L 74 cd)) (fun iv s₃ =>
            wpAny (model prog w) A (setItem ov iv (.str (str (Z'.2 ++ [34] ++ x.drop (k + 1) ++ (if last then [] else [34]))) t15)) (fun _ s₄ => wpAny (model prog w) A (execs [] (envOf (D 10).name (D 10).scope L 74 cd)) (fun f s' => match f with | .next => wpAny (model prog w) A (execs [] (envOf (D 10).name (D 10).scope L 74 cd)) (PartsQ h₀ L p c T (add Z' (34 :: x.drop (k + 1) ++ (if last then [] else [34]))) cs rest s₀) (fun _ _ => False) s' | _ => PartsQ h₀ L p c T (add Z' (34 :: x.drop (k + 1) ++ (if last then [] else [34]))) cs rest s₀ f s') (fun _ _ => False) s₄) (fun _ _ => False) s₃) (fun _ _ => False) s₂) (fun _ _ => False) { s with heap := h₁₂, toks := k15 } := by
          intro t15 k15
          refine ldv (s := { s with heap := h₁₂, toks := k15 }) F12 (.tail _ (.head _)) (neg1 fun _ _ => setLast F12 fun h₁₃ F13 => wpAny_execs_nil (wpAny_execs_nil ⟨.inl rfl, hmv.trans ⟨_, _, rfl⟩, ys', t15, hys', ?_⟩))
          have e13 : Z'.2 ++ [34] ++ x.drop (k + 1) ++ (if last then [] else [34]) = (add Z' (34 :: x.drop (k + 1) ++ (if last then [] else [34]))).2 := by simp [add]
          rw [← e13]
          exact drop3 F13
        cases last with
        | true =>
          refine Constant_str (add_str (fun t15 k15 => ?_) (by rw [str_len, str_len]; simp only [List.length_append, List.length_singleton, List.length_drop, List.length_nil]; omega))
          rw [str_append]
          exact fin t15 k15
        | false =>
          refine Constant_str (add_str (fun t15 k15 => ?_) (by rw [str_len]; show _ + 1 ≤ _; simp only [List.length_append, List.length_singleton, List.length_drop]; omega))
          rw [show ∀ l, str l ++ (⟨#[34]⟩ : PySem.Str) = str (l ++ [34]) from fun l => str_append l _]
          exact fin t15 k15
end
end Wk
end Mine
end

section
open PySem PySem.W PyProof.Rows
set_option maxRecDepth 100000
set_option maxHeartbeats 2000000
namespace Mine
namespace Wk
open PySem.Calls PySem.Builtin PySem.Builtin.Str Mine.Pl Mine.Tx

section
variable {prog : Program} {w : World} {A : Around} {E : Value → Shared → Prop} {s : Shared} {mg mb : PySem.Str → Option Value}

theorem parts_body {h₀ : Heap} {L p c : Addr} {cd T : Value} {i : Nat} {t u tx : Tok} {Z : Pl.St} {x : List Nat} {last : Bool} {ys : List (PySem.Str × Tok)} {cs : List Value} {rest : List Thing}
    (G : Gl mg mb h₀) (N : Nm mg mb) (hZ : Wk.W Z ≤ 2000000) (hx : x.length ≤ 1000) (hn : cs.length ≤ 2000) (hi : cs[i]? = some (.str (str x) tx)) (hlast : ((i : Int) == (cs.length : Int) - 1) = last)
    (hy : ys.map (·.1) = Z.1.map str)
    (Fb : Fm h₀ L ([("text", T), ("parts", .ref p), ("chunks", .ref c), ("number", .int i u)] : Vars) ((p, lst (strValues ys ++ [.str (str Z.2) t])) :: (c, lst cs) :: rest) s.heap) :
    wpAny (model prog w) A (execs partsBody (envOf (D 10).name (D 10).scope L 74 cd)) (PartsQ h₀ L p c T (turn last Z x) cs rest s) (fun _ _ => False) s := by
  have Gb : Gl mg mb s.heap := G.keeps fun b o e => Fb.keep e
  have hi' : i < cs.length := (List.getElem?_eq_some_iff.mp hi).1
  have hsl : sizeLine = 16777216 := sizeLine_eq
  have hc : s.heap.IsList c cs.toArray := lst_isList (Fb.thing (.tail _ (.head _)))
  refine wpAny_execs_cons (wpAny_Assign_Name (Subscript_ (ldv Fb (.tail _ (.tail _ (.head _))) (ldv Fb (.tail _ (.tail _ (.tail _ (.head _)))) (item_listL hc (by omega) (by omega) (by simpa using hi) (stv Fb fun h₁ F1 => ?_))))))
  have G1 : Gl mg mb h₁ := G.keeps fun b o e => F1.keep e
  have hc1 : h₁.IsList c cs.toArray := lst_isList (F1.thing (.tail _ (.head _)))
  refine wpAny_execs_cons (wpAny_Assign_Name (wpAny_Compare1 (ldv F1 (.tail _ (.tail _ (.tail _ (.head _)))) (wpAny_BinOp (cn1 (bv G1 N.len0 N.len ⟨rfl, ldv F1 (.tail _ (.tail _ (.head _))) (call_len_list hc1 (by simp; omega) (wpAny_Constant_int (P.sub_int (P.eq_int ?_))))⟩))))))
  have e1 : ((i : Int) == ((cs.toArray.size : Nat) : Int) - 1) = last := by rw [← hlast]; simp
  rw [e1]
  refine stv F1 fun h₂ F2 => ?_
  dsimp only
  refine wpAny_execs_cons (wpAny_Assign_Name ?_)
  -- the rest, by the place
  have fin : ∀ (h₂ : Heap) (tk : Nat) (t3 : Tok), Fm h₀ L ([("text", T), ("parts", .ref p), ("chunks", .ref c), ("number", .int i u), ("chunk", .str (str x) tx), ("last", .bool last)] : Vars) ((p, lst (strValues ys ++ [.str (str Z.2) t])) :: (c, lst cs) :: rest) h₂ →
      wpAny (model prog w) A (storeName (envOf (D 10).name (D 10).scope L 74 cd) "place" (.int (placeV (Pl.placeOf last x)) t3)) (fun _ s₁ => wpAny (model prog w) A (execs (partsBody.drop 3) (envOf (D 10).name (D 10).scope L 74 cd)) (PartsQ h₀ L p c T (turn last Z x) cs rest s) (fun _ _ => False) s₁) (fun _ _ => False) { s with heap := h₂, toks := tk } := by
    intro h₂ tk t3 F2
    refine stv (s := { s with heap := h₂, toks := tk }) F2 fun h₃ F3 => ?_
    have F3' : Fm h₀ L ([("text", T), ("parts", .ref p), ("chunks", .ref c), ("number", .int i u), ("chunk", .str (str x) tx), ("last", .bool last), ("place", .int (placeV (Pl.placeOf last x)) t3)] : Vars) ((p, lst (strValues ys ++ [.str (str Z.2) t])) :: (c, lst cs) :: rest) h₃ := F3
    clear F3 F2
    refine wpAny_execs_cons (wpAny_Assign_Name (wpAny_IfExp (wpAny_isTrue_Compare1 (ldv F3' (.tail _ (.tail _ (.tail _ (.tail _ (.tail _ (.tail _ (.head _))))))) (wpAny_Constant_int (P.ge_int (wpAny_truthy_bool ?_)))))))
    cases hp : Pl.placeOf last x with
    | none =>
      rw [hp] at F3'
      have e3 : decide (placeV none ≥ 0) = false := by decide
      rw [e3]
      refine wpAny_BinOp (ldv F3' (.tail _ (.tail _ (.tail _ (.tail _ (.head _))))) (wpAny_IfExp (isTrue_plain (ldv F3' (.tail _ (.tail _ (.tail _ (.tail _ (.tail _ (.head _)))))) (wpAny_truthy_bool ?_)))))
      have e4 : turn last Z x = joinRows Z (splitOn 44 (((x ++ (if last then [] else [93])).filter (· != 91)).map q2)) := by simp only [turn, hp]
      rw [e4]
      cases last with
      | true =>
        refine Constant_str (add_str (fun t4 k4 => ?_) ?_)
        · rw [show str x ++ PySem.Str.ofString "" = str (x ++ []) by rw [lit0, str_append]]
          exact parts_tail (s := { s with heap := h₃, toks := k4 }) (pl := none) hZ hx (by simp; omega) (fun k e => nomatch e) hy ⟨_, _, rfl⟩ F3'
        · rw [lit0, str_len, str_len]; simp only [List.length_nil]; omega
      | false =>
        refine Constant_str (add_str (fun t4 k4 => ?_) ?_)
        · rw [show str x ++ PySem.Str.ofString "]" = str (x ++ [93]) by rw [lit93]; exact str_append _ _]
          exact parts_tail (s := { s with heap := h₃, toks := k4 }) (pl := none) hZ hx (by simp; omega) (fun k e => nomatch e) hy ⟨_, _, rfl⟩ F3'
        · rw [lit93, str_len]; show _ + 1 ≤ _; omega
    | some k =>
      rw [hp] at F3'
      have hk := placeOf_lt hp
      have e3 : decide (placeV (some k) ≥ 0) = true := decide_eq_true (Int.natCast_nonneg k)
      rw [e3]
      refine Subscript_ (ldv F3' (.tail _ (.tail _ (.tail _ (.tail _ (.head _))))) (wpAny_Slice (wpAny_pure ?_)))
      refine ldv F3' (.tail _ (.tail _ (.tail _ (.tail _ (.tail _ (.tail _ (.head _))))))) (wpAny_pure ?_)
      refine sliceTo F3' (Nat.le_of_lt hk) (by omega) fun h₄ t4 tk4 F4 => ?_
      have e4 : turn last Z x = add (joinRows Z (splitOn 44 (((x.take k).filter (· != 91)).map q2))) (34 :: x.drop (k + 1) ++ (if last then [] else [34])) := by simp only [turn, hp]
      rw [e4]
      exact parts_tail (s := { s with heap := h₄, toks := tk4 }) (pl := some k) hZ hx (by rw [List.length_take]; omega) (fun k e => by cases e; exact hk) hy ⟨_, _, rfl⟩ F4
  refine MethodCall_ (ldv F2 (.tail _ (.tail _ (.tail _ (.tail _ (.head _))))) (GM.find (cw2 (Constant_str (wpAny_IfExp (isTrue_plain (ldv F2 (.tail _ (.tail _ (.tail _ (.tail _ (.tail _ (.head _)))))) (wpAny_truthy_bool ?_)))))))) 
  cases last with
  | true =>
    refine wpAny_Constant_int (SC.find3 ?_)
    rw [show Txt.find3 (str x) (PySem.Str.ofString "[") 0 = placeV (Pl.placeOf true x) by rw [lit91]; exact find_place true x]
    exact fin _ _ _ F2
  | false =>
    refine wpAny_BinOp (MethodCall_ (ldv F2 (.tail _ (.tail _ (.tail _ (.tail _ (.head _))))) (GM.rfind (cw1 (Constant_str (SC.rfind (wpAny_Constant_int (P.add_int (SC.find3 ?_)))))))))
    rw [show Txt.find3 (str x) (PySem.Str.ofString "[") (Txt.rfind (str x) (PySem.Str.ofString "\n") + 1) = placeV (Pl.placeOf false x) by rw [lit91, lit10, rfind_eq]; exact find_place false x]
    exact fin _ _ _ F2
end
end Wk
end Mine
end

section
open PySem PySem.W PyProof.Rows
set_option maxRecDepth 100000
set_option maxHeartbeats 2000000
namespace Mine
namespace Wk
open PySem.Calls PySem.Builtin PySem.Builtin.Str Mine.Pl Mine.Tx

section
variable {M : Model} {A : Around} {E : Value → Shared → Prop} {s : Shared} {env : Env}
/-- a call of a type by its name -/
theorem ct1 {x : PySem.Str} {p pos : Pos} {T : String} {e : Expr} {Q : Value → Shared → Prop}
    (h : wpAny M A (eval (.Name x p) env) (fun f s₁ => f = .type T ∧ wpAny M A (eval e env) (fun v s₂ => wpAny M A (call (.type T) [v]) Q E s₂) E s₁) E s)
    (hs : starEach [e] env = [(false, eval e env)] := by rfl) :
    wpAny M A (eval (.Call (.Name x p) [e] [] pos) env) Q E s := by
  refine Call_Name1 (wpAny_mono h (fun f s₁ h₁ => ?_) fun _ _ x => x) hs
  obtain ⟨rfl, h₁⟩ := h₁
  exact PyProof.Rows.callWith_type rfl (evalArgs_plain (spliced_cons (wpAny_mono h₁ (fun v s₁ h₁ => spliced_nil h₁) fun _ _ x => x)))
end

theorem splitOn_len (d : Nat) : ∀ l : List Nat, (splitOn d l).length ≤ l.length + 1
  | [] => by simp [splitOn]
  | c :: r => by
    have ih := splitOn_len d r
    simp only [splitOn]
    split
    · simp only [List.length_cons]; omega
    · split
      · simp
      · rename_i h; rw [h] at ih; simp only [List.length_cons] at ih ⊢; omega
theorem splitOn_mem_len (d : Nat) : ∀ (l : List Nat), ∀ x ∈ splitOn d l, x.length ≤ l.length
  | [], x, h => by simp only [splitOn, List.mem_singleton] at h; subst h; simp
  | c :: r, x, h => by
    have ih := splitOn_mem_len d r
    simp only [splitOn] at h
    simp only [List.length_cons]
    split at h
    · rcases List.mem_cons.mp h with rfl | h
      · simp
      · have := ih x h; omega
    · split at h
      · rw [List.mem_singleton.mp h]; simp
      · rename_i y ys hs
        rw [hs] at ih
        rcases List.mem_cons.mp h with rfl | h
        · have := ih y (.head _); simp only [List.length_cons]; omega
        · have := ih x (.tail _ h); omega

section
variable {prog : Program} {w : World} {A : Around} {E : Value → Shared → Prop} {s : Shared} {mg mb : PySem.Str → Option Value}

def PartsJ (p c : Addr) (T : Value) (ch : List (List Nat)) (cs : List Value) (i : Nat) (vs : Vars) (os : List Thing) : Prop :=
  ∃ (Z : Pl.St) (ys : List (PySem.Str × Tok)) (t : Tok), (i < ch.length → turns Z (ch.drop i) = turns ([], []) ch) ∧ (i = ch.length → Z = turns ([], []) ch) ∧ Wk.W Z ≤ i * 1003 ∧ ys.map (·.1) = Z.1.map str ∧
    vs = ([("text", T), ("parts", .ref p), ("chunks", .ref c)] : Vars) ∧ os = [(p, lst (strValues ys ++ [.str (str Z.2) t])), (c, lst cs)]

theorem parts_spec {R : Result → Shared → Prop} {l : List Nat} {t : Tok} (G : Gl mg mb s.heap) (N : Nm mg mb) (hroom : A.depth < recursionLimit) (hh : A.handled = none) (hn : l.length ≤ 1000)
    (hR : ∀ s' D zs, Mv s s' → (∀ b o, s.heap.get? b = some o → s'.heap.get? b = some o) → s.heap.get? D = none → (∃ o, s'.heap.get? D = some o ∧ lst (strValues zs) o) →
      zs.map (·.1) = (parts l).map (fun x => Txt.strip (str x)) → R (.ok (.ret (.ref D))) s') :
    codeAny (model prog w) A (.call (.ref 74) ⟨[.str (str l) t], []⟩) R s := by
  have hsl : sizeLine = 16777216 := sizeLine_eq
  refine enter (binds := [("text", .str (str l) t)]) G.parts G.lim hroom (fun _ _ _ => rfl) (locs rfl) (fun L cd h₁ F => ?_) rfl rfl rfl (by decide)
  have F0 : Fm s.heap L [("text", .str (str l) t)] [] h₁ := Fm.start F (fun p hp => by rw [List.mem_singleton.mp hp]; rfl)
  refine wpAny_execs_cons (wpAny_Assign_Name (List_ (spliced_cons (Constant_str (k := 0) (pos := ⟨54, 13, 54, 15⟩) (spliced_nil (newListv F0 (fun h₂ F2 _ => stv F2 fun h₃ F3 => ?_) (by show 1 ≤ _; omega)))))))
  dsimp only at F3 ⊢
  generalize h₁.objs.size = p at F3
  refine wpAny_execs_cons (wpAny_Assign_Name (MethodCall_ (ldv F3 (.head _) (GM.split (cw1 (Constant_str ?_))))))
  rw [lit93]
  refine splitv F3 (by omega) fun cs h₄ k4 hcs F4 => ?_
  dsimp only at F4 ⊢
  generalize h₃.objs.size = c at F4
  refine stv F4 fun h₅ F5 => ?_
  have F5' : Fm s.heap L ([("text", .str (str l) t), ("parts", .ref p), ("chunks", .ref c)] : Vars) ((c, lst (strValues cs)) :: [(p, lst [.str (str []) (s.toks + 1)])]) h₅ := by rw [← lit0]; exact F5
  have F5 := F5'.swap
  generalize hch : splitOn 93 l = ch at hcs
  have hcl : cs.length = ch.length := by have := congrArg List.length hcs; simpa using this
  have hchl : ch.length ≤ 1001 := by rw [← hch]; have := splitOn_len 93 l; omega
  have hch0 : ch ≠ [] := by rw [← hch]; exact splitOn_ne 93 l
  have hchm : ∀ x ∈ ch, x.length ≤ 1000 := by rw [← hch]; intro x hx; have := splitOn_mem_len 93 l x hx; omega
  have hparts : parts l = Pl.fin (turns ([], []) ch) := by rw [← hch]; rfl
  have G5 : Gl mg mb h₅ := G.keeps fun b o e => F5.keep e
  have hc5 : h₅.IsList c (strValues cs).toArray := lst_isList (F5.thing (.tail _ (.head _)))
  refine wpAny_execs_cons (wpAny_For (ct1 (bv G5 N.range0 N.range ⟨rfl, cn1 (bv G5 N.len0 N.len ⟨rfl, ldv F5 (.tail _ (.tail _ (.head _))) (call_len_list hc5 (by rw [List.size_toArray, strValues_len]; omega) (call_range_1 ?_))⟩)⟩)))
  rw [show ((strValues cs).toArray.size : Int) = (ch.length : Int) by rw [List.size_toArray, strValues_len, hcl]]
  refine wpAny_pyIter_range (IsRange.new ..) (small_one (by decide) (by decide) (by omega) (by omega)) ?_
  rw [rangeSize_one, show (if (0 : Int) < (ch.length : Int) then (ch.length : Int) - 0 else 0) = (ch.length : Int) by split <;> omega]
  dsimp only
  have F6 := F5.push { cls := .type "range", data := .fields #[.int 0 (k4 + 1 + 1 + 1), .int ch.length (k4 + 1 + 1), .int 1 (k4 + 1 + 1 + 1 + 1)] } (P := fun _ => True) trivial
  have F7 := F6.push { cls := .type "range_iterator", data := .fields #[rawInt 0, rawInt ch.length, rawInt 1] } (P := fun _ => True) trivial
  refine for_loop (Walks.range (by exact hh) _ 0 1 ch.length) (PartsJ p c (.str (str l) t) ch (strValues cs))
    (fun i h st => ⟨_, st⟩) (fun b hb => .inl (List.mem_singleton.mp hb)) (by exact F7.fewer ((List.sublist_cons_self _ _).cons_cons _)) ?_ ⟨([], []), [], s.toks + 1, fun _ => rfl, fun h => ?_, by simp [Wk.W], rfl, rfl, rfl⟩ ?_ ?_
  · exact Heap.get?_push_size _ rfl
  · exact absurd (List.eq_nil_of_length_eq_zero h.symm) hch0
  · rintro i v vs os rest s' hi ⟨u, rfl⟩ ⟨Z, ys, t', h1, h2, h3, h4, rfl, rfl⟩ Fb
    have ei : ((0 : Int) + (i : Int) * 1) = (i : Int) := by omega
    rw [ei] at Fb
    obtain ⟨x, hx⟩ : ∃ x, ch[i]? = some x := ⟨ch[i], by simp [hi]⟩
    have hcsi : ∃ tx, (strValues cs)[i]? = some (.str (str x) tx) := by
      have : (cs.map (·.1))[i]? = some (str x) := by rw [hcs, List.getElem?_map, hx]; rfl
      rw [List.getElem?_map, Option.map_eq_some_iff] at this
      obtain ⟨q, hq, e⟩ := this
      refine ⟨q.2, ?_⟩
      unfold strValues
      rw [List.getElem?_map, hq, ← e]; rfl
    obtain ⟨tx, hcsi⟩ := hcsi
    have hxl := hchm x (List.mem_of_getElem? hx)
    refine wpAny_mono (parts_body (last := decide (i + 1 = ch.length)) G N (Nat.le_trans h3 (by omega)) hxl (by rw [strValues_len]; omega) hcsi ?_ h4 (by exact Fb)) (fun f s₁ h₁ => ?_) fun _ _ h => h
    · rw [strValues_len, hcl, Bool.eq_iff_iff]
      simp only [beq_iff_eq, decide_eq_true_eq]
      omega
    obtain ⟨hf, hmv, ys', t'', hy', F'⟩ := h₁
    have hdrop : ch.drop i = x :: ch.drop (i + 1) := by
      obtain ⟨hlt, e⟩ := List.getElem?_eq_some_iff.mp hx
      rw [← e]; exact List.drop_eq_getElem_cons hlt
    have hw := W_turn (decide (i + 1 = ch.length)) Z x
    refine ⟨hf, hmv, _, _, ⟨turn (decide (i + 1 = ch.length)) Z x, ys', t'', fun hlt => ?_, fun he => ?_, by omega, hy', rfl, rfl⟩, F'⟩
    · rw [← h1 hi, hdrop]
      have hd2 : ch.drop (i + 1) ≠ [] := by
        intro e
        have := congrArg List.length e
        rw [List.length_drop, List.length_nil] at this
        omega
      rw [show decide (i + 1 = ch.length) = false from decide_eq_false (by omega)]
      cases hd : ch.drop (i + 1) with
      | nil => exact absurd hd hd2
      | cons y r => rfl
    · rw [← h1 hi, hdrop, he, List.drop_length, decide_eq_true rfl]
      rfl
  · rintro vs os s' ⟨Z, ys, t', -, h2, h3, h4, rfl, rfl⟩ Fe hmv
    obtain rfl := h2 rfl
    have hW := W_bounds (turns ([], []) ch)
    have hW3 : Wk.W (turns ([], []) ch) ≤ 2000000 := by omega
    generalize turns ([], []) ch = Z at Fe h4 hW hW3 hparts
    have hyl : ys.length = Z.1.length := by have := congrArg List.length h4; simpa using this
    have fin : ∀ {s₁ : Shared} {xs' : List (PySem.Str × Tok)} {vs : Vars} {os : List Thing}, Mv s s₁ → Fm s.heap L vs ((p, lst (strValues xs')) :: os) s₁.heap → ((PySem.Str.ofString "parts", Value.ref p) ∈ vs) → xs'.map (·.1) = (parts l).map str →
        (∀ x ∈ parts l, x.length ≤ 3000000) → (parts l).length ≤ 3000001 → wpAny (model prog w) (A.deeper (envOf (D 10).name (D 10).scope L 74 cd)) (execs ((D 10).body.drop 4) (envOf (D 10).name (D 10).scope L 74 cd))
        (fun f s' => R (.ok (.ret (match f with | .ret v => v | _ => .none))) s') (fun _ _ => False) s₁ := by
      intro s₁ xs' vs os hmv' F' hv hx' hb hc
      refine wpAny_execs_cons (wpAny_Return_some (strips (by exact hh) (by decide) (by decide) rfl (by decide) rfl (by decide) (fun _ => rfl) (fun _ => rfl) (fun p hp => ?_) ?_ (ldv F' hv ⟨rfl, lst_isList (F'.thing (.head _)), fun D h' tk zs hD hz ho hk => ?_⟩)))
      · have : p.1 ∈ (parts l).map str := hx' ▸ List.mem_map_of_mem hp
        obtain ⟨y, hy, e⟩ := List.mem_map.mp this
        rw [← e, str_len, sizeLine_eq]
        have := hb y hy
        omega
      · have := congrArg List.length hx'
        simp only [List.length_map] at this
        rw [this, sizeLine_eq]; omega
      · refine hR _ D zs (hmv'.trans ⟨_, _, rfl⟩) (fun b o e => hk b o (F'.keep e)) ?_ ho ?_
        · cases e : s.heap.get? D with
          | none => rfl
          | some o => have := F'.keep e; rw [hD] at this; cases this
        · rw [hz]
          have := congrArg (List.map Txt.strip) hx'
          simpa [Function.comp_def] using this
    have hle := lst_isList (Fe.thing (.head _))
    refine wpAny_execs_cons (wpAny_If (wpAny_isTrue_Compare1 (Subscript_ (ldv Fe (.tail _ (.head _)) (neg1 fun _ _ => itemLast hle (Constant_str (eq_str (wpAny_truthy_bool ?_))))))))
    dsimp only
    by_cases hp : Z.2 = []
    · rw [show (str Z.2 == PySem.Str.ofString "") = true by rw [hp, lit0]; exact beq_self_eq_true _]
      refine wpAny_execs_cons (wpAny_Expr (MethodCall_ (ldv Fe (.tail _ (.head _)) (getMethodL (Fe.thing (.head _)) PySem.F.slot_list_pop (by with_unfolding_all rfl) (callWith_method0 (popv Fe (by rw [strValues_len]; omega) fun h1 F1 => ?_))))))
      refine wpAny_execs_nil (fin (s₁ := { s' with heap := h1, toks := _ }) (Mv.trans ⟨_, _, rfl⟩ (hmv.trans ⟨_, _, rfl⟩)) F1 (.tail _ (.head _)) ?_ ?_ ?_)
      · rw [hparts, Pl.fin, if_pos hp]; exact h4
      · rw [hparts, Pl.fin, if_pos hp]; intro x hx; have := hW.2.2 x hx; omega
      · rw [hparts, Pl.fin, if_pos hp]; omega
    · rw [show (str Z.2 == PySem.Str.ofString "") = false by rw [lit0]; exact beq_false_of_ne fun e => hp (str_inj e)]
      have e1 : strValues ys ++ [.str (str Z.2) t'] = strValues (ys ++ [(str Z.2, t')]) := (strValues_snoc _ _ _).symm
      rw [e1] at Fe
      refine wpAny_execs_nil (fin (s₁ := { s' with toks := _ }) (Mv.trans ⟨_, _, rfl⟩ (hmv.trans ⟨_, _, rfl⟩)) Fe (.tail _ (.head _)) ?_ ?_ ?_)
      · rw [hparts, Pl.fin, if_neg hp, List.map_append, List.map_append, h4]; rfl
      · rw [hparts, Pl.fin, if_neg hp]
        intro x hx
        rcases List.mem_append.mp hx with hx | hx
        · have := hW.2.2 x hx; omega
        · rw [List.mem_singleton.mp hx]; omega
      · rw [hparts, Pl.fin, if_neg hp, List.length_append, List.length_singleton]; omega
end
end Wk
end Mine
end

section
open PySem PySem.W PyProof.Rows
set_option maxRecDepth 100000
namespace Mine
namespace Fc
open PySem

theorem slot_finditer : Slot "re.Pattern" "finditer" "re.Pattern.finditer" :=
  .of (owner := "re.Pattern") (n := "finditer") (by rw [typeLookup_type, builtinLookup_eq_fast]; kernel_rfl) (by decide +kernel) (by decide +kernel) (by decide +kernel)
    (by first | exact .inl (by decide +kernel) | exact .inr (by decide +kernel)) (by rw [isSubtype_type]; kernel_rfl)
theorem type_finditer : typeOf (.builtin "re.Pattern.finditer") = pure (.type "method_descriptor") := by show builtinType _ = _; rw [builtinType_eq_fast]; kernel_rfl
theorem entry_finditer : entryFor table "re.Pattern.finditer" = some Builtin.«re.Pattern.finditer» := entryFor_of_tree (by kernel_rfl)
theorem owner_pattern : Manifest.owners.lookup (String.ofList ['n', 'r', 'e', 't', 't', 'a', 'P', '.', 'e', 'r'].reverse) = some Manifest.sig_re_Pattern := by kernel_rfl
theorem args_finditer (a b : Value) : argsOk "re.Pattern.finditer" ⟨[a, b], []⟩ := by
  unfold argsOk; rw [signature?_of (id := "re.Pattern.finditer") (n := "finditer".toList.reverse) (o := ['n', 'r', 'e', 't', 't', 'a', 'P', '.', 'e', 'r']) (by kernel_rfl) owner_pattern]; kernel_rfl
theorem plainAttrs_pattern : PlainAttrs "re.Pattern" :=
  ⟨⟨"object.__getattribute__", by rw [typeLookup_type, builtinLookup_eq_fast]; kernel_rfl, by decide +kernel⟩, by rw [typeLookup_type, builtinLookup_eq_fast]; kernel_rfl⟩
theorem plainAttrs_match : PlainAttrs "re.Match" :=
  ⟨⟨"object.__getattribute__", by rw [typeLookup_type, builtinLookup_eq_fast]; kernel_rfl, by decide +kernel⟩, by rw [typeLookup_type, builtinLookup_eq_fast]; kernel_rfl⟩

theorem slot_search : Slot "_sre.SRE_Scanner" "search" "_sre.SRE_Scanner.search" :=
  .of (owner := "_sre.SRE_Scanner") (n := "search") (by rw [typeLookup_type, builtinLookup_eq_fast]; kernel_rfl) (by decide +kernel) (by decide +kernel) (by decide +kernel)
    (by first | exact .inl (by decide +kernel) | exact .inr (by decide +kernel)) (by rw [isSubtype_type]; kernel_rfl)
theorem type_search : typeOf (.builtin "_sre.SRE_Scanner.search") = pure (.type "method_descriptor") := by show builtinType _ = _; rw [builtinType_eq_fast]; kernel_rfl
theorem entry_search : entryFor table "_sre.SRE_Scanner.search" = some Builtin.«_sre.SRE_Scanner.search» := entryFor_of_tree (by kernel_rfl)
theorem owner_scanner : Manifest.owners.lookup (String.ofList "_sre.SRE_Scanner".toList.reverse.reverse) = some Manifest.sig__sre_SRE_Scanner := by kernel_rfl
theorem args_search (a : Value) : argsOk "_sre.SRE_Scanner.search" ⟨[a], []⟩ := by
  unfold argsOk; rw [signature?_of (id := "_sre.SRE_Scanner.search") (n := "search".toList.reverse) (o := "_sre.SRE_Scanner".toList.reverse) (by kernel_rfl) owner_scanner]; kernel_rfl
theorem lk_scanner_ga : typeLookup (.type "_sre.SRE_Scanner") "__getattribute__" = pure (some (.builtin "object.__getattribute__")) := by rw [typeLookup_type, builtinLookup_eq_fast]; kernel_rfl
theorem slot_scanner_ga : Slot "_sre.SRE_Scanner" "__getattribute__" "object.__getattribute__" :=
  .of (owner := "object") (n := "__getattribute__") lk_scanner_ga (by decide +kernel) (by decide +kernel) (by decide +kernel)
    (by first | exact .inl (by decide +kernel) | exact .inr (by decide +kernel)) (by rw [isSubtype_type]; kernel_rfl)
theorem slot_md_get : Slot "method_descriptor" "__get__" "method_descriptor.__get__" :=
  .of (owner := "method_descriptor") (n := "__get__") (by rw [typeLookup_type, builtinLookup_eq_fast]; kernel_rfl) (by decide +kernel) (by decide +kernel) (by decide +kernel)
    (by first | exact .inl (by decide +kernel) | exact .inr (by decide +kernel)) (by rw [isSubtype_type]; kernel_rfl)
theorem entry_md_get : entryFor table "method_descriptor.__get__" = some Builtin.«method_descriptor.__get__» := entryFor_of_tree (by kernel_rfl)
theorem args_md_get (a b c : Value) : argsOk "method_descriptor.__get__" ⟨[a, b, c], []⟩ := by unfold argsOk; kernel_rfl
theorem args_ga (a b : Value) : argsOk "object.__getattribute__" ⟨[a, b], []⟩ := by unfold argsOk; kernel_rfl
theorem sub_scanner_owner : isSubtype (.type "_sre.SRE_Scanner") (.type (".".intercalate ("_sre.SRE_Scanner.search".cutAt '.').dropLast)) = pure true := by
  have e0 : "_sre.SRE_Scanner.search".cutAt '.' = ["_sre", "SRE_Scanner", "search"] := by first | rfl | decide +kernel
  rw [e0, show ".".intercalate ["_sre", "SRE_Scanner", "search"].dropLast = "_sre.SRE_Scanner" by decide +kernel, isSubtype_type]; kernel_rfl
theorem told_search : Manifest.toldItsClass.contains "_sre.SRE_Scanner.search" = true := by decide +kernel
theorem md_no_set : typeLookup (.type "method_descriptor") "__set__" = pure none := by rw [typeLookup_type, builtinLookup_eq_fast]; kernel_rfl
theorem md_no_delete : typeLookup (.type "method_descriptor") "__delete__" = pure none := by rw [typeLookup_type, builtinLookup_eq_fast]; kernel_rfl

theorem slot_ci_iter : Slot "callable_iterator" "__iter__" "callable_iterator.__iter__" :=
  .of (owner := "callable_iterator") (n := "__iter__") (by rw [typeLookup_type, builtinLookup_eq_fast]; kernel_rfl) (by decide +kernel) (by decide +kernel) (by decide +kernel)
    (by first | exact .inl (by decide +kernel) | exact .inr (by decide +kernel)) (by rw [isSubtype_type]; kernel_rfl)
theorem slot_ci_next : Slot "callable_iterator" "__next__" "callable_iterator.__next__" :=
  .of (owner := "callable_iterator") (n := "__next__") (by rw [typeLookup_type, builtinLookup_eq_fast]; kernel_rfl) (by decide +kernel) (by decide +kernel) (by decide +kernel)
    (by first | exact .inl (by decide +kernel) | exact .inr (by decide +kernel)) (by rw [isSubtype_type]; kernel_rfl)
theorem entry_ci_next : entryFor table "callable_iterator.__next__" = some Builtin.«callable_iterator.__next__» := entryFor_of_tree (by kernel_rfl)
theorem entry_ci_iter : entryFor table "callable_iterator.__iter__" = some Builtin.«dict_keyiterator.__iter__» :=
  entryFor_alias (id' := "dict_keyiterator.__iter__") (by kernel_rfl) (by first | rfl | decide +kernel | (unfold String.splitOn; simp +decide [String.splitOnAux])) (by decide +kernel) (by kernel_rfl)
theorem owner_ci : Manifest.owners.lookup (String.ofList "callable_iterator".toList.reverse.reverse) = some Manifest.sig_callable_iterator := by kernel_rfl
theorem args_ci_iter (a : Value) : argsOk "callable_iterator.__iter__" ⟨[a], []⟩ := by
  unfold argsOk; rw [signature?_of (id := "callable_iterator.__iter__") (n := "__iter__".toList.reverse) (o := "callable_iterator".toList.reverse) (by kernel_rfl) owner_ci]; kernel_rfl
theorem args_ci_next (a : Value) : argsOk "callable_iterator.__next__" ⟨[a], []⟩ := by
  unfold argsOk; rw [signature?_of (id := "callable_iterator.__next__") (n := "__next__".toList.reverse) (o := "callable_iterator".toList.reverse) (by kernel_rfl) owner_ci]; kernel_rfl

theorem slot_group : Slot "re.Match" "group" "re.Match.group" :=
  .of (owner := "re.Match") (n := "group") (by rw [typeLookup_type, builtinLookup_eq_fast]; kernel_rfl) (by decide +kernel) (by decide +kernel) (by decide +kernel)
    (by first | exact .inl (by decide +kernel) | exact .inr (by decide +kernel)) (by rw [isSubtype_type]; kernel_rfl)
theorem type_group : typeOf (.builtin "re.Match.group") = pure (.type "method_descriptor") := by show builtinType _ = _; rw [builtinType_eq_fast]; kernel_rfl
theorem entry_group : entryFor table "re.Match.group" = some Builtin.«re.Match.group» := entryFor_of_tree (by kernel_rfl)
theorem owner_match : Manifest.owners.lookup (String.ofList "re.Match".toList.reverse.reverse) = some Manifest.sig_re_Match := by kernel_rfl
theorem args_group (a b : Value) : argsOk "re.Match.group" ⟨[a, b], []⟩ := by
  unfold argsOk; rw [signature?_of (id := "re.Match.group") (n := "group".toList.reverse) (o := "re.Match".toList.reverse) (by kernel_rfl) owner_match]; kernel_rfl
end Fc
end Mine
end

section
open PySem PySem.W PyProof.Rows
set_option maxRecDepth 100000
set_option maxHeartbeats 1000000
namespace Mine
namespace Fc
open PySem
section
variable {prog : Program} {w : World} {A : Around} {E : Value → Shared → Prop} {h : Heap} {g : Array GenState} {d : Drawn} {t : Nat} {os : OsState} {a : Addr} {o : Obj}

theorem search_get {R : Result → Shared → Prop} (hx : h.get? a = some o) (hc : o.cls = .type "_sre.SRE_Scanner")
    (hq : R (.ok (.ret (.ref h.objs.size))) ⟨h.push { cls := .type "builtin_function_or_method", data := .fields #[.builtin "_sre.SRE_Scanner.search", .ref a] }, g, d, t, os⟩) :
    codeAny (model prog w) A (.call (.builtin "method_descriptor.__get__") ⟨[.builtin "_sre.SRE_Scanner.search", .ref a, .type "_sre.SRE_Scanner"], []⟩) R ⟨h, g, d, t, os⟩ := by
  have hT : (⟨h, g, d, t, os⟩ : Shared).TypeIs (.ref a) "_sre.SRE_Scanner" := ⟨_, hx, hc⟩
  have hT5 : (⟨h, g, d, t, os⟩ : Shared).TypeIs (.builtin "_sre.SRE_Scanner.search") "method_descriptor" := type_search
  have f8 := sub_scanner_owner
  have f9 := told_search
  refine codeAny_call_builtin slot_md_get.plain entry_md_get (slot_md_get.check _ _ _ _ _ _ _ _ hT5 (args_md_get _ _ _) ?_)
  repeat (any_goals (first | assumption | wp_step))

theorem search_entry {tk : Tok} {Q : Fin → Shared → Prop} (hx : h.get? a = some o) (hc : o.cls = .type "_sre.SRE_Scanner") (hdict : o.dict = none) (hdata : ∃ vs, o.data = .fields vs)
    (hq : Q (.done (.ret (.ref h.objs.size))) ⟨h.push { cls := .type "builtin_function_or_method", data := .fields #[.builtin "_sre.SRE_Scanner.search", .ref a] }, g, d, t, os⟩) :
    wpAny (model prog w) A (Builtin.«object.__getattribute__» ⟨[.ref a, .str "search" tk], []⟩) Q E ⟨h, g, d, t, os⟩ := by
  obtain ⟨oc, od, odt, osl⟩ := o
  simp only at hc hdict hdata
  subst hc hdict
  obtain ⟨vs, rfl⟩ := hdata
  have hT : (⟨h, g, d, t, os⟩ : Shared).TypeIs (.ref a) "_sre.SRE_Scanner" := ⟨_, hx, rfl⟩
  have hT5 : (⟨h, g, d, t, os⟩ : Shared).TypeIs (.builtin "_sre.SRE_Scanner.search") "method_descriptor" := type_search
  have f4 := slot_search.lookup
  have f5 := type_search
  have f6 := slot_md_get.lookup
  have f7 := md_no_set
  have f8 := md_no_delete
  repeat (any_goals (first | assumption | wp_step))
  refine search_get hx rfl ?_
  exact wpAny_pure hq

theorem search_call {tk : Tok} {R : Result → Shared → Prop} (hx : h.get? a = some o) (hc : o.cls = .type "_sre.SRE_Scanner") (hdict : o.dict = none) (hdata : ∃ vs, o.data = .fields vs)
    (hq : R (.ok (.ret (.ref h.objs.size))) ⟨h.push { cls := .type "builtin_function_or_method", data := .fields #[.builtin "_sre.SRE_Scanner.search", .ref a] }, g, d, t, os⟩) :
    codeAny (model prog w) A (.call (.builtin "object.__getattribute__") ⟨[.ref a, .str "search" tk], []⟩) R ⟨h, g, d, t, os⟩ :=
  codeAny_call_builtin slot_scanner_ga.plain F.entry_object_getattribute (slot_scanner_ga.check _ _ _ _ _ _ _ _ (show (⟨h, g, d, t, os⟩ : Shared).TypeIs (.ref a) "_sre.SRE_Scanner" from ⟨_, hx, hc⟩) (args_ga _ _) (search_entry hx hc hdict hdata hq))

theorem search_attr {Q : Value → Shared → Prop} (hx : h.get? a = some o) (hc : o.cls = .type "_sre.SRE_Scanner") (hdict : o.dict = none) (hdata : ∃ vs, o.data = .fields vs)
    (hq : Q (.ref h.objs.size) ⟨h.push { cls := .type "builtin_function_or_method", data := .fields #[.builtin "_sre.SRE_Scanner.search", .ref a] }, g, d, t + 1, os⟩) :
    wpAny (model prog w) A (getAttr (.ref a) "search") Q E ⟨h, g, d, t, os⟩ := by
  have hT : ∀ t, (⟨h, g, d, t, os⟩ : Shared).TypeIs (.ref a) "_sre.SRE_Scanner" := fun t => ⟨_, hx, hc⟩
  have hT1 := hT (t + 1)
  have f2 := slot_scanner_ga.lookup
  have f3 := slot_scanner_ga.bind (.ref a)
  unfold getAttr
  repeat (any_goals (first | assumption | wp_step))
  refine search_call hx hc hdict hdata ?_
  repeat (any_goals (first | assumption | wp_step))
end
end Fc
end Mine
end

section
open PySem PySem.W PyProof.Rows
set_option maxRecDepth 100000
set_option maxHeartbeats 2000000
namespace Mine
namespace Wk
open PySem.Calls PySem.Builtin PySem.Builtin.Str Mine.Pl Mine.Tx PySem.Builtin.Re

structure Pat (P : Params) (h : Heap) : Prop where
  p : ∃ v0 v1 v4, h.get? 36 = some { cls := .type "re.Pattern", data := .fields #[v0, v1, .int 3 0, .ref 33, v4, .ref 35, .int 0 0] }
  c : ∃ items n, h.get? 35 = some { cls := .type "tuple", data := .seq items n } ∧ (items.map reRawOf).map Int.toNat = Rx.code
  d : h.get? 33 = some { cls := .type "dict", data := .dict #[{ hash := PyData.keyHash P "set", key := .str "set" 345, val := .int 2 346 }] 1 }
theorem Pat.keeps {P : Params} {h h' : Heap} (x : Pat P h) (hk : ∀ b o, h.get? b = some o → h'.get? b = some o) : Pat P h' :=
  let ⟨⟨a, b, c, e⟩, ⟨i, n, e2, e3⟩, e4⟩ := x; ⟨⟨a, b, c, hk _ _ e⟩, ⟨i, n, hk _ _ e2, e3⟩, hk _ _ e4⟩

def scn (l : List Nat) (t : Tok) (p : Int) (must : Bool) (o : Obj) : Prop := o = { cls := .type "_sre.SRE_Scanner", data := .fields #[.ref 36, .str (str l) t, rawInt p, rawInt 0, rawInt l.length, .bool must] }
def bnd (S : Addr) (o : Obj) : Prop := o = { cls := .type "builtin_function_or_method", data := .fields #[.builtin "_sre.SRE_Scanner.search", .ref S] }
def itr (B : Addr) (o : Obj) : Prop := o = { cls := .type "callable_iterator", data := .fields #[.ref B, .none, .bool false] }

theorem sub_str_bytearray : isSubtype (.type "str") (.type "bytearray") = pure false := by rw [isSubtype_type]; kernel_rfl

section
variable {prog : Program} {w : World} {A : Around} {E : Value → Shared → Prop} {h : Heap} {g : Array GenState} {d : Drawn} {tk : Nat} {os : OsState} {PP : Params}

theorem named_one {id f : String} {x : Value} {Q : List (Option Value) → Shared → Prop} {s : Shared} (h : Q [some x, none, none] s) :
    wpAny (model prog w) A (reNamed id f ["string", "pos", "endpos"] 1 [x] []) Q E s := by
  have : reNamed id f ["string", "pos", "endpos"] 1 [x] [] = pure [some x, none, none] := by
    unfold reNamed
    rfl
  rw [this]
  exact wpAny_pure h

theorem target_spec {l : List Nat} {t : Tok} {Q : ReTarget → Shared → Prop} (X : Pat PP h) (hl : l.length ≤ 1000000)
    (hq : Q { pattern := .ref 36, string := .str (str l) t, code := Rx.code, text := l.toArray, kind := 0, groups := 3, pos := 0, lim := l.length } ⟨h, g, d, tk, os⟩) :
    wpAny (model prog w) A (reTarget "re.Pattern.finditer" "finditer" ⟨[.ref 36, .str (str l) t], []⟩) Q E ⟨h, g, d, tk, os⟩ := by
  obtain ⟨v0, v1, v4, hp⟩ := X.p
  obtain ⟨items, n, hc, hcode⟩ := X.c
  unfold reTarget
  refine wpAny_bind (named_one ?_)
  refine wpAny_bind (wpAny_pure ?_)
  refine wpAny_bind (wpAny_pure ?_)
  refine wpAny_bind (wpAny_fieldsOf hp rfl ?_)
  refine wpAny_bind ?_
  unfold reTextOf
  refine wpAny_bind (wpAny_pure ?_)
  refine wpAny_pure ?_
  refine wpAny_bind ?_
  unfold reNoCollectionInside
  refine wpAny_pure ?_
  refine wpAny_bind ?_
  unfold reRawItems
  refine wpAny_bind (wpAny_seqItems hc rfl (wpAny_pure (wpAny_pure ?_)))
  rw [show ((some items).getD #[]).map reRawOf = items.map reRawOf from rfl, hcode]
  have e1 : (min (Int.toNat 0) (str l).cps.size) = 0 := by simp
  have e2 : (min (Int.toNat (2 ^ 63 - 1)) (str l).cps.size) = l.length := by
    rw [show (str l).cps.size = l.length by simp, show Int.toNat (2 ^ 63 - 1) = 9223372036854775807 by decide]; omega
  have e3 : ∀ (a b : Nat), a = 0 → b = l.length → Q { pattern := .ref 36, string := .str (str l) t, code := Rx.code, text := (str l).cps, kind := 0, groups := reRawNat (#[v0, v1, Value.int 3 0, Value.ref 33, v4, Value.ref 35, Value.int 0 0].getD 2 Value.none), pos := a, lim := b } ⟨h, g, d, tk, os⟩ := by
    intro a b ha hb; rw [ha, hb]; exact hq
  exact e3 _ _ e1 e2

theorem finditer_spec {l : List Nat} {t : Tok} {Q : Value → Shared → Prop} (X : Pat PP h) (hl : l.length ≤ 1000000)
    (hq : Q (.ref (h.objs.size + 2)) ⟨((h.push { cls := .type "_sre.SRE_Scanner", data := .fields #[.ref 36, .str (str l) t, rawInt 0, rawInt 0, rawInt l.length, .bool false] }).push
      { cls := .type "builtin_function_or_method", data := .fields #[.builtin "_sre.SRE_Scanner.search", .ref h.objs.size] }).push { cls := .type "callable_iterator", data := .fields #[.ref (h.objs.size + 1), .none, .bool false] }, g, d, tk + 1, os⟩) :
    wpAny (model prog w) A (call (.builtin "re.Pattern.finditer") [.ref 36, .str (str l) t]) Q E ⟨h, g, d, tk, os⟩ := by
  obtain ⟨v0, v1, v4, hp⟩ := X.p
  have hT : (⟨h, g, d, tk, os⟩ : Shared).TypeIs (.ref 36) "re.Pattern" := ⟨_, hp, rfl⟩
  refine wpAny_call_entry Fc.slot_finditer hT Fc.entry_finditer ?_ (Fc.args_finditer _ _)
  unfold Builtin.«re.Pattern.finditer»
  refine wpAny_bind (target_spec X hl ?_)
  refine wpAny_bind ?_
  unfold reNotHeld
  refine wpAny_bind (wpAny_isInstance (typeIs_str _ _ _) sub_str_bytearray ?_)
  refine wpAny_pure ?_
  refine wpAny_bind (wpAny_newObj_type ?_)
  refine wpAny_bind (wpAny_holding (Fc.search_attr (Heap.get?_push_size _ rfl) rfl rfl ⟨_, rfl⟩ ?_))
  refine wpAny_bind (wpAny_newObj_type (wpAny_pure ⟨_, rfl, ?_⟩))
  simp only [Heap.size_push]
  exact hq
end
end Wk
end Mine
end

section
open PySem PySem.W PyProof.Rows
set_option maxRecDepth 100000
set_option maxHeartbeats 2000000
namespace Mine
namespace Wk
open PySem.Calls PySem.Builtin PySem.Builtin.Str Mine.Pl Mine.Tx PySem.Builtin.Re

def spans (k b e : Nat) : List Value := match k with
  | 0 => [rawInt b, rawInt e, rawInt (-1), rawInt (-1), rawInt (-1), rawInt (-1)]
  | 1 => [rawInt (-1), rawInt (-1), rawInt b, rawInt e, rawInt (-1), rawInt (-1)]
  | _ => [rawInt (-1), rawInt (-1), rawInt (-1), rawInt (-1), rawInt b, rawInt e]
/-- what was found: the k-th group, from b to e -/
structure Mt (h : Heap) (l : List Nat) (t : Tok) (k b e : Nat) (F : Addr) : Prop where
  m : ∃ li T, h.get? F = some { cls := .type "re.Match", data := .fields #[.str (str l) t, .ref 36, rawInt 0, rawInt l.length, rawInt li, .ref T] } ∧
    ∃ n, h.get? T = some { cls := .type "tuple", data := .seq (rawInt b :: rawInt e :: spans k b e).toArray n }
theorem Mt.keeps {h h' : Heap} {l : List Nat} {t : Tok} {k b e : Nat} {F : Addr} (x : Mt h l t k b e F) (hk : ∀ b o, h.get? b = some o → h'.get? b = some o) : Mt h' l t k b e F :=
  let ⟨li, T, h1, n, h2⟩ := x.m; ⟨li, T, hk _ _ h1, n, hk _ _ h2⟩

theorem str_no_index : typeLookup (.type "str") "__index__" = pure none := by rw [typeLookup_type, builtinLookup_eq_fast]; kernel_rfl
theorem ext_eq (l : List Nat) (b e : Nat) : (⟨l.toArray.extract b e⟩ : PySem.Str) = str ((l.drop b).take (e - b)) := PySem.Str.ext' (by simp)

section
variable {prog : Program} {w : World} {A : Around} {E : Value → Shared → Prop} {s : Shared}

abbrev fnd (l : List Nat) (t : Tok) (k b e : Nat) (li : Int) (T : Addr) : ReFound := ⟨#[.str (str l) t, .ref 36, rawInt 0, rawInt l.length, rawInt li, .ref T], ((rawInt b :: rawInt e :: spans k b e).map reRawOf).toArray⟩

theorem group_entry {F : Addr} {l : List Nat} {t : Tok} {k b e : Nat} {v : Value} {Q : Value → Shared → Prop} (X : Mt s.heap l t k b e F)
    (h : ∀ li T, wpAny (model prog w) A.in1 (reGroupNumber (fnd l t k b e li T) v) (fun g s₁ => wpAny (model prog w) A.in1 (reGroupText (fnd l t k b e li T) g .none) Q E s₁) E s) :
    wpAny (model prog w) A (call (.builtin "re.Match.group") [.ref F, v]) Q E s := by
  obtain ⟨li, T, h1, n, h2⟩ := X.m
  have hT : s.TypeIs (.ref F) "re.Match" := ⟨_, h1, rfl⟩
  refine wpAny_call_entry Fc.slot_group hT Fc.entry_group ?_ (Fc.args_group _ _)
  unfold Builtin.«re.Match.group»
  refine wpAny_bind (wpAny_pure ?_)
  refine wpAny_bind ?_
  unfold reFound
  refine wpAny_bind (wpAny_fieldsOf h1 rfl (wpAny_bind ?_))
  unfold reRawItems
  refine wpAny_bind (wpAny_seqItems h2 rfl (wpAny_pure (wpAny_pure ?_)))
  have e1 : ((some (rawInt b :: rawInt e :: spans k b e).toArray).getD #[]).map reRawOf = ((rawInt b :: rawInt e :: spans k b e).map reRawOf).toArray := by simp
  rw [e1]
  refine wpAny_bind (wpAny_mono (h li T) (fun g s₁ h₁ => wpAny_bind (wpAny_mono h₁ (fun r s₂ h₂ => wpAny_pure ⟨_, rfl, h₂⟩) fun _ _ x => x)) fun _ _ x => x)

theorem spans_size (k b e : Nat) : ((rawInt b :: rawInt e :: spans k b e).map reRawOf).toArray.size = 8 := by
  unfold spans
  split <;> rfl

/-- group(0) -/
theorem group0 {F : Addr} {l : List Nat} {t : Tok} {k b e : Nat} {u : Tok} {Q : Value → Shared → Prop} (X : Mt s.heap l t k b e F) (hl : l.length ≤ 1000)
    (h : ∀ t' tk, Q (.str (str ((l.drop b).take (e - b))) t') { s with toks := tk }) :
    wpAny (model prog w) A (call (.builtin "re.Match.group") [.ref F, .int 0 u]) Q E s := by
  refine group_entry X fun li T => ?_
  unfold reGroupNumber
  refine wpAny_bind (wpAny_pure ?_)
  refine wpAny_bind (m := asIndex (.int 0 u)) ?_
  unfold asIndex
  refine wpAny_bind (wpAny_pure (wpAny_pure ?_))
  dsimp only
  rw [show (fnd l t k b e li T).spans.size = 8 from spans_size k b e]
  refine wpAny_pure ?_
  unfold reGroupText
  show wpAny _ _ (if decide ((b : Int) < 0) || decide ((e : Int) < 0) then _ else _) _ _ s
  rw [if_neg (by simp)]
  unfold reTextOf
  refine wpAny_bind (wpAny_bind (wpAny_pure (wpAny_pure ?_)))
  show wpAny _ _ (mkStr ⟨l.toArray.extract (b : Int).toNat (e : Int).toNat⟩) _ _ s
  rw [Int.toNat_natCast, Int.toNat_natCast, ext_eq]
  refine wpAny_mkStr (h _ _) ?_
  rw [str_len, List.length_take, List.length_drop, sizeLine_eq]; omega

theorem pat_map {h : Heap} {pr : Program} {w : World} (X : Pat w.params h) : h.MapOf (PySem.strKind pr w) 33 (fun x => if x = PySem.Str.ofString "set" then some (.int 2 346) else none) := by
  refine ⟨_, _, _, X.d, ⟨rfl, rfl, rfl⟩, rfl, fun e he => ?_, fun k => ?_⟩
  · simp only [List.mem_toArray, List.mem_singleton] at he
    subst he
    exact ⟨PySem.Str.ofString "set", by simp [PySem.strKind, Value.isStrOf], rfl⟩
  · by_cases hk : k = PySem.Str.ofString "set"
    · subst hk
      simp [findBy, PySem.strKind, Value.isStrOf]
    · have hk' : ¬ PySem.Str.ofString "set" = k := fun e => hk e.symm
      simp [findBy, PySem.strKind, Value.isStrOf, hk, hk']

/-- group('set') -/
theorem groupSet {F : Addr} {l : List Nat} {t : Tok} {k b e : Nat} {u : Tok} {Q : Value → Shared → Prop} (X : Mt s.heap l t k b e F) (P : Pat w.params s.heap) (hl : l.length ≤ 1000)
    (h : ∀ v tk, (v = .none ↔ k ≠ 1) → (∀ a, v ≠ .ref a) → Q v { s with toks := tk }) :
    wpAny (model prog w) A (call (.builtin "re.Match.group") [.ref F, .str "set" u]) Q E s := by
  obtain ⟨v0, v1, v4, hp⟩ := P.p
  refine group_entry X fun li T => ?_
  unfold reGroupNumber
  refine wpAny_bind (wpAny_pure ?_)
  refine wpAny_bind (wpAny_specialOf (typeIs_str _ _ _) str_no_index ?_)
  refine wpAny_bind (wpAny_fieldsOf hp rfl ?_)
  refine wpAny_bind (wpAny_dictGet_of (knd := PySem.strKind prog w) (k := PySem.Str.ofString "set") (by simp [PySem.strKind, Value.isStrOf]) (pat_map P) ?_)
  rw [if_pos rfl]
  refine wpAny_bind (wpAny_pure (wpAny_bind (wpAny_pure ?_)))
  dsimp only
  rw [show (fnd l t k b e li T).spans.size = 8 from spans_size k b e]
  refine wpAny_pure ?_
  unfold reGroupText
  by_cases hk : k = 1
  · subst hk
    show wpAny _ _ (if decide ((b : Int) < 0) || decide ((e : Int) < 0) then _ else _) _ _ _
    rw [if_neg (by simp)]
    unfold reTextOf
    refine wpAny_bind (wpAny_bind (wpAny_pure (wpAny_pure ?_)))
    show wpAny _ _ (mkStr ⟨l.toArray.extract (b : Int).toNat (e : Int).toNat⟩) _ _ _
    rw [Int.toNat_natCast, Int.toNat_natCast, ext_eq]
    refine wpAny_mkStr (h _ _ (by simp) (by simp)) ?_
    rw [str_len, List.length_take, List.length_drop, sizeLine_eq]; omega
  · have e0 : (fnd l t k b e li T).spans.getD (2 * Int.toNat ((some 2).getD (-1))) (-1) = -1 := by
      match k, hk with
      | 0, _ => rfl
      | k + 2, _ => rfl
    rw [e0]
    refine wpAny_pure (h _ _ (by simp [hk]) (by simp))
end
end Wk
end Mine
end

section
open PySem PySem.W PyProof.Rows
set_option maxRecDepth 100000
set_option maxHeartbeats 2000000
namespace Mine
namespace Wk
open PySem.Calls PySem.Builtin PySem.Builtin.Str Mine.Pl Mine.Tx PySem.Builtin.Re

theorem find_spec : ∀ {l : List Nat} {a k n : Nat}, Rx.find l = some (a, k, n) → a + n ≤ l.length ∧ 0 < n ∧ k ≤ 2 ∧ (k = 0 → ∃ c r, (l.drop a).take n = c :: r ∧ c ≠ 91) ∧ (k = 1 → 2 ≤ n) ∧ (k = 2 → ∃ r, (l.drop a).take n = 91 :: r)
  | [], _, _, _, h => by simp [Rx.find] at h
  | c :: r, a, k, n, h => by
    by_cases hc : c = 91
    · subst hc
      cases hs : Rx.setLen r with
      | some m =>
        rw [find_set hs] at h
        cases h
        have := setLen_lt hs
        refine ⟨by simp only [List.length_cons]; omega, by omega, by decide, (fun h => by cases h), fun _ => by omega, (fun h => by cases h)⟩
      | none =>
        cases hr : r.contains 93 with
        | false =>
          rw [find_open hs hr] at h
          cases h
          refine ⟨by simp, by omega, by decide, (fun h => by cases h), (fun h => by cases h), fun _ => ⟨r, by simp⟩⟩
        | true =>
          rw [find_skip hs hr, Option.map_eq_some_iff] at h
          obtain ⟨⟨a', k', n'⟩, h', e⟩ := h
          cases e
          obtain ⟨h1, h2, h3, h4, h5, h6⟩ := find_spec h'
          exact ⟨by simp only [List.length_cons]; omega, h2, h3, h4, h5, h6⟩
    · rw [find_plain hc] at h
      cases h
      have e : ((c :: r).takeWhile (· != 91)) = c :: r.takeWhile (· != 91) := by simp [hc]
      have hle := (List.takeWhile_sublist (l := c :: r) (p := (· != 91))).length_le
      refine ⟨by simpa using hle, by rw [e]; simp, by decide, fun _ => ?_, (fun h => by cases h), (fun h => by cases h)⟩
      rw [e]
      refine ⟨c, (r.take (r.takeWhile (· != 91)).length), ?_, hc⟩
      simp

section
variable {M : Model} {A : Around} {E : Value → Shared → Prop} {s : Shared} {env : Env}
theorem partc {i : Int} {k : Nat} {pos : Pos} {Q : Value → Shared → Prop} (h : Q (.int i s.toks) { s with toks := s.toks + 1 }) : wpAny M A (evalPart (some (.Constant (.int i) k pos)) env) Q E s := wpAny_Constant_int (k := k) (pos := pos) h
end

section
variable {prog : Program} {w : World} {A : Around} {E : Value → Shared → Prop} {s : Shared} {mg mb : PySem.Str → Option Value}
theorem partn {k : Nat} {pos pos' : Pos} {env : Env} {Q : Value → Shared → Prop} (h : ∀ t tk, Q (.int (-1) t) { s with toks := tk }) : wpAny (model prog w) A (evalPart (some (.UnaryOp .USub (.Constant (.int 1) k pos) pos')) env) Q E s := neg1 h

/-- separate: a new iterator over a new scanner -/
theorem separate_spec {R : Result → Shared → Prop} {l : List Nat} {t : Tok} (G : Gl mg mb s.heap) (N : Nm mg mb) (X : Pat w.params s.heap) (hroom : A.depth < recursionLimit) (hn : l.length ≤ 1000)
    (hR : ∀ s' S, Mv s s' → (∀ b o, s.heap.get? b = some o → s'.heap.get? b = some o) → s.heap.get? S = none → s.heap.get? (S + 1) = none → s.heap.get? (S + 2) = none →
      (∃ o, s'.heap.get? S = some o ∧ scn l t 0 false o) → (∃ o, s'.heap.get? (S + 1) = some o ∧ bnd S o) → (∃ o, s'.heap.get? (S + 2) = some o ∧ itr (S + 1) o) → R (.ok (.ret (.ref (S + 2)))) s') :
    codeAny (model prog w) A (.call (.ref 43) ⟨[.str (str l) t], []⟩) R s := by
  refine enter (binds := [("pattern", .str (str l) t)]) G.separate G.lim hroom (fun _ _ _ => rfl) (locs rfl) (fun L cd h₁ F => ?_) rfl rfl rfl (by decide)
  have F0 : Fm s.heap L [("pattern", .str (str l) t)] [] h₁ := Fm.start F (fun p hp => by rw [List.mem_singleton.mp hp]; rfl)
  have G1 : Gl mg mb h₁ := G.keeps fun b o e => F0.keep e
  have X1 : Pat w.params h₁ := X.keeps fun b o e => F0.keep e
  obtain ⟨v0, v1, v4, hp⟩ := X1.p
  refine wpAny_execs_cons (wpAny_Return_some (MethodCall_ (gv G1 N.twin (getMethod_builtin (T := "re.Pattern") ⟨_, hp, rfl⟩ Fc.plainAttrs_pattern Fc.slot_finditer Fc.type_finditer (fun a e => by cases e; exact ⟨_, hp, rfl⟩) (cw1 (ldv F0 (.head _) (finditer_spec X1 (by omega) ?_)))))))
  have F1 := F0.push { cls := .type "_sre.SRE_Scanner", data := .fields #[.ref 36, .str (str l) t, rawInt 0, rawInt 0, rawInt l.length, .bool false] } (P := scn l t 0 false) rfl
  have F2 := F1.push { cls := .type "builtin_function_or_method", data := .fields #[.builtin "_sre.SRE_Scanner.search", .ref h₁.objs.size] } (P := bnd h₁.objs.size) rfl
  have F3 := F2.push { cls := .type "callable_iterator", data := .fields #[.ref (h₁.objs.size + 1), .none, .bool false] } (P := itr (h₁.objs.size + 1)) rfl
  simp only [Heap.size_push] at F3
  have n3 := F3.nw (_, itr (h₁.objs.size + 1)) (.head _)
  have n2 := F3.nw (_, bnd h₁.objs.size) (.tail _ (.head _))
  have n1 := F3.nw (_, scn l t 0 false) (.tail _ (.tail _ (.head _)))
  exact hR _ h₁.objs.size ⟨_, _, rfl⟩ (fun b o e => F3.keep e) n1.2.2 n2.2.2 n3.2.2 n1.1 n2.1 n3.1

def HeadQ (h₀ : Heap) (L g : Addr) (T : Value) (xs : List (List Nat)) (rest : List Thing) (s : Shared) (f : Flow) (s' : Shared) : Prop :=
  (f = .next ∨ f = .cont) ∧ Mv s s' ∧ ∃ ys : List (PySem.Str × Tok), ys.map (·.1) = xs.map str ∧ Fm h₀ L ([("text", T), ("written", .ref g)] : Vars) ((g, lst (strValues ys)) :: rest) s'.heap
abbrev headBody : List Stmt := (D 9).body[1]?.elim [] fun | .For _ _ body _ _ => body | _ => []

theorem header_body {h₀ : Heap} {L g Fa Ta : Addr} {oF oT : Obj} {cd T : Value} {l : List Nat} {t : Tok} {k b e : Nat} {xs : List (List Nat)} {ys : List (PySem.Str × Tok)} {rest : List Thing}
    (G : Gl mg mb h₀) (N : Nm mg mb) (X : Pat w.params h₀) (hroom : A.depth + 1 < recursionLimit) (hl : l.length ≤ 1000) (hxs : xs.length ≤ 5000)
    (hM : ∀ h, h.get? Fa = some oF → h.get? Ta = some oT → Mt h l t k b e Fa) (hk2 : k ≤ 2)
    (hk0 : k = 0 → ∃ c r, (l.drop b).take (e - b) = c :: r ∧ c ≠ 91) (hk1 : k = 1 → 2 ≤ ((l.drop b).take (e - b)).length) (hk3 : k = 2 → ∃ r, (l.drop b).take (e - b) = 91 :: r)
    (hy : ys.map (·.1) = xs.map str)
    (Fb : Fm h₀ L ([("text", T), ("written", .ref g), ("found", .ref Fa)] : Vars) ((g, lst (strValues ys)) :: (Fa, fun o => o = oF) :: (Ta, fun o => o = oT) :: rest) s.heap) :
    wpAny (model prog w) A (execs headBody (envOf (D 9).name (D 9).scope L 69 cd)) (HeadQ h₀ L g T (xs ++ [write k ((l.drop b).take (e - b))]) ((Fa, fun o => o = oF) :: (Ta, fun o => o = oT) :: rest) s) (fun _ _ => False) s := by
  have hsl : sizeLine = 16777216 := sizeLine_eq
  have mt : ∀ {vs : Vars} {P : Obj → Prop} {h : Heap}, Fm h₀ L vs ((g, P) :: (Fa, fun o => o = oF) :: (Ta, fun o => o = oT) :: rest) h → Mt h l t k b e Fa := by
    intro vs P h F
    obtain ⟨o1, e1, rfl⟩ := F.thing (.tail _ (.head _))
    obtain ⟨o2, e2, rfl⟩ := F.thing (.tail _ (.tail _ (.head _)))
    exact hM h e1 e2
  have gm : ∀ {s₁ : Shared} {pl : Sem Bool} {Q : Value × List Value → Shared → Prop}, Mt s₁.heap l t k b e Fa → Q (.builtin "re.Match.group", [.ref Fa]) s₁ → wpAny (model prog w) A (getMethod (.ref Fa) "group" pl) Q (fun _ _ => False) s₁ := by
    intro s₁ pl Q X hQ
    obtain ⟨li, T, h1, _⟩ := X.m
    exact getMethod_builtin (T := "re.Match") ⟨_, h1, rfl⟩ Fc.plainAttrs_match Fc.slot_group Fc.type_group (fun a e => by cases e; exact ⟨_, h1, rfl⟩) hQ
  refine wpAny_execs_cons (wpAny_Assign_Name (MethodCall_ (ldv Fb (.tail _ (.tail _ (.head _))) (gm (mt Fb) (cw1 (wpAny_Constant_int (group0 (mt Fb) hl fun t1 k1 => stv Fb fun h₁ F1 => ?_)))))))
  have F1' : Fm h₀ L ([("text", T), ("written", .ref g), ("found", .ref Fa), ("piece", .str (str ((l.drop b).take (e - b))) t1)] : Vars) ((g, lst (strValues ys)) :: (Fa, fun o => o = oF) :: (Ta, fun o => o = oT) :: rest) h₁ := F1
  clear F1 Fb
  have hxl : ((l.drop b).take (e - b)).length ≤ 1000 := by rw [List.length_take, List.length_drop]; omega
  generalize (l.drop b).take (e - b) = x at F1' hk0 hk1 hk3 hxl
  dsimp only
  have G1 : Gl mg mb h₁ := G.keeps fun b o e => F1'.keep e
  have X1 : Pat w.params h₁ := X.keeps fun b o e => F1'.keep e
  have hyl : (strValues ys).length ≤ sizeLine := by have := congrArg List.length hy; rw [List.length_map, List.length_map] at this; rw [strValues_len, this, hsl]; omega
  have fin : ∀ {s₁ : Shared} {y : List Nat} {u : Tok} , Mv s s₁ → Fm h₀ L ([("text", T), ("written", .ref g), ("found", .ref Fa), ("piece", .str (str x) t1)] : Vars) ((g, lst (strValues ys)) :: (Fa, fun o => o = oF) :: (Ta, fun o => o = oT) :: rest) s₁.heap → y = write k x →
      wpAny (model prog w) A (call (.builtin "list.append") [.ref g, .str (str y) u]) (fun v s₂ => match v with | .ref _ => False | _ => HeadQ h₀ L g T (xs ++ [write k x]) ((Fa, fun o => o = oF) :: (Ta, fun o => o = oT) :: rest) s .next s₂) (fun _ _ => False) s₁ := by
    intro s₁ y u hmv F hw
    refine appendv F (fun h' F' => ⟨.inl rfl, hmv.trans ⟨_, _, rfl⟩, ys ++ [(str y, u)], by simp [hy, hw], ?_⟩) hyl
    rw [strValues_snoc]
    exact F'.vars fun p hp => List.mem_append_left ([("found", .ref Fa), ("piece", .str (str x) t1)] : Vars) hp
  refine wpAny_execs_cons (wpAny_If (wpAny_isTrue_Compare1 (MethodCall_ (ldv F1' (.tail _ (.tail _ (.head _))) (gm (mt F1') (cw1 (Constant_str (groupSet (mt F1') X1 hl fun v k2 hv hvr => ?_))))))))
  refine wpAny_pure (isnot_none_gen (wpAny_truthy_bool ?_))
  have q34 : ∀ y, PySem.Str.ofString "\"" ++ str y = str (34 :: y) := fun y => by rw [lit34]; exact str_append [34] y
  have q34' : ∀ y, str y ++ PySem.Str.ofString "\"" = str (y ++ [34]) := fun y => by rw [lit34]; exact str_append y [34]
  have n34 : (PySem.Str.ofString "\"").length = 1 := by rw [lit34]; rfl
  have hx2 : ∀ y : List Nat, y.length ≤ 1000 → (held y).length ≤ 2000 := fun y hy => by have := held_len y; omega
  by_cases h1 : k = 1
  · have hv' : (!(v == .none)) = true := by
      have : v ≠ .none := fun e => (hv.mp e) h1
      simpa using this
    rw [hv']
    have hx := hk1 h1
    refine wpAny_execs_cons (wpAny_Expr (MethodCall_ (ldv F1' (.tail _ (.head _)) (getAppendv F1' (cw1 (wpAny_BinOp (wpAny_BinOp (Constant_str (cf1 (a := 62) (d := D 8) (gv G1 N.held ⟨rfl, Subscript_ (ldv F1' (.tail _ (.tail _ (.tail _ (.head _)))) (wpAny_Slice (partc (partn fun _ _ => wpAny_pure ?_))))⟩))))))))))
    refine sliceMid F1' hx (by omega) fun h₂ t2 k2 F2 => ?_
    have G2 : Gl mg mb h₂ := G.keeps fun b o e => F2.keep e
    have hm : ((x.drop 1).dropLast).length ≤ 1000 := by simp only [List.length_dropLast, List.length_drop]; omega
    refine ⟨G2.held, held_spec G2.held G2.lim (by omega) hm fun s₃ t3 hmv hk => ?_⟩
    have hh := hx2 _ hm
    refine add_str (fun t4 k4 => ?_) (by rw [n34, str_len]; omega)
    rw [q34]
    refine Constant_str (add_str (fun t5 k5 => ?_) (by rw [n34, str_len]; simp only [List.length_cons]; omega))
    rw [q34']
    refine wpAny_mono (fin (s₁ := { s₃ with toks := k5 }) ?_ (F2.grown hk) ?_) (fun v s₁ h => by cases v <;> first | exact h.elim | exact wpAny_execs_nil (wpAny_execs_nil h)) fun _ _ h => h
    · exact Mv.trans (Mv.trans ⟨_, _, rfl⟩ hmv) ⟨_, _, rfl⟩
    · simp [write, h1]
  · have hv' : (!(v == .none)) = false := by
      have : v = .none := hv.mpr h1
      rw [this]; rfl
    rw [hv']
    obtain ⟨c, r, rfl, hc⟩ : ∃ c r, x = c :: r ∧ (c = 91 ↔ k = 2) := by
      by_cases h2 : k = 2
      · obtain ⟨r, hr⟩ := hk3 h2
        exact ⟨91, r, hr, by simp [h2]⟩
      · obtain ⟨c, r, hr, hc⟩ := hk0 (by omega)
        exact ⟨c, r, hr, by simp [h2, hc]⟩
    refine wpAny_execs_cons (wpAny_If (wpAny_isTrue_Compare1 (Subscript_ (ldv F1' (.tail _ (.tail _ (.tail _ (.head _)))) (wpAny_Constant_int (subscriptTail_builtin (typeIs_str _ _ _) PySem.F.slot_str_getitem.lookup (P.getItem_str (c := c) (by decide) (StrLaws.at_nonneg (by decide) rfl) (Constant_str (eq_str (wpAny_truthy_bool ?_))))))))))
    rw [show ((⟨#[c]⟩ : PySem.Str) == PySem.Str.ofString "[") = (c == 91) by rw [lit91, one_eq]]
    by_cases h2 : k = 2
    · rw [show (c == 91) = true by simpa using hc.mpr h2]
      refine wpAny_execs_cons (wpAny_Expr (MethodCall_ (ldv F1' (.tail _ (.head _)) (getAppendv F1' (cw1 (wpAny_BinOp (Constant_str (cf1 (a := 62) (d := D 8) (gv G1 N.held ⟨rfl, Subscript_ (ldv F1' (.tail _ (.tail _ (.tail _ (.head _)))) (wpAny_Slice (partc (wpAny_pure (wpAny_pure ?_)))))⟩)))))))))
      refine sliceFrom (k := 1) F1' (by simp) (by omega) fun h₂ t2 k2 F2 => ?_
      have G2 : Gl mg mb h₂ := G.keeps fun b o e => F2.keep e
      have hm : ((c :: r).drop 1).length ≤ 1000 := by simp only [List.length_drop]; omega
      refine ⟨G2.held, held_spec G2.held G2.lim (by omega) hm fun s₃ t3 hmv hk => ?_⟩
      have hh := hx2 _ hm
      refine add_str (fun t4 k4 => ?_) (by rw [n34, str_len]; omega)
      rw [q34]
      refine wpAny_mono (fin (s₁ := { s₃ with toks := k4 }) ?_ (F2.grown hk) ?_) (fun v s₁ h => by cases v <;> first | exact h.elim | exact wpAny_execs_nil (wpAny_execs_nil (wpAny_execs_nil h))) fun _ _ h => h
      · exact Mv.trans (Mv.trans ⟨_, _, rfl⟩ hmv) ⟨_, _, rfl⟩
      · simp [write, h2]
    · rw [show (c == 91) = false by simpa using fun e => h2 (hc.mp e)]
      refine wpAny_execs_cons (wpAny_Expr (MethodCall_ (ldv F1' (.tail _ (.head _)) (getAppendv F1' (cw1 (MethodCall_ (ldv F1' (.tail _ (.tail _ (.tail _ (.head _)))) (GM.replace (callWith_2 ?_)))))))))
      refine replaceM (by simp) (by simp) (by simp) (by decide) (by rw [lit39, str_len]; show _ + _ * 1 ≤ _; omega) fun t3 k3 _ => ?_
      rw [show Txt.replace (str (c :: r)) (PySem.Str.ofString "\"") (PySem.Str.ofString "'") = str ((c :: r).map q2) by rw [lit34, lit39, replace_eq, q2_eq]]
      refine wpAny_mono (fin (s₁ := { s with heap := h₁, toks := k3 }) ⟨_, _, rfl⟩ F1' ?_) (fun v s₁ h => by cases v <;> first | exact h.elim | exact wpAny_execs_nil (wpAny_execs_nil (wpAny_execs_nil h))) fun _ _ h => h
      simp [write, h1, h2]
end
end Wk
end Mine
end

section
open PySem PySem.W PyProof.Rows
set_option maxRecDepth 100000
set_option maxHeartbeats 2000000
namespace Mine
namespace Wk
open PySem.Calls PySem.Builtin PySem.Builtin.Str Mine.Pl Mine.Tx PySem.Builtin.Re

abbrev tupO (k b e : Nat) : Obj := { cls := .type "tuple", data := .seq (rawInt b :: rawInt e :: spans k b e).toArray }
abbrev mtcO (l : List Nat) (t : Tok) (li : Int) (T : Addr) : Obj := { cls := .type "re.Match", data := .fields #[.str (str l) t, .ref 36, rawInt 0, rawInt l.length, rawInt li, .ref T] }
theorem mtc_Mt {h : Heap} {l : List Nat} {t : Tok} {k b e : Nat} {li : Int} {F T : Addr} (h1 : h.get? F = some (mtcO l t li T)) (h2 : h.get? T = some (tupO k b e)) : Mt h l t k b e F := ⟨li, T, h1, _, h2⟩

section
variable {M : Model} {A : Around} {E : Value → Shared → Prop} {s : Shared}

theorem drive_spec {Q : Sre.M → Shared → Prop} : ∀ (turns n : Nat) (m m' : Sre.M), Rx.Go n m m' → m'.outcome.isSome = true → n < 4 * turns → Q m' s → wpAny M A (reDrive turns m) Q E s
  | 0, n, m, m', _, _, hn, _ => by omega
  | turns + 1, n, m, m', g, h, hn, hq => by
    have g1 := Rx.go_runFor 4 g h
    unfold reDrive
    show wpAny M A (if (m.runFor 4).outcome.isSome = true then pure (m.runFor 4) else do rule "sre.turn"; reDrive turns (m.runFor 4)) Q E s
    generalize m.runFor 4 = m₁ at g1
    generalize hn4 : n - 4 = n4 at g1
    cases ho : m₁.outcome.isSome with
    | true =>
      rw [if_pos rfl]
      cases g1 with
      | refl => exact wpAny_pure hq
      | step hno _ => rw [hno] at ho; cases ho
    | false =>
      rw [if_neg Bool.false_ne_true]
      refine wpAny_bind (wpAny_rule ?_)
      have : 4 < n ∨ n ≤ 4 := by omega
      rcases this with h4 | h4
      · exact drive_spec turns n4 m₁ m' g1 h (by omega) hq
      · cases g1 with
        | refl => rw [h] at ho; cases ho
        | step => omega

theorem rules_spec {f : Nat → PUnit → Sem (ForInStep PUnit)} {Q : PUnit → Shared → Prop} (hf : ∀ i r, f i r = pure (.yield ⟨⟩) ∨ ∃ tag, f i r = (rule tag >>= fun _ => pure (.yield ⟨⟩))) (hq : Q ⟨⟩ s) : ∀ l : List Nat, wpAny M A (forIn l PUnit.unit f) Q E s
  | [] => by simp only [List.forIn_nil]; exact wpAny_pure hq
  | i :: l => by
    rw [List.forIn_cons]
    refine wpAny_bind ?_
    rcases hf i ⟨⟩ with e | ⟨tag, e⟩ <;> rw [e]
    · exact wpAny_pure (rules_spec hf hq l)
    · exact wpAny_bind (wpAny_rule (wpAny_pure (rules_spec hf hq l)))

theorem toEnd_spec {n : Nat} {m m' : Sre.M} {Q : Option Sre.M → Shared → Prop} (g : Rx.Go n m m') (hn : n ≤ 2 ^ 60) 
    (h : (m'.outcome = some .matched ∧ Q (some m') s) ∨ (m'.outcome = some .failed ∧ Q none s)) : wpAny M A (reRunToEnd m) Q E s := by
  unfold reRunToEnd
  refine wpAny_bind (drive_spec (2 ^ 64) n m m' g (by rcases h with h | h <;> rw [h.1] <;> rfl) (Nat.lt_of_le_of_lt hn (by decide)) ?_)
  refine wpAny_bind (rules_spec (fun i r => ?_) ?_ _)
  · by_cases hs : m'.seen.has i = true
    · exact .inr ⟨Sre.names.getD i "", by rw [if_pos hs]⟩
    · exact .inl (by rw [if_neg hs])
  rcases h with ⟨h, hq⟩ | ⟨h, hq⟩ <;> rw [h] <;> exact wpAny_pure hq

theorem newMatch_spec {l : List Nat} {t : Tok} {b e k : Nat} {m : Sre.M} {Q : Value → Shared → Prop} (hd : Rx.Done b e k m) (hk : k ≤ 2) (hbe : b ≤ e)
    (hq : ∀ li, Q (.ref (s.heap.objs.size + 1)) { s with heap := (s.heap.push (tupO k b e)).push (mtcO l t li s.heap.objs.size) }) :
    wpAny M A (reNewMatch (.ref 36) (.str (str l) t) 3 0 l.length m) Q E s := by
  have hsp : ((List.range 3).flatMap fun g =>
    match if ((2 * g + 1 : Nat) : Int) ≤ m.lastmark then (m.marks.getD (2 * g) none, m.marks.getD (2 * g + 1) none) else (none, none) with
    | (some b, some e) => [rawInt (b : Int), rawInt (e : Int)]
    | _ => [rawInt (-1), rawInt (-1)]) = spans k b e := by
    have h3 : List.range 3 = [0, 1, 2] := rfl
    rw [h3]
    simp only [List.flatMap_cons, List.flatMap_nil]
    match k, hk with
    | 0, _ =>
      rw [if_pos (by rw [hd.last]; decide), if_neg (by rw [hd.last]; decide), if_neg (by rw [hd.last]; decide), hd.lo, hd.hi]
      rfl
    | 1, _ =>
      rw [if_pos (by rw [hd.last]; decide), if_pos (by rw [hd.last]; decide), if_neg (by rw [hd.last]; decide), hd.lo, hd.hi, hd.low 0 (by decide), hd.low 1 (by decide)]
      rfl
    | 2, _ =>
      rw [if_pos (by rw [hd.last]; decide), if_pos (by rw [hd.last]; decide), if_pos (by rw [hd.last]; decide), hd.lo, hd.hi, hd.low 0 (by decide), hd.low 1 (by decide), hd.low 2 (by decide), hd.low 3 (by decide)]
      rfl
  have hany : ((List.range 3).any (fun g => match m.marks.getD (2 * g) none, m.marks.getD (2 * g + 1) none with | some b, some e => decide (((2 * g + 1 : Nat) : Int) ≤ m.lastmark) && decide (e < b) | _, _ => false)) = false := by
    rw [List.any_eq_false]
    intro g hg
    by_cases h1 : g < k
    · rw [hd.low (2 * g) (by omega)]; simp
    · by_cases h2 : g = k
      · subst h2
        rw [hd.lo, hd.hi]
        simp; omega
      · have : ¬ (((2 * g + 1 : Nat) : Int) ≤ m.lastmark) := by rw [hd.last]; omega
        split
        · rw [decide_eq_false this]; simp
        · simp
  unfold reNewMatch
  dsimp only
  generalize hz : List.flatMap _ (List.range 3) = z
  obtain rfl : z = spans k b e := hz.symm.trans hsp
  generalize hz2 : List.any (List.range 3) _ = z2
  obtain rfl : z2 = false := hz2.symm.trans hany
  rw [if_neg Bool.false_ne_true]
  refine wpAny_bind (wpAny_newTuple ?_ ?_)
  · refine wpAny_newObj_type ?_
    have := hq m.lastindex
    rw [hd.start, hd.handed]
    simpa [Heap.size_push] using this
  · rw [sizeLine_eq]; unfold spans; split <;> simp
end

section
variable {prog : Program} {w : World} {A : Around} {E : Value → Shared → Prop} {s : Shared}

theorem ask_M1 {stop : String} {Q : Unit → Shared → Prop} (h : Q () s) : wpAny (M₁ prog w) A (noCollectionInside stop) Q E s := by
  unfold noCollectionInside
  refine wpAny_bind (wpAny_runValue (codeAny_of_tree ?_))
  rw [show (M₁ prog w).den (.builtin "gc.ask" ⟨[rawInt 13], []⟩) = .pure (.done (.ret (.bool false))) from den₁_of (c := .builtin "gc.ask" ⟨[rawInt 13], []⟩) (by simp [isAsk, rawInt])]
  exact wpAny_pure (wpAny_pure h)

theorem wholeTarget_spec {l : List Nat} {t : Tok} {Q : ReTarget → Shared → Prop} (X : Pat w.params s.heap)
    (hq : Q { pattern := .ref 36, string := .str (str l) t, code := Rx.code, text := l.toArray, kind := 0, groups := 3, pos := 0, lim := l.length } s) :
    wpAny (model prog w) A (reWholeTarget (.ref 36) (.str (str l) t)) Q E s := by
  obtain ⟨v0, v1, v4, hp⟩ := X.p
  obtain ⟨items, n, hc, hcode⟩ := X.c
  unfold reWholeTarget
  refine wpAny_bind (wpAny_fieldsOf hp rfl ?_)
  refine wpAny_bind ?_
  unfold reTextOf
  refine wpAny_bind (wpAny_pure (wpAny_pure ?_))
  refine wpAny_bind ?_
  unfold reNoCollectionInside
  refine wpAny_pure ?_
  refine wpAny_bind ?_
  unfold reRawItems
  refine wpAny_bind (wpAny_seqItems hc rfl (wpAny_pure (wpAny_pure ?_)))
  rw [show ((some items).getD #[]).map reRawOf = items.map reRawOf from rfl, hcode]
  have e3 : ∀ b : Nat, b = l.length → Q { pattern := .ref 36, string := .str (str l) t, code := Rx.code, text := (str l).cps, kind := 0, groups := reRawNat (#[v0, v1, Value.int 3 0, Value.ref 33, v4, Value.ref 35, Value.int 0 0].getD 2 Value.none), pos := 0, lim := b } s := by
    intro b hb; rw [hb]; exact hq
  exact e3 _ (by simp)

abbrev scnO (l : List Nat) (t : Tok) (p : Int) (must : Bool) : Obj := { cls := .type "_sre.SRE_Scanner", data := .fields #[.ref 36, .str (str l) t, rawInt p, rawInt 0, rawInt l.length, .bool must] }
theorem scn_set2 (l : List Nat) (t : Tok) (p q : Int) (m : Bool) : Obj.mapFields (·.setIfInBounds 2 (rawInt q)) (scnO l t p m) = scnO l t q m := rfl
theorem scn_set5 (l : List Nat) (t : Tok) (p : Int) (m m' : Bool) : Obj.mapFields (·.setIfInBounds 5 (.bool m')) (scnO l t p m) = scnO l t p m' := rfl

/-- the scanner's step, in the second model -/
theorem scan_spec {S : Addr} {l : List Nat} {t : Tok} {p : Nat} {Q : Fin → Shared → Prop} (hS : s.heap.get? S = some (scnO l t p false)) (X : Pat w.params s.heap) (hp : p ≤ l.length) (hl : l.length ≤ 1000)
    (h0 : Rx.find (l.drop p) = none → ∀ h', (∃ o, h'.get? S = some o) → Heap.SameBut S s.heap h' → Q (.done (.ret .none)) { s with heap := h' })
    (h1 : ∀ a k n, Rx.find (l.drop p) = some (a, k, n) → ∀ h' li, h'.get? S = some (scnO l t ((p + a + n : Nat) : Int) false) → Heap.SameBut S s.heap h' →
      Q (.done (.ret (.ref (h'.objs.size + 1)))) { s with heap := (h'.push (tupO k (p + a) (p + a + n))).push (mtcO l t li h'.objs.size) }) :
    wpAny (M₁ prog w) A (Builtin.«_sre.SRE_Scanner.search» ⟨[.ref S], []⟩) Q E s := by
  obtain ⟨m, g, hm⟩ := Rx.found (t := l.toArray) (by simpa using hl) (p := p) (by simpa using hp)
  unfold Builtin.«_sre.SRE_Scanner.search» reScan
  refine wpAny_bind (wpAny_fieldsOf hS rfl ?_)
  dsimp only
  rw [show (reRawOf (#[Value.ref 36, .str (str l) t, rawInt p, rawInt 0, rawInt l.length, .bool false].getD 2 .none)) = (p : Int) from rfl]
  rw [if_neg (by omega)]
  refine wpAny_bind (ask_M1 ?_)
  refine wpAny_bind (any_M₁ (wholeTarget_spec X ?_))
  dsimp only
  rw [if_pos rfl]
  refine wpAny_bind ?_
  have e1 : (Sre.forSearch Rx.code l.toArray 3 ((p : Int).toNat) (reRawNat (#[Value.ref 36, .str (str l) t, rawInt p, rawInt 0, rawInt l.length, .bool false].getD 4 .none)) (#[Value.ref 36, .str (str l) t, rawInt p, rawInt 0, rawInt l.length, .bool false].getD 5 .none == .bool true))
     = Sre.forSearch Rx.code l.toArray 3 p l.toArray.size false := by
    rw [Int.toNat_natCast]
    rw [show (reRawNat (#[Value.ref 36, .str (str l) t, rawInt p, rawInt 0, rawInt l.length, .bool false].getD 4 .none)) = l.length from Int.toNat_natCast _]
    simp
    rfl
  rw [e1]
  rw [show l.toArray.toList.drop p = l.drop p by simp] at hm
  cases hf : Rx.find (l.drop p) with
  | none =>
    rw [hf] at hm
    refine toEnd_spec g (Nat.le_refl _) (.inr ⟨hm, ?_⟩)
    refine wpAny_bind (wpAny_setField hS rfl (by simp) (wpAny_pure (h0 hf _ ⟨_, Heap.get?_update_self _ hS rfl⟩ (Heap.SameBut.update ..))))
  | some x =>
    obtain ⟨a, k, n⟩ := x
    rw [hf] at hm
    have hd : Rx.Done (p + a) (p + a + n) k m := hm
    obtain ⟨f1, f2, f3, _⟩ := find_spec hf
    refine toEnd_spec g (Nat.le_refl _) (.inl ⟨hd.out, ?_⟩)
    have g1 : (s.heap.update S (Obj.mapFields (·.setIfInBounds 2 (rawInt m.handed)))).get? S = some (scnO l t ((p + a + n : Nat) : Int) false) := by
      rw [hd.handed]
      exact (Heap.get?_update_self _ hS rfl).trans (congrArg some (scn_set2 ..))
    refine wpAny_bind (wpAny_setField hS rfl (by simp) ?_)
    refine wpAny_bind (wpAny_setField g1 rfl (by simp) ?_)
    have hne : (m.handed == m.start) = false := by rw [hd.handed, hd.start]; simp; omega
    rw [hne]
    refine wpAny_bind (newMatch_spec hd f3 (by omega) fun li => wpAny_pure ?_)
    exact h1 a k n hf _ li ((Heap.get?_update_self _ g1 rfl).trans (congrArg some (scn_set5 ..))) ((Heap.SameBut.update ..).trans (Heap.SameBut.update ..))
end
end Wk
end Mine
end

section
open PySem PySem.W PyProof.Rows
set_option maxRecDepth 100000
set_option maxHeartbeats 2000000
namespace Mine
namespace Wk
open PySem.Calls PySem.Builtin PySem.Builtin.Str Mine.Pl Mine.Tx PySem.Builtin.Re

theorem sub_scanner_module : isSubtype (.type "_sre.SRE_Scanner") (.type "module") = pure false := by rw [isSubtype_type]; kernel_rfl
theorem sig_search : Manifest.signature? "_sre.SRE_Scanner.search" = some ⟨.nothing, "SRE_Scanner.search", "search", .self, []⟩ := by
  rw [signature?_of (id := "_sre.SRE_Scanner.search") (n := "search".toList.reverse) (o := "_sre.SRE_Scanner".toList.reverse) (by kernel_rfl) Fc.owner_scanner]; kernel_rfl
theorem kind_search : builtinKind "_sre.SRE_Scanner.search" = some .method := by decide +kernel
theorem var_search : Manifest.varargsMethods.contains "_sre.SRE_Scanner.search" = false := by decide +kernel

theorem search_args (S : Addr) : Bind.checkArgs "_sre.SRE_Scanner.search" { (⟨.nothing, "SRE_Scanner.search", "search", .self, []⟩ : Manifest.Signature) with full := s!"{Bind.lastOf "_sre.SRE_Scanner"}.{Bind.lastOf "_sre.SRE_Scanner.search"}" } ⟨[.ref S], []⟩ = pure () := by kernel_rfl

section
variable {prog : Program} {w : World} {A : Around} {E : Value → Shared → Prop} {s : Shared}
theorem bound_check {S : Addr} {o : Obj} {vs : Array Value} {Q : Unit → Shared → Prop} (hS : s.heap.get? S = some o) (hc : o.cls = .type "_sre.SRE_Scanner") (hd : o.data = .fields vs) (h : Q () s) :
    wpAny (model prog w) A (checkBoundCall "_sre.SRE_Scanner.search" ⟨[.ref S], []⟩) Q E s := by
  have hT : s.TypeIs (.ref S) "_sre.SRE_Scanner" := ⟨_, hS, hc⟩
  unfold checkBoundCall
  rw [sig_search, kind_search]
  dsimp only
  rw [if_neg (by decide)]
  refine wpAny_bind (wpAny_isInstance hT sub_scanner_module ?_)
  rw [var_search]
  rw [if_neg (by decide)]
  refine wpAny_bind (m := isType (.ref S)) ?_
  unfold isType
  refine wpAny_bind (wpAny_load hS ?_)
  rw [hd]
  refine wpAny_pure ?_
  refine wpAny_bind (wpAny_typeOf hT ?_)
  exact wpAny_of_eq (search_args S) h

theorem quiet_search (a : Args) : (Code.builtin "_sre.SRE_Scanner.search" a).quiet = true := Code.quiet_builtin _ (by decide +kernel)

/-- the bound search is called, in the second model -/
theorem bound_spec {B S : Addr} {l : List Nat} {t : Tok} {p : Nat} {R : Result → Shared → Prop} (hB : ∃ o, s.heap.get? B = some o ∧ bnd S o) (hS : s.heap.get? S = some (scnO l t p false)) (X : Pat w.params s.heap) (hp : p ≤ l.length) (hl : l.length ≤ 1000)
    (h0 : Rx.find (l.drop p) = none → ∀ h', (∃ o, h'.get? S = some o) → Heap.SameBut S s.heap h' → R (.ok (.ret .none)) { s with heap := h' })
    (h1 : ∀ a k n, Rx.find (l.drop p) = some (a, k, n) → ∀ h' li, h'.get? S = some (scnO l t ((p + a + n : Nat) : Int) false) → Heap.SameBut S s.heap h' →
      R (.ok (.ret (.ref (h'.objs.size + 1)))) { s with heap := (h'.push (tupO k (p + a) (p + a + n))).push (mtcO l t li h'.objs.size) }) :
    codeAny (M₁ prog w) A (.call (.ref B) ⟨[], []⟩) R s := by
  obtain ⟨o, hB, rfl⟩ := hB
  refine codeAny_of_tree ?_
  rw [show (M₁ prog w).den (.call (.ref B) ⟨[], []⟩) = callAny (.ref B) ⟨[], []⟩ from den₁_of_not (c := .call (.ref B) ⟨[], []⟩) rfl]
  unfold callAny
  refine wpAny_bind (wpAny_load hB ?_)
  dsimp only
  rw [if_pos (by decide)]
  show wpAny _ _ (if (Value.type "builtin_function_or_method" != Value.type "method") = true then (do checkBoundCall "_sre.SRE_Scanner.search" ⟨[.ref S], []⟩; again (.builtin "_sre.SRE_Scanner.search" ⟨[.ref S], []⟩)) else _) _ _ s
  rw [if_pos (by decide)]
  refine wpAny_bind (any_M₁ (bound_check hS rfl rfl (wpAny_pure ⟨quiet_search _, codeAny_of_tree ?_⟩)))
  rw [show (M₁ prog w).den (.builtin "_sre.SRE_Scanner.search" ⟨[.ref S], []⟩) = Builtin.«_sre.SRE_Scanner.search» ⟨[.ref S], []⟩ from (den₁_of_not (c := .builtin "_sre.SRE_Scanner.search" ⟨[.ref S], []⟩) (by simp [isAsk])).trans (by simp only [denote, Fc.entry_search])]
  exact scan_spec hS X hp hl h0 h1
end
end Wk
end Mine
end

section
open PySem PySem.W PyProof.Rows
set_option maxRecDepth 100000
set_option maxHeartbeats 2000000
namespace Mine
namespace Wk
open PySem.Calls PySem.Builtin PySem.Builtin.Str Mine.Pl Mine.Tx PySem.Builtin.Re

theorem slot_match_eq : Slot "re.Match" (cmpInfo .Eq).2.2 "object.__eq__" :=
  .of (owner := "object") (n := "__eq__") (by rw [typeLookup_type, builtinLookup_eq_fast]; kernel_rfl) (by decide +kernel) (by decide +kernel) (by decide +kernel)
    (by first | exact .inl (by decide +kernel) | exact .inr (by decide +kernel)) (by rw [isSubtype_type]; kernel_rfl)
theorem sub_match_none : isSubtype (.type "re.Match") (.type "NoneType") = pure false := by rw [isSubtype_type]; kernel_rfl

section
variable {α β : Type} {prog : Program} {w : World} {A : Around} {E : Value → Shared → Prop} {s : Shared}

theorem none_eq {F : Addr} {Q : Value → Shared → Prop} (h : Q .notImplemented s) : wpAny (model prog w) A (call (.builtin "NoneType.__eq__") [.none, .ref F]) Q E s := by
  refine wpAny_call_entry PySem.F.slot_NoneType_eq (T := "NoneType") rfl PySem.F.entry_NoneType_eq ?_ (PySem.F.args_NoneType_eq_2 _ _)
  obtain ⟨hp, g, d, tk, os⟩ := s
  wp_walk
  exact ⟨_, rfl, h⟩
theorem match_eq {F : Addr} {o : Obj} {Q : Value → Shared → Prop} (hF : s.heap.get? F = some o) (hc : o.cls = .type "re.Match") (h : Q .notImplemented s) : wpAny (model prog w) A (call (.builtin "object.__eq__") [.ref F, .none]) Q E s := by
  refine wpAny_call_entry slot_match_eq (T := "re.Match") ⟨_, hF, hc⟩ PySem.F.entry_object_eq ?_ (PySem.F.args_object_eq_2 _ _)
  obtain ⟨hp, g, d, tk, os⟩ := s
  wp_walk
  exact ⟨_, rfl, h⟩

theorem eqNone_spec {F : Addr} {o : Obj} {Q : Bool → Shared → Prop} (hu : A.units < cLine) (hF : s.heap.get? F = some o) (hc : o.cls = .type "re.Match") (h : Q false s) :
    wpAny (model prog w) A (eqBool .none (.ref F)) Q E s := by
  have hT : s.TypeIs (.ref F) "re.Match" := ⟨_, hF, hc⟩
  have hN : s.TypeIs .none "NoneType" := rfl
  unfold eqBool
  refine wpAny_holding ?_
  rw [if_neg (show ¬ (Value.none == Value.ref F) = true from Bool.false_ne_true)]
  refine wpAny_bind ?_
  unfold richCompare
  refine wpAny_holding (wpAny_bind (wpAny_cRoomFor hu ?_))
  rw [show oneThing? .Eq .none (.ref F) = none from rfl]
  dsimp only
  refine wpAny_bind (wpAny_typeOf hN (wpAny_bind (wpAny_typeOf hT ?_)))
  rw [if_pos (by decide)]
  refine wpAny_bind (wpAny_of_eq sub_match_none ?_)
  rw [if_neg Bool.false_ne_true]
  refine wpAny_bind (m := tryCompare .none _ (.ref F)) (wpAny_tryCompare_declines hN PySem.F.slot_NoneType_eq (none_eq ⟨rfl, ?_⟩))
  rw [if_pos (by decide)]
  refine wpAny_bind (m := tryCompare (.ref F) _ .none) (wpAny_tryCompare_declines hT slot_match_eq (match_eq hF hc ⟨rfl, ?_⟩))
  refine wpAny_bind (wpAny_rule (wpAny_bind (wpAny_pure (wpAny_pure ?_))))
  exact wpAny_truthy_bool h

/-! in a step of the iterator -/
def wpN (prog : Program) (w : World) (A : Around) (t : Sem α) (Q : α → Shared → Prop) (E : Value → Shared → Prop) (s : Shared) : Prop :=
  ∀ Γ p, Γ.In A → (∀ x ∈ Γ.below, notNext x.1 = true) → Sem.wp (M₁ prog w) Γ t (fun a _ s' => Q a s') (fun e _ s' => E e s') p s
theorem wpN_any {t : Sem α} {Q : α → Shared → Prop} (h : wpAny (M₁ prog w) A t Q E s) : wpN prog w A t Q E s := fun Γ p hΓ _ => h Γ p hΓ
theorem wpN_of {t : Sem α} {Q : α → Shared → Prop} (h : wpAny (model prog w) A t Q E s) : wpN prog w A t Q E s := wpN_any (any_M₁ h)
theorem wpN_bind {m : Sem α} {f : α → Sem β} {Q : β → Shared → Prop} (h : wpN prog w A m (fun a s' => wpN prog w A (f a) Q E s') E s) :
    wpN prog w A (m >>= f) Q E s := fun Γ p hΓ hc => by
  rw [Sem.wp_bind']
  exact Sem.wp_mono _ Γ m (fun a p' s' h' => h' Γ p' hΓ hc) (fun _ _ _ h' => h') p s (h Γ p hΓ hc)
theorem wpN_stack {Q : List (Code × Pos) → Shared → Prop} (h : ∀ st, (∀ x ∈ st.drop 1, notNext x.1 = true) → Q st s) : wpN prog w A stack Q E s := fun Γ p hΓ hc => by
  unfold stack
  rw [Sem.wp_stack]
  exact h _ hc

theorem codeN_of_tree {c : Code} {R : Result → Shared → Prop}
    (h : wpN prog w (A.under c) (den₁ c) (fun fin s' => ∃ f, fin = .done f ∧ R (.ok f) s') (fun e s' => R (.error e) s') s) : codeP prog w A c R s := by
  intro Γ p h1 h2 h3
  have h := h Γ p (h1 ▸ h2.in) h3
  show ∃ r s', Runs (M₁ prog w) Γ p (den₁ Γ.code) [] s (.ret r) s' ∧ R r s'
  rw [h1]
  refine (Sem.wp_iff_runs (M₁ prog w) Γ (den₁ c) R p s).mp (Sem.wp_mono _ Γ _ (fun fin p' s' hf => ?_) (fun _ _ _ x => x) p s h)
  obtain ⟨f, rfl, hf⟩ := hf
  exact hf

abbrev itrO (B : Addr) : Obj := { cls := .type "callable_iterator", data := .fields #[.ref B, .none, .bool false] }
abbrev bndO (S : Addr) : Obj := { cls := .type "builtin_function_or_method", data := .fields #[.builtin "_sre.SRE_Scanner.search", .ref S] }

theorem borrows_bnd {B S : Addr} {Q : Bool → Shared → Prop} (hB : s.heap.get? B = some (bndO S)) (h : Q false s) : wpAny (model prog w) A (borrowsExactly (.ref B)) Q E s := by
  unfold borrowsExactly
  refine wpAny_bind (wpAny_load hB ?_)
  exact wpAny_pure h

theorem next_tree {I B S : Addr} {l : List Nat} {t : Tok} {p : Nat} {Q : Fin → Shared → Prop} (hu : A.units < cLine) (hh : A.handled = none) (hI : s.heap.get? I = some (itrO B)) (hB : s.heap.get? B = some (bndO S)) (hS : s.heap.get? S = some (scnO l t p false))
    (hIS : I ≠ S) (hBS : B ≠ S) (X : Pat w.params s.heap) (hp : p ≤ l.length) (hl : l.length ≤ 1000)
    (h0 : Rx.find (l.drop p) = none → ∀ h' e, (⟨h', s.gens, s.drawn, s.toks, s.os⟩ : Shared).TypeIs e "StopIteration" → (∀ b o, b ≠ I → b ≠ S → s.heap.get? b = some o → h'.get? b = some o) → E e { s with heap := h' })
    (h1 : ∀ a k n, Rx.find (l.drop p) = some (a, k, n) → ∀ h' li, h'.get? S = some (scnO l t ((p + a + n : Nat) : Int) false) → Heap.SameBut S s.heap h' →
      Q (.done (.ret (.ref (h'.objs.size + 1)))) { s with heap := (h'.push (tupO k (p + a) (p + a + n))).push (mtcO l t li h'.objs.size) }) :
    wpN prog w A (Builtin.«callable_iterator.__next__» ⟨[.ref I], []⟩) Q E s := by
  unfold Builtin.«callable_iterator.__next__»
  refine wpN_bind (wpN_of (wpAny_pure ?_))
  refine wpN_bind (wpN_of (wpAny_field hI rfl (x := .bool false) rfl ?_))
  rw [if_neg (by decide)]
  refine wpN_bind (wpN_of (wpAny_field hI rfl (x := .ref B) rfl ?_))
  refine wpN_bind (wpN_any (wpAny_attempt ?_))
  unfold callOutOfASlot
  refine wpAny_bind (any_M₁ (borrows_bnd hB ?_))
  rw [if_neg Bool.false_ne_true]
  refine wpAny_call (bound_spec ⟨_, hB, rfl⟩ hS X hp hl (fun hf h' ho hs => ?_) (fun a k n hf h' li hS' hs => ?_))
  · have hI1 : h'.get? I = some (itrO B) := (hs.2 I hIS).trans hI
    have hB1 : h'.get? B = some (bndO S) := (hs.2 B hBS).trans hB
    refine wpN_bind (wpN_of (wpAny_field hI1 rfl (x := .bool false) rfl ?_))
    rw [if_neg (by decide)]
    refine wpN_bind (wpN_of (wpAny_field hI1 rfl (x := .none) rfl ?_))
    refine wpN_bind (wpN_of (wpAny_holding ?_))
    unfold eqBool
    refine wpAny_holding ?_
    rw [if_pos (by decide)]
    refine wpAny_bind (wpAny_rule (wpAny_pure ?_))
    rw [if_neg (by decide)]
    refine wpN_bind (wpN_of (wpAny_rule ?_))
    refine wpN_bind ?_
    refine wpN_bind (m := field (.ref I) 0) (wpN_of (wpAny_field hI1 rfl (x := .ref B) rfl ?_))
    refine wpN_bind ?_
    unfold slotLetsGo
    refine wpN_bind (wpN_of (borrows_bnd hB1 ?_))
    rw [if_neg Bool.false_ne_true]
    refine wpN_bind (wpN_stack fun st hst => ?_)
    rw [if_neg]
    rotate_left
    · rw [Bool.not_eq_true, List.any_eq_false]
      rintro ⟨c, p⟩ hx
      have hn := hst _ hx
      cases c with
      | builtin id args =>
        have hid : id ≠ "callable_iterator.__next__" := by simpa [notNext] using hn
        simp [hid]
      | _ => simp
    refine wpN_of (wpAny_pure ?_)
    have set : ∀ {h : Heap} {vs : Array Value} {i : Nat} {x : Value}, h.get? I = some { cls := .type "callable_iterator", data := .fields vs } → (h.update I (Obj.mapFields (·.setIfInBounds i x))).get? I = some { cls := .type "callable_iterator", data := .fields (vs.setIfInBounds i x) } :=
      fun e => (Heap.get?_update_self _ e rfl).trans rfl
    refine wpN_bind (wpN_of (wpAny_setField hI1 rfl (by simp) ?_))
    refine wpN_bind (wpN_of (wpAny_setField (set hI1) rfl (by simp) ?_))
    refine wpN_of (wpAny_setField (set (set hI1)) rfl (by simp) ?_)
    refine wpN_of ?_
    have keep : ∀ b o, b ≠ I → b ≠ S → s.heap.get? b = some o → (((h'.update I (Obj.mapFields (·.setIfInBounds 0 .none))).update I (Obj.mapFields (·.setIfInBounds 1 .none))).update I (Obj.mapFields (·.setIfInBounds 2 (.bool true)))).get? b = some o := by
      intro b o hbI hbS e
      have h1 := (hs.2 b hbS).trans e
      have u : ∀ (h : Heap) (f : Obj → Obj), h.get? b = some o → (h.update I f).get? b = some o := fun h f e => ((show Heap.SameBut I h (h.update I f) from Heap.SameBut.update ..).2 b hbI).trans e
      exact u _ _ (u _ _ (u _ _ h1))
    generalize ((h'.update I (Obj.mapFields (·.setIfInBounds 0 .none))).update I (Obj.mapFields (·.setIfInBounds 1 .none))).update I (Obj.mapFields (·.setIfInBounds 2 (.bool true))) = h2 at keep
    show wpAny _ _ (newExc (.type "StopIteration") [] >>= _) _ _ _
    refine wpAny_bind ?_
    simp only [newExc, newTuple]
    refine wpAny_bind (wpAny_newObj_type ?_ (by size_fits))
    refine wpAny_bind (m := firstArgMember _ _) (wpAny_of_eq (a := Value.none) (by first | rfl | (simp only [firstArgMember]; rfl)) ?_)
    refine wpAny_newObj_type ?_ (by size_fits)
    simp only [raiseNew]
    refine wpAny_bind (wpAny_handled ?_)
    rw [hh]
    refine wpAny_bind (wpAny_pure (wpAny_throw ?_))
    exact h0 hf _ _ ⟨_, Heap.get?_push_size _ rfl, rfl⟩ fun b o hbI hbS e => Heap.get?_push_of_some _ (Heap.get?_push_of_some _ (keep b o hbI hbS e))
  · have hne : ∀ b o, b ≠ S → s.heap.get? b = some o → ((h'.push (tupO k (p + a) (p + a + n))).push (mtcO l t li h'.objs.size)).get? b = some o := fun b o hb e => Heap.get?_push_of_some _ (Heap.get?_push_of_some _ ((hs.2 b hb).trans e))
    have hI1 := hne I _ hIS hI
    refine wpN_bind (wpN_of (wpAny_field hI1 rfl (x := .bool false) rfl ?_))
    rw [if_neg (by decide)]
    refine wpN_bind (wpN_of (wpAny_field hI1 rfl (x := .none) rfl ?_))
    have hF : ((h'.push (tupO k (p + a) (p + a + n))).push (mtcO l t li h'.objs.size)).get? (h'.objs.size + 1) = some (mtcO l t li h'.objs.size) := by
      have := Heap.get?_push_size (h'.push (tupO k (p + a) (p + a + n))) (o := mtcO l t li h'.objs.size) rfl
      rw [Heap.size_push] at this
      exact this
    refine wpN_bind (wpN_of (wpAny_holding (eqNone_spec hu hF rfl ?_)))
    rw [if_pos (by decide)]
    have fin := h1 a k n hf h' li hS' hs
    first
      | exact wpN_of (wpAny_pure fin)
      | exact wpN_bind (wpN_of (wpAny_pure (wpN_of (wpAny_pure fin))))

theorem quiet_next (a : Args) : (Code.builtin "callable_iterator.__next__" a).quiet = true := Code.quiet_builtin _ (by decide +kernel)

theorem wpP_attempt {m : Sem α} {Q : Except Value α → Shared → Prop} (h : wpP prog w A m (fun a => Q (.ok a)) (fun e => Q (.error e)) s) :
    wpP prog w A m.attempt Q E s := fun Γ p hΓ hc => by rw [Sem.wp_attempt]; exact h Γ p hΓ hc

/-- one draw from the iterator -/
theorem next_spec {I B S : Addr} {l : List Nat} {t : Tok} {p : Nat} {Q : Option Value → Shared → Prop} (hu : (A.under (.builtin "callable_iterator.__next__" ⟨[.ref I], []⟩)).units < cLine) (hh : A.handled = none) (hI : s.heap.get? I = some (itrO B)) (hB : s.heap.get? B = some (bndO S)) (hS : s.heap.get? S = some (scnO l t p false))
    (hIS : I ≠ S) (hBS : B ≠ S) (X : Pat w.params s.heap) (hp : p ≤ l.length) (hl : l.length ≤ 1000)
    (h0 : Rx.find (l.drop p) = none → ∀ h', (∀ b o, b ≠ I → b ≠ S → s.heap.get? b = some o → h'.get? b = some o) → Q none { s with heap := h' })
    (h1 : ∀ a k n, Rx.find (l.drop p) = some (a, k, n) → ∀ h' li, h'.get? S = some (scnO l t ((p + a + n : Nat) : Int) false) → Heap.SameBut S s.heap h' →
      Q (some (.ref (h'.objs.size + 1))) { s with heap := (h'.push (tupO k (p + a) (p + a + n))).push (mtcO l t li h'.objs.size) }) :
    wpP prog w A (pyNext (.ref I)) Q E s := by
  have hT : s.TypeIs (.ref I) "callable_iterator" := ⟨_, hI, rfl⟩
  unfold pyNext
  refine wpP_bind (wpP_attempt ?_)
  unfold callSpecial?
  refine wpP_bind_of (wpAny_specialOf hT Fc.slot_ci_next.lookup ?_)
  refine wpP_holding ?_
  refine wpP_bind_of (wpAny_of_eq (Fc.slot_ci_next.bind (.ref I)) ?_)
  refine wpP_bind (wpP_call ?_)
  refine codeP_of_tree rfl ?_
  rw [show den₁ (.call (.builtin "callable_iterator.__next__") ⟨[.ref I] ++ [], []⟩) = (do checkBuiltinCall "callable_iterator.__next__" ⟨[.ref I], []⟩; again (.builtin "callable_iterator.__next__" ⟨[.ref I], []⟩)) from den₁_of_not (c := .call (.builtin "callable_iterator.__next__") ⟨[.ref I], []⟩) rfl]
  refine wpP_bind_of (Fc.slot_ci_next.check _ _ _ _ _ _ _ _ hT (Fc.args_ci_next _) (wpP_pure ⟨quiet_next _, codeN_of_tree ?_⟩))
  rw [show den₁ (.builtin "callable_iterator.__next__" ⟨[.ref I], []⟩) = Builtin.«callable_iterator.__next__» ⟨[.ref I], []⟩ from (den₁_of_not (c := .builtin "callable_iterator.__next__" ⟨[.ref I], []⟩) (by simp [isAsk])).trans (by simp only [denote, Fc.entry_ci_next])]
  refine next_tree hu hh hI hB hS hIS hBS X hp hl (fun hf h' e hTe hk => ?_) (fun a k n hf h' li hS' hs => ?_)
  · refine wpP_bind_of (wpAny_isInstance hTe isSubtype_stop ?_)
    exact wpP_pure (h0 hf h' hk)
  · exact ⟨_, rfl, wpP_pure (wpP_pure (h1 a k n hf h' li hS' hs))⟩
end
end Wk
end Mine
end

section
open PySem PySem.W PyProof.Rows
set_option maxRecDepth 100000
set_option maxHeartbeats 2000000
namespace Mine
namespace Wk
open PySem.Calls PySem.Builtin PySem.Builtin.Str Mine.Pl Mine.Tx PySem.Builtin.Re

section
variable {α β : Type} {prog : Program} {w : World} {A : Around} {E : Value → Shared → Prop} {s : Shared} {env : Env}

theorem wpP_execs_cons {st rest} {Q : Flow → Shared → Prop}
    (h : wpP prog w A (exec st env) (fun f s' => match f with | .next => wpP prog w A (execs rest env) Q E s' | f => Q f s') E s) :
    wpP prog w A (execs (st :: rest) env) Q E s := fun Γ p hΓ hc => by
  rw [execs_cons, Sem.wp_bind']
  refine Sem.wp_mono _ Γ _ (fun f p' s' h' => ?_) (fun _ _ _ h' => h') _ _ (h Γ p hΓ hc)
  cases f <;> first | exact h' Γ p' hΓ hc | exact h'
theorem wpP_execs_cons_of {st rest} {Q : Flow → Shared → Prop}
    (h : wpAny (model prog w) A (exec st env) (fun f s' => match f with | .next => wpP prog w A (execs rest env) Q E s' | f => Q f s') E s) :
    wpP prog w A (execs (st :: rest) env) Q E s := wpP_execs_cons (wpP_of h)
theorem wpP_If {test body orelse pos} {Q : Flow → Shared → Prop}
    (h : wpP prog w A (isTrue test env (eval test env))
      (fun b s₂ => if b then wpP prog w A (execs body env) Q E s₂ else wpP prog w A (execs orelse env) Q E s₂) E s) :
    wpP prog w A (exec (.If test body orelse pos) env) Q E s := fun Γ p hΓ hc => by
  simp only [exec_If, Sem.wp_bind', Sem.wp_cmd_standAt]
  refine Sem.wp_mono _ Γ _ (fun b p₂ s₂ h₂ => ?_) (fun _ _ _ h' => h') _ _ (h Γ _ hΓ hc)
  cases b <;> exact h₂ Γ p₂ hΓ hc
theorem wpP_isTrue_Compare1 {l op r pos whole} {Q : Bool → Shared → Prop}
    (h : wpP prog w A (eval l env) (fun a s₁ => wpP prog w A (eval r env) (fun b s₂ => wpP prog w A (compareOp op a b)
      (fun c s₃ => wpP prog w A (truthy c) Q E s₃) E s₂) E s₁) E s)
    (hm : behindInMarks op r = false := by with_unfolding_all rfl) : wpP prog w A (isTrue (.Compare l [op] [r] pos) env whole) Q E s := fun Γ p hΓ hc => by
  simp only [isTrue_Compare1, markedBehindIn_of_false hm, Sem.wp_bind', Sem.wp_holding, Sem.wp_cmd_standAt, Sem.wp_operate]
  exact Sem.wp_mono _ Γ _ (fun a p₁ s₁ h₁ => Sem.wp_mono _ Γ _ (fun b _ s₂ h₂ => Sem.wp_mono _ Γ _ (fun c p₃ s₃ h₃ => h₃ Γ p₃ hΓ hc)
    (fun _ _ _ h' => h') _ _ (h₂ Γ _ hΓ hc)) (fun _ _ _ h' => h') _ _ (h₁ Γ p₁ hΓ hc)) (fun _ _ _ h' => h') _ _ (h Γ p hΓ hc)

theorem funcP {body : List Stmt} {R : Result → Shared → Prop}
    (h : wpP prog w (A.deeper env) (execs body env) (fun f s' => R (.ok (.ret (match f with | .ret v => v | _ => .none))) s') (fun _ _ => False) s) :
    codeP prog w A (.func body env) R s := by
  refine codeP_of_tree rfl ?_
  show wpP prog w (A.deeper env) (do point; match ← (execs body env).onRaise (leaving env) with | .ret v => ret v | _ => ret .none) _ _ s
  refine wpP_bind (wpP_point (wpP_bind (wpP_onRaise (wpP_mono h (fun f s' h' => ?_) fun _ _ h' => h'))))
  cases f <;> exact wpP_pure h'

theorem enterP {R : Result → Shared → Prop} {a : Addr} {d : DefRec} {args : List Value} {binds : List (PySem.Str × Value)}
    (hf : FnAt s.heap a d) (hlim : s.heap.NoLimit) (hroom : A.depth < recursionLimit)
    (hbind : ∀ pm cd doc, bindArgs (docDef d.name d.params d.body d.scope pm cd doc) ⟨args, []⟩ = pure binds)
    (hloc : ∀ x ∈ binds, d.scope.names.lookup x.1 = some .local)
    (h : ∀ L cd h₁, Fr s.heap L h₁ (fun x => binds.reverse.lookup x) →
      wpP prog w (A.deeper (envOf d.name d.scope L a cd)) (execs d.body (envOf d.name d.scope L a cd))
        (fun f s' => R (.ok (.ret (match f with | .ret v => v | _ => .none))) s') (fun _ _ => False)
        { s with heap := h₁, toks := s.toks + binds.length })
    (hco : d.scope.isCoroutine = false) (hgen : d.scope.isGenerator = false) (hk : d.scope.kind = .function)
    (hcell : ∀ x ∈ d.scope.names, x.2 ≠ .cell) :
    codeP prog w A (.call (.ref a) ⟨args, []⟩) R s := by
  obtain ⟨o, pm, cd, doc, ho, hd', hcd⟩ := hf
  refine codeP_of_tree rfl ?_
  rw [show den₁ (.call (.ref a) ⟨args, []⟩) = callAny (.ref a) ⟨args, []⟩ from den₁_of_not (c := .call (.ref a) ⟨args, []⟩) rfl]
  show wpP prog w A.in1 (callAny (.ref a) ⟨args, []⟩) _ _ s
  simp only [callAny]
  refine wpP_bind_of (wpAny_load ho ?_)
  have hcd' := hcd
  obtain ⟨c, oc, vs, tq, hc, hoc, hdc, hq⟩ := hcd'
  obtain rfl : cd = .ref c := hc
  have hcode : (docDef d.name d.params d.body d.scope pm (.ref c) doc).code = .ref c := rfl
  simp only [hd', callFunction, hcode]
  refine wpP_bind_of (m := field (.ref c) 1) (wpAny_field hoc hdc hq ?_)
  refine wpP_bind_of (wpAny_pure ?_)
  refine wpP_bind_of ?_
  rw [hbind pm (.ref c) doc]
  refine wpAny_pure ?_
  refine wpP_bind_of (wpAny_newFunctionEnv hcell hloc (fun h₁ hns hsb => ?_) hk)
  refine wpP_bind_of (wpAny_enterFrame (hlim.fresh _ hsb) hroom ?_)
  rw [show (docDef d.name d.params d.body d.scope pm (.ref c) doc).scope.isGenerator = false from hgen, show (docDef d.name d.params d.body d.scope pm (.ref c) doc).scope.isCoroutine = false from hco]
  refine wpP_pure ⟨rfl, ?_⟩
  show codeP prog w A (.func d.body (envOf d.name d.scope s.heap.objs.size a (.ref c))) _ _
  exact funcP (h _ (.ref c) h₁ ⟨hns, fun b o e => hsb.extBut b o (Nat.ne_of_lt (Heap.lt_size e)) (Heap.get?_push_of_some _ e), Nat.le_refl _⟩)

theorem forP {R : Result → Shared → Prop} {target : Expr} {it : Value} {body : List Stmt} (I : Nat → Shared → Prop)
    (turn : ∀ n s, I n s → wpP prog w A (pyNext it) (fun r s₁ => match r with
      | none => R (.ok .next) s₁
      | some v => wpAny (model prog w) A (assign target env v) (fun _ s₂ => wpP prog w A (execs body env) (fun f s₃ => match f with
          | .next | .cont => ∃ m, m < n ∧ I m s₃
          | .brk => R (.ok .next) s₃
          | .ret v => R (.ok (.ret v)) s₃) (fun _ _ => False) s₂) (fun _ _ => False) s₁) (fun _ _ => False) s)
    (n : Nat) (h : I n s) (ht : ∀ v, letOwnedTupleGo target it v = pure () := by intro _; rfl) : codeP prog w A (.forLoop target it body [] env) R s := by
  induction n using Nat.strongRecOn generalizing s with
  | ind n ih =>
    refine codeP_of_tree rfl ?_
    show wpP prog w A ((forTurn target it body [] env).onRaise (fun x => do noteFrame x env; theTreesLotGoes x)) _ _ s
    refine wpP_onRaise ?_
    simp only [forTurn]
    refine wpP_bind (wpP_standAt (wpP_bind (wpP_onRaise (wpP_mono (turn n s h) (fun r s₁ h₁ => ?_) fun _ _ h' => h'))))
    cases r with
    | none => exact wpP_pure ⟨rfl, codeP_of (codeAny_block (wpAny_execs_nil h₁))⟩
    | some v =>
      refine wpP_bind_of (wpAny_of_eq (ht v) ?_)
      refine wpP_bind_of (wpAny_mono h₁ (fun _ s₂ h₂ => wpP_bind (wpP_mono h₂ (fun f s₃ h₃ => ?_) fun _ _ h' => h')) fun _ _ h' => h')
      cases f with
      | next => obtain ⟨m, hm, hI⟩ := h₃; exact wpP_pure ⟨rfl, ih m hm hI⟩
      | cont => obtain ⟨m, hm, hI⟩ := h₃; exact wpP_pure ⟨rfl, ih m hm hI⟩
      | brk => exact wpP_pure h₃
      | ret v => exact wpP_pure h₃

theorem wpP_For {target iter body orelse pos} {Q : Flow → Shared → Prop}
    (h : wpAny (model prog w) A (eval iter env) (fun x s₁ => wpAny (model prog w) A (pyIter x) (fun it s₂ =>
      codeP prog w A (.forLoop target it body orelse env) (fun r s' => match r with | .ok f => Q f s' | .error _ => False) s₂) (fun _ _ => False) s₁) (fun _ _ => False) s)
    (hs : ∀ x, foldedSetIterable iter env x = pure x := by intro _; rfl) :
    wpP prog w A (exec (.For target iter body orelse pos) env) Q (fun _ _ => False) s := by
  rw [exec_For]
  refine wpP_bind (wpP_standAt (wpP_bind_of (wpAny_mono h (fun x s₁ h₁ => wpP_bind_of (wpAny_of_eq (hs x) (wpP_bind (wpP_standAt (wpP_bind_of (wpAny_holding
    (wpAny_mono h₁ (fun it s₂ h₂ => ?_) fun _ _ h' => h'))))))) fun _ _ h' => h')))
  unfold runOwn
  refine wpP_onRaise (wpP_run (codeP_mono h₂ fun r s' hr => ?_))
  cases r <;> exact hr

/-- a call of a def by its name, on the path -/
theorem cfP {x : PySem.Str} {p pos : Pos} {a : Addr} {d : DefRec} {e : Expr} {Q : Value → Shared → Prop}
    (h : wpP prog w A (eval (.Name x p) env) (fun f s₁ => f = .ref a ∧ wpP prog w A (eval e env) (fun v s₂ => FnAt s₂.heap a d ∧
      codeP prog w A (.call (.ref a) ⟨[v], []⟩) (fun r s' => match r with | .ok (.ret v) => Q v s' | .ok _ => False | .error e => E e s') s₂) E s₁) E s)
    (hs : starEach [e] env = [(false, eval e env)] := by rfl) :
    wpP prog w A (eval (.Call (.Name x p) [e] [] pos) env) Q E s := by
  show wpP prog w A (eval (.Name x p) env >>= fun f => callWith pos f [] (backTo pos (starEach [e] env)) []) Q E s
  rw [hs]
  refine wpP_bind (wpP_mono h (fun f s₁ h₁ => ?_) fun _ _ x => x)
  obtain ⟨rfl, h₁⟩ := h₁
  unfold callWith
  refine wpP_bind (wpP_holding ?_)
  unfold evalArgs
  show wpP prog w A (spliced [(false, eval e env)] >>= _) _ _ _
  refine wpP_bind ?_
  rw [spliced]
  refine wpP_bind (wpP_mono h₁ (fun v s₂ h₂ => ?_) fun _ _ x => x)
  obtain ⟨hf, h₂⟩ := h₂
  obtain ⟨o, fd, ho, hd⟩ := hf.at
  simp only [Bool.false_eq_true, if_false]
  refine wpP_bind (wpP_pure (wpP_bind (wpP_holding (wpP_of (spliced_nil (wpP_pure ?_))))))
  refine wpP_holding (wpP_bind (wpP_pure (wpP_bind (wpP_pure (wpP_pure ?_)))))
  refine wpP_bind (wpP_standAt ?_)
  refine wpP_bind_of (m := keeperOf (.ref a)) ?_
  unfold keeperOf
  refine wpAny_bind (wpAny_load ho ?_)
  rw [hd]
  refine wpAny_pure ?_
  refine wpP_bind (wpP_mono (Q := Q) ?_ (fun r s₃ hr => wpP_bind (wpP_holding (wpP_point (wpP_pure hr)))) fun _ _ x => x)
  show wpP prog w A (callMarked plainCall (.ref a) [v] []) _ _ _
  unfold callMarked
  exact wpP_keep (wpP_call h₂)
end
end Wk
end Mine
end

section
open PySem PySem.W PyProof.Rows
set_option maxRecDepth 100000
set_option maxHeartbeats 2000000
namespace Mine
namespace Wk
open PySem.Calls PySem.Builtin PySem.Builtin.Str Mine.Pl Mine.Tx PySem.Builtin.Re

theorem units_next {A : Around} {env : Env} {a : Args} (hu : A.units ≤ 1000) : ((A.deeper env).under (.builtin "callable_iterator.__next__" a)).units < cLine := by
  simp [Around.under, Around.deeper, Code.cUnits, Code.frames, Code.isFrame, cLine]
  omega

theorem Fm.lose2 {h₀ h h' : Heap} {L g S B I : Addr} {vs : Vars} {P PS PB PI : Obj → Prop} {os : List Thing} (F : Fm h₀ L vs ((g, P) :: (S, PS) :: (B, PB) :: (I, PI) :: os) h)
    (hk : ∀ b o, b ≠ I → b ≠ S → h.get? b = some o → h'.get? b = some o) : Fm h₀ L vs [(g, P)] h' := by
  obtain ⟨m, f, hv⟩ := F.fr
  obtain ⟨_, hSL, hS0⟩ := F.nw (S, PS) (.tail _ (.head _))
  obtain ⟨_, hIL, hI0⟩ := F.nw (I, PI) (.tail _ (.tail _ (.tail _ (.head _))))
  obtain ⟨⟨og, hog, hpg⟩, hgL, hg0⟩ := F.nw (g, P) (.head _)
  have hnd := F.nd
  simp only [List.map_cons, List.nodup_cons, List.mem_cons, not_or] at hnd
  refine ⟨⟨m, ⟨f.ns.at' fun o e => hk _ _ (Ne.symm hIL) (Ne.symm hSL) e, fun b o e => hk b o (fun hb => ?_) (fun hb => ?_) (f.keep b o e), f.above⟩, hv⟩, fun p hp => ?_, by simp⟩
  · rw [hb, hI0] at e; cases e
  · rw [hb, hS0] at e; cases e
  · rw [List.mem_singleton.mp hp]
    exact ⟨⟨og, hk g og hnd.1.2.2.1 hnd.1.1 hog, hpg⟩, hgL, hg0⟩

theorem Fm.adopt {h₀ h' : Heap} {L a : Addr} {vs : Vars} {P : Obj → Prop} {os : List Thing} (F : Fm h₀ L vs os h') (hL : a ≠ L) (h0 : h₀.get? a = none) (hos : a ∉ os.map (·.1)) (ho : ∃ o, h'.get? a = some o ∧ P o) : Fm h₀ L vs ((a, P) :: os) h' :=
  ⟨F.fr, fun p hp => by
    rcases List.mem_cons.mp hp with rfl | hp
    · exact ⟨ho, hL, h0⟩
    · exact F.nw p hp, List.nodup_cons.mpr ⟨hos, F.nd⟩⟩
theorem Fm.fresh {h₀ h : Heap} {L a : Addr} {vs : Vars} {os : List Thing} (F : Fm h₀ L vs os h) (hn : h.get? a = none) : a ≠ L ∧ h₀.get? a = none ∧ a ∉ os.map (·.1) := by
  refine ⟨fun e => ?_, ?_, fun hm => ?_⟩
  · obtain ⟨m, f, _⟩ := F.fr
    obtain ⟨o, _, _, ho, _⟩ := f.ns
    rw [e, ho] at hn; cases hn
  · cases e : h₀.get? a with
    | none => rfl
    | some o => rw [F.keep e] at hn; cases hn
  · obtain ⟨p, hp, rfl⟩ := List.mem_map.mp hm
    obtain ⟨⟨o, ho, _⟩, _⟩ := F.nw p hp
    rw [ho] at hn; cases hn

theorem ne2 (S : Nat) : S + 2 ≠ S := by omega
theorem ne1 (S : Nat) : S + 1 ≠ S := by omega
theorem header_zero (l : List Nat) : header 0 l = [] := rfl
theorem header_none {n : Nat} {l : List Nat} (h : Rx.find l = none) : header n l = [] := by
  cases n with
  | zero => rfl
  | succ n => simp [header, pieces, h]
theorem header_some {n : Nat} {l : List Nat} {a k m : Nat} (h : Rx.find l = some (a, k, m)) : header (n + 1) l = write k ((l.drop a).take m) ++ header n (l.drop (a + m)) := by
  simp [header, pieces, h]
theorem write_len (k : Nat) (x : List Nat) : (write k x).length ≤ 2 * x.length + 2 := by
  unfold write
  split
  · have := held_len ((x.drop 1).dropLast)
    simp only [List.length_append, List.length_cons, List.length_dropLast, List.length_drop, List.length_nil] at this ⊢
    omega
  · split
    · have := held_len (x.drop 1)
      simp only [List.length_cons, List.length_drop] at this ⊢
      omega
    · simp; omega

section
variable {prog : Program} {w : World} {A : Around} {E : Value → Shared → Prop} {s : Shared} {mg mb : PySem.Str → Option Value}

theorem pyIter_ci {I B : Addr} {Q : Value → Shared → Prop} (hI : ∃ o, s.heap.get? I = some o ∧ itr B o) (h : Q (.ref I) s) : wpAny (model prog w) A (pyIter (.ref I)) Q E s := by
  obtain ⟨o, ho, rfl⟩ := hI
  have hT : s.TypeIs (.ref I) "callable_iterator" := ⟨_, ho, rfl⟩
  refine wpAny_pyIter_slot hT Fc.slot_ci_iter (wpAny_call_entry Fc.slot_ci_iter hT Fc.entry_ci_iter ?_ (Fc.args_ci_iter _))
  show wpAny _ _ (ret (.ref I)) _ _ s
  exact wpAny_pure ⟨_, rfl, "callable_iterator", _, hT, Fc.slot_ci_next.lookup, h⟩

def HeadI (s₀ : Shared) (L g S : Addr) (T : Value) (l : List Nat) (t : Tok) (f : Nat) (s : Shared) : Prop :=
  ∃ (p : Nat) (ys : List (PySem.Str × Tok)) (xs : List (List Nat)), Mv s₀ s ∧ p ≤ l.length ∧ l.length - p ≤ f ∧ ys.map (·.1) = xs.map str ∧ xs.flatten ++ header f (l.drop p) = header l.length l ∧ xs.length + f ≤ l.length ∧ (∀ x ∈ xs, x.length ≤ 2100) ∧
    Fm s₀.heap L ([("text", T), ("written", .ref g)] : Vars) ((g, lst (strValues ys)) :: (S, fun o => o = scnO l t p false) :: (S + 1, fun o => o = bndO S) :: (S + 2, fun o => o = itrO (S + 1)) :: []) s.heap

theorem header_spec {l : List Nat} {t : Tok} {R : Result → Shared → Prop} (G : Gl mg mb s.heap) (N : Nm mg mb) (X : Pat w.params s.heap) (hroom : A.depth + 10 < recursionLimit) (hh : A.handled = none) (hu : A.units ≤ 1000) (hl : l.length ≤ 1000)
    (hR : ∀ s' t', Mv s s' → (∀ b o, s.heap.get? b = some o → s'.heap.get? b = some o) → R (.ok (.ret (.str (str (header l.length l)) t'))) s') :
    codeP prog w A (.call (.ref 69) ⟨[.str (str l) t], []⟩) R s := by
  have hsl : sizeLine = 16777216 := sizeLine_eq
  refine enterP (binds := [("text", .str (str l) t)]) G.header G.lim (by omega) (fun _ _ _ => rfl) (locs rfl) (fun L cd h₁ F => ?_) rfl rfl rfl (by decide)
  have F0 : Fm s.heap L [("text", .str (str l) t)] [] h₁ := Fm.start F (fun p hp => by rw [List.mem_singleton.mp hp]; rfl)
  refine wpP_execs_cons_of (wpAny_Assign_Name (List_ (spliced_nil (newListv F0 fun h₂ F2 _ => stv F2 fun h₃ F3 => ?_))))
  dsimp only at F3 ⊢
  generalize h₁.objs.size = g at F3
  have G3 : Gl mg mb h₃ := G.keeps fun b o e => F3.keep e
  have X3 : Pat w.params h₃ := X.keeps fun b o e => F3.keep e
  have hdep : (A.deeper (envOf (D 9).name (D 9).scope L 69 cd)).depth + 5 < recursionLimit := by
    show A.depth + 1 + 5 < _
    omega
  refine wpP_execs_cons (wpP_For (cf1 (a := 43) (d := D 3) (gv G3 N.separate ⟨rfl, ldv F3 (.head _) ⟨G3.separate, separate_spec G3 N X3 (by omega) hl fun s₄ S hmv4 hk4 hn1 hn2 hn3 ho1 ho2 ho3 => pyIter_ci ho3 ?_⟩⟩)))
  obtain ⟨a1, b1, c1⟩ := F3.fresh hn1
  obtain ⟨a2, b2, c2⟩ := F3.fresh hn2
  obtain ⟨a3, b3, c3⟩ := F3.fresh hn3
  have F4 : Fm s.heap L ([("text", .str (str l) t), ("written", .ref g)] : Vars) [(g, lst [])] s₄.heap := F3.grown hk4
  have F5 := F4.adopt (P := itr (S + 1)) a3 b3 (by simpa using c3) ho3
  have F6 := F5.adopt (P := bnd S) a2 b2 (by simp at c2 ⊢; omega) ho2
  have F7 := F6.adopt (P := scn l t 0 false) a1 b1 (by simp at c1 ⊢; omega) ho1
  have F8 : Fm s.heap L ([("text", .str (str l) t), ("written", .ref g)] : Vars) ((g, lst (strValues [])) :: (S, fun o => o = scnO l t (0 : Nat) false) :: (S + 1, fun o => o = bndO S) :: (S + 2, fun o => o = itrO (S + 1)) :: []) s₄.heap :=
    F7.perm (List.perm_middle (l₁ := [(S, scn l t 0 false), (S + 1, bnd S), (S + 2, itr (S + 1))]).symm)
  clear F7 F6 F5 F4
  have hs4 : Mv s s₄ := Mv.trans ⟨_, _, rfl⟩ hmv4
  refine forP (HeadI s L g S (.str (str l) t) l t) ?_ l.length ⟨0, [], [], hs4, Nat.zero_le _, by omega, rfl, by simp, by simp, by simp, F8⟩
  rintro n s₅ ⟨p, ys, xs, hmv5, hp, hpn, hy, hhd, hxn, hxl, F9⟩
  have X5 : Pat w.params s₅.heap := X.keeps fun b o e => F9.keep e
  have oS := F9.thing (.tail _ (.head _))
  have oB := F9.thing (.tail _ (.tail _ (.head _)))
  have oI := F9.thing (.tail _ (.tail _ (.tail _ (.head _))))
  obtain ⟨_, gS, rfl⟩ := oS
  obtain ⟨_, gB, rfl⟩ := oB
  obtain ⟨_, gI, rfl⟩ := oI
  refine next_spec (units_next hu) (by exact hh) gI gB gS (ne2 S) (ne1 S) X5 hp hl (fun hf h' hk => ?_) (fun a k m hf h' li hS' hs => ?_)
  · have F10 := F9.lose2 hk
    rw [header_none hf, List.append_nil] at hhd
    refine wpP_execs_cons_of (wpAny_Return_some (MethodCall_ (Constant_str (GM.join (cw1 (ldv F10 (.tail _ (.head _)) ?_))))))
    refine SC.join (l := ys) (lst_isList (F10.thing (.head _))) rfl ?_ fun t' k => ?_
    · refine join_ok (B := 2100) (fun y hy' => ?_) ?_
      · rw [hy] at hy'
        obtain ⟨x, hx, rfl⟩ := List.mem_map.mp hy'
        rw [str_len]; exact hxl x hx
      · have := congrArg List.length hy
        rw [List.length_map, List.length_map] at this
        rw [List.length_map, this]; omega
    · rw [hy, join_empty, hhd]
      exact hR _ _ (hmv5.trans ⟨_, _, rfl⟩) fun b o e => F10.keep e
  · have F10 := F9.turn1 (P' := fun o => o = scnO l t ((p + a + m : Nat) : Int) false) hs ⟨_, hS', rfl⟩
    have F11 := F10.push (tupO k (p + a) (p + a + m)) (P := fun o => o = tupO k (p + a) (p + a + m)) rfl
    have F12 := F11.push (mtcO l t li h'.objs.size) (P := fun o => o = mtcO l t li h'.objs.size) rfl
    rw [Heap.size_push] at F12
    have F13 := F12.perm (os' := (g, lst (strValues ys)) :: (h'.objs.size + 1, fun o => o = mtcO l t li h'.objs.size) :: (h'.objs.size, fun o => o = tupO k (p + a) (p + a + m)) :: (S, fun o => o = scnO l t ((p + a + m : Nat) : Int) false) :: (S + 1, fun o => o = bndO S) :: (S + 2, fun o => o = itrO (S + 1)) :: [])
      (List.perm_middle (l₁ := [(h'.objs.size + 1, fun o => o = mtcO l t li h'.objs.size), (h'.objs.size, fun o => o = tupO k (p + a) (p + a + m))])).symm
    clear F12 F11 F10
    have f1 := (find_spec hf).1
    have f2 := (find_spec hf).2.1
    have f3 := (find_spec hf).2.2.1
    rw [List.length_drop] at f1
    have hx : (l.drop (p + a)).take (p + a + m - (p + a)) = ((l.drop p).drop a).take m := by
      rw [List.drop_drop, show p + a + m - (p + a) = m by omega]
    have hxl' : (((l.drop p).drop a).take m).length ≤ 1000 := by simp only [List.length_take, List.length_drop]; omega
    have hxm : (((l.drop p).drop a).take m).length = m := by simp only [List.length_take, List.length_drop]; omega
    have hn0 : n ≠ 0 := by omega
    obtain ⟨n', rfl⟩ := Nat.exists_eq_succ_of_ne_zero hn0
    refine wpAny_assign_Name (stv (s := { s₅ with heap := _ }) F13 fun h₁₄ F14 => wpP_of (wpAny_mono (header_body (l := l) (t := t) (k := k) (b := p + a) (e := p + a + m) (xs := xs) (ys := ys) (T := .str (str l) t) (g := g) G N X ?_ hl (by omega) (fun h h1 h2 => mtc_Mt h1 h2) f3 ?_ ?_ ?_ hy (by exact F14)) (fun f s₆ h₆ => ?_) fun _ _ x => x))
    · omega
    · rw [hx]; exact (find_spec hf).2.2.2.1
    · rw [hx, hxm]; exact (find_spec hf).2.2.2.2.1
    · rw [hx]; exact (find_spec hf).2.2.2.2.2
    obtain ⟨hfl, hmv6, ys', hy', F15⟩ := h₆
    rw [hx] at hy'
    have hI : ∃ m', m' < n' + 1 ∧ HeadI s L g S (.str (str l) t) l t m' s₆ := by
      refine ⟨n', by omega, p + a + m, ys', xs ++ [write k (((l.drop p).drop a).take m)], (hmv5.trans ⟨_, _, rfl⟩).trans hmv6, by omega, by omega, hy', ?_, by simp only [List.length_append, List.length_singleton]; omega, fun x hx' => ?_, ?_⟩
      · rw [← hhd, header_some hf, List.drop_drop, List.flatten_append]
        simp [Nat.add_assoc]
      · rcases List.mem_append.mp hx' with hx' | hx'
        · exact hxl x hx'
        · rw [List.mem_singleton.mp hx']
          have := write_len k (((l.drop p).drop a).take m)
          omega
      · exact F15.fewer (((List.sublist_cons_self _ _).trans (List.sublist_cons_self _ _)).cons_cons _)
    rcases hfl with rfl | rfl <;> exact hI
end
end Wk
end Mine
end

section
open PySem PySem.W PyProof.Rows
set_option maxRecDepth 100000
set_option maxHeartbeats 2000000
namespace Mine
namespace Wk
open PySem.Calls PySem.Builtin PySem.Builtin.Str Mine.Pl Mine.Tx PySem.Builtin.Re PySem.Spec PySem.SeqAt PyProof.V

theorem canLayAll0_strs : ∀ ns : List PySem.Str, (∀ x ∈ ns, PyData.strOk x = true) → PyData.canLayAll0 (ns.map PyData.str) = true
  | [], _ => by simp [PyData.canLayAll0]
  | n :: r, h => by simp [PyData.canLayAll0, PyData.canLay0, canLayAll0_strs r fun x hx => h x (.tail _ hx), h n (.head _)]
theorem depthAll_strs : ∀ ns : List PySem.Str, PyData.depthAll (ns.map PyData.str) ≤ 1
  | [] => by simp [PyData.depthAll]
  | n :: r => by
    have := depthAll_strs r
    simp only [List.map_cons, PyData.depthAll, PyData.depth]
    omega
theorem shaped_strs (ns : List PySem.Str) (hok : ∀ x ∈ ns, PyData.strOk x = true) : shaped (.list (ns.map PyData.str)) = true := by
  have h1 := depthAll_strs ns
  have h2 : PyData.depth (.list (ns.map PyData.str)) ≤ 64 := by simp only [PyData.depth]; omega
  show (PyData.canLay0 (.list (ns.map PyData.str)) && decide (PyData.depth (.list (ns.map PyData.str)) ≤ 64)) = true
  rw [Bool.and_eq_true]
  exact ⟨by simp only [PyData.canLay0]; exact canLayAll0_strs ns hok, decide_eq_true h2⟩
theorem noMix_strs : ∀ ns ms : List PySem.Str, noMixAll (ns.map PyData.str) (ms.map PyData.str) = true
  | [], [] => by simp [noMixAll]
  | [], _ :: _ => by simp [noMixAll]
  | _ :: _, [] => by simp [noMixAll]
  | _ :: r, _ :: q => by simp [noMixAll, noMix, noMix_strs r q]
theorem same_strs : ∀ ns : List PySem.Str, PySem.Spec.sameAll (ns.map PyData.str) (ns.map PyData.str) = true
  | [] => by simp [PySem.Spec.sameAll]
  | n :: r => by
    simp only [List.map_cons, PySem.Spec.sameAll, PySem.Spec.same, same_strs r]
    simp

section
variable {prog : Program} {w : World} {A : Around} {E : Value → Shared → Prop} {s : Shared}
theorem reads_strs {h : Heap} {a : Addr} {xs : List (PySem.Str × Tok)} (hl : h.IsList a (strValues xs).toArray) : Reads h (.ref a) (.list ((xs.map (·.1)).map PyData.str)) [a] := by
  obtain ⟨o, ho, hc, n, hd⟩ := hl
  exact Reads.list ho hc hd (by simpa using readsAll_strValues h xs)
theorem ne_strs {a b : Addr} {xs ys : List (PySem.Str × Tok)} {Q : Value → Shared → Prop} (hl : s.heap.IsList a (strValues xs).toArray) (hl' : s.heap.IsList b (strValues ys).toArray) (he : xs.map (·.1) = ys.map (·.1)) (hok : ∀ x ∈ xs.map (·.1), PyData.strOk x = true) (hu : A.units + 64 < cLine)
    (h : Q (.bool false) s) : wpAny (model prog w) A (compareOp .NotEq (.ref a) (.ref b)) Q E s := by
  have r2 := reads_strs hl'
  rw [← he] at r2
  exact ne_dataH_same (reads_strs hl) r2 (shaped_strs _ hok) (shaped_strs _ hok) hu (by simp only [noMix]; exact noMix_strs _ _) (by simp only [PySem.Spec.same]; rw [same_strs]; exact h)
end

theorem header_len : ∀ (n : Nat) (l : List Nat), (header n l).length ≤ 4 * l.length
  | 0, l => by simp [header_zero]
  | n + 1, l => by
    cases hf : Rx.find l with
    | none => rw [header_none hf]; simp
    | some x =>
      obtain ⟨a, k, m⟩ := x
      rw [header_some hf, List.length_append]
      have f1 := (find_spec hf).1
      have f2 := (find_spec hf).2.1
      have h1 := write_len k ((l.drop a).take m)
      have h2 := header_len n (l.drop (a + m))
      rw [List.length_take, List.length_drop] at h1
      rw [List.length_drop] at h2
      omega

/-- a loop over a thing that is drawn from, its body on the path -/
theorem for_loopP {prog : Program} {w : World} {A : Around} {R : Result → Shared → Prop} {s : Shared} {name : PySem.Str} {scope : Scope} {L a I : Addr} {cd : Value} {h₀ : Heap} {x : PySem.Str} {px : Pos} {body : List Stmt}
    {fp : List Addr} {n : Nat} {P : Nat → Value → Prop} {St : Nat → Heap → Prop} (W : Walks prog w A I fp [I] n P St)
    (J : Nat → Vars → List Thing → Prop) {vs : Vars} {os : List Thing} {PI : Obj → Prop}
    (hlive : ∀ i h, St i h → ∃ o, h.get? I = some o) (hfp : ∀ b ∈ fp, b = I ∨ ∃ o, ∀ i vs os PI h, J i vs os → Fm h₀ L vs ((I, PI) :: os) h → h.get? b = some o) (F : Fm h₀ L vs ((I, PI) :: os) s.heap) (hst : St 0 s.heap) (hJ : J 0 vs os)
    (hbody : ∀ i v vs os (rest : List Thing) (s : Shared), i < n → P i v → J i vs os → Fm h₀ L (setV x v vs) (os ++ rest) s.heap →
      wpP prog w A (execs body (envOf name scope L a cd)) (fun f s' => (f = .next ∨ f = .cont) ∧ Mv s s' ∧ ∃ vs' os', J (i + 1) vs' os' ∧ Fm h₀ L vs' (os' ++ rest) s'.heap) (fun _ _ => False) s)
    (hR : ∀ vs os s', J n vs os → Fm h₀ L vs os s'.heap → Mv s s' → R (.ok .next) s')
    (hk : scope.kind = .function := by rfl) (hl : (envOf name scope L a cd).kindOf x = some .local := by rfl) :
    codeP prog w A (.forLoop (.Name x px) (.ref I) body [] (envOf name scope L a cd)) R s := by
  refine forP (fun k s' => ∃ i vs os PI, Mv s s' ∧ i ≤ n ∧ k = n - i ∧ J i vs os ∧ Fm h₀ L vs ((I, PI) :: os) s'.heap ∧ St i s'.heap) ?_ n ⟨0, vs, os, PI, Mv.refl s, Nat.zero_le _, rfl, hJ, F, hst⟩
  rintro k s' ⟨i, vs, os, PI, hmv, hi, rfl, hJ, F, hst⟩
  obtain ⟨_, hIL, hI0⟩ := F.nw (I, PI) (.head _)
  have again : ∀ {h' : Heap} {os' : List Thing} {vs' : Vars} {PI : Obj → Prop} {h : Heap} {oI : Obj}, Fm h₀ L vs' ((I, PI) :: os') h → (∀ b o, b ∉ [I] → h.get? b = some o → h'.get? b = some o) → h'.get? I = some oI →
      Fm h₀ L vs' ((I, fun x => x = oI) :: os') h' := by
    intro h' os' vs' PI h oI F hk' hoI
    obtain ⟨m, f, hv⟩ := F.fr
    refine ⟨⟨m, ⟨f.ns.at' fun o e => hk' _ _ (by simpa using Ne.symm hIL) e, fun b o e => hk' b o (fun hb => ?_) (f.keep b o e), f.above⟩, hv⟩, fun p hp => ?_, F.nd⟩
    · rw [List.mem_singleton.mp hb, hI0] at e; cases e
    · rcases List.mem_cons.mp hp with rfl | hp
      · exact ⟨⟨oI, hoI, rfl⟩, hIL, hI0⟩
      · obtain ⟨⟨o, ho, y⟩, r⟩ := F.nw p (.tail _ hp)
        refine ⟨⟨o, hk' _ _ (fun hb => ?_) ho, y⟩, r⟩
        exact (List.nodup_cons.mp F.nd).1 (List.mem_map.mpr ⟨p, hp, List.mem_singleton.mp hb⟩)
  by_cases hlt : i < n
  · refine wpP_of (W.item i _ _ _ hlt hst fun v h₁ tk hP hst₁ hk₁ => ?_)
    obtain ⟨oI, hoI⟩ := hlive _ _ hst₁
    have F₁ := again F hk₁ hoI
    refine wpAny_assign_Name (stv F₁ (fun h₂ F₂ => ?_) hk hl)
    refine wpP_mono (hbody i v vs os [(I, fun x => x = oI)] _ hlt hP hJ (F₂.perm (List.perm_append_singleton _ _))) (fun f s₃ h₃ => ?_) fun _ _ h => h.elim
    obtain ⟨hf, hmv₃, vs', os', hJ', F₃⟩ := h₃
    have F₄ : Fm h₀ L vs' ((I, fun x => x = oI) :: os') s₃.heap := F₃.perm (List.perm_append_singleton _ _).symm
    have hend : ∃ m, m < n - i ∧ ∃ j vs os PI, Mv s s₃ ∧ j ≤ n ∧ m = n - j ∧ J j vs os ∧ Fm h₀ L vs ((I, PI) :: os) s₃.heap ∧ St j s₃.heap := by
      refine ⟨n - (i + 1), by omega, i + 1, vs', os', _, (hmv.trans (Mv.mk s' h₂ (tk + 1))).trans hmv₃, hlt, rfl, hJ', F₄, W.frame _ _ _ hst₁ fun b hb o e => ?_⟩
      rcases hfp b hb with rfl | ⟨o', ho'⟩
      · rw [hoI] at e; cases e
        obtain ⟨o', ho', rfl⟩ := F₄.thing (.head _)
        exact ho'
      · rw [ho' _ _ _ _ _ hJ F₁] at e; cases e
        exact ho' _ _ _ _ _ hJ' F₄
    rcases hf with rfl | rfl <;> exact hend
  · obtain rfl : i = n := by omega
    refine wpP_of (W.done _ _ _ hst fun h' tk hk' => ?_)
    refine hR vs os _ hJ ?_ (hmv.trans (Mv.mk s' h' tk))
    obtain ⟨m, f, hv⟩ := F.fr
    refine ⟨⟨m, ⟨f.ns.at' fun o e => hk' _ _ (by simpa using Ne.symm hIL) e, fun b o e => hk' b o (fun hb => ?_) (f.keep b o e), f.above⟩, hv⟩, fun p hp => ?_, (List.nodup_cons.mp F.nd).2⟩
    · rw [List.mem_singleton.mp hb, hI0] at e; cases e
    · obtain ⟨⟨o, ho, y⟩, r⟩ := F.nw p (.tail _ hp)
      refine ⟨⟨o, hk' _ _ (fun hb => ?_) ho, y⟩, r⟩
      exact (List.nodup_cons.mp F.nd).1 (List.mem_map.mpr ⟨p, hp, List.mem_singleton.mp hb⟩)
end Wk
end Mine
end

section
open PySem PySem.W PyProof.Rows
set_option maxRecDepth 100000
set_option maxHeartbeats 2000000
namespace Mine
namespace Wk
open PySem.Calls PySem.Builtin PySem.Builtin.Str Mine.Pl Mine.Tx

section
variable {prog : Program} {w : World} {A : Around} {E : Value → Shared → Prop} {s : Shared} {mg mb : PySem.Str → Option Value}
def TextJ2 (l g : Addr) (i : Nat) (vs : Vars) (os : List Thing) : Prop :=
  vs = textVs l g ∧ ∃ xs : List (PySem.Str × Tok), xs.length = i ∧ (∀ p ∈ xs, p.1.length = 1) ∧ (∀ p ∈ xs, ∀ c ∈ p.1.cps.toList, c < 1114112) ∧ os = [(g, lst (strValues xs))]
def TextQ2 (h₀ : Heap) (L l g : Addr) (i : Nat) (rest : List Thing) (s : Shared) (f : Flow) (s' : Shared) : Prop :=
  (f = .next ∨ f = .cont) ∧ Mv s s' ∧ ∃ vs' os', TextJ2 l g (i + 1) vs' os' ∧ Fm h₀ L vs' (os' ++ rest) s'.heap

theorem text_body2 {h₀ : Heap} {L l g : Addr} {cd : Value} {i : Nat} {v : Value} {vs : Vars} {os rest : List Thing} (G : Gl mg mb h₀) (N : Nm mg mb) (hi : i ≤ 100) (hv : ∃ k t, v = .int k t)
    (hJ : TextJ2 l g i vs os) (Fb : Fm h₀ L (setV "x" v vs) (os ++ rest) s.heap) {body : List Stmt} {tgt itr oe ps} (hb : (D 7).body[1]? = some (.For tgt itr body oe ps)) :
    wpAny (model prog w) A (execs body (envOf (D 7).name (D 7).scope L 55 cd)) (TextQ2 h₀ L l g i rest s) (fun _ _ => False) s := by
  cases hb
  obtain ⟨rfl, xs, hx1, hx2, hx3, rfl⟩ := hJ
  obtain ⟨k, t, rfl⟩ := hv
  have Fb' : Fm h₀ L [("script", .ref l), ("signs", .ref g), ("x", .int k t)] ((g, lst (strValues xs)) :: rest) s.heap := Fb
  have Gb : Gl mg mb s.heap := G.keeps fun b o e => Fb.keep e
  have hlen : (strValues xs).length ≤ sizeLine := by rw [strValues_len, hx1, sizeLine_eq]; omega
  have fin : ∀ (c : Nat) (u : Tok) (tk : Nat), c < 1114112 → wpAny (model prog w) A (call (.builtin "list.append") [.ref g, .str ⟨#[c]⟩ u])
      (fun v s₁ => match v with | .ref _ => False | _ => TextQ2 h₀ L l g i rest s .next s₁) (fun _ _ => False) { s with toks := tk } := by
    intro c u tk hc
    refine appendv (s := { s with toks := tk }) Fb' (fun h' F' => ⟨.inl rfl, ⟨h', tk, rfl⟩, _, _, ⟨rfl, xs ++ [(⟨#[c]⟩, u)], by simp [hx1], ?_, ?_, rfl⟩, ?_⟩) hlen
    · intro p hp
      rcases List.mem_append.mp hp with hp | hp
      · exact hx2 p hp
      · rw [List.mem_singleton.mp hp]; rfl
    · intro p hp
      rcases List.mem_append.mp hp with hp | hp
      · exact hx3 p hp
      · rw [List.mem_singleton.mp hp]
        intro d hd
        simp only [List.mem_singleton] at hd
        rw [hd]; exact hc
    · rw [strValues_snoc]
      exact F'.vars (by intro p hp; simp only [List.mem_cons, List.not_mem_nil, or_false] at hp ⊢; rcases hp with h | h <;> simp [h])
  refine wpAny_execs_cons (wpAny_Expr (MethodCall_ (ldv Fb' (.tail _ (.head _)) (getAppendv Fb' (cw1 (wpAny_IfExp ?_))))))
  refine wpAny_isTrue_Compare1 (wpAny_BinOp (ldv Fb' (.tail _ (.tail _ (.head _))) (wpAny_Constant_int (mod_int' (by decide) (wpAny_Constant_int (P.lt_int (wpAny_truthy_bool ?_)))))))
  have hm0 : 0 ≤ k.fmod 16 := Int.fmod_nonneg_of_pos _ (by decide)
  by_cases hk : k.fmod 16 < 14
  · simp only [hk, decide_true, if_true]
    refine Subscript_ (Constant_str (wpAny_BinOp (ldv Fb' (.tail _ (.tail _ (.head _))) (wpAny_Constant_int (mod_int' (by decide) ?_)))))
    refine subscriptTail_builtin (typeIs_str _ _ _) F.slot_str_getitem.lookup ?_
    generalize hx : (PySem.Str.ofString _) = x
    have hln : x.length = 14 := by subst hx; decide +kernel
    have hall : x.cps.all (· < 1114112) = true := by subst hx; decide +kernel
    obtain ⟨c, hc⟩ := StrLaws.some_at (x := x) hm0 (by rw [hln]; exact hk)
    have hc' : c < 1114112 := by
      have := Array.all_eq_true'.mp hall c (Array.mem_of_getElem? hc)
      simpa using this
    exact P.getItem_str (by simp; omega) (StrLaws.at_nonneg hm0 hc) (wpAny_mono (fin _ _ _ hc') (fun v s₁ h => by cases v <;> first | exact h | exact wpAny_execs_nil h) fun _ _ h => h)
  · simp only [hk, decide_false, Bool.false_eq_true, if_false]
    refine cn1 (bv Gb N.chr0 N.chr ⟨rfl, wpAny_BinOp (wpAny_BinOp ?_)⟩)
    refine ldv Fb' (.tail _ (.tail _ (.head _))) (wpAny_Constant_int (floordiv_int (by decide) (wpAny_Constant_int (mod_int' (by decide) ?_))))
    have h1 : 0 ≤ (k.fdiv 16).fmod 55296 := Int.fmod_nonneg_of_pos _ (by decide)
    have h2 : (k.fdiv 16).fmod 55296 < 55296 := Int.fmod_lt_of_pos _ (by decide)
    exact P.chr_of_int (by simp; omega) (wpAny_mono (fin _ _ _ (by omega)) (fun v s₁ h => by cases v <;> first | exact h | exact wpAny_execs_nil h) fun _ _ h => h)

theorem text_spec2 {R : Result → Shared → Prop} {l : Addr} {its : List Value} (G : Gl mg mb s.heap) (N : Nm mg mb) (hroom : A.depth < recursionLimit) (hh : A.handled = none)
    (hl : s.heap.IsList l its.toArray) (hi : ∀ v ∈ its, ∃ i t, v = .int i t) (hn : its.length ≤ 100)
    (hR : ∀ s' t' (x : List Nat), x.length = its.length → (∀ c ∈ x, c < 1114112) → Mv s s' → (∀ b o, s.heap.get? b = some o → s'.heap.get? b = some o) → R (.ok (.ret (.str (str x) t'))) s') :
    codeAny (model prog w) A (.call (.ref 55) ⟨[.ref l], []⟩) R s := by
  refine enter (binds := [("script", .ref l)]) G.text G.lim hroom (fun _ _ _ => rfl) (locs rfl) (fun L cd h₁ F => ?_) rfl rfl rfl (by decide)
  have F0 : Fm s.heap L [("script", .ref l)] [] h₁ := Fm.start F (fun p hp => by rw [List.mem_singleton.mp hp]; rfl)
  refine wpAny_execs_cons (wpAny_Assign_Name (List_ (spliced_nil (newListv F0 fun h₂ F2 _ => stv F2 fun h₃ F3 => ?_))))
  refine wpAny_execs_cons (wpAny_For (ldv F3 (.head _) (wpAny_pyIter_list (items := its.toArray) ?_ ?_)))
  · obtain ⟨o, ho, r⟩ := hl
    exact ⟨o, F3.keep ho, r⟩
  have hne : l ≠ h₃.objs.size := by
    obtain ⟨o, ho, _⟩ := hl
    exact Nat.ne_of_lt (Heap.lt_size (F3.keep ho))
  dsimp only at F3 ⊢
  generalize h₁.objs.size = g at F3
  have F3' : Fm s.heap L (textVs l g) [(g, lst [])] h₃ := F3
  refine for_loop (Walks.list (by exact hh) h₃.objs.size l hne its.toArray) (TextJ2 l g)
    (fun i h st => let ⟨o, ho, _⟩ := st.1; ⟨o, ho⟩) (fun b hb => ?_) (by exact F3'.push _ (P := fun _ => True) trivial rfl) ⟨⟨_, Heap.get?_push_size _ rfl, rfl, rfl⟩, ?_⟩ ⟨rfl, [], rfl, (by intro _ h; cases h), (by intro _ h; cases h), rfl⟩
    (fun i v vs os rest s' hi' hP hJ Fb => text_body2 G N (Nat.le_trans (Nat.le_of_lt (by simpa using hi')) hn) (hi v (by simpa using List.mem_of_getElem? (by simpa using hP))) hJ Fb rfl) ?_
  · simp only [List.mem_cons, List.not_mem_nil, or_false] at hb
    rcases hb with rfl | rfl
    · exact .inl rfl
    · obtain ⟨o, ho, _⟩ := hl; exact .inr ⟨o, ho⟩
  · obtain ⟨o, ho, r⟩ := hl
    exact ⟨o, Heap.get?_push_of_some _ (F3.keep ho), r⟩
  rintro vs os s' ⟨rfl, xs, hx1, hx2, hx3, rfl⟩ Fe hmv
  have hx1 : xs.length = its.length := by simpa using hx1
  refine wpAny_execs_cons (wpAny_Return_some (MethodCall_ (Constant_str (GM.join (cw1 (ldv Fe (.tail _ (.head _)) ?_))))))
  refine SC.join (l := xs) (lst_isList (Fe.thing (.head _))) rfl ?_ fun t' k => ?_
  · refine join_ok (B := 1) (fun y hy => ?_) (by rw [List.length_map]; omega)
    obtain ⟨p, hp, rfl⟩ := List.mem_map.mp hy
    exact Nat.le_of_eq (hx2 p hp)
  · have e : xs.map (·.1) = (xs.map (·.1.cps.toList)).map str := by
      rw [List.map_map]
      exact List.map_congr_left fun p _ => str_of p.1
    rw [e, join_empty]
    refine hR _ _ _ ?_ ?_ ?_ fun b o e => Fe.keep e
    · rw [List.length_flatten, ← hx1]; exact sum_ones hx2
    · intro c hc
      obtain ⟨y, hy, hcy⟩ := List.mem_flatten.mp hc
      obtain ⟨p, hp, rfl⟩ := List.mem_map.mp hy
      exact hx3 p hp c hcy
    · exact Mv.trans ⟨_, _, rfl⟩ (hmv.trans ⟨_, _, rfl⟩)
end
end Wk
end Mine
end

section
open PySem PySem.W PyProof.Rows
set_option maxRecDepth 100000
set_option maxHeartbeats 2000000
namespace Mine
namespace Wk
open PySem.Calls PySem.Builtin PySem.Builtin.Str Mine.Pl Mine.Tx

def Ok (l : List Nat) : Prop := ∀ c ∈ l, c < 1114112
theorem Ok.app {a b : List Nat} (x : Ok a) (y : Ok b) : Ok (a ++ b) := fun c hc => (List.mem_append.mp hc).elim (x c) (y c)
theorem Ok.cons {a : Nat} {b : List Nat} (x : a < 1114112) (y : Ok b) : Ok (a :: b) := fun c hc => by
  rcases List.mem_cons.mp hc with rfl | hc
  · exact x
  · exact y c hc
theorem Ok.nil : Ok [] := fun _ h => nomatch h
theorem Ok.sub {a b : List Nat} (x : Ok b) (h : ∀ c ∈ a, c ∈ b) : Ok a := fun c hc => x c (h c hc)
theorem held_ok {x : List Nat} (h : Ok x) : Ok (held x) := by
  intro c hc
  obtain ⟨d, hd, hcd⟩ := List.mem_flatMap.mp hc
  have := h d hd
  unfold esc at hcd
  split at hcd
  · simp at hcd; omega
  · split at hcd
    · simp at hcd; omega
    · simp at hcd; omega
theorem write_ok {k : Nat} {x : List Nat} (h : Ok x) : Ok (write k x) := by
  unfold write
  split
  · exact (Ok.cons (by decide) (held_ok (h.sub fun c hc => List.mem_of_mem_drop ((List.dropLast_sublist _).subset hc)))).app (Ok.cons (by decide) Ok.nil)
  · split
    · exact Ok.cons (by decide) (held_ok (h.sub fun c hc => List.mem_of_mem_drop hc))
    · intro c hc
      obtain ⟨d, hd, rfl⟩ := List.mem_map.mp hc
      have := h d hd
      unfold q2
      split <;> omega
theorem header_ok : ∀ (n : Nat) {l : List Nat}, Ok l → Ok (header n l)
  | 0, l, _ => by rw [header_zero]; exact Ok.nil
  | n + 1, l, h => by
    cases hf : Rx.find l with
    | none => rw [header_none hf]; exact Ok.nil
    | some x =>
      obtain ⟨a, k, m⟩ := x
      rw [header_some hf]
      exact (write_ok (h.sub fun c hc => List.mem_of_mem_drop (List.mem_of_mem_take hc))).app (header_ok n (h.sub fun c hc => List.mem_of_mem_drop hc))
theorem pfold_ok : ∀ (h : List Nat) (st : Ps), Ok h → Ok st.part → (∀ x ∈ st.res, Ok x) → Ok (h.foldl pstep st).part ∧ ∀ x ∈ (h.foldl pstep st).res, Ok x
  | [], st, _, h1, h2 => ⟨h1, h2⟩
  | c :: h, st, h0, h1, h2 => by
    rw [List.foldl_cons]
    have hc := h0 c (.head _)
    have h3 : Ok (st.part ++ [c]) := h1.app (Ok.cons hc Ok.nil)
    refine pfold_ok h (pstep st c) (h0.sub fun d hd => .tail _ hd) ?_ ?_
    · unfold pstep
      split
      · exact h3
      · split
        · split
          · exact h1
          · split <;> exact h3
        · split
          · exact Ok.nil
          · split <;> exact h3
    · unfold pstep
      split
      · exact h2
      · split
        · split
          · exact h2
          · split <;> exact h2
        · split
          · intro x hx
            rcases List.mem_append.mp hx with hx | hx
            · exact h2 x hx
            · rw [List.mem_singleton.mp hx]; exact h1
          · split <;> exact h2
theorem parse_ok {h : List Nat} (x : Ok h) : ∀ y ∈ parse h, Ok y := by
  obtain ⟨h1, h2⟩ := pfold_ok h ⟨[], [], false, false⟩ x Ok.nil (fun _ h => nomatch h)
  unfold parse
  dsimp only
  split
  · exact h2
  · intro y hy
    rcases List.mem_append.mp hy with hy | hy
    · exact h2 y hy
    · rw [List.mem_singleton.mp hy]; exact h1
theorem strOk_str {l : List Nat} (h : Ok l) : PyData.strOk (str l) = true := by
  unfold PyData.strOk
  rw [Array.all_eq_true']
  intro c hc
  simpa using h c (by simpa using hc)
theorem strOk_strip {x : PySem.Str} (h : PyData.strOk x = true) : PyData.strOk (Txt.strip x) = true := by
  unfold Txt.strip Txt.stripBy
  split
  · exact h
  · unfold PySem.stripped strSub PyData.strOk at *
    rw [Array.all_eq_true'] at *
    intro c hc
    refine h c ?_
    rw [← Array.mem_toList_iff] at hc ⊢
    simp only [Array.toList_extract, List.extract_eq_take_drop] at hc
    exact List.mem_of_mem_drop (List.mem_of_mem_take hc)

section
variable {prog : Program} {w : World} {A : Around} {E : Value → Shared → Prop} {s : Shared} {mg mb : PySem.Str → Option Value}
abbrev lawBody : List Stmt := (D 11).body[1]?.elim [] fun | .For _ _ body _ _ => body | _ => []

theorem law_body {h₀ : Heap} {L a : Addr} {cd S T : Value} {l : List Nat} {t : Tok} {os rest : List Thing} (G : Gl mg mb h₀) (N : Nm mg mb) (X : Pat w.params h₀) (hroom : A.depth + 30 < recursionLimit) (hh : A.handled = none) (hu : A.units ≤ 900) (hl : l.length ≤ 1000) (hok : Ok l)
    (Fb : Fm h₀ L ([("script", S), ("text", T), ("whole", .str (str l) t)] : Vars) (os ++ rest) s.heap) :
    wpP prog w A (execs lawBody (envOf (D 11).name (D 11).scope L a cd)) (fun f s' => (f = .next ∨ f = .cont) ∧ Mv s s' ∧ Fm h₀ L ([("script", S), ("text", T)] : Vars) (os ++ rest) s'.heap) (fun _ _ => False) s := by
  have G1 : Gl mg mb s.heap := G.keeps fun b o e => Fb.keep e
  have X1 : Pat w.params s.heap := X.keeps fun b o e => Fb.keep e
  refine wpP_execs_cons (wpP_If (wpP_isTrue_Compare1 (cfP (a := 48) (d := D 5) (wpP_of (gv G1 N.parse ⟨rfl, cfP (a := 69) (d := D 9) (wpP_of (gv G1 N.header ⟨rfl, wpP_of (ldv Fb (.tail _ (.tail _ (.head _))) ⟨G1.header, header_spec G1 N X1 (by omega) hh (by omega) hl fun s₂ t₂ hmv2 hk2 => ?_⟩)⟩))⟩)))))
  have G2 : Gl mg mb s₂.heap := G1.keeps hk2
  have F2 := Fb.grown hk2
  refine ⟨G2.parse, codeP_of (parse_spec G2 (by omega) hh (Nat.le_trans (header_len _ _) (by omega)) fun s₃ D₃ zs hmv3 hk3 hn3 ho3 hz3 => ?_)⟩
  have G3 : Gl mg mb s₃.heap := G2.keeps hk3
  have F3 := F2.grown hk3
  refine wpP_of (cf1 (a := 74) (d := D 10) (gv G3 N.parts ⟨rfl, ldv F3 (.tail _ (.tail _ (.head _))) ⟨G3.parts, parts_spec G3 N (by omega) hh hl fun s₄ D₄ zs' hmv4 hk4 hn4 ho4 hz4 => ?_⟩⟩))
  have F4 := F3.grown hk4
  have ho3' : ∃ o, s₄.heap.get? D₃ = some o ∧ lst (strValues zs) o := let ⟨o, e, x⟩ := ho3; ⟨o, hk4 _ _ e, x⟩
  have heq : zs.map (·.1) = zs'.map (·.1) := by rw [hz3, hz4, Pl.law (Nat.le_refl _)]
  refine wpP_of (ne_strs (lst_isList ho3') (lst_isList ho4) heq ?_ ?_ (wpP_of (wpAny_truthy_bool ?_)))
  · rw [hz3]
    intro x hx
    obtain ⟨y, hy, rfl⟩ := List.mem_map.mp hx
    exact strOk_strip (strOk_str (parse_ok (header_ok _ hok) y hy))
  · show A.units + 64 < 9900
    omega
  · refine wpP_of (wpAny_execs_nil (wpP_of (wpAny_execs_nil ⟨.inl rfl, ((hmv2.trans hmv3).trans hmv4).trans ⟨_, _, rfl⟩, ?_⟩)))
    exact F4.vars fun p hp => List.mem_append_left ([("whole", .str (str l) t)] : Vars) hp

theorem List2 {M : Model} {e₁ e₂ : Expr} {pos : Pos} {env : Env} {Q : Value → Shared → Prop} (h : wpAny M A (eval e₁ env) (fun v s₁ => wpAny M A (eval e₂ env) (fun v' s₂ => wpAny M A (newList [v, v']) Q E s₂) E s₁) E s)
    (hs : starEach [e₁, e₂] env = [(false, eval e₁ env), (false, eval e₂ env)] := by rfl) : wpAny M A (eval (.List [e₁, e₂] pos) env) Q E s :=
  List_ (by rw [hs]; exact spliced_cons (wpAny_mono h (fun v s₁ h₁ => spliced_cons (wpAny_mono h₁ (fun v' s₂ h₂ => spliced_nil h₂) fun _ _ x => x)) fun _ _ x => x))

theorem sliceListTo {h₀ : Heap} {L : Addr} {vs : Vars} {os : List Thing} {value slice : Expr} {a : Addr} {its : List Value} {k : Nat} {uk : Tok} {Q : Value → Shared → Prop} (F : Fm h₀ L vs os s.heap) (hl : s.heap.IsList a its.toArray) (hsz : its.length ≤ sizeLine)
    (h : ∀ h' D, Fm h₀ L vs os h' → (∃ o, h'.get? D = some o ∧ lst (its.take k) o) → Q (.ref D) { s with heap := h' })
    (hs : subscripted slice false (.ref a) (.ref s.heap.objs.size) = operate [.ref s.heap.objs.size, .ref a] (getItem (.ref a) (.ref s.heap.objs.size)) := by with_unfolding_all rfl)
    (ht : ∀ r, letTemporaryGo value (.ref a) r = pure () := by intro _; with_unfolding_all rfl) :
    wpAny (model prog w) A (subscriptTail value slice (.ref a) (.ref s.heap.objs.size)) Q E { s with heap := s.heap.push { cls := .type "slice", data := .fields #[.none, .int k uk, .none] } } := by
  refine subscriptTail_ops (Heap.IsList.typeIs (s := { s with heap := s.heap.push { cls := .type "slice", data := .fields #[.none, .int k uk, .none] } }) (hl.push _)) list_getitem_lookup
    (wpAny_getItem_list_slice (hl.push _) (Heap.IsSliceOf.new ..) .none (.int _ _) .none (by simp) ?_ (by simpa using hsz)) hs ht
  have F1 := (F.push { cls := .type "slice", data := .fields #[.none, .int k uk, .none] } (P := fun _ => True) trivial).push { cls := .type "list", data := .seq (slicePick its.toArray none (some (k : Int)) none) } (P := lst (its.take k)) ⟨_, by rw [slicePick_upto']⟩
  exact h _ _ (F1.fewer ((List.sublist_cons_self _ _).trans (List.sublist_cons_self _ _))) (F1.thing (.head _))

def LawJ (l : Addr) (x : List Nat) (t1 : Tok) (wl : Addr) (ow : Obj) (_ : Nat) (vs : Vars) (os : List Thing) : Prop :=
  vs = ([("script", .ref l), ("text", .str (str x) t1)] : Vars) ∧ os = [(wl, fun o => o = ow)]

theorem lit_a : PySem.Str.ofString "a[,\\" = str [97, 91, 44, 92] := by decide +kernel
theorem lit_b : PySem.Str.ofString ", ]b ,[\n," = str [44, 32, 93, 98, 32, 44, 91, 10, 44] := by decide +kernel

theorem law_spec {R : Result → Shared → Prop} {a l : Addr} {its : List Value} (hf : FnAt s.heap a (D 11)) (G : Gl mg mb s.heap) (N : Nm mg mb) (X : Pat w.params s.heap) (hroom : A.depth + 60 < recursionLimit) (hh : A.handled = none) (hu : A.units ≤ 800)
    (hl : s.heap.IsList l its.toArray) (hi : ∀ v ∈ its, ∃ i t, v = .int i t) (hn : its.length ≤ 1048576)
    (hR : ∀ s', Mv s s' → (∀ b o, s.heap.get? b = some o → s'.heap.get? b = some o) → R (.ok (.ret (.bool true))) s') :
    codeP prog w A (.call (.ref a) ⟨[.ref l], []⟩) R s := by
  have hsl : sizeLine = 16777216 := sizeLine_eq
  refine enterP (binds := [("script", .ref l)]) hf G.lim (by omega) (fun _ _ _ => rfl) (locs rfl) (fun L cd h₁ F => ?_) rfl rfl rfl (by decide)
  have F0 : Fm s.heap L [("script", .ref l)] [] h₁ := Fm.start F (fun p hp => by rw [List.mem_singleton.mp hp]; rfl)
  have hdep : (A.deeper (envOf (D 11).name (D 11).scope L a cd)).depth + 50 < recursionLimit := by
    show A.depth + 1 + 50 < _
    omega
  have hun : (A.deeper (envOf (D 11).name (D 11).scope L a cd)).units ≤ 900 := by
    simp [Around.deeper]; omega
  have hhd : (A.deeper (envOf (D 11).name (D 11).scope L a cd)).handled = none := hh
  generalize hA : A.deeper (envOf (D 11).name (D 11).scope L a cd) = A' at hdep hun hhd
  have G1 : Gl mg mb h₁ := G.keeps fun b o e => F0.keep e
  have hl1 : h₁.IsList l its.toArray := let ⟨o, ho, r⟩ := hl; ⟨o, F0.keep ho, r⟩
  refine wpP_execs_cons_of (wpAny_Assign_Name (cf1 (a := 55) (d := D 7) (gv G1 N.text ⟨rfl, Subscript_ (ldv F0 (.head _) (wpAny_Slice (wpAny_pure (partc (wpAny_pure ?_)))))⟩)))
  refine sliceListTo (k := 12) F0 hl1 (by omega) fun h₂ D₂ F2 ho2 => ?_
  have G2 : Gl mg mb h₂ := G.keeps fun b o e => F2.keep e
  refine ⟨G2.text, text_spec2 G2 N (by omega) hhd (lst_isList ho2) (fun v hv => hi v (List.mem_of_mem_take hv)) (by rw [List.length_take]; omega) fun s₃ t3 x hxl hxo hmv3 hk3 => stv (F2.grown hk3) fun h₄ F4 => ?_⟩
  have hx12 : x.length ≤ 12 := by rw [hxl, List.length_take]; omega
  have F4' : Fm s.heap L ([("script", .ref l), ("text", .str (str x) t3)] : Vars) [] h₄ := F4
  clear F4
  dsimp only
  have na : (PySem.Str.ofString "a[,\\").length = 4 := by decide +kernel
  have nb : (PySem.Str.ofString ", ]b ,[\n,").length = 9 := by decide +kernel
  refine wpP_execs_cons (wpP_For (List2 (ldv F4' (.tail _ (.head _)) (wpAny_BinOp (wpAny_BinOp (Constant_str (ldv F4' (.tail _ (.head _)) (add_str (fun t5 k5 => Constant_str (add_str (fun t6 k6 => ?_) ?_)) ?_))))))))
  rotate_left
  · have : (PySem.Str.ofString "a[,\\" ++ str x).length = 4 + x.length := by rw [lit_a, str_append, str_len]; simp; omega
    rw [this, nb]; omega
  · rw [na, str_len]; omega
  rw [show PySem.Str.ofString "a[,\\" ++ str x ++ PySem.Str.ofString ", ]b ,[\n," = str ([97, 91, 44, 92] ++ x ++ [44, 32, 93, 98, 32, 44, 91, 10, 44]) by rw [lit_a, lit_b, str_append, str_append]]
  refine newListv F4' (fun h₅ F5 _ => ?_) (by show 2 ≤ _; omega)
  dsimp only at F5 ⊢
  generalize h₄.objs.size = wl at F5
  obtain ⟨ow, _, F6⟩ := F5.pin (pre := [])
  have hlw := lst_isList (F5.thing (.head _))
  refine wpAny_pyIter_list hlw ?_
  have hne : wl ≠ h₅.objs.size := Nat.ne_of_lt (F6.size.1 _ (.head _))
  have hok2 : Ok ([97, 91, 44, 92] ++ x ++ [44, 32, 93, 98, 32, 44, 91, 10, 44]) := Ok.app (Ok.app (by intro c hc; simp at hc; omega) hxo) (by intro c hc; simp at hc; omega)
  generalize hx2 : [97, 91, 44, 92] ++ x ++ [44, 32, 93, 98, 32, 44, 91, 10, 44] = x2 at hok2 F6 hlw
  have hx2l : x2.length ≤ 1000 := by rw [← hx2]; simp; omega
  refine for_loopP (Walks.list hhd h₅.objs.size wl hne [Value.str (str x) t3, Value.str (str x2) t6].toArray) (LawJ l x t3 wl ow)
    (fun i h st => let ⟨o, ho, _⟩ := st.1; ⟨o, ho⟩) (fun b hb => ?_) (by exact F6.push _ (P := fun _ => True) trivial rfl) ⟨⟨_, Heap.get?_push_size _ rfl, rfl, rfl⟩, hlw.push _⟩ ⟨rfl, rfl⟩ ?_ ?_
  · simp only [List.mem_cons, List.not_mem_nil, or_false] at hb
    rcases hb with rfl | rfl
    · exact .inl rfl
    · refine .inr ⟨ow, fun i vs os PI h hJ F => ?_⟩
      obtain ⟨rfl, rfl⟩ := hJ
      obtain ⟨o, ho, e⟩ := F.thing (.tail _ (.head _))
      rw [ho, e]
  · rintro i v vs os rest s' hi' hP ⟨rfl, rfl⟩ Fb
    have hv : ∃ y u, v = .str (str y) u ∧ y.length ≤ 1000 ∧ Ok y := by
      have hP' : [Value.str (str x) t3, Value.str (str x2) t6][i]? = some v := by simpa using hP
      match i, hP' with
      | 0, h => cases h; exact ⟨x, t3, rfl, by omega, hxo⟩
      | 1, h => cases h; exact ⟨x2, t6, rfl, hx2l, hok2⟩
    obtain ⟨y, u, rfl, hy1, hy2⟩ := hv
    refine wpP_mono (law_body (S := .ref l) (T := .str (str x) t3) (l := y) (t := u) G N X (by omega) hhd hun hy1 hy2 (by exact Fb)) (fun f s₁ h₁ => ?_) fun _ _ h => h
    exact ⟨h₁.1, h₁.2.1, _, _, ⟨rfl, rfl⟩, h₁.2.2⟩
  · rintro vs os s' ⟨rfl, rfl⟩ Fe hmv
    refine wpP_of (wpAny_execs_cons (wpAny_Return_some (wpAny_pure (hR _ ?_ fun b o e => Fe.keep e))))
    exact Mv.trans (Mv.trans (Mv.trans ⟨_, _, rfl⟩ hmv3) ⟨_, _, rfl⟩) hmv
end
end Wk
end Mine
end

section
open PySem PySem.W PyProof.Rows
set_option maxRecDepth 100000
set_option maxHeartbeats 4000000
namespace Mine
namespace Wk
open PySem.Calls PySem.Builtin.Re

section
variable {P : Params} {h : Heap}
theorem fn43 (K : (Mine.hd.heap_39 P).In h) : FnAt h 43 (D 3) := ⟨_, _, _, _, K 43 _ rfl, rfl, _, _, _, _, rfl, K 42 _ rfl, rfl, rfl⟩
theorem fn48 (K : (Mine.hd.heap_39 P).In h) : FnAt h 48 (D 5) := ⟨_, _, _, _, K 48 _ rfl, rfl, _, _, _, _, rfl, K 47 _ rfl, rfl, rfl⟩
theorem fn55 (K : (Mine.hd.heap_39 P).In h) : FnAt h 55 (D 7) := ⟨_, _, _, _, K 55 _ rfl, rfl, _, _, _, _, rfl, K 54 _ rfl, rfl, rfl⟩
theorem fn62 (K : (Mine.hd.heap_39 P).In h) : FnAt h 62 (D 8) := ⟨_, _, _, _, K 62 _ rfl, rfl, _, _, _, _, rfl, K 61 _ rfl, rfl, rfl⟩
theorem fn69 (K : (Mine.hd.heap_39 P).In h) : FnAt h 69 (D 9) := ⟨_, _, _, _, K 69 _ rfl, rfl, _, _, _, _, rfl, K 68 _ rfl, rfl, rfl⟩
theorem fn74 (K : (Mine.hd.heap_39 P).In h) : FnAt h 74 (D 10) := ⟨_, _, _, _, K 74 _ rfl, rfl, _, _, _, _, rfl, K 73 _ rfl, rfl, rfl⟩
theorem fn81 (K : (Mine.hd.heap_39 P).In h) : FnAt h 81 (D 11) := ⟨_, _, _, _, K 81 _ rfl, rfl, _, _, _, _, rfl, K 80 _ rfl, rfl, rfl⟩
theorem pat_of (K : (Mine.hd.heap_39 P).In h) : Pat P h :=
  ⟨⟨_, _, _, K 36 _ rfl⟩, ⟨_, _, K 35 _ rfl, by decide +kernel⟩, K 33 _ rfl⟩
theorem nsAt {mg : PySem.Str → Option Value} (K : (Mine.hd.heap_39 P).In h) (g : h.Ns mainGlobals mg) (x : PySem.Str) {v : Option Value}
    (hv : ∀ es ep, (Mine.hd.heap_39 P).lookup 3 = some { cls := .type "dict", data := .dict es ep } → nsFind es x = v) : mg x = v := by
  obtain ⟨o, es, ep, ho, hd, _, hf⟩ := g
  rw [← hf x]
  have h3 := K 3 _ rfl
  have h3' : h.get? mainGlobals = _ := h3
  rw [ho] at h3'
  cases h3'
  cases hd
  exact hv _ _ rfl
theorem nm_of {mg mb : PySem.Str → Option Value} (K : (Mine.hd.heap_39 P).In h) (g : h.Ns mainGlobals mg) (b : ∀ x : PySem.Str, x ≠ "__name__" → mb x = bootBuiltins x) : Nm mg mb where
  separate := nsAt K g _ fun es ep e => by cases e; rfl
  parse := nsAt K g _ fun es ep e => by cases e; rfl
  text := nsAt K g _ fun es ep e => by cases e; rfl
  held := nsAt K g _ fun es ep e => by cases e; rfl
  header := nsAt K g _ fun es ep e => by cases e; rfl
  parts := nsAt K g _ fun es ep e => by cases e; rfl
  twin := nsAt K g _ fun es ep e => by cases e; rfl
  chr0 := nsAt K g _ fun es ep e => by cases e; rfl
  len0 := nsAt K g _ fun es ep e => by cases e; rfl
  range0 := nsAt K g _ fun es ep e => by cases e; rfl
  chr := (b _ (by decide)).trans (by decide +kernel)
  len := (b _ (by decide)).trans (by decide +kernel)
  range := (b _ (by decide)).trans (by decide +kernel)

theorem ints_of {R : WRecords} {cl : PySem.Str → Option Addr} : ∀ {vs : List Value} {xs : List WData} {as : List Addr}, ReadsAllW R cl h vs xs as → (∀ x ∈ xs, WShape.has R x .int = true) → ∀ v ∈ vs, ∃ i t, v = .int i t
  | _, _, _, .nil, _ => fun _ h => nomatch h
  | _, _, _, .cons r1 r2, hx => fun v hv => by
    rcases List.mem_cons.mp hv with rfl | hv
    · have h1 := hx _ (.head _)
      obtain ⟨i, e⟩ := hasW_int h1
      cases r1 <;> first | exact ⟨_, _, rfl⟩ | cases e
    · exact ints_of r2 (fun x hx' => hx x (.tail _ hx')) v hv
theorem reads_len {R : WRecords} {cl : PySem.Str → Option Addr} : ∀ {vs : List Value} {xs : List WData} {as : List Addr}, ReadsAllW R cl h vs xs as → vs.length = xs.length
  | _, _, _, .nil => rfl
  | _, _, _, .cons _ r2 => by rw [List.length_cons, List.length_cons, reads_len r2]
theorem items_of {R : WRecords} {e : WShape} : ∀ {xs : List WData}, WShape.hasItems R xs e = true → ∀ x ∈ xs, WShape.has R x e = true
  | [], _ => fun _ h => nomatch h
  | y :: ys, hx => fun x hm => by
    rw [WShape.hasItems, Bool.and_eq_true] at hx
    rcases List.mem_cons.mp hm with rfl | hm
    · exact hx.1
    · exact items_of hx.2 x hm
end

theorem post_true (xs : List WData) : _root_.PySem.Challenge.rw_mr0057_01.row.claim.post [WData.list xs] (WData.bool true) [WData.list xs] = true := by
  show (WShape.has [] (WData.bool true) .bool && WTm.holds [] (.eq .res (.lit (.bool true))) { args := [WData.list xs], res := some (WData.bool true), after := [WData.list xs] }) = true
  rw [Bool.and_eq_true]
  exact ⟨by decide +kernel, by simp [WTm.holds, WTm.value, W.same]⟩

theorem holds : _root_.PySem.Challenge.rw_mr0057_01.Holds := by
  refine Mine.hd ?_
  intro w s₀ s₁ mg mb G Y a o pm cd doc dV kV ho hd hcd hD hmg hg args vals as hpre hlay hrd hwl hlo
  have K := kIn_of Y
  have N := nm_of K G.T.g G.T.builtins
  have Gl1 : Gl mg mb s₁.heap := ⟨G.T.g, G.T.b, G.T.nolimit, fn43 K, fn48 K, fn55 K, fn62 K, fn69 K, fn74 K⟩
  obtain rfl : a = 81 := by
    have h1 : mg (PySem.Str.ofString "law") = some (.ref 81) := nsAt K G.T.g _ fun es ep e => by cases e; rfl
    have h2 : mg (PySem.Str.ofString "law") = some (.ref a) := hmg
    rw [h1] at h2
    cases h2
    rfl
  obtain ⟨d, r, rfl, hd1, hr⟩ := hasAllW_cons (e := .list .int) (es := []) (pre_splitW hpre).1
  obtain rfl := hasAllW_nil hr
  obtain ⟨xs, rfl, hxs⟩ := hasW_list hd1
  have hlen : xs.length ≤ 1048576 := length_le_of_layableW (by
    have := hlay
    unfold WData.layableAll at this
    simpa using this)
  cases hrd with
  | cons r1 r2 =>
    cases r2 with
    | nil =>
      cases r1 with
      | list hl1 hl2 hl3 hl4 =>
        rename_i la lo lvs ln las
        refine wpP_call (law_spec (its := lvs.toList) (fn81 K) Gl1 N (pat_of K) (by decide +kernel) rfl (by decide) ⟨_, hl1, hl2, ln, by simpa using hl3⟩ (ints_of hl4 (items_of hxs)) (by rw [reads_len hl4]; exact hlen) fun s' hmv hk => ?_)
        obtain ⟨h', tk, rfl⟩ := hmv
        refine ⟨.inl ⟨.bool true, .bool true, [], rfl, fun _ => rfl, .bool true, post_true xs, fun _ => ⟨List.nodup_nil, fun _ h => nomatch h⟩⟩, .of_keep hk, rfl, .of_eq hg⟩
end Wk
end Mine
end

theorem PySem.Challenge.cw_mr0057_01_holds : PySem.Challenge.rw_mr0057_01.Holds :=
  Mine.Wk.holds
