import PyProof.Rows.All
import Wide.All
import OpenK.AllK
import Wide.FinOn
import PySem.Challenge.RW_ev0008_01
set_option Elab.async false

section -- Go
open PySem PySem.W PySem.Calls PyProof.Rows
set_option maxRecDepth 100000
namespace Mine

/-- a yield of `yield from` over a generator: the full machine takes it as any other step while nothing is watched -/
def okY (s : Shared) (t : Thread) : Prop := ∃ v l k a rest kw fs b r o n, t.cur = .yield v true l k ∧ t.code = .builtin "proto.yield_from" ⟨.ref a :: rest, kw⟩ ∧
  splitAtGen t.stack = some (fs, b, r) ∧ fs.any Frame.guarded = false ∧ s.heap.get? a = some o ∧ o.genNumber? = some n

inductive Go (M : Model) (Φ : Outcome → Shared → Prop) : Shared → Thread → Prop
  | stop {s t o} : t.calm = true → stepK M.den M.prog M.w s t = .halt o s → o.ends = true → Φ o s → Go M Φ s t
  | more {s t s' t'} : (t.calm = true ∨ okY s t) → stepK M.den M.prog M.w s t = .go s' t' → Go M Φ s' t' → Go M Φ s t

theorem okY_forget {s s' : Shared} {t t' : Thread} (hs : s'.forget = s.forget) (ht : t'.forget = t.forget) (h : okY s t) : okY s' t' := by
  obtain ⟨cur, code, pos, st⟩ := t
  obtain ⟨cur', code', pos', st'⟩ := t'
  simp only [Thread.forget, Thread.mk.injEq] at ht
  obtain ⟨rfl, rfl, rfl, hst⟩ := ht
  obtain ⟨v, l, k, a, rest, kw, fs, b, r, o, n, h1, h2, h3, h4, h5, h6⟩ := h
  have hh : s'.heap = s.heap := by have := congrArg (fun x : Shared => x.heap) hs; exact this
  have e := splitAtGen_forgetAll st
  rw [← hst, splitAtGen_forgetAll st'] at e
  dsimp only at h3
  rw [h3] at e
  cases hq : splitAtGen st' with
  | none => rw [hq] at e; cases e
  | some x =>
    obtain ⟨fs', b', r'⟩ := x
    rw [hq] at e
    simp only [Option.map_some, Option.some.injEq, Prod.mk.injEq] at e
    refine ⟨v, l, k, a, rest, kw, fs', b', r', o, n, h1, h2, hq, ?_, by rw [hh]; exact h5, h6⟩
    rw [← any_guarded_forgetAll fs', e.1, any_guarded_forgetAll]; exact h4

section
variable (den : Code → Sem Fin) (prog : Program) (w : World)
theorem lifeStep_okY (others : List Value) (s : Shared) (t : Thread) (h : okY s t) (hz : s.asleep) : lifeStep den prog w others s t = step den prog w s t := by
  obtain ⟨v, l, k, a, rest, kw, fs, b, r, o, n, h1, h2, h3, h4, h5, h6⟩ := h
  obtain ⟨hr, hc⟩ := hz
  obtain ⟨cur, code, pos, st⟩ := t
  dsimp only at h1 h2 h3
  subst h1; subst h2
  obtain ⟨b1, b2, b3, b4⟩ := b
  have hs : Thread.special ⟨.yield v true l k, .builtin "proto.yield_from" ⟨.ref a :: rest, kw⟩, pos, st⟩ = true := by
    simp [Thread.special, Thread.atCollectorCode, Thread.atItsEnd, Thread.yieldsInsideHandler]
  have hsh : closingShows s fs (.builtin "proto.yield_from" ⟨.ref a :: rest, kw⟩) true = false := by
    simp [closingShows, h4, delegateShows, h5, h6, hr]
  simp only [lifeStep, hs, if_true, collectorTurn?, h3, hsh, Thread.atItsEnd, stepCounting]
  simp [hc]
theorem pick_okY (s : Shared) (t : Thread) (h : okY s t) (hr : s.heap.life.registered = []) : (Config.single s t).pick w = .ok (.run 0, .single s t) := by
  obtain ⟨v, l, k, a, rest, kw, fs, b, r, o, n, e1, e2, h3, h4, h5, h6⟩ := h
  have h1 : (Config.single s t).collect? w.params = none := by
    simp [Config.collect?, Config.single, (nothing_to_collect _ _ _ s t hr).1]
  have h2 : (Config.single s t).collectable = [] := by
    simp [Config.collectable, Config.single, (nothing_to_collect w.params _ _ s t hr).2]
  have h3 : (Config.single s t).moves w.params.profile = [.run 0] := by
    simp [Config.moves, Config.single, movesFrom, Thread.moves, Thread.atomic, Thread.rests, Thread.tells, e1]
  simp only [Config.pick, h1, h2, Config.pickThread, h3]
  cases w.params.lifetimes <;> simp
theorem sstep_okY (s : Shared) (t : Thread) (h : okY s t) (hz : s.asleep) : sstep den prog w (.single s t) = (step den prog w s t).lift := by
  have hl := fun others => lifeStep_okY den prog w others s t h hz
  have hp := pick_okY w s t h hz.1
  obtain ⟨v, l, k, a, rest, kw, fs, b, r, o, n, e1, e2, h3, h4, h5, h6⟩ := h
  obtain ⟨cur, code, pos, st⟩ := t
  dsimp only at e1 e2
  subst e1; subst e2
  have hrun : (Config.single s ⟨.yield v true l k, .builtin "proto.yield_from" ⟨.ref a :: rest, kw⟩, pos, st⟩).run den prog w 0 = (step den prog w s ⟨.yield v true l k, .builtin "proto.yield_from" ⟨.ref a :: rest, kw⟩, pos, st⟩).lift := by
    simp only [Config.run, Config.single]
    first
    | (simp [hl, others_single, frozenBadly, ThreadState.insideWrite]; split <;> simp_all [Step.lift, Config.single]; done)
    | (simp [hl, others_single, frozenBadly, ThreadState.insideWrite]; split <;> simp_all [Step.lift, Config.single] <;> split <;> simp; done)
    | (simp [hl, others_single, frozenBadly, ThreadState.insideWrite, Thread.finalizes]; split <;> simp_all [Step.lift, Config.single]; done)
    | (simp [hl, others_single, frozenBadly, ThreadState.insideWrite, Thread.finalizes]; split <;> simp_all [Step.lift, Config.single] <;> split <;> simp; done)
  simp only [sstep, hp, Config.move, hrun]
end

theorem Go.sched {M : Model} {Φ : Outcome → Shared → Prop} {s : Shared} {t : Thread} (h : Go M Φ s t) : ∀ (s' : Shared) (t' : Thread), s'.forget = s.forget → t'.forget = t.forget → s'.asleep →
    ∃ n o s₁ s₂, schedN M.den M.prog M.w n (.single s' t') = .halted o s₁ ∧ Φ o s₂ ∧ s₁.forget = s₂.forget ∧ s₁.heap.life = s'.heap.life := by
  induction h with
  | @stop s t o hc hs ho hΦ =>
    intro s' t' hs' ht' hz
    have hcalm : t'.calm = true := by rw [← Thread.calm_forget, ht', Thread.calm_forget]; exact hc
    have e := step_same M.den M.prog M.w hs' ht'
    rw [← stepK_forget M.den M.prog M.w s t, hs] at e
    cases hq : step M.den M.prog M.w s' t' with
    | go a b => rw [hq] at e; cases e
    | halt o' s₁ =>
      rw [hq] at e
      simp only [Step.forget, Step.halt.injEq] at e
      obtain ⟨rfl, e⟩ := e
      rcases sstep_single M.den M.prog M.w s' t' hcalm hz with hx | hx
      · refine ⟨1, o', s₁, s, ?_, hΦ, e, ?_⟩
        · simp only [schedN, hx, hq, Step.lift]
        · rw [step_halt_same M.den M.prog M.w s' s₁ t' o' hq]
      · rw [hq] at hx; injection hx with hx _; rw [hx] at ho; cases ho
  | @more s t s₁ t₁ hc hs _ ih =>
    intro s' t' hs' ht' hz
    have e := step_same M.den M.prog M.w hs' ht'
    rw [← stepK_forget M.den M.prog M.w s t, hs] at e
    cases hq : step M.den M.prog M.w s' t' with
    | halt a b => rw [hq] at e; cases e
    | go s₂ t₂ =>
      rw [hq] at e
      simp only [Step.forget, Step.go.injEq] at e
      have hl := step_life M.den M.prog M.w s' s₂ t' t₂ hq
      obtain ⟨n, o, s₃, s₄, a, b, c, d⟩ := ih s₂ t₂ e.1 e.2 (Shared.asleep_of_life hl hz)
      have hx : sstep M.den M.prog M.w (.single s' t') = (step M.den M.prog M.w s' t').lift := by
        rcases hc with hc | hc
        · have hcalm : t'.calm = true := by rw [← Thread.calm_forget, ht', Thread.calm_forget]; exact hc
          rcases sstep_single M.den M.prog M.w s' t' hcalm hz with hx | hx
          · exact hx
          · rw [hq] at hx; cases hx
        · exact sstep_okY M.den M.prog M.w s' t' (okY_forget hs' ht' hc) hz
      refine ⟨n + 1, o, s₃, s₄, ?_, b, c, d.trans hl⟩
      simp only [schedN, hx, hq, Step.lift]
      exact a
end Mine
end

section -- Go2
open PySem PySem.W PySem.Calls PyProof.Rows
open Sem (wp)
set_option maxRecDepth 100000
namespace Mine
variable {M : Model} {Φ : Outcome → Shared → Prop}

theorem calm_again {c' c : Code} {p : Pos} {st : List Frame} (hq : c'.quiet = true) : Thread.calm ⟨.pure (.again c'), c, p, st⟩ = true := by
  rw [Thread.calm_eq, Thread.loud_again, hq]; rfl

theorem go_mstep {s s' : Shared} {t t' : Thread} (h : M.step s t = .go s' t') (q : Go M Φ s' t') : Go M Φ s t := by
  cases hl : t.loud with
  | true => rw [M.step_loud hl] at h; cases h
  | false =>
    rw [M.step_quiet hl] at h
    refine .more (.inl ?_) h q
    rw [Thread.calm_eq, hl]
    cases hr : t.refused with
    | false => rfl
    | true => obtain ⟨what, e⟩ := stepK_refused M.den M.prog M.w (s := s) hr; rw [e] at h; cases h

theorem go_reach {base : List Frame} {s s' : Shared} {t : Sem Fin} {c : Code} {p : Pos} {pre : List Frame} {e : End} (h : Reach M base s t c p pre s' e)
    (q : ∀ t' c' p' pre', Exits e t' c' p' pre' → Go M Φ s' ⟨t', c', p', pre' ++ base⟩) : Go M Φ s ⟨t, c, p, pre ++ base⟩ := by
  induction h with
  | exit hx => exact q _ _ _ _ hx
  | step hs _ ih => exact go_mstep hs (ih q)

theorem go_leaf_ret {r : Result} {c : Code} {p : Pos} {k h g l c' p' kp st} {s : Shared} (q : Go M Φ s ⟨k r, c', p', st⟩) : Go M Φ s ⟨leafOf r, c, p, .ret k h g l c' p' kp :: st⟩ :=
  go_mstep (step_leaf_ret M s c p st r k h g l c' p' kp) q
theorem go_leaf_gen {r : Result} {c : Code} {p : Pos} {g k l c' p' st} {s : Shared} (q : Go M Φ (s.setGen g .finished) ⟨k (End.ret r).result, c', p', st⟩) : Go M Φ s ⟨leafOf r, c, p, .gen g k l c' p' :: st⟩ :=
  go_mstep (step_leaf_gen M s c p st r g k l c' p') q

theorem go_wrap {α : Type} {Γ : Ctx} {st : List Frame} (K : α → Sem Fin) (H : Value → Sem Fin) (gd lv) (hf : Γ.Fits st) (m : Sem α) :
    ∀ {Q : α → Pos → Shared → Prop} {E : Value → Pos → Shared → Prop} {p : Pos} {s : Shared}, wp M Γ m Q E p s →
      (∀ a p' s', Q a p' s' → Go M Φ s' ⟨K a, Γ.code, p', st⟩) → (∀ x p' s', E x p' s' → Go M Φ s' ⟨H x, Γ.code, p', st⟩) →
      Go M Φ s ⟨m.wrap K H gd lv, Γ.code, p, st⟩ := by
  induction m with
  | pure a => intro Q E p s h hQ _; exact hQ a p s h
  | raise x => intro Q E p s h _ hE; exact hE x p s h
  | unsupported what => intro Q E p s h; exact h.elim
  | finish x => intro Q E p s h; exact h.elim
  | register a k => intro Q E p s h; exact h.elim
  | yield v g l k => intro Q E p s h; exact h.elim
  | fork c k => intro Q E p s h; exact h.elim
  | await a f d l k => intro Q E p s h; exact h.elim
  | rule tag k ih => intro Q E p s h hQ hE; exact go_mstep (step_rule ..) (ih () h hQ hE)
  | «at» p' k ih => intro Q E p s h hQ hE; exact go_mstep (step_at ..) (ih () h hQ hE)
  | load a part k ih => intro Q E p s h hQ hE; obtain ⟨o, ho, h⟩ := h; exact go_mstep (step_load _ _ _ _ _ _ _ ho) (ih o h hQ hE)
  | update a part f k ih => intro Q E p s h hQ hE; obtain ⟨ha, h⟩ := h; exact go_mstep (step_update _ _ _ _ _ _ _ _ ha) (ih () h hQ hE)
  | alloc o k ih => intro Q E p s h hQ hE; exact go_mstep (step_alloc ..) (ih _ h hQ hE)
  | loadIfAlive a k ih => intro Q E p s h hQ hE; exact go_mstep (step_loadIfAlive ..) (ih _ h hQ hE)
  | point l k ih => intro Q E p s h hQ hE; exact go_mstep (step_point ..) (ih () h hQ hE)
  | fresh k ih => intro Q E p s h hQ hE; exact go_mstep (step_fresh ..) (ih _ h hQ hE)
  | ask k ih => intro Q E p s h hQ hE; exact go_mstep (step_ask ..) (ih _ h hQ hE)
  | choose src n k ih => intro Q E p s h hQ hE; obtain ⟨hn, h⟩ := h; exact go_mstep (step_choose _ _ _ _ _ _ _ hn) (ih _ h hQ hE)
  | os q l k ih => intro Q E p s h hQ hE; exact go_mstep (step_os ..) (ih _ h hQ hE)
  | call c h g l k ih =>
    intro Q E p s hw hQ hE; obtain ⟨r, s₁, hret, hw⟩ := hw
    refine go_mstep (step_call ..) ?_
    refine go_reach (pre := []) (runs_reach hret _ (hf.enter c _ h (gd g) (lv l) p [])) ?_
    rintro _ _ _ _ ⟨rfl, rfl⟩
    exact go_leaf_ret (ih r hw hQ hE)
  | handled own k ih =>
    intro Q E p s h hQ hE
    refine go_mstep (step_handled ..) ?_
    have e : topHandled (if own then ownFrames st else st) = if own then Γ.own else Γ.handled := by cases own <;> simp [hf.handled, hf.own]
    rw [e]; exact ih _ h hQ hE
  | newGen c k ih => intro Q E p s h hQ hE; exact go_mstep (step_newGen ..) (ih _ h hQ hE)
  | genState g k ih => intro Q E p s h hQ hE; obtain ⟨x, hg, h⟩ := h; exact go_mstep (step_genState _ _ _ _ _ _ hg) (ih _ h hQ hE)
  | resume g r l k ih =>
    intro Q E p s h hQ hE; obtain ⟨res, s₁, hwk, h⟩ := h
    have q := ih res h hQ hE
    unfold Wakes at hwk
    cases hg : s.gens[g]? with
    | none => rw [hg] at hwk; exact hwk.elim
    | some x =>
      rw [hg] at hwk
      cases x with
      | running => obtain ⟨rfl, rfl⟩ := hwk; exact go_mstep (step_resume_running _ _ _ _ _ _ _ _ hg) q
      | finished => obtain ⟨rfl, rfl⟩ := hwk; exact go_mstep (step_resume_finished _ _ _ _ _ _ _ _ hg) q
      | suspended k₀ l₀ c₀ p₀ fs cl =>
        obtain ⟨e₁, s₂, hr, hq, rfl, rfl⟩ := hwk
        refine go_mstep (step_resume_suspended _ _ _ _ _ _ _ _ hg) ?_
        refine go_reach (runs_reach hr _ (hf.wake c₀ g _ (lv l) p)) ?_
        intro t' c' p' pre' hx
        exact go_mstep (step_exit_gen _ _ _ _ _ _ _ hx hq) q
      | fresh c =>
        cases r with
        | throw x => obtain ⟨rfl, rfl⟩ := hwk; exact go_mstep (step_resume_throwFresh _ _ _ _ _ _ _ _ hg) q
        | send v =>
          by_cases hv : v = .none
          · subst hv
            obtain ⟨e₁, s₂, hr, hq, rfl, rfl⟩ := hwk
            refine go_mstep (step_resume_fresh _ _ _ _ _ _ _ hg) ?_
            refine go_reach (pre := []) (runs_reach hr _ (hf.wake c g _ (lv l) p)) ?_
            intro t' c' p' pre' hx
            exact go_mstep (step_exit_gen _ _ _ _ _ _ _ hx hq) q
          · have : res = .justStarted ∧ s₁ = s := by cases v <;> first | exact absurd rfl hv | exact hwk
            obtain ⟨rfl, rfl⟩ := this
            exact go_mstep (step_resume_justStarted _ _ _ _ _ _ _ hg hv) q
  | stack k ih => intro Q E p s h hQ hE; refine go_mstep (step_stack ..) ?_; rw [← hf.below]; exact ih _ h hQ hE
  | thread k ih => intro Q E p s h hQ hE; exact go_mstep (step_thread ..) (ih _ h hQ hE)

/-- from here the machine comes to an end that Φ takes -/
def GoT (M : Model) (Φ : Outcome → Shared → Prop) (c : Code) (st : List Frame) (t : Sem Fin) (s : Shared) : Prop := ∀ p, Go M Φ s ⟨t, c, p, st⟩

/-- room: no handler above, and so many frames and units at most -/
structure Rm (c : Code) (st : List Frame) (d u : Nat) : Prop where
  hd : topHandled st = none
  past : topHandled.go true st = none
  dp : frameCount (st.map Frame.where_) + c.weight ≤ d
  un : unitsOf (st.map Frame.where_) + c.cUnits ≤ u
abbrev AA (d u : Nat) : Around := { handled := none, depth := d, frames := none, guards := none, units := u }
theorem Rm.in {c st d u} (h : Rm c st d u) : (Ctx.of c st).In (AA d u) := by
  refine ⟨h.hd, h.dp, fun _ q => (nomatch q), fun _ q => (nomatch q), ?_⟩
  show c.cUnits + unitsOf (st.map Frame.where_) ≤ u
  have := h.un; omega
theorem Rm.mono {c st d u d' u'} (h : Rm c st d u) (hd : d ≤ d') (hu : u ≤ u') : Rm c st d' u' := ⟨h.hd, h.past, Nat.le_trans h.dp hd, Nat.le_trans h.un hu⟩
theorem Rm.ret {c c' st d u k g l p kp} (h : Rm c st d u) : Rm c' (.ret k none g l c p kp :: st) (d + c'.weight) (u + c'.cUnits) := by
  refine ⟨(topHandled_ret k none g l c p kp st).trans h.hd, h.past, ?_, ?_⟩
  · show frameCount ((c, p) :: st.map Frame.where_) + _ ≤ _
    rw [frameCount_cons]; have := h.dp; omega
  · show unitsOf ((c, p) :: st.map Frame.where_) + _ ≤ _
    rw [unitsOf_cons]; have := h.un; omega
theorem Rm.gen {c c' st d u k g l p} (h : Rm c st d u) : Rm c' (.gen g k l c p :: st) (d + c'.weight) (u + c'.cUnits) := by
  refine ⟨h.hd, h.hd, ?_, ?_⟩
  · show frameCount ((c, p) :: st.map Frame.where_) + _ ≤ _
    rw [frameCount_cons]; have := h.dp; omega
  · show unitsOf ((c, p) :: st.map Frame.where_) + _ ≤ _
    rw [unitsOf_cons]; have := h.un; omega

section
variable {c : Code} {st : List Frame} {s : Shared} {d u : Nat}
theorem g_wrap {α : Type} {m : Sem α} {K : α → Sem Fin} {H : Value → Sem Fin} {gd lv} (hr : Rm c st d u)
    (h : wpAny M (AA d u) m (fun a s' => GoT M Φ c st (K a) s') (fun x s' => GoT M Φ c st (H x) s') s) : GoT M Φ c st (m.wrap K H gd lv) s := fun p =>
  go_wrap (Γ := Ctx.of c st) K H gd lv (Ctx.fits_of c st) m (h _ p hr.in) (fun _ p' _ q => q p') (fun _ p' _ q => q p')
theorem g_bind {α : Type} {m : Sem α} {K : α → Sem Fin} (hr : Rm c st d u)
    (h : wpAny M (AA d u) m (fun a s' => GoT M Φ c st (K a) s') (fun x s' => GoT M Φ c st (.raise x) s') s) : GoT M Φ c st (m >>= K) s := by
  rw [Sem.bind_eq_wrap']; exact g_wrap hr h
theorem g_at {p' : Pos} {k : Unit → Sem Fin} (h : GoT M Φ c st (k ()) s) : GoT M Φ c st (.at p' k) s := fun _ => go_mstep (step_at ..) (h p')
theorem g_point {l} {k : Unit → Sem Fin} (h : GoT M Φ c st (k ()) s) : GoT M Φ c st (.point l k) s := fun p => go_mstep (step_point ..) (h p)
theorem g_rule {l} {k : Unit → Sem Fin} (h : GoT M Φ c st (k ()) s) : GoT M Φ c st (.rule l k) s := fun p => go_mstep (step_rule ..) (h p)
theorem g_call {c' h g l} {k : Result → Sem Fin} (q : ∀ p, GoT M Φ c' (.ret k h g l c p [] :: st) (M.den c') s) : GoT M Φ c st (.call c' h g l k) s := fun p => go_mstep (step_call ..) (q p p)
theorem g_ret {k h g l c' p' kp} (r : Result) (q : GoT M Φ c' st (k r) s) : GoT M Φ c (.ret k h g l c' p' kp :: st) (leafOf r) s := fun _ => go_leaf_ret (q p')
theorem g_again {c'} (hq : c'.quiet = true) (q : GoT M Φ c' st (M.den c') s) : GoT M Φ c st (.pure (.again c')) s := fun p => .more (.inl (calm_again hq)) rfl (q p)
theorem g_fresh {g l c'} {k : GenResult → Sem Fin} (hg : s.gens[g]? = some (.fresh c')) (q : ∀ p, GoT M Φ c' (.gen g k l c p :: st) (M.den c') (s.setGen g .running)) : GoT M Φ c st (.resume g (.send .none) l k) s :=
  fun p => go_mstep (step_resume_fresh _ _ _ _ _ _ _ hg) (q p p)
theorem g_woken {g r l k₀ l₀ c₀ p₀ fs cl} {k : GenResult → Sem Fin} (hg : s.gens[g]? = some (.suspended k₀ l₀ c₀ p₀ fs cl)) (q : ∀ p, Go M Φ (s.setGen g .running) ⟨k₀ r, c₀, p₀, fs ++ .gen g k l c p :: st⟩) : GoT M Φ c st (.resume g r l k) s :=
  fun p => go_mstep (step_resume_suspended _ _ _ _ _ _ _ _ hg) (q p)
theorem g_end {g k l c' p'} (r : Result) (q : GoT M Φ c' st (k (End.ret r).result) (s.setGen g .finished)) : GoT M Φ c (.gen g k l c' p' :: st) (leafOf r) s := fun _ => go_leaf_gen (q p')
/-- a plain yield -/
theorem g_yield {v l k₀ fs g k l' c' p'} (hs : splitAtGen fs = none) (hg : fs.any Frame.guarded = false) (q : ∀ p, GoT M Φ c' st (k (.yielded v)) (s.setGen g (.suspended k₀ l c p fs false))) : GoT M Φ c (fs ++ .gen g k l' c' p' :: st) (.yield v false l k₀) s := fun p => by
  have hsp : splitAtGen (fs ++ .gen g k l' c' p' :: st) = some (fs, (g, k, c', p'), st) := by rw [splitAtGen_append_none _ hs, splitAtGen_gen]; simp
  refine go_mstep (step_yield _ _ _ _ _ _ _ _ _ hsp (by simp [End.quiet, hg])) ?_
  have := q p p'
  simpa only [End.genState, hg, Bool.or_self] using this
/-- a yield of `yield from` over a generator -/
theorem g_yieldC {v l k₀ fs g k l' c' p' a rest kw o n} (hs : splitAtGen fs = none) (hg : fs.any Frame.guarded = false) (ho : s.heap.get? a = some o) (hn : o.genNumber? = some n)
    (q : ∀ p, GoT M Φ c' st (k (.yielded v)) (s.setGen g (.suspended k₀ l (.builtin "proto.yield_from" ⟨.ref a :: rest, kw⟩) p fs true))) :
    GoT M Φ (.builtin "proto.yield_from" ⟨.ref a :: rest, kw⟩) (fs ++ .gen g k l' c' p' :: st) (.yield v true l k₀) s := fun p => by
  have hsp : splitAtGen (fs ++ .gen g k l' c' p' :: st) = some (fs, (g, k, c', p'), st) := by rw [splitAtGen_append_none _ hs, splitAtGen_gen]; simp
  refine .more (.inr ⟨v, l, k₀, a, rest, kw, fs, _, _, o, n, rfl, rfl, hsp, hg, ho, hn⟩) ?_ (q p p')
  simp only [PySem.stepK, PySem.step, hsp, hg]
  rfl
end
end Mine
end

section -- Head
open PySem PySem.W PySem.Calls PyProof.Rows
set_option maxRecDepth 100000

namespace Mine
theorem callFrom_of_go {c : ClaimW} {tree : List Value → Sem Fin} {w : World} {s : Shared} {free : Addr → Prop} {gens : Prop} {kept : Heap → Prop} (hz : s.asleep) (hgens : s.gens = #[])
    (hspec : ∀ args, c.pre args = true → WData.layableAll args = true →
      ∀ ord : List DictEntry → List DictEntry, (∀ l, (ord l).Perm l) →
      ∃ vs s₁, layAllW c.records (classAt s.heap) w.params ord args s = some (vs, s₁) ∧
        GoT (model c.prog w) (fun o s' => ∃ v, o = .done (.ret v) ∧ (c.Ends s args vs s₁ (.ok (.ret v)) s' ∧ s'.os = s.os ∧ AllBare s'.gens ∧ kept s'.heap)) (.builtin "claim.caller" {}) [] (tree vs) s₁) :
    c.CallFrom (fun vs => ⟨tree vs, .builtin "claim.caller" {}, default, []⟩) w free gens kept s := by
  intro args hpre hlay ord hord
  obtain ⟨vs, s₁, hlaid, hcode⟩ := hspec args hpre hlay ord hord
  have hal := layAllW_rest _ _ _ hlaid
  obtain ⟨n, o, s', s'', hsched, ⟨v, rfl, hcase, hos, hb, hkp⟩, hfo, hlife'⟩ := (hcode default).sched s₁ _ rfl rfl (Shared.asleep_of_life hal.2.2.2 hz)
  obtain ⟨eh, _, _, eo, _⟩ := Shared.forget_eq hfo
  have hcase := hcase.congr eh
  have hkp : kept s'.heap := by first | exact eh ▸ hkp | (rw [eh] at hkp; exact hkp) | (rw [← eh] at hkp; exact hkp)
  rw [← eo] at hos
  have hlife : s'.heap.life = s.heap.life := hlife'.trans hal.2.2.2
  refine ⟨vs, s₁, hlaid, n, _, s', hsched, ?_, (fun _ i x hx => by rw [hgens] at hx; simp at hx), hkp, by rw [hlife], Shared.rest_eq hos⟩
  rcases hcase with ⟨v', e, d1, d2, d3, d4, d5⟩ | ⟨e, ob, cls, e', d1, d2, d3, d4, d5⟩
  · cases e; exact .inl ⟨v, rfl, d1, d2, d3, fun b o y _ => d4 b o y, d5⟩
  · cases e'

theorem go_done {M : Model} {Φ : Outcome → Shared → Prop} {c : Code} {v : Value} {s : Shared} (hb : AllBare s.gens) (h : Φ (.done (.ret v)) s) : GoT M Φ c [] (.pure (.done (.ret v))) s := fun p => by
  refine .stop rfl ?_ rfl h
  show finish (.done (.ret v)) s = _
  unfold finish
  rw [leftWithCleanup_false_of_bare hb]; rfl

abbrev WalkGo (q : Program) (loose : List Str) (XP : (Str → Option Value) → Heap → Prop) (YP : World → Heap → Prop) (r : RowW) (d : DefRec) (kwd : List (Str × Expr)) : Prop :=
  ∀ (w : World) (s₀ s₁ : Shared) (mg mb : Str → Option Value), Ground q loose r.records XP w s₀ mg mb s₁.heap → YP w s₁.heap → ∀ (a : Addr) (o : Obj) (pm cd doc dV kV : Value), s₁.heap.get? a = some o →
    o.data = .func { docDef d.name d.params d.body d.scope pm cd doc with defaults := dV, kwdefaults := kV } → s₁.heap.CodeRec cd d.name → Dflts mg s₁.heap d.params kwd dV kV → mg d.name = some (.ref a) → s₁.gens = #[] →
    ∀ (args : List WData) (vals : List Value) (as : List Addr), r.claim.pre args = true → WData.layableAll args = true → ReadsAllW r.records (classAt s₀.heap) s₁.heap vals args as → WellAll w.params s₁.heap vals args → (∀ a ∈ as, (a == sysModules) = false) →
      ∀ Φ : Outcome → Shared → Prop, (∀ v s', GoodWG r.claim (classAt s₀.heap) (ExcName.means s₀.heap) args s₁ (.ok (.ret v)) s' → Φ (.done (.ret v)) s') →
        GoT (model r.prog w) Φ (.builtin "claim.caller" {}) [] (PySem.call (.ref a) vals >>= fun v => ret v) s₁

theorem rm_caller : Rm (.builtin "claim.caller" {}) [] (1 + claimMargin) 4 := ⟨rfl, rfl, by show frameCount [] + (Code.builtin "claim.caller" {}).weight ≤ 1 + claimMargin; decide +kernel, by show unitsOf [] + (Code.builtin "claim.caller" {}).cUnits ≤ 4; decide +kernel⟩

theorem PySem.W.holds_open {r : OpenRow} {q : Program} {loose : List Str} {Xt : Shared → Bool} {XP : (Str → Option Value) → Heap → Prop} {α : Type} {Yf : Shared → α} {Ya : World → α} {YP : World → Heap → Prop} {d : DefRec} {kwd : List (Str × Expr)} {N : Nat}
    (left : LeftO r.prog q loose Xt Yf Ya N) (hY : ∀ w s, Yf s = Ya w → YP w s.heap) (hYk : ∀ w h h', YP w h → (∀ b o, h.get? b = some o → h'.get? b = some o) → YP w h')
    (hX : ∀ s, Xt s = true → XP (s.heap.nsMap mainGlobals) s.heap) (hXk : ∀ mg h h', XP mg h → (∀ b o, h.get? b = some o → h'.get? b = some o) → XP mg h')
    (hdef : defOf q r.name = some (d, kwd)) (hp : r.prog.theDef r.name = some (d.params, d.body, d.scope)) (hk : kwWritten? d.params.kwonlyargs d.params.kw_defaults = some kwd) (hRf : ∀ s, Xt s = true → RecFacts r.records s.heap) (hwr : (!r.writes || r.records.isEmpty) = true)
    (k1 : r.wellSaid = true) (ok : (chainsOk q && opensWell r.prog && (frees r.toRowW && r.within.isEmpty)) = true) (hb : r.prog.bare) (hw : r.toRowW.promised)
    (call : WalkGo q loose XP YP r.toRowW d kwd) : r.Holds := by
  refine ⟨k1, hw, ?_⟩
  obtain ⟨ok, k5⟩ := Bool.and_eq_true_iff.mp ok
  obtain ⟨hch, o1⟩ := Bool.and_eq_true_iff.mp ok
  obtain ⟨k5, k6⟩ := Bool.and_eq_true_iff.mp k5
  obtain ⟨hsame, hu, ha, hap, hm⟩ := frees_parts k5
  refine ⟨⟨hb, o1, by show r.toRowW.makers.map _ = []; rw [hm]; rfl⟩, hw.witness, fun w => ⟨(left.behind hX hch w).1, fun s' hs' => ?_⟩⟩
  obtain ⟨s₀, hf, hg0, s, hT, hz, hgens, hg, G00, y⟩ := (left.behind (XP := fun mg h => XP mg h ∧ RecFacts r.records h) (fun s hs => ⟨hX s hs, hRf s hs⟩) hch w).2 s' hs'
  have G0 : Ground q loose [] XP w s (s.heap.nsMap mainGlobals) (s.heap.nsMap builtinsNs) s.heap := ⟨G00.T, G00.B, G00.D, G00.TE, G00.TD, G00.W, G00.X.1, G00.cls, G00.has, G00.apart, G00.once, G00.K⟩
  have RF := G00.X.2
  have hT' := hT
  refine ⟨s₀, hf, hg0, s, hT, (fun n hn => ?_), RF.1, RF.2.1, ?_⟩
  · obtain rfl : n = r.name := by split at hn <;> simp_all
    exact pinned_of_view hg G0 hdef hp hk
  have hgens : s.gens = #[] := Array.eq_empty_of_size_eq_zero (beq_iff_eq.mp hgens)
  have G : Ground q loose r.records XP w s _ _ s.heap := RF.ground G0
  refine callFrom_of_go (c := r.toRowW.claim) (tree := fun vs => do match ← nsGet mainNs r.name with
      | some f => do ret (← PySem.call f vs)
      | none => unsupported "claim.caller:no-such-global") hz hgens fun args hpre hlay ord hord => ?_
  obtain ⟨⟨vs, s₁⟩, hlaid⟩ := Option.isSome_iff_exists.mp (layAllW_isSome (P := w.params) (ord := ord) G.has args r.args s (pre_splitW hpre).1)
  have keeps := layAllW_keeps _ _ _ hlaid
  have hal := layAllW_rest _ _ _ hlaid
  obtain ⟨as, hrd, hin, hold⟩ := reads_layAllW hord _ _ _ hlaid hlay s₁.heap (fun _ _ e => e)
  have L : Laid r.records w s s₁ args vs as := ⟨⟨ord, hord, hlaid⟩, hrd, hin, hold, keeps, hal.1.trans hgens, hal.2.2.1⟩
  have G₁ := G.keeps hXk keeps
  obtain ⟨a, o, pm, cd, doc, dV, kV, h1, h2, h3, h4, h5⟩ := G₁.fn hdef
  have hi := ident_freeW hu ha hap
  have hwi : r.toRowW.claim.within = [] := List.isEmpty_iff.mp k6
  refine ⟨vs, s₁, hlaid, ?_⟩
  refine g_bind rm_caller (wpAny_nsGet G₁.T.g ?_)
  rw [h1]
  refine call w s s₁ _ _ G₁ (hYk _ _ _ (hY w s y) keeps) a o pm cd doc dV kV h2 h3 h4 h5 (defOf_name hdef ▸ h1) L.gens args vs as hpre hlay L.reads L.well (L.low G.low) _ (fun v s' g => ?_)
  have z := g.laid (c := r.toRowW.claim) hsame hwi hi L
  exact ⟨v, rfl, z.1, z.2.1, z.2.2, fun q => ⟨namesKept_of hT' hg r.keeps keeps g.2.1.old, noTable hwr q⟩⟩
end Mine
end

section -- Hd
open PySem PySem.W PyProof.Rows
namespace Mine
set_option maxRecDepth 100000 in
set_option maxHeartbeats 8000000 in
open_top hd for PySem.Challenge.rw_ev0008_01
end Mine
end

section -- Entry
open PySem PySem.W PySem.W.X PyProof.Rows
namespace Mine
abbrev PP : Program := PySem.Challenge.rw_ev0008_01.row.prog
set_option maxRecDepth 100000 in
set_option maxHeartbeats 0 in
theorem entry (walk : ∀ (w : World) (s₁ : Shared) (a : Addr) (vs : List Value) (ns : List Int) (mb : Str → Option Value), (Mine.hd.heap_39 w.params).In s₁.heap →
      (∀ P ∈ [380, 403], s₁.heap.get? P = some (tabObj #[])) → s₁.heap.Ns builtinsNs mb → (∀ x : Str, x ≠ "__name__" → mb x = bootBuiltins x) → s₁.heap.NoLimit → (∃ ob, s₁.heap.get? 4 = some ob ∧ ob.cls = .type "module" ∧ ob.dict = some builtinsNs ∧ ob.data = .plain) → s₁.gens = #[] → IntsAre vs ns → ns.length ≤ 63 → s₁.heap.IsList a vs.toArray →
      ∀ Φ : Outcome → Shared → Prop, (∀ v s', v = .bool true ∧ OldK s₁.heap s'.heap ∧ s'.os = s₁.os ∧ AllBare s'.gens → Φ (.done (.ret v)) s') →
      GoT (model PP w) Φ (.builtin "claim.caller" {}) [] (call (.ref 713) [.ref a] >>= fun v => ret v) s₁) :
    PySem.Challenge.rw_ev0008_01.Holds := by
  refine hd ?_
  k_fill
  intro w s₀ s₁ mg mb G Y fa o pm cd doc dV kV ho hd hcd hD hmg hg args vals as hpre hlay hrd hwl hlo Φ hΦ
  have KX := km_in_of Y
  km_tabs Y
  refine Ground.open G ?_
  intro T B D TE TW
  wrow_args hpre hlay hrd hwl hlo
  x_fa T KX hmg
  all_lens
  have hbm : ∃ ob, s₁.heap.get? 4 = some ob ∧ ob.cls = .type "module" ∧ ob.dict = some builtinsNs ∧ ob.data = .plain := by
    obtain ⟨bm, ob, b1, b2, b3, b4, b5, b6⟩ := T.bmain
    have e := mg_of KX T.g (n := "__builtins__") (v := .ref 4) (by kernel_rfl)
    rw [e] at b1; cases b1
    exact ⟨ob, b3, b4, b5, b6⟩
  refine walk w s₁ _ _ _ mb KX (fun P hP => hT8 P ((by decide : ∀ P ∈ ([380, 403] : List Nat), P ∈ ([380, 202, 403] : List Nat)) P hP)) T.b T.builtins T.nolimit hbm hg (by assumption) (by omega) (by assumption) Φ (fun v s' hv => hΦ v s' ?_)
  obtain ⟨rfl, hold, hos, hbare⟩ := hv
  refine ⟨.inl ⟨_, _, [], rfl, fun _ => rfl, ReadsW.bool true, ?_, fun _ => ⟨List.nodup_nil, fun _ hm => (nomatch hm)⟩⟩, hold, hos, hbare⟩
  first | rfl | wrow_post
end Mine
end

section -- Lib
open PySem PySem.W PySem.Calls PyProof.Rows
set_option maxRecDepth 100000
namespace Mine

noncomputable abbrev KK (w : World) : Frag := Mine.hd.heap_39 w.params
abbrev MM (w : World) : Model := model PP w
abbrev Pr := Obj → Prop
abbrev Dl := List (Addr × Pr)
theorem ne380 {a : Nat} (h : 714 ≤ a) : a ≠ 380 := by omega
theorem ne403 {a : Nat} (h : 714 ≤ a) : a ≠ 403 := by omega
theorem ne_lt {a b : Nat} (h : 714 ≤ a) (hb : b < 714) : b ≠ a := by omega
/-- no code object -/
def NC (o : Obj) : Prop := o.cls = .type "code" → ∀ vs, o.data ≠ .fields vs

def lowIn (K : Frag) : Bool := K.all fun p => Nat.blt p.1 714 && !(Nat.beq p.1 380) && !(Nat.beq p.1 403)
theorem kk_low (w : World) : lowIn (KK w) = true := by kernel_rfl
theorem kk_lt {w : World} {a : Addr} {o : Obj} (e : (KK w).lookup a = some o) : a < 714 ∧ a ≠ 380 ∧ a ≠ 403 := by
  have h := List.all_eq_true.mp (kk_low w) (a, o) (mem_of_lookupK e)
  simp only [Bool.and_eq_true, Bool.not_eq_true'] at h
  refine ⟨Nat.le_of_ble_eq_true h.1.1, fun q => ?_, fun q => ?_⟩
  · subst q; exact absurd h.1.2 (by decide)
  · subst q; exact absurd h.2 (by decide)

/-- a code table: empty, or with the one code object of the one inner def that is ever made -/
def TabS (h : Heap) (P l c : Nat) (q : Str) : Prop :=
  h.get? P = some (tabObj #[]) ∨ ∃ c' o vs t, h.get? P = some (tabObj #[rawInt l, rawInt c, .ref c']) ∧ 714 ≤ c' ∧ h.get? c' = some o ∧ o.cls = .type "code" ∧ o.data = .fields vs ∧ vs[1]? = some (.str q t)

structure St (w : World) (h : Heap) : Prop where
  k : (KK w).In h
  b : ∃ mb, h.Ns builtinsNs mb ∧ ∀ x : Str, x ≠ "__name__" → mb x = bootBuiltins x
  lim : h.NoLimit
  t1 : TabS h 380 217 4 "bygroups.<locals>.callback"
  t2 : TabS h 403 249 8 "using.<locals>.callback"
  bm : ∃ ob, h.get? 4 = some ob ∧ ob.cls = .type "module" ∧ ob.dict = some builtinsNs ∧ ob.data = .plain

theorem TabS.ext {h h' : Heap} {P l c q} (x : TabS h P l c q) (hk : ∀ b o, h.get? b = some o → h'.get? b = some o) : TabS h' P l c q := by
  rcases x with x | ⟨c', o, vs, t, a, b, d, r⟩
  · exact .inl (hk _ _ x)
  · exact .inr ⟨c', o, vs, t, hk _ _ a, b, hk _ _ d, r⟩
theorem TabS.same {h h' : Heap} {P l c q} {a : Addr} {o : Obj} (x : TabS h P l c q) (ha : 714 ≤ a) (hP : P < 714) (ho : h.get? a = some o) (hn : NC o) (hs : Heap.SameBut a h h') : TabS h' P l c q := by
  have hPa : P ≠ a := ne_lt ha hP
  rcases x with x | ⟨c', o', vs, t, y, b, d, e, r⟩
  · exact .inl ((hs.2 _ hPa).trans x)
  · refine .inr ⟨c', o', vs, t, (hs.2 _ hPa).trans y, b, (hs.2 _ (fun q => ?_)).trans d, e, r⟩
    subst q
    rw [ho] at d; cases d
    exact hn e vs r.1
theorem St.ext {w : World} {h h' : Heap} (S : St w h) (hk : ∀ b o, h.get? b = some o → h'.get? b = some o) : St w h' :=
  ⟨S.k.keeps hk, let ⟨mb, a, b⟩ := S.b; ⟨mb, a.keeps hk, b⟩, S.lim.keeps hk, S.t1.ext hk, S.t2.ext hk, let ⟨ob, e, r⟩ := S.bm; ⟨ob, hk _ _ e, r⟩⟩
theorem St.same {w : World} {h h' : Heap} {a : Addr} {o : Obj} (S : St w h) (ha : 714 ≤ a) (ho : h.get? a = some o) (hn : NC o) (hs : Heap.SameBut a h h') : St w h' := by
  refine ⟨fun b ob e => (hs.2 _ (fun q => ?_)).trans (S.k b ob e), let ⟨mb, x, y⟩ := S.b; ⟨mb, x.sameBut hs (fun q => ?_), y⟩, let ⟨mc, x, y⟩ := S.lim; ⟨mc, x.sameBut hs (fun q => ?_), y⟩, S.t1.same ha (by decide) ho hn hs, S.t2.same ha (by decide) ho hn hs, let ⟨ob, e, r⟩ := S.bm; ⟨ob, (hs.2 _ (ne_lt ha (by decide))).trans e, r⟩⟩
  · have := (kk_lt e).1; subst q; exact absurd ha (Nat.not_le.mpr this)
  · subst q; exact absurd ha (by decide)
  · subst q; exact absurd ha (by decide)

structure Kp (W : List Addr) (h h' : Heap) : Prop where
  keep : ∀ b o, h.get? b = some o → b ∉ W → b ≠ 380 → b ≠ 403 → h'.get? b = some o
  there : ∀ b o, h.get? b = some o → ∃ o', h'.get? b = some o'
theorem Kp.refl (W : List Addr) (h : Heap) : Kp W h h := ⟨fun _ _ e _ _ _ => e, fun _ o e => ⟨o, e⟩⟩
theorem Kp.ext {W : List Addr} {h h₁ h' : Heap} (K : Kp W h h₁) (hk : ∀ b o, h₁.get? b = some o → h'.get? b = some o) : Kp W h h' :=
  ⟨fun b o e x y z => hk _ _ (K.keep b o e x y z), fun b o e => let ⟨o', e'⟩ := K.there b o e; ⟨o', hk _ _ e'⟩⟩
theorem Kp.trans {W : List Addr} {h h₁ h' : Heap} (K : Kp W h h₁) (K' : Kp W h₁ h') : Kp W h h' :=
  ⟨fun b o e x y z => K'.keep b o (K.keep b o e x y z) x y z, fun b o e => let ⟨o', e'⟩ := K.there b o e; K'.there b o' e'⟩
theorem Kp.mono {W W' : List Addr} {h h' : Heap} (K : Kp W h h') (hw : ∀ a ∈ W, a ∈ W') : Kp W' h h' :=
  ⟨fun b o e x y z => K.keep b o e (fun q => x (hw _ q)) y z, K.there⟩

inductive Upd (a : Addr) (P : Pr) : Dl → Dl → Prop
  | head {P₀ : Pr} {r : Dl} : Upd a P ((a, P₀) :: r) ((a, P) :: r)
  | tail {x : Addr × Pr} {r r' : Dl} : Upd a P r r' → Upd a P (x :: r) (x :: r')
theorem Upd.keys {a P} {D D' : Dl} (u : Upd a P D D') : D'.map (·.1) = D.map (·.1) := by
  induction u with
  | head => rfl
  | tail _ ih => simp only [List.map_cons, ih]
theorem Upd.old {a P} {D D' : Dl} (u : Upd a P D D') : ∃ P₀, (a, P₀) ∈ D := by
  induction u with
  | head => exact ⟨_, .head _⟩
  | tail _ ih => obtain ⟨P₀, h⟩ := ih; exact ⟨P₀, .tail _ h⟩
theorem Upd.mem {a P} {D D' : Dl} (u : Upd a P D D') (nd : (D.map (·.1)).Nodup) : ∀ p ∈ D', p = (a, P) ∨ (p ∈ D ∧ p.1 ≠ a) := by
  induction u with
  | head =>
    intro p hp
    rw [List.map_cons, List.nodup_cons] at nd
    rcases List.mem_cons.mp hp with rfl | hp
    · exact .inl rfl
    · exact .inr ⟨.tail _ hp, fun q => nd.1 (q ▸ List.mem_map_of_mem (f := (·.1)) hp)⟩
  | tail u ih =>
    intro p hp
    rw [List.map_cons, List.nodup_cons] at nd
    rcases List.mem_cons.mp hp with rfl | hp
    · refine .inr ⟨.head _, fun q => nd.1 ?_⟩
      obtain ⟨P₀, h⟩ := u.old
      rw [q]; exact List.mem_map_of_mem (f := (·.1)) h
    · rcases ih nd.2 p hp with h | ⟨h, h'⟩
      · exact .inl h
      · exact .inr ⟨.tail _ h, h'⟩

/-- what is known: h₀ the heap at the start, W what of it may turn, D the objects in hand (new, or of W) -/
structure G (w : World) (h₀ : Heap) (W : List Addr) (h : Heap) (D : Dl) : Prop where
  st : St w h
  kp : Kp W h₀ h
  own : ∀ p ∈ D, ∃ o, h.get? p.1 = some o ∧ NC o ∧ p.2 o
  dyn : ∀ p ∈ D, 714 ≤ p.1 ∧ (p.1 ∈ W ∨ h₀.get? p.1 = none)
  nd : (D.map (·.1)).Nodup
  big : 714 ≤ h₀.objs.size

section
variable {w : World} {h₀ h h' : Heap} {W : List Addr} {D D' : Dl} {a : Addr} {P : Pr} {o : Obj}
theorem G.ext (H : G w h₀ W h D) (hk : ∀ b o, h.get? b = some o → h'.get? b = some o) : G w h₀ W h' D :=
  ⟨H.st.ext hk, H.kp.ext hk, fun p hp => let ⟨o, e, r⟩ := H.own p hp; ⟨o, hk _ _ e, r⟩, H.dyn, H.nd, H.big⟩
theorem G.get (H : G w h₀ W h D) (hm : (a, P) ∈ D) : ∃ o, h.get? a = some o ∧ P o := let ⟨o, e, _, r⟩ := H.own _ hm; ⟨o, e, r⟩
theorem G.upd (H : G w h₀ W h D) (u : Upd a P D D') (hs : Heap.SameBut a h h') (ho : h'.get? a = some o) (hn : NC o) (hp : P o) : G w h₀ W h' D' := by
  obtain ⟨P₀, hm⟩ := u.old
  obtain ⟨o₀, e₀, n₀, _⟩ := H.own _ hm
  obtain ⟨d1, d2⟩ := H.dyn _ hm
  refine ⟨H.st.same d1 e₀ n₀ hs, ⟨fun b ob e x y z => (hs.2 _ (fun q => ?_)).trans (H.kp.keep b ob e x y z), fun b ob e => ?_⟩, fun p hp' => ?_, fun p hp' => ?_, by rw [u.keys]; exact H.nd, H.big⟩
  · subst q
    rcases d2 with d2 | d2
    · exact x d2
    · rw [e] at d2; cases d2
  · by_cases hb : b = a
    · subst hb; exact ⟨o, ho⟩
    · obtain ⟨o', e'⟩ := H.kp.there b ob e
      exact ⟨o', (hs.2 _ hb).trans e'⟩
  · rcases u.mem H.nd p hp' with rfl | ⟨hp', hne⟩
    · exact ⟨o, ho, hn, hp⟩
    · obtain ⟨o', e', r⟩ := H.own p hp'
      exact ⟨o', (hs.2 _ hne).trans e', r⟩
  · rcases u.mem H.nd p hp' with rfl | ⟨hp', _⟩
    · exact H.dyn (a, P₀) hm
    · exact H.dyn p hp'
theorem G.lt (H : G w h₀ W h D) {p : Addr × Pr} (hp : p ∈ D) : p.1 < h.objs.size := let ⟨_, e, _⟩ := H.own p hp; Heap.lt_size e
theorem G.add' (H : G w h₀ W h D) (ho : h.get? a = some o) (hn : NC o) (hp : P o) (ha : 714 ≤ a) (h0 : h₀.get? a = none) (hf : ∀ p ∈ D, p.1 ≠ a) : G w h₀ W h ((a, P) :: D) := by
  refine ⟨H.st, H.kp, fun p hp' => ?_, fun p hp' => ?_, ?_, H.big⟩
  · rcases List.mem_cons.mp hp' with rfl | hp'
    · exact ⟨o, ho, hn, hp⟩
    · exact H.own p hp'
  · rcases List.mem_cons.mp hp' with rfl | hp'
    · exact ⟨ha, .inr h0⟩
    · exact H.dyn p hp'
  · rw [List.map_cons, List.nodup_cons]
    refine ⟨fun q => ?_, H.nd⟩
    obtain ⟨p, hp', e⟩ := List.mem_map.mp q
    exact hf p hp' e
theorem G.new (H : G w h₀ W h D) (ha : h.get? a = none) : h₀.get? a = none ∧ ∀ p ∈ D, p.1 ≠ a := by
  refine ⟨?_, fun p hp q => ?_⟩
  · cases q : h₀.get? a with
    | none => rfl
    | some o => obtain ⟨o', e⟩ := H.kp.there a o q; rw [ha] at e; cases e
  · obtain ⟨o, e, _⟩ := H.own p hp
    rw [q, ha] at e; cases e
theorem get_size (h : Heap) : h.get? h.objs.size = none := by
  cases q : h.get? h.objs.size with
  | none => rfl
  | some o => exact absurd (Heap.lt_size q) (Nat.lt_irrefl _)
theorem St.big (S : St w h) : 714 ≤ h.objs.size := by
  have e := S.k 713 _ (show (KK w).lookup 713 = some _ from rfl)
  exact Heap.lt_size e
theorem G.push (H : G w h₀ W h D) (o : Obj) (hf : o.isFreed = false) (hn : NC o) (hp : P o) : G w h₀ W (h.push o) ((h.objs.size, P) :: D) := by
  have n := H.new (get_size h)
  exact (H.ext fun b o' e => Heap.get?_push_of_some o e).add' (Heap.get?_push_size _ hf) hn hp H.st.big n.1 n.2
theorem G.sub (H : G w h₀ W h D) (hs : D'.Sublist D) : G w h₀ W h D' :=
  ⟨H.st, H.kp, fun p hp => H.own p (hs.subset hp), fun p hp => H.dyn p (hs.subset hp), (hs.map _).nodup H.nd, H.big⟩
theorem G.start (S : St w h) : G w h W h [] := ⟨S, Kp.refl W h, fun _ hp => (nomatch hp), fun _ hp => (nomatch hp), List.nodup_nil, S.big⟩
/-- a call that keeps all that stood -/
theorem G.call (H : G w h₀ W h D) (S : St w h') (K : Kp [] h h') : G w h₀ W h' D := by
  refine ⟨S, ⟨fun b o e x y z => K.keep b o (H.kp.keep b o e x y z) (List.not_mem_nil) y z, fun b o e => let ⟨o', e'⟩ := H.kp.there b o e; K.there b o' e'⟩, fun p hp => ?_, H.dyn, H.nd, H.big⟩
  obtain ⟨o, e, r⟩ := H.own p hp
  have d := (H.dyn p hp).1
  exact ⟨o, K.keep _ _ e (List.not_mem_nil) (ne380 d) (ne403 d), r⟩
/-- a call that turns one object in hand -/
theorem G.call1 (H : G w h₀ W h D) (S : St w h') (K : Kp [a] h h') (u : Upd a P D D') (ho : h'.get? a = some o) (hn : NC o) (hp : P o) : G w h₀ W h' D' := by
  obtain ⟨P₀, hm⟩ := u.old
  obtain ⟨d1, d2⟩ := H.dyn _ hm
  refine ⟨S, ⟨fun b ob e x y z => ?_, fun b o e => let ⟨o', e'⟩ := H.kp.there b o e; K.there b o' e'⟩, fun p hp' => ?_, fun p hp' => ?_, by rw [u.keys]; exact H.nd, H.big⟩
  · refine K.keep b ob (H.kp.keep b ob e x y z) (fun q => ?_) y z
    have q := List.mem_singleton.mp q
    subst q
    rcases d2 with d2 | d2
    · exact x d2
    · rw [e] at d2; cases d2
  · rcases u.mem H.nd p hp' with rfl | ⟨hp', hne⟩
    · exact ⟨o, ho, hn, hp⟩
    · obtain ⟨o', e', r⟩ := H.own p hp'
      have d := (H.dyn p hp').1
      exact ⟨o', K.keep _ _ e' (fun q => hne (List.mem_singleton.mp q)) (ne380 d) (ne403 d), r⟩
  · rcases u.mem H.nd p hp' with rfl | ⟨hp', _⟩
    · exact H.dyn (a, P₀) hm
    · exact H.dyn p hp'
end

abbrev Nl := List (Str × Option Value)
/-- the names of a frame: at least these -/
def fr (l : Nl) : Obj → Prop := fun o => (l.map (·.1)).Nodup ∧ ∃ (es : Array DictEntry) (ep : Nat), o.data = .dict es ep ∧ StrKeys es ∧ ∀ p ∈ l, ∀ v, p.2 = some v → nsFind es p.1 = some v
inductive UpN (x : Str) (v : Value) : Nl → Nl → Prop
  | head {u : Option Value} {r : Nl} : UpN x v ((x, u) :: r) ((x, some v) :: r)
  | tail {y : Str × Option Value} {r r' : Nl} : UpN x v r r' → UpN x v (y :: r) (y :: r')
theorem UpN.keys {x v} {l l' : Nl} (u : UpN x v l l') : l'.map (·.1) = l.map (·.1) := by
  induction u with
  | head => rfl
  | tail _ ih => simp only [List.map_cons, ih]
theorem UpN.has {x v} {l l' : Nl} (u : UpN x v l l') : x ∈ l.map (·.1) := by
  induction u with
  | head => exact .head _
  | tail _ ih => exact .tail _ ih
theorem UpN.mem {x v} {l l' : Nl} (u : UpN x v l l') (nd : (l.map (·.1)).Nodup) : ∀ p ∈ l', p = (x, some v) ∨ (p ∈ l ∧ p.1 ≠ x) := by
  induction u with
  | head =>
    intro p hp
    rw [List.map_cons, List.nodup_cons] at nd
    rcases List.mem_cons.mp hp with rfl | hp
    · exact .inl rfl
    · exact .inr ⟨.tail _ hp, fun q => nd.1 (q ▸ List.mem_map_of_mem (f := (·.1)) hp)⟩
  | tail u ih =>
    intro p hp
    rw [List.map_cons, List.nodup_cons] at nd
    rcases List.mem_cons.mp hp with rfl | hp
    · exact .inr ⟨.head _, fun q => nd.1 (by rw [q]; exact u.has)⟩
    · rcases ih nd.2 p hp with h | ⟨h, h'⟩
      · exact .inl h
      · exact .inr ⟨.tail _ h, h'⟩
def isL (items : Array Value) : Obj → Prop := fun o => o.cls = .type "list" ∧ ∃ n, o.data = .seq items n
def isT (items : Array Value) : Obj → Prop := fun o => o.cls = .type "tuple" ∧ ∃ n, o.data = .seq items n
theorem isL_of {h : Heap} {a : Addr} {items : Array Value} : (∃ o, h.get? a = some o ∧ isL items o) ↔ h.IsList a items := Iff.rfl
theorem isT_of {h : Heap} {a : Addr} {items : Array Value} : (∃ o, h.get? a = some o ∧ isT items o) ↔ IsTup h a items := Iff.rfl

theorem Kp.list {W : List Addr} {h h' : Heap} {a : Addr} {items : Array Value} (K : Kp W h h') (x : h.IsList a items) (ha : a ∉ W) (hd : 714 ≤ a) : h'.IsList a items :=
  let ⟨o, e, r⟩ := x; ⟨o, K.keep _ _ e ha (ne380 hd) (ne403 hd), r⟩

structure AOk (A : Around) (k : Nat) : Prop where
  hd : A.handled = none
  dp : A.depth + 8 * k ≤ 900
  un : A.units + 64 * k ≤ 9000
theorem AOk.room {A : Around} {k : Nat} (h : AOk A k) : A.depth < recursionLimit := by have := h.dp; unfold recursionLimit; omega
theorem AOk.mono {A : Around} {k j : Nat} (h : AOk A k) (hj : j ≤ k) : AOk A j := ⟨h.hd, by have := h.dp; omega, by have := h.un; omega⟩
theorem AOk.deeper {A : Around} {k : Nat} (h : AOk A (k + 1)) (env : Env) : AOk (A.deeper env) k := by
  refine ⟨h.hd, ?_, ?_⟩
  · have := h.dp; show A.depth + 1 + 8 * k ≤ 900; omega
  · have := h.un; show A.units + 3 + 64 * k ≤ 9000; omega
end Mine
end

section -- R1
open PySem PySem.W PySem.Calls PyProof.Rows
set_option maxRecDepth 100000
namespace Mine

structure EnvOk (env : Env) (L : Addr) (ns : List (Str × NameKind)) (cl : List (Str × Addr)) : Prop where
  loc : env.locals = L
  kd : env.scope.kind = .function
  nm : env.scope.names = ns
  nd : (ns.map (·.1)).Nodup
  ce : env.cells = cl
  cn : (cl.map (·.1)).Nodup
  gl : env.globals = mainGlobals
  bl : env.builtins = builtinsNs
  co : env.scope.isCoroutine = false
theorem lookup_nd {β : Type} : ∀ {l : List (Str × β)} {x : Str} {k : β}, (l.map (·.1)).Nodup → (x, k) ∈ l → l.lookup x = some k
  | [], _, _, _, h => by cases h
  | (y, b) :: r, x, k, nd, h => by
    rw [List.map_cons, List.nodup_cons] at nd
    rcases List.mem_cons.mp h with e | h
    · cases e; simp
    · have : (x == y) = false := by
        cases q : x == y with
        | false => rfl
        | true => exact absurd (eq_of_beq q ▸ List.mem_map_of_mem (f := (·.1)) h) nd.1
      rw [List.lookup_cons, this]; exact lookup_nd nd.2 h
theorem EnvOk.kind {env L ns cl x k} (E : EnvOk env L ns cl) (hx : (x, k) ∈ ns) : env.kindOf x = some k := by
  unfold Env.kindOf; rw [E.nm]; exact lookup_nd E.nd hx
theorem EnvOk.cell {env L ns cl x c} (E : EnvOk env L ns cl) (hx : (x, c) ∈ cl) : env.cells.lookup x = some c := by rw [E.ce]; exact lookup_nd E.cn hx

section
variable {w : World} {h₀ h h' : Heap} {W : List Addr} {D D' : Dl} {a L : Addr} {P : Pr} {o : Obj} {l l' : Nl} {x : Str} {v : Value}
theorem G.ns (H : G w h₀ W h D) (hm : (L, fr l) ∈ D) : ∃ m, h.Ns L m ∧ (l.map (·.1)).Nodup ∧ ∀ p ∈ l, ∀ v, p.2 = some v → m p.1 = some v := by
  obtain ⟨o, e, nd, es, ep, hd, hk, hl⟩ := H.get hm
  exact ⟨nsFind es, ⟨o, es, ep, e, hd, hk, fun _ => rfl⟩, nd, hl⟩
theorem G.store {m : Str → Option Value} (H : G w h₀ W h D) (hm : (L, fr l) ∈ D) (hml : ∀ p ∈ l, ∀ v, p.2 = some v → m p.1 = some v) (hn : h'.Ns L (fun y => if y = x then some v else m y)) (hs : Heap.SameBut L h h') (un : UpN x v l l') (u : Upd L (fr l') D D') : G w h₀ W h' D' := by
  obtain ⟨o, e, nd, _⟩ := H.get hm
  obtain ⟨o', es, ep, e', hd, hk, hf⟩ := hn
  refine H.upd u hs e' (fun _ vs q => by rw [hd] at q; cases q) ⟨by rw [un.keys]; exact nd, es, ep, hd, hk, fun p hp v' hv' => ?_⟩
  rw [hf]
  rcases un.mem nd p hp with rfl | ⟨hp', hne⟩
  · cases hv'; simp
  · show (if p.1 = x then some v else m p.1) = some v'; rw [if_neg hne]; exact hml p hp' v' hv'
end

section
variable {w : World} {A : Around} {E : Value → Shared → Prop} {h₀ h : Heap} {W : List Addr} {D D' : Dl} {L c : Addr} {l l' : Nl} {ns : List (Str × NameKind)} {cl : List (Str × Addr)} {env : Env} {x : Str} {v : Value} {p : Pos}
  {g : Array GenState} {d : Drawn} {t : Nat} {os : OsState}

theorem n_local {Q : Value → Shared → Prop} (Ev : EnvOk env L ns cl) (hx : (x, .local) ∈ ns) (H : G w h₀ W h D) (hm : (L, fr l) ∈ D) (hv : (x, some v) ∈ l) (q : Q v ⟨h, g, d, t, os⟩)
    (hd : (x == ("__debug__" : Str)) = false := by decide +kernel) : wpAny (MM w) A (eval (.Name x p) env) Q E ⟨h, g, d, t, os⟩ := by
  obtain ⟨m, hn, _, hml⟩ := H.ns hm
  exact wpAny_Name (wpAny_loadName_local Ev.kd (Ev.kind hx) (Ev.loc ▸ hn) (hml _ hv v rfl) q) hd
theorem n_store {Q : Unit → Shared → Prop} (Ev : EnvOk env L ns cl) (hx : (x, .local) ∈ ns) (H : G w h₀ W h D) (hm : (L, fr l) ∈ D) (un : UpN x v l l') (u : Upd L (fr l') D D')
    (q : ∀ h' t', G w h₀ W h' D' → Q () ⟨h', g, d, t', os⟩) : wpAny (MM w) A (storeName env x v) Q E ⟨h, g, d, t, os⟩ := by
  obtain ⟨m, hn, _, hml⟩ := H.ns hm
  refine wpAny_storeName_local (Ev.kind hx) (m := m) (by rw [Ev.loc]; exact hn) (fun h' hn' hs' => q h' _ ?_) (by rw [Ev.kd]; rfl)
  rw [Ev.loc] at hn' hs'
  exact H.store hm hml hn' hs' un u
end
end Mine
end

section -- R2
open PySem PySem.W PySem.Calls PyProof.Rows
set_option maxRecDepth 100000
namespace Mine

abbrev globs : List (Str × Value) := [("_wall", .ref 21), ("_TokenType", .ref 66), ("Whitespace", .ref 72), ("Error", .ref 76), ("include", .ref 273), ("_inherit", .ref 294), ("combined", .ref 315), ("_PseudoMatch", .ref 374), ("bygroups", .ref 385), ("this", .ref 401), ("using", .ref 408), ("default", .ref 425), ("words", .ref 454), ("inherit_place", .ref 473), ("merged_tokendefs", .ref 480), ("Lexer", .ref 259), ("RegexLexer", .ref 562), ("PlainMatch", .ref 603), ("Plain", .ref 630), ("PlainLexer", .ref 651), ("_law_next", .ref 660), ("_law_state", .ref 665), ("_law_text", .ref 672), ("_law_words", .ref 679), ("_law_kinds", .ref 686), ("_law_pieces", .ref 693), ("_law_whole", .ref 698), ("_law_machine", .ref 703), ("_law_rule", .ref 708), ("law", .ref 713)]
theorem globs_ok (w : World) : (globs.all fun p => nsIn (KK w) mainGlobals p.1 == some (some p.2)) = true := by kernel_rfl
abbrev blts : List (Str × Value) := [("len", .builtin "len"), ("range", .type "range"), ("abs", .builtin "abs"), ("max", .builtin "max"), ("isinstance", .builtin "isinstance"), ("type", .type "type"), ("list", .type "list"), ("tuple", .type "tuple"), ("callable", .builtin "callable"), ("enumerate", .type "enumerate"), ("str", .type "str"), ("int", .type "int")]
theorem blts_ok (w : World) : (blts.all fun p => nsIn (KK w) mainGlobals p.1 == some none && bootBuiltins p.1 == some p.2 && p.1 != Str.ofString "__name__") = true := by kernel_rfl

section
variable {w : World} {A : Around} {E : Value → Shared → Prop} {h₀ h : Heap} {W : List Addr} {D D' : Dl} {L c : Addr} {l l' : Nl} {ns : List (Str × NameKind)} {cl : List (Str × Addr)} {env : Env} {x : Str} {v : Value} {p : Pos}
  {g : Array GenState} {d : Drawn} {t : Nat} {os : OsState}

theorem n_glob {Q : Value → Shared → Prop} (Ev : EnvOk env L ns cl) (hx : (x, .globalImplicit) ∈ ns) (H : G w h₀ W h D) (hv : (x, v) ∈ globs) (q : Q v ⟨h, g, d, t, os⟩)
    (hd : (x == ("__debug__" : Str)) = false := by decide +kernel) : wpAny (MM w) A (eval (.Name x p) env) Q E ⟨h, g, d, t, os⟩ := by
  refine Name_function_global Ev.kd (Ev.kind hx) ?_ hd
  have e := eq_of_beq (List.all_eq_true.mp (globs_ok w) (x, v) hv)
  unfold loadGlobal
  refine wpAny_bind ((looks_nsIn H.st.k (Ev.gl ▸ e)).here ?_)
  exact wpAny_pure q
theorem n_blt {Q : Value → Shared → Prop} (Ev : EnvOk env L ns cl) (hx : (x, .globalImplicit) ∈ ns) (H : G w h₀ W h D) (hv : (x, v) ∈ blts) (q : Q v ⟨h, g, d, t, os⟩)
    (hd : (x == ("__debug__" : Str)) = false := by decide +kernel) : wpAny (MM w) A (eval (.Name x p) env) Q E ⟨h, g, d, t, os⟩ := by
  refine Name_function_global Ev.kd (Ev.kind hx) ?_ hd
  have e := List.all_eq_true.mp (blts_ok w) (x, v) hv
  simp only [Bool.and_eq_true, beq_iff_eq, bne_iff_ne, ne_eq] at e
  obtain ⟨mb, hb, hbl⟩ := H.st.b
  unfold loadGlobal
  refine wpAny_bind ((looks_nsIn H.st.k (Ev.gl ▸ e.1.1)).here ?_)
  refine wpAny_bind (wpAny_nsGet (Ev.bl ▸ hb) ?_)
  rw [hbl _ e.2, e.1.2]
  exact wpAny_pure q
end
abbrev callPost (R : Result → Shared → Prop) : Flow → Shared → Prop := fun f s' => R (.ok (.ret (match f with | .ret v => v | _ => .none))) s'
def envF (fd : FuncData) (L a : Addr) : Env := callEnv fd L a
theorem envOk_of {fd : FuncData} {L a : Addr} (hk : fd.scope.kind = .function) (hg : fd.globals = mainGlobals) (hb : fd.builtins = builtinsNs) (hn : (fd.scope.names.map (·.1)).Nodup) (hc : (fd.closure.map (·.1)).Nodup) (hco : fd.scope.isCoroutine = false) :
    EnvOk (callEnv fd L a) L fd.scope.names fd.closure := ⟨rfl, hk, rfl, hn, rfl, hc, hg, hb, hco⟩

def LocOk (binds : List (Str × Value)) : Nl → Prop
  | [] => True
  | (_, none) :: r => LocOk binds r
  | (x, some v) :: r => binds.reverse.lookup x = some v ∧ LocOk binds r
theorem LocOk.at {binds : List (Str × Value)} : ∀ {l : Nl}, LocOk binds l → ∀ p ∈ l, ∀ v, p.2 = some v → binds.reverse.lookup p.1 = some v
  | [], _, _, hp, _, _ => by cases hp
  | (x, none) :: r, h, p, hp, v, hv => by
    rcases List.mem_cons.mp hp with rfl | hp
    · cases hv
    · exact LocOk.at (l := r) h p hp v hv
  | (x, some u) :: r, h, p, hp, v, hv => by
    rcases List.mem_cons.mp hp with rfl | hp
    · cases hv; exact h.1
    · exact LocOk.at (l := r) h.2 p hp v hv
theorem enter {w : World} {A : Around} {k : Nat} {R : Result → Shared → Prop} {h₀ h : Heap} {W : List Addr} {D : Dl} {g : Array GenState} {d : Drawn} {t : Nat} {os : OsState} {f : Addr} {o : Obj} {fd : FuncData} {body : List Stmt} {args : Args} {binds : List (Str × Value)} (l : Nl)
    (hA : AOk A (k + 1)) (H : G w h₀ W h D) (ho : h.get? f = some o) (hdat : o.data = .func fd) (hcd : h.CodeRec fd.code fd.qualname) (hbody : fd.body = .stmts body)
    (hbind : BindsTo ⟨h, g, d, t, os⟩ fd args binds)
    (hl : (fd.scope.names.all (fun x => x.2 != .cell) && binds.all (fun x => fd.scope.names.lookup x.1 == some .local) && (fd.scope.kind == .function) && !fd.scope.isCoroutine && !fd.scope.isGenerator && (fd.globals == mainGlobals) && (fd.builtins == builtinsNs) &&
       decide (fd.scope.names.map (·.1)).Nodup && decide (fd.closure.map (·.1)).Nodup && decide (l.map (·.1)).Nodup) = true)
    (hlv : LocOk binds l)
    (q : ∀ env L h' t', EnvOk env L fd.scope.names fd.closure → AOk (A.deeper env) k → G w h₀ W h' ((L, fr l) :: D) → Kp [] h h' →
      wpAny (MM w) (A.deeper env) (execs body env) (callPost R) (fun _ _ => False) ⟨h', g, d, t', os⟩) :
    codeAny (MM w) A (.call (.ref f) args) R ⟨h, g, d, t, os⟩ := by
  simp only [Bool.and_eq_true, Bool.not_eq_true', decide_eq_true_eq, beq_iff_eq] at hl
  obtain ⟨⟨⟨⟨⟨⟨⟨⟨⟨h1, h2⟩, h3⟩, h4⟩, h5⟩, h6⟩, h7⟩, h8⟩, h9⟩, h10⟩ := hl
  refine codeAny_call_def hA.room ho hdat H.st.lim hcd hbody hbind (fun x hx => by simpa using List.all_eq_true.mp h1 x hx) (fun x hx => by simpa using List.all_eq_true.mp h2 x hx) (fun hh hns hk => ?_) h4 h5 h3
  have ev : EnvOk (callEnv fd h.objs.size f) h.objs.size fd.scope.names fd.closure := envOk_of h3 h6 h7 h8 h9 h4
  obtain ⟨oL, es, ep, e1, e2, e3, e4⟩ := hns
  have n := H.new (get_size h)
  have H' : G w h₀ W hh ((h.objs.size, fr l) :: D) := (H.ext hk).add' e1 (fun _ vs q => by rw [e2] at q; cases q) ⟨h10, es, ep, e2, e3, fun p hp v hv => (e4 _).trans (hlv.at p hp v hv)⟩ H.st.big n.1 n.2
  exact wpAny_mono (q _ _ _ _ ev (hA.deeper _) H' ((Kp.refl [] h).ext hk)) (fun _ _ x => x) fun _ _ x => x.elim
end Mine
end

section -- R3
open PySem PySem.W PySem.Calls PyProof.Rows
set_option maxRecDepth 100000
namespace Mine
theorem nc_list {o : Obj} {its : Array Value} (h : isL its o) : NC o := fun q => by rw [h.1] at q; exact absurd (Value.type.inj q) (by decide)
theorem nc_tup {o : Obj} {its : Array Value} (h : isT its o) : NC o := fun q => by rw [h.1] at q; exact absurd (Value.type.inj q) (by decide)
theorem G.start1 {w : World} {h : Heap} {a : Addr} {P : Pr} {o : Obj} (S : St w h) (ho : h.get? a = some o) (hn : NC o) (hp : P o) (ha : 714 ≤ a) : G w h [a] h [(a, P)] := by
  refine ⟨S, Kp.refl _ h, fun p hp' => ?_, fun p hp' => ?_, ?_, S.big⟩
  · rw [List.mem_singleton.mp hp']; exact ⟨o, ho, hn, hp⟩
  · rw [List.mem_singleton.mp hp']; exact ⟨ha, .inl (.head _)⟩
  · exact List.nodup_cons.mpr ⟨List.not_mem_nil, List.nodup_nil⟩
theorem G.startL {w : World} {h : Heap} {a : Addr} {its : Array Value} (S : St w h) (hl : h.IsList a its) (ha : 714 ≤ a) : G w h [a] h [(a, isL its)] :=
  let ⟨_, e, p⟩ := hl; G.start1 (P := isL its) S e (nc_list p) p ha

section
variable {w : World} {h₀ h h' : Heap} {W : List Addr} {D D' : Dl} {a : Addr} {its : Array Value}
theorem G.list (H : G w h₀ W h D) (hm : (a, isL its) ∈ D) : h.IsList a its := H.get hm
theorem G.tup (H : G w h₀ W h D) (hm : (a, isT its) ∈ D) : IsTup h a its := H.get hm
theorem G.old (H : G w h₀ W h D) (hl : h₀.IsList a its) (ha : 714 ≤ a) (hw : a ∉ W) : h.IsList a its := H.kp.list hl hw ha
theorem G.oldT (H : G w h₀ W h D) (hl : IsTup h₀ a its) (ha : 714 ≤ a) (hw : a ∉ W) : IsTup h a its :=
  let ⟨o, e, r⟩ := hl; ⟨o, H.kp.keep _ _ e hw (ne380 ha) (ne403 ha), r⟩
theorem G.extBut (H : G w h₀ W h D) (hx : Heap.ExtBut h.objs.size h h') : G w h₀ W h' D := H.ext fun b o e => hx b o (Nat.ne_of_lt (Heap.lt_size e)) e
theorem G.setL (H : G w h₀ W h D) (u : Upd a (isL its) D D') (hl : h'.IsList a its) (hs : Heap.SameBut a h h') : G w h₀ W h' D' :=
  let ⟨_, e, p⟩ := hl; H.upd u hs e (nc_list p) p
end
/-- the rest of a block behind a statement -/
def seqP (M : Model) (A : Around) (rest : List Stmt) (env : Env) (Q : Flow → Shared → Prop) (E : Value → Shared → Prop) (f : Flow) (s : Shared) : Prop := match f with
  | .next => wpAny M A (execs rest env) Q E s
  | f => Q f s
section
variable {M : Model} {A : Around} {rest : List Stmt} {env : Env} {Q : Flow → Shared → Prop} {E : Value → Shared → Prop} {s : Shared} {st : Stmt}
theorem x_cons (q : wpAny M A (exec st env) (seqP M A rest env Q E) E s) : wpAny M A (execs (st :: rest) env) Q E s :=
  wpAny_execs_cons (wpAny_mono q (fun f s' h => by cases f <;> exact h) fun _ _ h => h)
theorem x_nil (q : Q .next s) : wpAny M A (execs [] env) Q E s := wpAny_execs_nil q
theorem x_next (q : wpAny M A (execs rest env) Q E s) : seqP M A rest env Q E .next s := q
theorem x_retd {v : Value} (q : Q (.ret v) s) : seqP M A rest env Q E (.ret v) s := q
theorem x_brkd (q : Q .brk s) : seqP M A rest env Q E .brk s := q
theorem x_contd (q : Q .cont s) : seqP M A rest env Q E .cont s := q
end
/-- a new object is handed on -/
def New (Q : Value → Shared → Prop) (o : Obj) (s : Shared) : Prop := Q (.ref s.heap.objs.size) { s with heap := s.heap.push o }

section
variable {w : World} {A : Around} {E : Value → Shared → Prop} {h₀ h : Heap} {W : List Addr} {D D' : Dl} {L c a : Addr} {l l' : Nl} {ns : List (Str × NameKind)} {cl : List (Str × Addr)} {env : Env} {x : Str} {v : Value} {p : Pos}
  {g : Array GenState} {d : Drawn} {t : Nat} {os : OsState} {k : Int} {tk : Tok} {its : Array Value} {value slice : Expr}

theorem sub_list {Q : Value → Shared → Prop} {itl : List Value} (hl : h.IsList a itl.toArray) (h0 : 0 ≤ k) (hf : k < 2 ^ 63) (hx : itl[k.toNat]? = some v) (q : Q v ⟨h, g, d, t, os⟩)
    (hs : subscripted slice false (.ref a) (.int k tk) = operate [.ref a, .int k tk] (getItem (.ref a) (.int k tk)) := by with_unfolding_all rfl) :
    wpAny (MM w) A (subscriptTail value slice (.ref a) (.int k tk)) Q E ⟨h, g, d, t, os⟩ :=
  tail_any hl.typeIs slot_list_getitem.lookup (wpAny_getItem_list hl h0 hf (by rw [List.getElem?_toArray]; exact hx) q) hs
theorem sub_list_neg {Q : Value → Shared → Prop} {itl : List Value} (hl : h.IsList a itl.toArray) (h0 : k < 0) (h1 : -(itl.length : Int) ≤ k) (hf : -(2 ^ 63) ≤ k) (hx : itl[(k + itl.length).toNat]? = some v) (q : Q v ⟨h, g, d, t, os⟩)
    (hs : subscripted slice false (.ref a) (.int k tk) = operate [.ref a, .int k tk] (getItem (.ref a) (.int k tk)) := by with_unfolding_all rfl) :
    wpAny (MM w) A (subscriptTail value slice (.ref a) (.int k tk)) Q E ⟨h, g, d, t, os⟩ :=
  tail_any hl.typeIs slot_list_getitem.lookup (wpAny_getItem_list_neg hl h0 (by rw [List.size_toArray]; exact h1) hf (by rw [List.size_toArray, List.getElem?_toArray]; exact hx) q) hs
theorem e_tuple {elts : List Expr} {kk : Nat} {pos : Pos} {Q : Value → Shared → Prop} {s : Shared}
    (q : wpAny (MM w) A (spliced (backTo pos (starEach elts env))) (fun vs s₁ => Nat.ble vs.length 1000 = true ∧ New Q { cls := .type "tuple", data := .seq vs.toArray } s₁) E s) : wpAny (MM w) A (eval (.Tuple elts kk pos) env) Q E s :=
  wpAny_Tuple (wpAny_mono q (fun _ _ x => ⟨Nat.le_trans (Nat.le_of_ble_eq_true x.1) (by decide +kernel), x.2⟩) fun _ _ x => x)
theorem e_list {elts : List Expr} {pos : Pos} {Q : Value → Shared → Prop} {s : Shared}
    (q : wpAny (MM w) A (spliced (backTo pos (starEach elts env))) (fun vs s₁ => Nat.ble vs.length 1000 = true ∧ New Q { cls := .type "list", data := .seq vs.toArray } s₁) E s) : wpAny (MM w) A (eval (.List elts pos) env) Q E s :=
  wpAny_List (wpAny_mono q (fun _ _ x => ⟨Nat.le_trans (Nat.le_of_ble_eq_true x.1) (by decide +kernel), x.2⟩) fun _ _ x => x)
theorem new_tup {Q : Value → Shared → Prop} {vs : List Value} (H : G w h₀ W h D) (q : ∀ r h', G w h₀ W h' ((r, isT vs.toArray) :: D) → Q (.ref r) ⟨h', g, d, t, os⟩) :
    New Q { cls := .type "tuple", data := .seq vs.toArray } ⟨h, g, d, t, os⟩ :=
  q _ _ (H.push (P := isT vs.toArray) { cls := .type "tuple", data := .seq vs.toArray } rfl (nc_tup ⟨rfl, 0, rfl⟩) ⟨rfl, 0, rfl⟩)
theorem new_list {Q : Value → Shared → Prop} {vs : List Value} (H : G w h₀ W h D) (q : ∀ r h', G w h₀ W h' ((r, isL vs.toArray) :: D) → Q (.ref r) ⟨h', g, d, t, os⟩) :
    New Q { cls := .type "list", data := .seq vs.toArray } ⟨h, g, d, t, os⟩ :=
  q _ _ (H.push (P := isL vs.toArray) { cls := .type "list", data := .seq vs.toArray } rfl (nc_list ⟨rfl, 0, rfl⟩) ⟨rfl, 0, rfl⟩)
theorem i_nil {pos : Pos} {Q : List Value → Shared → Prop} {s : Shared} (q : Q [] s) : wpAny (MM w) A (spliced (backTo pos (starEach [] env))) Q E s := wpAny_items_nil q
theorem i_cons {pos : Pos} {e : Expr} {rest : List Expr} {Q : List Value → Shared → Prop} {s : Shared} (q : wpAny (MM w) A (eval e env) (fun v s₁ => wpAny (MM w) A (spliced (backTo pos (starEach rest env))) (fun vs s₂ => Q (v :: vs) s₂) E s₁) E s)
    (he : starEach (e :: rest) env = (false, eval e env) :: starEach rest env) : wpAny (MM w) A (spliced (backTo pos (starEach (e :: rest) env))) Q E s := wpAny_items_cons q he
theorem unpackT {Q : List Value → Shared → Prop} {n : Nat} (hA : A.handled = none) (H : G w h₀ W h D) (ht : IsTup h a its) (hn : n = its.size) (q : ∀ h', G w h₀ W h' D → Q its.toList ⟨h', g, d, t, os⟩) :
    wpAny (MM w) A (unpackItems (.ref a) n none) Q E ⟨h, g, d, t, os⟩ := by
  subst hn
  exact unpackItems_tuple hA ht fun h' hx => q h' (H.extBut hx)
theorem setL {Q : Unit → Shared → Prop} {itl : List Value} (H : G w h₀ W h D) (hm : (a, isL itl.toArray) ∈ D) (h0 : 0 ≤ k) (hf : k < 2 ^ 63) (hn : k < (itl.length : Int)) (u : Upd a (isL (itl.set k.toNat v).toArray) D D') (q : ∀ h', G w h₀ W h' D' → Q () ⟨h', g, d, t, os⟩) :
    wpAny (MM w) A (setItem (.ref a) (.int k tk) v) Q E ⟨h, g, d, t, os⟩ :=
  wpAny_setItem_list (H.list hm) h0 hf (by rw [List.size_toArray]; exact hn) fun h' hl hs => q h' (H.setL u (by rw [← List.setIfInBounds_toArray]; exact hl) hs)
theorem b_add {Q : Value → Shared → Prop} {i j : Int} {ti tj : Tok} (q : ∀ tk t', Q (.int (i + j) tk) ⟨h, g, d, t', os⟩) : wpAny (MM w) A (binaryOp .Add (.int i ti) (.int j tj)) Q E ⟨h, g, d, t, os⟩ := add_int (q _ _)
theorem b_sub {Q : Value → Shared → Prop} {i j : Int} {ti tj : Tok} (q : ∀ tk t', Q (.int (i - j) tk) ⟨h, g, d, t', os⟩) : wpAny (MM w) A (binaryOp .Sub (.int i ti) (.int j tj)) Q E ⟨h, g, d, t, os⟩ := sub_int (q _ _)
theorem b_mul {Q : Value → Shared → Prop} {i j : Int} {ti tj : Tok} (h1 : -(2 ^ 64) < i) (h2 : i < 2 ^ 64) (q : ∀ tk t', Q (.int (i * j) tk) ⟨h, g, d, t', os⟩) : wpAny (MM w) A (binaryOp .Mult (.int i ti) (.int j tj)) Q E ⟨h, g, d, t, os⟩ :=
  mul_int (q _ _) (.of_left (intBits_le_64 h1 h2))
theorem b_fdiv {Q : Value → Shared → Prop} {i j : Int} {ti tj : Tok} (hj : j ≠ 0) (h1 : j.natAbs < 1073741824) (q : ∀ tk t', Q (.int (i.fdiv j) tk) ⟨h, g, d, t', os⟩) : wpAny (MM w) A (binaryOp .FloorDiv (.int i ti) (.int j tj)) Q E ⟨h, g, d, t, os⟩ :=
  floordiv_int hj (q _ _) (.inl (PyProof.noPylong_small h1))
theorem b_mod {Q : Value → Shared → Prop} {i j : Int} {ti tj : Tok} (hj : j ≠ 0) (q : ∀ tk t', Q (.int (i.fmod j) tk) ⟨h, g, d, t', os⟩) : wpAny (MM w) A (binaryOp .Mod (.int i ti) (.int j tj)) Q E ⟨h, g, d, t, os⟩ :=
  mod_int' hj (q _ _)
theorem b_len {Q : Value → Shared → Prop} {itl : List Value} (hl : h.IsList a itl.toArray) (hf : itl.length < 2 ^ 30) (q : ∀ tk t', Q (.int itl.length tk) ⟨h, g, d, t', os⟩) : wpAny (MM w) A (call (.builtin "len") [.ref a]) Q E ⟨h, g, d, t, os⟩ :=
  len_list hl (by rw [List.size_toArray]; omega) (by rw [List.size_toArray]; exact q _ _)
theorem e_int {Q : Value → Shared → Prop} {i : Int} {kk : Nat} {pos : Pos} (q : ∀ tk t', Q (.int i tk) ⟨h, g, d, t', os⟩) : wpAny (MM w) A (eval (.Constant (.int i) kk pos) env) Q E ⟨h, g, d, t, os⟩ := wpAny_Constant_int (q _ _)
theorem e_str {Q : Value → Shared → Prop} {i : Str} {kk : Nat} {pos : Pos} (q : ∀ tk t', Q (.str i tk) ⟨h, g, d, t', os⟩) : wpAny (MM w) A (eval (.Constant (.str i) kk pos) env) Q E ⟨h, g, d, t, os⟩ := wpAny_Constant_str (q _ _)
end
end Mine
end

section -- F1
open PySem PySem.W PySem.Calls PyProof.Rows
set_option maxRecDepth 100000
namespace Mine
local macro_rules | `(tactic| tb_rel) => `(tactic| ((repeat' first | with_reducible exact List.mem_cons_self | with_reducible refine List.mem_cons_of_mem _ ?_); done))
local macro_rules | `(tactic| tb_start) => `(tactic| ((repeat' first | with_reducible exact Upd.head | with_reducible exact UpN.head | with_reducible apply Upd.tail | with_reducible apply UpN.tail); done))
local macro_rules | `(tactic| k_clsL) => `(tactic|
  first | ((first
  | with_reducible refine x_cons ?_
  | with_reducible refine x_next ?_
  | with_reducible refine x_retd ?_
  | with_reducible refine x_nil ?_
  | with_reducible refine n_local (by assumption) (by tb_rel) (by assumption) (by tb_rel) (by tb_rel) ?_ (by decide +kernel)
  | with_reducible refine n_glob (by assumption) (by tb_rel) (by assumption) (by tb_rel) ?_ (by decide +kernel)
  | with_reducible refine n_blt (by assumption) (by tb_rel) (by assumption) (by tb_rel) ?_ (by decide +kernel)
  | with_reducible refine e_int fun _ _ => ?_
  | with_reducible refine wpAny_BinOp ?_
  | ((with_reducible refine i_cons ?h ?he); (case he => rfl))
  | with_reducible refine i_nil ?_
  | with_reducible refine e_str fun _ _ => ?_
  | with_reducible refine Subscript_ ?_
  | with_reducible refine wpAny_Call_NameR ?_
  | ((with_reducible refine callWith_method1 ?h ?he ?hp); (case he => rfl); (case hp => rfl))
  | with_reducible refine b_add fun _ _ => ?_
  | with_reducible refine b_sub fun _ _ => ?_
  | with_reducible refine n_store (by assumption) (by tb_rel) (by assumption) (by tb_rel) (by tb_start) (by tb_start) fun _ _ _ => ?_
  | with_reducible refine wpAny_Return_some ?_
  | with_reducible refine wpAny_assignInOrder_more ?_
  | with_reducible refine wpAny_assignInOrder_none ?_
  | with_reducible refine wpAny_bindName ?_
  | with_reducible refine wpAny_assign_Name ?_
  | with_reducible refine e_tuple ?_
  | with_reducible refine e_list ?_
  | ((with_reducible refine wpAny_Assign_Subscript ?h ?hs); (case hs => rfl))
  | ((with_reducible refine wpAny_Assign_Name ?h ?hs); (case hs => rfl))); k_clsL) | skip)
theorem eraseDups2 {x y : Str} (h : x ≠ y) : ([x, y] : List Str).eraseDups = [x, y] := by
  have : (y == x) = false := by simpa using Ne.symm h
  simp [List.eraseDups, List.eraseDupsBy, List.eraseDupsBy.loop, this]
theorem sw2 {env L ns cl} {x y : Str} {px py : Pos} {k tpos} {e1 e2 : Expr} {k2 vpos} (Ev : EnvOk env L ns cl) (hx : (x, .local) ∈ ns) (hy : (y, .local) ∈ ns)
    (h : (px.line == py.line && !(x == y) && !(([e1, e2] : List Expr).any fun | .Starred .. => true | _ => false) && !(([e1, e2] : List Expr).all (foldedForSure 8)) && !(([e1, e2] : List Expr).all (constantsAlone 8))) = true) :
    swappedStores [.Tuple [.Name x px, .Name y py] k tpos] (.Tuple [e1, e2] k2 vpos) env = pure (some [x, y]) := by
  simp only [Bool.and_eq_true, Bool.not_eq_true', beq_iff_eq, beq_eq_false_iff_ne] at h
  obtain ⟨⟨⟨⟨h1, h2⟩, h3⟩, h4⟩, h5⟩ := h
  have b : env.blockKind = .function := by unfold Env.blockKind; rw [Ev.kd]; rfl
  have e : (py.line == px.line) = true := by rw [h1]; simp
  have n := eraseDups2 h2
  have k1 : (env.kindOf x == some NameKind.local) = true := by rw [Ev.kind hx]; rfl
  have k2 : (env.kindOf y == some NameKind.local) = true := by rw [Ev.kind hy]; rfl
  have l1 : (px.line == px.line) = true := by simp
  unfold swappedStores
  simp only [b, List.length_cons, List.length_nil, List.filterMap_cons, List.filterMap_nil, k1, k2, n, h3, h4, h5, List.head?_cons, Option.map_some, Option.getD_some, Expr.pos, l1, e, Bool.and_self, if_true]
  rw [if_neg (by decide)]
  refine (if_neg (fun q => absurd (h3.symm.trans q) (by decide))).trans ?_
  first | done | rfl | (simp only [h4, h5, Bool.false_eq_true, if_false, bne_self_eq_false, Bool.or_self]; done) | (simp only [h4, h5, Bool.false_eq_true, if_false, bne_self_eq_false, Bool.or_self]; rfl)
theorem asg2 {M : Model} {A : Around} {env : Env} {x y : Str} {u v : Value} {Q : Unit → Shared → Prop} {E : Value → Shared → Prop} {s : Shared} (q : wpAny M A (storeName env y v) (fun _ s₁ => wpAny M A (storeName env x u) Q E s₁) E s) :
    wpAny M A (assignInOrder (List.map (fun n => bindName env n) ([x, y] : List Str).reverse) (#[u, v] : Array Value).toList.reverse) Q E s :=
  wpAny_assignInOrder_more (wpAny_bindName (wpAny_mono q (fun _ _ h => wpAny_assignInOrder_more (wpAny_bindName (wpAny_mono h (fun _ _ h => wpAny_assignInOrder_none h) fun _ _ h => h))) fun _ _ h => h))
theorem ints_get {vs : List Value} {ns : List Int} (h : IntsAre vs ns) {k : Nat} (hk : k < ns.length) : ∃ t, vs[k]? = some (.int (ns.getD k 0) t) := by
  have hl := h.length
  obtain ⟨v, hv⟩ : ∃ v, vs[k]? = some v := ⟨vs[k]'(by omega), List.getElem?_eq_getElem _⟩
  obtain ⟨t, e⟩ := h.int_at k v hv
  exact ⟨t, by rw [hv, e]⟩
def nextv (ns : List Int) (at_ many : Int) : Int := ((ns.getD (at_.fmod ns.length).toNat 0).fdiv (1 + at_.fdiv ns.length) + 7 * at_.fdiv ns.length).fmod many

theorem law_next {w : World} {A : Around} {k : Nat} {R : Result → Shared → Prop} {h : Heap} {g : Array GenState} {d : Drawn} {t : Nat} {os : OsState} {aS aN : Addr} {at_ many : Int} {ta tm : Tok} {vs : List Value} {ns : List Int}
    (hA : AOk A (k + 1)) (S : St w h) (hS : h.IsList aS #[.ref aN, .int at_ ta]) (dS : 714 ≤ aS) (hN : h.IsList aN vs.toArray) (dN : 714 ≤ aN) (hne : aN ≠ aS) (hi : IntsAre vs ns)
    (hl0 : 0 < ns.length) (hl1 : ns.length ≤ 27) (h0 : 0 ≤ at_) (h1 : at_ < 1000) (hb : ∀ n ∈ ns, 0 ≤ n ∧ n < 1000003) (hm : 0 < many)
    (q : ∀ h' t' tk tk', St w h' → Kp [aS] h h' → h'.IsList aS #[.ref aN, .int (at_ + 1) tk] → R (.ok (.ret (.int (nextv ns at_ many) tk'))) ⟨h', g, d, t', os⟩) :
    codeAny (MM w) A (.call (.ref 660) ⟨[.ref aS, .int many tm], []⟩) R ⟨h, g, d, t, os⟩ := by
  have H0 := G.startL S hS dS
  have hvl : vs.length = ns.length := hi.length
  refine enter [("state", some (.ref aS)), ("many", some (.int many tm)), ("numbers", none), ("at", none), ("turn", none)] hA H0 (S.k 660 _ rfl) rfl (codeRec_of S.k (by kernel_rfl)) rfl (BindsTo.of_eq (binds := [("state", .ref aS), ("many", .int many tm)]) (by kernel_rfl)) (by kernel_rfl) ⟨by kernel_rfl, by kernel_rfl, trivial⟩ ?_
  intro env L h₁ t₁ Ev hA₁ H₁ K₁
  dsimp only at Ev
  refine x_cons ?_
  refine Assign_Tuple_swapped (names := ["numbers", "at"]) ?_ rfl (sw2 (x := "numbers") (y := "at") Ev (by tb_rel) (by tb_rel) (by kernel_rfl))
  k_clsL
  refine sub_list (H₁.list (by tb_rel)) (by decide) (by decide) rfl ?_
  k_clsL
  refine sub_list (H₁.list (by tb_rel)) (by decide) (by decide) rfl ?_
  k_clsL
  refine ⟨rfl, new_tup H₁ fun r h₂ H₂ => ?_⟩
  refine unpackT hA₁.hd H₂ (H₂.tup (by tb_rel)) rfl fun h₃ H₃ => ?_
  refine asg2 ?_
  k_clsL
  refine setL (by assumption) (by tb_rel) (by decide) (by decide) (by simp) (by tb_start) fun h₆ H₆ => ?_
  have hN6 := H₆.old hN dN (fun q => hne (List.mem_singleton.mp q))
  k_clsL
  refine b_len hN6 (by omega) fun _ _ => ?_
  refine b_fdiv (by omega) (by omega) fun _ _ => ?_
  k_clsL
  refine b_len (G.old (by assumption) hN dN (fun q => hne (List.mem_singleton.mp q))) (by omega) fun _ _ => ?_
  refine b_mod (by omega) fun _ _ => ?_
  rw [hvl]
  have hn : (0 : Int) < ns.length := by omega
  obtain ⟨m0, m1⟩ : 0 ≤ at_.fmod ns.length ∧ at_.fmod ns.length < ns.length := ⟨fmod_lo _ hn, fmod_hi _ hn⟩
  obtain ⟨tv, ev⟩ := ints_get hi (k := (at_.fmod ns.length).toNat) (by omega)
  refine sub_list (G.old (by assumption) hN dN (fun q => hne (List.mem_singleton.mp q))) m0 (by omega) ev ?_
  k_clsL
  have hq : (0 : Int) ≤ at_.fdiv ns.length ∧ at_.fdiv ns.length ≤ 1000 := ⟨Int.fdiv_nonneg h0 (by omega), by rw [Int.fdiv_eq_ediv_of_nonneg _ (by omega)]; exact Int.le_trans (Int.ediv_le_self _ h0) (by omega)⟩
  rw [← hvl] at hq
  refine b_fdiv (by omega) (by omega) fun _ _ => ?_
  k_clsL
  refine b_mul (by decide) (by decide) fun _ _ => ?_
  k_clsL
  refine b_mod (by omega) fun _ _ => ?_
  rw [hvl]
  refine x_retd (q _ _ _ _ (G.st (h₀ := h) (W := [aS]) (by assumption)) (G.kp (by assumption)) (G.list (h₀ := h) (W := [aS]) (by assumption) (by k_memK)))
end Mine
end

section -- R4
open PySem PySem.W PySem.Calls PyProof.Rows
set_option linter.unusedVariables false
set_option maxRecDepth 100000
namespace Mine
inductive Del (a : Addr) : Dl → Dl → Prop
  | head {P : Pr} {r : Dl} : Del a ((a, P) :: r) r
  | tail {x : Addr × Pr} {r r' : Dl} : Del a r r' → Del a (x :: r) (x :: r')
theorem Del.sub {a} {D D' : Dl} (u : Del a D D') : D'.Sublist D := by
  induction u with
  | head => exact List.sublist_cons_self ..
  | tail _ ih => exact ih.cons_cons _
theorem Del.old {a} {D D' : Dl} (u : Del a D D') : ∃ P, (a, P) ∈ D := by
  induction u with
  | head => exact ⟨_, .head _⟩
  | tail _ ih => obtain ⟨P, h⟩ := ih; exact ⟨P, .tail _ h⟩
theorem Del.ne {a} {D D' : Dl} (u : Del a D D') (nd : (D.map (·.1)).Nodup) : ∀ p ∈ D', p.1 ≠ a := by
  induction u with
  | head =>
    intro p hp q
    rw [List.map_cons, List.nodup_cons] at nd
    exact nd.1 (q ▸ List.mem_map_of_mem (f := (·.1)) hp)
  | tail u ih =>
    intro p hp q
    rw [List.map_cons, List.nodup_cons] at nd
    rcases List.mem_cons.mp hp with rfl | hp
    · obtain ⟨P, h⟩ := u.old
      exact nd.1 (q ▸ List.mem_map_of_mem (f := (·.1)) h)
    · exact ih nd.2 p hp q
section
variable {w : World} {h₀ h h' : Heap} {W : List Addr} {D D' : Dl} {a : Addr} {P : Pr} {o : Obj}
/-- an object in hand is let go: whatever becomes of it -/
theorem G.del (H : G w h₀ W h D) (u : Del a D D') (hx : Heap.ExtBut a h h') (hn : h₀.get? a = none) : G w h₀ W h' D' := by
  obtain ⟨P₀, hm⟩ := u.old
  obtain ⟨o₀, e₀, n₀, _⟩ := H.own _ hm
  have d1 := (H.dyn _ hm).1
  dsimp only at d1 e₀ n₀
  have ne : ∀ {b}, b < 714 → b ≠ a := fun hb => ne_lt d1 hb
  have kt : ∀ {P l c q}, P < 714 → TabS h P l c q → TabS h' P l c q := fun hP x => by
    rcases x with x | ⟨c', o', vs, t, y, b, dd, e, r⟩
    · exact .inl (hx _ _ (ne hP) x)
    · refine .inr ⟨c', o', vs, t, hx _ _ (ne hP) y, b, hx _ _ (fun q => ?_) dd, e, r⟩
      subst q; rw [e₀] at dd; cases dd; exact n₀ e vs r.1
  refine ⟨⟨fun b ob e => hx _ _ (ne (kk_lt e).1) (H.st.k b ob e), let ⟨mb, x, y⟩ := H.st.b; ⟨mb, ?_, y⟩, ?_, kt (by decide) H.st.t1, kt (by decide) H.st.t2, let ⟨ob, e, r⟩ := H.st.bm; ⟨ob, hx _ _ (ne (by decide)) e, r⟩⟩, ⟨fun b ob e x y z => ?_, fun b ob e => ?_⟩, fun p hp => ?_, fun p hp => H.dyn p (u.sub.subset hp), (u.sub.map _).nodup H.nd, H.big⟩
  · obtain ⟨o, es, ep, e1, r⟩ := x
    exact ⟨o, es, ep, hx _ _ (ne (by decide)) e1, r⟩
  · obtain ⟨mc, ⟨o, es, ep, e1, r⟩, y⟩ := H.st.lim
    exact ⟨mc, ⟨o, es, ep, hx _ _ (ne (by decide)) e1, r⟩, y⟩
  · exact hx _ _ (fun q => by subst q; rw [e] at hn; cases hn) (H.kp.keep b ob e x y z)
  · obtain ⟨o', e'⟩ := H.kp.there b ob e
    exact ⟨o', hx _ _ (fun q => by subst q; rw [e] at hn; cases hn) e'⟩
  · obtain ⟨o', e', r⟩ := H.own p (u.sub.subset hp)
    exact ⟨o', hx _ _ (u.ne H.nd p hp) e', r⟩
end

def isLI (l : Addr) (i : Nat) : Pr := fun o => o.cls = .type "list_iterator" ∧ o.data = .fields #[.ref l, .int i 0]
def isTI (l : Addr) (i : Nat) : Pr := fun o => o.cls = .type "tuple_iterator" ∧ o.data = .fields #[.ref l, .int i 0]
def isRI (x left : Int) : Pr := fun o => o = { cls := .type "range_iterator", dict := none, data := .fields #[rawInt x, rawInt left, rawInt 1], slots := #[] }
theorem nc_of {o : Obj} {c : String} (h : o.cls = .type c) (hc : c ≠ "code") : NC o := fun q => by rw [h] at q; exact absurd (Value.type.inj q) hc
theorem IsTup.tuple {h : Heap} {a : Addr} {its : Array Value} (x : IsTup h a its) : ∃ o n, h.get? a = some o ∧ o.cls = .type "tuple" ∧ o.data = .seq its n := let ⟨o, e, c, n, d⟩ := x; ⟨o, n, e, c, d⟩

section
variable {w : World} {A : Around} {E : Value → Shared → Prop} {h₀ h : Heap} {W : List Addr} {D D' : Dl} {L c a I : Addr} {x : Str} {v : Value}
  {g : Array GenState} {d : Drawn} {t : Nat} {os : OsState} {its : List Value} {i : Nat}
theorem it_list {Q : Value → Shared → Prop} (H : G w h₀ W h D) (hl : h.IsList a its.toArray) (q : ∀ I h', G w h₀ W h' ((I, isLI a 0) :: D) → Kp [] h h' → h₀.get? I = none → h.get? I = none → Q (.ref I) ⟨h', g, d, t, os⟩) :
    wpAny (MM w) A (pyIter (.ref a)) Q E ⟨h, g, d, t, os⟩ :=
  wpAny_pyIter_list hl (q _ _ (H.push (P := isLI a 0) _ rfl (nc_of rfl (by decide)) ⟨rfl, rfl⟩) ((Kp.refl [] h).ext fun b o e => Heap.get?_push_of_some _ e) (H.new (get_size h)).1 (get_size h))
theorem nx_list {Q : Option Value → Shared → Prop} (H : G w h₀ W h D) (hm : (I, isLI a i) ∈ D) (hl : h.IsList a its.toArray) (hx : its[i]? = some v) (u : Upd I (isLI a (i + 1)) D D') (q : ∀ h', G w h₀ W h' D' → Heap.SameBut I h h' → Q (some v) ⟨h', g, d, t, os⟩) :
    wpAny (MM w) A (pyNext (.ref I)) Q E ⟨h, g, d, t, os⟩ :=
  wpAny_pyNext_list_item (H.get hm) hl (by rw [List.getElem?_toArray]; exact hx) fun h' ⟨o, e, p⟩ hs => q h' (H.upd u hs e (nc_of p.1 (by decide)) p) hs
theorem nx_list_end {Q : Option Value → Shared → Prop} (hA : A.handled = none) (H : G w h₀ W h D) (hm : (I, isLI a i) ∈ D) (hl : h.IsList a its.toArray) (hx : its[i]? = none) (u : Del I D D') (hn : h₀.get? I = none) (q : ∀ h', G w h₀ W h' D' → Heap.ExtBut I h h' → Q none ⟨h', g, d, t, os⟩) :
    wpAny (MM w) A (pyNext (.ref I)) Q E ⟨h, g, d, t, os⟩ :=
  wpAny_pyNext_list_end hA (H.get hm) hl (by rw [List.getElem?_toArray]; exact hx) fun h' hs => q h' (H.del u hs hn) hs
theorem nx_range {Q : Option Value → Shared → Prop} {k left : Int} (H : G w h₀ W h D) (hm : (I, isRI k left) ∈ D) (hl : 0 < left) (u : Upd I (isRI (k + 1) (left - 1)) D D') (q : ∀ h' t' tk, G w h₀ W h' D' → Q (some (.int k tk)) ⟨h', g, d, t', os⟩) :
    wpAny (MM w) A (pyNext (.ref I)) Q E ⟨h, g, d, t, os⟩ := by
  obtain ⟨o, e, rfl⟩ := H.get hm
  exact wpAny_pyNext_range_item e hl fun h' e' hs => q h' _ _ (H.upd u hs e' (nc_of rfl (by decide)) rfl)
theorem nx_range_end {Q : Option Value → Shared → Prop} {k left : Int} (hA : A.handled = none) (H : G w h₀ W h D) (hm : (I, isRI k left) ∈ D) (hl : left ≤ 0) (u : Del I D D') (hn : h₀.get? I = none) (q : ∀ h', G w h₀ W h' D' → Q none ⟨h', g, d, t, os⟩) :
    wpAny (MM w) A (pyNext (.ref I)) Q E ⟨h, g, d, t, os⟩ := by
  obtain ⟨o, e, rfl⟩ := H.get hm
  exact wpAny_pyNext_range_end hA e hl fun h' hs => q h' (H.del u hs hn)
theorem range_small {n : Int} (h0 : 0 ≤ n) (h1 : n < 1000000) : Builtin.Range.small 0 n 1 = true := by
  have hs : Builtin.Range.rangeSize 0 n 1 = n := by rw [rangeSize_one]; split <;> omega
  unfold Builtin.Range.small Builtin.Range.rangeFitsLong
  rw [hs]
  simp
  omega
theorem it_range {Q : Value → Shared → Prop} {n : Int} {tn : Tok} (H : G w h₀ W h D) (h0 : 0 ≤ n) (h1 : n < 1000000) (q : ∀ I h' t', G w h₀ W h' ((I, isRI 0 n) :: D) → Kp [] h h' → h₀.get? I = none → Q (.ref I) ⟨h', g, d, t', os⟩) :
    wpAny (MM w) A (call (.type "range") [.int n tn]) (fun v s => wpAny (MM w) A (pyIter v) Q E s) E ⟨h, g, d, t, os⟩ := by
  refine call_range_1 (wpAny_pyIter_range (IsRange.new h 0 n 1 t tn (t + 1)) (range_small h0 h1) ?_)
  have H1 : G w h₀ W (h.push { cls := .type "range", data := .fields #[.int 0 t, .int n tn, .int 1 (t + 1)] }) D := H.ext fun b o e => Heap.get?_push_of_some _ e
  have hs : Builtin.Range.rangeSize 0 n 1 = n := by rw [rangeSize_one]; split <;> omega
  dsimp only
  rw [hs]
  exact q _ _ _ (H1.push (P := isRI 0 n) _ rfl (nc_of rfl (by decide)) rfl) (((Kp.refl [] h).ext fun b o e => Heap.get?_push_of_some _ e).ext fun b o e => Heap.get?_push_of_some _ e) (H1.new (get_size _)).1
theorem b_abs {Q : Value → Shared → Prop} {k : Int} {tk : Tok} (q : ∀ u t', Q (.int (if k < 0 then -k else k) u) ⟨h, g, d, t', os⟩) : wpAny (MM w) A (call (.builtin "abs") [.int k tk]) Q E ⟨h, g, d, t, os⟩ := call_abs_int fun u tk => q u tk
theorem l_append {Q : Value → Shared → Prop} (H : G w h₀ W h D) (hm : (a, isL its.toArray) ∈ D) (hz : its.length ≤ 100000) (u : Upd a (isL (its ++ [v]).toArray) D D') (q : ∀ h', G w h₀ W h' D' → Q .none ⟨h', g, d, t, os⟩) :
    wpAny (MM w) A (call (.builtin "list.append") [.ref a, v]) Q E ⟨h, g, d, t, os⟩ :=
  wpAny_list_append (H.list hm) (fun h' hl hs => q h' (H.setL u (by simpa using hl) hs)) (by rw [List.size_toArray]; exact Nat.le_trans hz (by decide +kernel))
end

/-- a list made by the text: no dict of its own -/
def isPL (its : List Value) : Pr := fun o => o.cls = .type "list" ∧ o.dict = none ∧ o.slots = #[] ∧ ∃ n, o.data = .seq its.toArray n
theorem isPL.l {its : List Value} {o : Obj} (h : isPL its o) : isL its.toArray o := ⟨h.1, h.2.2.2⟩
theorem nc_pl {its : List Value} {o : Obj} (h : isPL its o) : NC o := nc_list h.l
/-! cells -/
def isC (v : Option Value) : Pr := fun o => o.data = .cell v
theorem nc_cell {o : Obj} {v : Option Value} (h : o.data = .cell v) : NC o := fun _ vs q => by rw [h] at q; cases q
section
variable {w : World} {A : Around} {E : Value → Shared → Prop} {h₀ h : Heap} {W : List Addr} {D D' : Dl} {L c : Addr} {ns : List (Str × NameKind)} {cl : List (Str × Addr)} {env : Env} {x : Str} {v : Value} {p : Pos}
  {g : Array GenState} {d : Drawn} {t : Nat} {os : OsState}
theorem n_cell {Q : Value → Shared → Prop} (Ev : EnvOk env L ns cl) (hx : (x, .cell) ∈ ns) (hc : (x, c) ∈ cl) (hv : h.IsCell c (some v)) (q : Q v ⟨h, g, d, t, os⟩)
    (hd : (x == ("__debug__" : Str)) = false := by decide +kernel) : wpAny (MM w) A (eval (.Name x p) env) Q E ⟨h, g, d, t, os⟩ :=
  wpAny_Name (wpAny_loadName_cell Ev.kd (Ev.kind hx) (Ev.cell hc) hv q) hd
theorem n_free {Q : Value → Shared → Prop} (Ev : EnvOk env L ns cl) (hx : (x, .free) ∈ ns) (hc : (x, c) ∈ cl) (hv : h.IsCell c (some v)) (q : Q v ⟨h, g, d, t, os⟩)
    (hd : (x == ("__debug__" : Str)) = false := by decide +kernel) (hn : (x == ("__classdict__" : Str)) = false := by decide +kernel) : wpAny (MM w) A (eval (.Name x p) env) Q E ⟨h, g, d, t, os⟩ :=
  wpAny_Name (wpAny_loadName_free Ev.kd (Ev.kind hx) (Ev.cell hc) hv q hn) hd
theorem c_store {Q : Unit → Shared → Prop} {v₀ : Option Value} (Ev : EnvOk env L ns cl) (hx : (x, .cell) ∈ ns) (hc : (x, c) ∈ cl) (H : G w h₀ W h D) (hm : (c, isC v₀) ∈ D) (u : Upd c (isC (some v)) D D')
    (q : ∀ h', G w h₀ W h' D' → Q () ⟨h', g, d, t, os⟩) : wpAny (MM w) A (storeName env x v) Q E ⟨h, g, d, t, os⟩ :=
  wpAny_storeName_cell Ev.kd (Ev.kind hx) (Ev.cell hc) (H.get hm) fun h' ⟨o, e, p⟩ hs => q h' (H.upd u hs e (nc_cell p) p)
end

/-! calls that need more of the heap than what a body keeps: a comprehension under its own names -/
section
variable {w : World} {A : Around} {E : Value → Shared → Prop} {h₀ h : Heap} {W : List Addr} {D : Dl} {env : Env} {g : Array GenState} {d : Drawn} {t : Nat} {os : OsState}
/-- the names of a comprehension, seen from a function with the names ns -/
def rl (ns : List (Str × NameKind)) (scope : Scope) : List (Str × NameKind) := scope.names.map fun p => if (p.2 == .free && ns.lookup p.1 == some .cell) then (p.1, .cell) else p
theorem relabel_rl {env L ns cl} {scope : Scope} (Ev : EnvOk env L ns cl) : (relabel scope env).names = rl ns scope := by
  unfold relabel rl
  refine List.map_congr_left fun p _ => ?_
  obtain ⟨n, k⟩ := p
  have e : env.kindOf n = ns.lookup n := by unfold Env.kindOf; rw [Ev.nm]
  have e2 : (env.scope.kind == ScopeKind.function) = true := by rw [Ev.kd]; rfl
  simp only [e, e2, Bool.and_true]
theorem rl_keys (ns scope) : (rl ns scope).map (·.1) = scope.names.map (·.1) := by
  unfold rl
  rw [List.map_map]
  refine List.map_congr_left fun p _ => ?_
  show (if _ then (p.1, NameKind.cell) else p).1 = p.1
  split <;> rfl
theorem fr_none {lc : Nl} (h1 : (lc.map (·.1)).Nodup) (h2 : lc.all (fun x => x.2.isNone) = true) {o : Obj} {es : Array DictEntry} {ep : Nat} (hd : o.data = .dict es ep) (hk : StrKeys es) : fr lc o :=
  ⟨h1, es, ep, hd, hk, fun p hp v hv => by have := List.all_eq_true.mp h2 p hp; rw [hv] at this; cases this⟩
/-- a comprehension in a function: its source, its list, its own names; then turn by turn -/
theorem g_comp {elt target iter : Expr} {scope : Scope} {pos fpos : Pos} {L : Addr} {ns : List (Str × NameKind)} {cl₀ cl : List (Str × Addr)} {Q : Value → Shared → Prop} (lc : Nl) {use : Option (Value → Sem Unit)}
    (Ev : EnvOk env L ns cl₀) (hclos : closureFor scope env = pure cl) (hk : (scope.names.all (fun x => x.2 != .cell) && (scope.kind == .function) && !scope.isCoroutine && decide (scope.names.map (·.1)).Nodup && decide (cl.map (·.1)).Nodup && decide (lc.map (·.1)).Nodup && lc.all (fun x => x.2.isNone)) = true)
    (hh : wpAny (MM w) A (eval iter env) (fun xv s₁ => wpAny (MM w) A (pyIter xv) (fun it s₂ => ∃ h₂ t₂ D₂, s₂ = ⟨h₂, g, d, t₂, os⟩ ∧ G w h₀ W h₂ D₂ ∧
      ∀ cenv C acc h₃ t₃, EnvOk cenv C (rl ns scope) cl → G w h₀ W h₃ ((C, fr lc) :: (acc, isPL []) :: D₂) → Kp [] h₂ h₃ → h₀.get? C = none → h₀.get? acc = none → h₂.get? acc = none →
        codeAny (MM w) A (.compLoop (.ListComp elt [⟨target, iter, [], 0⟩] scope pos) 0 it (.ref acc) cenv) (fun r s' => r = .ok .next ∧ ∃ h' t' lc' D', s' = ⟨h', g, d, t', os⟩ ∧ G w h₀ W h' ((C, fr lc') :: D') ∧
          (match use with
            | none => ∀ h'', G w h₀ W h'' D' → Q (.ref acc) ⟨h'', g, d, t', os⟩
            | some u => wpAny (MM w) A (u (.ref acc)) (fun _ s'' => ∃ h'' t'' D'' lc'', s'' = ⟨h'', g, d, t'', os⟩ ∧ G w h₀ W h'' ((C, fr lc'') :: D'') ∧ ∀ h₅, G w h₀ W h₅ D'' → Q .none ⟨h₅, g, d, t'', os⟩) E s')) ⟨h₃, g, d, t₃, os⟩ ∧
        wpAny (MM w) A (pyIter it) (fun it'' s' => it'' = it ∧ s' = ⟨h₃, g, d, t₃, os⟩) (fun _ _ => False) ⟨h₃, g, d, t₃, os⟩) E s₁) E ⟨h, g, d, t, os⟩)
    (hs : ∀ x, foldedSetIterable iter env x = pure x := by intro _; rfl) :
    wpAny (MM w) A (comprehension (.ListComp elt [⟨target, iter, [], 0⟩] scope pos) scope env fpos (newList []) false (eval iter env) use) Q E ⟨h, g, d, t, os⟩ := by
  simp only [Bool.and_eq_true, Bool.not_eq_true', decide_eq_true_eq, beq_iff_eq] at hk
  obtain ⟨⟨⟨⟨⟨⟨k1, k2⟩, k3⟩, k4⟩, k5⟩, k6⟩, k7⟩ := hk
  have hcell : ∀ x ∈ scope.names, x.2 ≠ .cell := fun x hx => by simpa using List.all_eq_true.mp k1 x hx
  refine wpAny_comprehension_free rfl hs hclos k2 (fun x hx hl => lookup_nd k4 (by rw [← hl]; exact hx)) (wpAny_mono hh (fun xv s₁ h₁ => wpAny_mono h₁ (fun it s₂ h₂ => ?_) fun _ _ e => e) fun _ _ e => e)
  obtain ⟨hp, t₂, D₂, rfl, H₂, hq⟩ := h₂
  refine wpAny_newObj_type (wpAny_newFunctionEnv hcell (by intro y hy; simp at hy) (fun h₁ hns₁ hsb₁ => ?_) k2)
  dsimp only at hns₁ hsb₁ ⊢
  have Ha : G w h₀ W (hp.push { cls := .type "list", dict := none, data := .seq ([] : List Value).toArray }) ((hp.objs.size, isPL []) :: D₂) := H₂.push (P := isPL []) _ rfl (nc_list (its := #[]) ⟨rfl, 0, rfl⟩) ⟨rfl, rfl, rfl, 0, rfl⟩
  generalize hH2 : hp.push { cls := .type "list", dict := none, data := .seq ([] : List Value).toArray } = H2 at hns₁ hsb₁ Ha ⊢
  obtain ⟨oC, es, ep, e1, e2, e3, e4⟩ := hns₁
  have nC := Ha.new (get_size H2)
  have old : ∀ b o, H2.get? b = some o → h₁.get? b = some o := fun b o e => hsb₁.extBut b o (Nat.ne_of_lt (Heap.lt_size e)) (Heap.get?_push_of_some _ e)
  have Hb : G w h₀ W h₁ ((H2.objs.size, fr lc) :: (hp.objs.size, isPL []) :: D₂) := (Ha.ext old).add' e1 (fun _ vs q => by rw [e2] at q; cases q) (fr_none k6 k7 e2 e3) Ha.st.big nC.1 nC.2
  have Kb : Kp [] hp h₁ := ⟨fun b o e _ _ _ => old b o (hH2 ▸ Heap.get?_push_of_some _ e), fun b o e => ⟨o, old b o (hH2 ▸ Heap.get?_push_of_some _ e)⟩⟩
  have Ec : EnvOk (compEnvC scope cl H2.objs.size env) H2.objs.size (rl ns scope) cl := ⟨rfl, k2, relabel_rl Ev, by rw [rl_keys]; exact k4, rfl, k5, Ev.gl, Ev.bl, k3⟩
  obtain ⟨hloop, hself⟩ := hq (compEnvC scope cl H2.objs.size env) H2.objs.size hp.objs.size h₁ (t₂ + ([] : List (Str × Value)).length) Ec Hb Kb nC.1 (H₂.new (get_size hp)).1 (get_size hp)
  have hpost := codeAny_mono hloop (R' := compPost (MM w) A E use Q (.ref hp.objs.size) H2.objs.size) (fun r s' hr => by
    obtain ⟨rfl, h', t', lc', D', rfl, H', hu⟩ := hr
    cases use with
    | none =>
      obtain ⟨m, hm, _⟩ := H'.ns (List.mem_cons_self ..)
      exact ⟨m, hm, fun h'' hs'' => hu h'' (H'.del Del.head hs''.extBut nC.1)⟩
    | some u =>
      refine wpAny_mono hu (fun _ s'' x => ?_) fun _ _ e => e
      obtain ⟨h'', t'', D'', lc'', rfl, H'', hq'⟩ := x
      obtain ⟨m, hm, _⟩ := H''.ns (List.mem_cons_self ..)
      exact ⟨m, hm, fun h₅ hs₅ => hq' h₅ (H''.del Del.head hs₅.extBut nC.1)⟩)
  exact codeAny_compStart_list hpost (wpAny_mono hself (fun it'' s' x => by obtain ⟨rfl, rfl⟩ := x; exact hpost) fun _ _ f => f.elim)
end
end Mine
end

section -- R5
open PySem PySem.W PySem.Calls PyProof.Rows
set_option linter.unusedVariables false
set_option maxRecDepth 100000
namespace Mine
theorem ift {P Q : Prop} (q : P) : if true = true then P else Q := q
theorem iff {P Q : Prop} (q : Q) : if false = true then P else Q := q
section
variable {w : World} {A : Around} {E : Value → Shared → Prop} {h₀ h : Heap} {W : List Addr} {D D' : Dl} {L c a b I : Addr} {env : Env} {x y : Str} {v : Value} {p pos : Pos} {tx ty : Tok}
  {g : Array GenState} {d : Drawn} {t : Nat} {os : OsState} {its its2 : List Value} {i : Nat}
theorem b_addL {Q : Value → Shared → Prop} (H : G w h₀ W h D) (hl : h.IsList a its.toArray) (hb : h.IsList b its2.toArray) (hsz : its.length + its2.length ≤ 100000)
    (q : ∀ r h', G w h₀ W h' ((r, isL (its ++ its2).toArray) :: D) → Kp [] h h' → h₀.get? r = none → h.get? r = none → Q (.ref r) ⟨h', g, d, t, os⟩) : wpAny (MM w) A (binaryOp .Add (.ref a) (.ref b)) Q E ⟨h, g, d, t, os⟩ := by
  obtain ⟨⟨cls, dd, data, sl⟩, ho, hc, n, hd⟩ := id hl
  obtain ⟨⟨cls2, dd2, data2, sl2⟩, ho2, hc2, n2, hd2⟩ := id hb
  simp only at hc hd hc2 hd2
  subst hc hd hc2 hd2
  have e : its.toArray ++ its2.toArray = (its ++ its2).toArray := by simp
  refine concat_meets ⟨_, ho, rfl⟩ ⟨_, ho2, rfl⟩ noFill_list_add seq_list_add PySem.F.slot_list_add PySem.F.entry_list_add (PySem.F.args_list_add_2 _ _) (list_addW a b its.toArray its2.toArray n n2 dd dd2 sl sl2 (by simpa using Nat.le_trans hsz (by decide +kernel))) ⟨ho, ho2, ?_⟩
  rw [e]
  exact q _ _ (H.push (P := isL (its ++ its2).toArray) _ rfl (nc_list (its := (its ++ its2).toArray) ⟨rfl, 0, rfl⟩) ⟨rfl, 0, rfl⟩) ((Kp.refl [] h).ext fun b o e => Heap.get?_push_of_some _ e) (H.new (get_size h)).1 (get_size h)
/-- l[:k] of a list -/
theorem sl_upto {value : Expr} {k : Int} {kk : Nat} {kp : Pos} {Q : Value → Shared → Prop} (h0 : 0 ≤ k)
    (hv : wpAny (MM w) A (eval value env) (fun o s₁ => o = .ref a ∧ s₁ = ⟨h, g, d, t, os⟩) E ⟨h, g, d, t, os⟩)
    (H : G w h₀ W h D) (hl : h.IsList a its.toArray) (hsz : its.length ≤ 100000) (q : ∀ r h' t', G w h₀ W h' ((r, isL (its.take k.toNat).toArray) :: D) → Kp [] h h' → h₀.get? r = none → Q (.ref r) ⟨h', g, d, t', os⟩) (ht : ∀ o r, letTemporaryGo value o r = pure ()) :
    wpAny (MM w) A (eval (.Subscript value (.Slice none (some (.Constant (.int k) kk kp)) none p) pos) env) Q E ⟨h, g, d, t, os⟩ := by
  refine wpAny_Subscript_list_slice (wpAny_mono hv (fun o s₁ e => ?_) fun _ _ x => x) ht
  obtain ⟨rfl, rfl⟩ := e
  refine evalPart_none_step (evalPart_some_step (e_int fun tk t' => ?_))
  refine ⟨a, its.toArray, none, some k, rfl, hl, by rw [List.size_toArray]; exact Nat.le_trans hsz (by decide +kernel), .none, .int k tk, ?_⟩
  have e : slicePick its.toArray none (some k) none = (its.take k.toNat).toArray := by
    rw [slicePick_plain]
    have hc : clipAt its.toArray.size k = min k.toNat its.length := by
      unfold clipAt; simp only [List.size_toArray]; split <;> omega
    simp only [Option.elim, hc, List.drop_zero, Nat.sub_zero]
    congr 1
    rw [List.take_eq_take_iff]
    simp
  rw [e]
  have H1 : G w h₀ W (h.push { cls := .type "slice", data := .fields #[.none, .int k tk, .none] }) D := H.ext fun b o e => Heap.get?_push_of_some _ e
  have hz : h.objs.size + 1 = (h.push { cls := .type "slice", data := .fields #[.none, .int k tk, .none] }).objs.size := (Heap.size_push ..).symm
  dsimp only
  rw [hz]
  exact q _ _ _ (H1.push (P := isL (its.take k.toNat).toArray) _ rfl (nc_list (its := (its.take k.toNat).toArray) ⟨rfl, 0, rfl⟩) ⟨rfl, 0, rfl⟩) (((Kp.refl [] h).ext fun b o e => Heap.get?_push_of_some _ e).ext fun b o e => Heap.get?_push_of_some _ e) (H1.new (get_size _)).1
/-! texts -/
theorem s_add {Q : Value → Shared → Prop} (hz : x.length + y.length ≤ 100000) (q : ∀ tk t', Q (.str (x ++ y) tk) ⟨h, g, d, t', os⟩) : wpAny (MM w) A (binaryOp .Add (.str x tx) (.str y ty)) Q E ⟨h, g, d, t, os⟩ :=
  SB.add (fun t' k => q t' k) (Nat.le_trans hz (by decide +kernel))
theorem s_len {Q : Value → Shared → Prop} (hz : x.length ≤ 100000) (q : ∀ tk t', Q (.int x.length tk) ⟨h, g, d, t', os⟩) : wpAny (MM w) A (call (.builtin "len") [.str x tx]) Q E ⟨h, g, d, t, os⟩ :=
  len_str (by have : x.length ≤ 100000 := hz; omega) (q _ _)
theorem s_eq {Q : Value → Shared → Prop} (q : Q (.bool (x == y)) ⟨h, g, d, t, os⟩) : wpAny (MM w) A (compareOp .Eq (.str x tx) (.str y ty)) Q E ⟨h, g, d, t, os⟩ := eq_str q
theorem s_item {value slice : Expr} {k : Int} {tk : Tok} {Q : Value → Shared → Prop} (h0 : 0 ≤ k) (h1 : k < x.length) (hz : x.length ≤ 100000) (q : ∀ tk' t', Q (.str (Txt.item x k) tk') ⟨h, g, d, t', os⟩)
    (hs : subscripted slice false (.str x tx) (.int k tk) = operate [.str x tx, .int k tk] (getItem (.str x tx) (.int k tk)) := by with_unfolding_all rfl) :
    wpAny (MM w) A (subscriptTail value slice (.str x tx) (.int k tk)) Q E ⟨h, g, d, t, os⟩ := by
  have hlen : x.length = x.cps.size := rfl
  refine tail_any (T := "str") (typeIs_str _ _ _) F.slot_str_getitem.lookup (SB.getItem ?_ ?_ (q _ _)) hs
  · unfold fitsSsize; simp; omega
  · unfold Txt.charAt
    have e : seqIndex? k x.length = some k.toNat := by unfold seqIndex?; split <;> (try split) <;> first | omega | rfl | simp_all
    rw [e]
    show (x.cps[k.toNat]?).isSome = true
    rw [Array.getElem?_eq_getElem (by omega)]; rfl
end
end Mine
end

section -- F2, its first part
open PySem PySem.W PySem.Calls PyProof.Rows
set_option linter.unusedVariables false
set_option maxRecDepth 100000
namespace Mine
def isFn (K : Frag) (f : Addr) : Bool := match K.lookup f with | some o => (match o.data with | .func _ => true | _ => false) | none => false
theorem isFn_of {K : Frag} {f : Addr} (h : isFn K f = true) : ∃ o fd, K.lookup f = some o ∧ o.data = .func fd := by
  unfold isFn at h
  split at h
  · rename_i o e
    split at h
    · rename_i fd e'; exact ⟨o, fd, e, e'⟩
    · cases h
  · cases h
/-- a call of a def of the text -/
theorem c_fun {w : World} {A : Around} {E : Value → Shared → Prop} {s : Shared} {env : Env} {pos : Pos} {f : Addr} {e : Expr} {rest : List Expr} {Q : Value → Shared → Prop}
    (h : wpAny (MM w) A (spliced (backTo pos (starEach (e :: rest) env))) (fun vs s₁ => St w s₁.heap ∧ wpAny (MM w) A (call (.ref f) vs) Q E s₁) E s)
    (hk : isFn (KK w) f = true) (he : starEach (e :: rest) env = (false, eval e env) :: starEach rest env) :
    wpAny (MM w) A (callWith pos (.ref f) [] (backTo pos (starEach (e :: rest) env)) []) Q E s := by
  obtain ⟨o, fd, hk, hd⟩ := isFn_of hk
  rw [he] at h ⊢
  exact Calls.callWith_function (o := o) (fd := fd) (Calls.evalArgs_plain (wpAny_mono h (fun vs s₁ h₁ => ⟨⟨h₁.1.k _ _ hk, hd⟩, h₁.2⟩) fun _ _ x => x))
theorem c_fun0 {w : World} {A : Around} {E : Value → Shared → Prop} {s : Shared} {env : Env} {pos : Pos} {f : Addr} {Q : Value → Shared → Prop}
    (h : St w s.heap ∧ wpAny (MM w) A (call (.ref f) []) Q E s) (hk : isFn (KK w) f = true) :
    wpAny (MM w) A (callWith pos (.ref f) [] (backTo pos (starEach [] env)) []) Q E s := by
  obtain ⟨o, fd, hk, hd⟩ := isFn_of hk
  exact callWith_meth0 (first := []) hd (h.1.k _ _ hk) h.2
theorem and_st {w : World} {h₀ h : Heap} {W : List Addr} {D : Dl} {X : Prop} (H : G w h₀ W h D) (q : X) : St w h ∧ X := ⟨H.st, q⟩
def sS (aN : Addr) (n : Nat) : Pr := fun o => ∃ (k : Int) (t : Tok), isL #[.ref aN, .int k t] o ∧ 0 ≤ k ∧ k ≤ n
def sN : Pr := fun o => ∃ (vs : List Value) (ns : List Int), isL vs.toArray o ∧ IntsAre vs ns ∧ 0 < ns.length ∧ ns.length ≤ 27 ∧ ∀ n ∈ ns, 0 ≤ n ∧ n < 1000003
theorem nextv_lt {ns : List Int} {at_ many : Int} (hm : 0 < many) : 0 ≤ nextv ns at_ many ∧ nextv ns at_ many < many := ⟨fmod_lo _ hm, fmod_hi _ hm⟩
theorem G.call1' {w : World} {h₀ h h' : Heap} {W : List Addr} {D D' : Dl} {a : Addr} {P : Pr} (H : G w h₀ W h D) (S : St w h') (K : Kp [a] h h') (u : Upd a P D D') (hp : ∃ o, h'.get? a = some o ∧ NC o ∧ P o) : G w h₀ W h' D' :=
  let ⟨_, e, n, p⟩ := hp; H.call1 S K u e n p
theorem G.at {w : World} {h₀ h : Heap} {W : List Addr} {D : Dl} {a : Addr} {P : Pr} (H : G w h₀ W h D) (hm : (a, P) ∈ D) : 714 ≤ a := (H.dyn _ hm).1
abbrev Has (h : Heap) (a : Addr) (P : Pr) : Prop := ∃ o, h.get? a = some o ∧ P o
theorem Has.kp {W : List Addr} {h h' : Heap} {a : Addr} {P : Pr} (x : Has h a P) (K : Kp W h h') (hw : a ∉ W) (hd : 714 ≤ a) : Has h' a P := let ⟨o, e, p⟩ := x; ⟨o, K.keep _ _ e hw (ne380 hd) (ne403 hd), p⟩
theorem G.has {w : World} {h₀ h : Heap} {W : List Addr} {D : Dl} {a : Addr} {P : Pr} (H : G w h₀ W h D) (x : Has h₀ a P) (hw : a ∉ W) (hd : 714 ≤ a) : Has h a P := x.kp H.kp hw hd
theorem nc_sS {aN n o} (h : sS aN n o) : NC o := let ⟨_, _, x, _⟩ := h; nc_list x
theorem sS.mono {aN n m o} (h : sS aN n o) (hn : n ≤ m) : sS aN m o := let ⟨k, t, x, a, b⟩ := h; ⟨k, t, x, a, by omega⟩
structure Post1 (w : World) (aS aN : Addr) (n : Nat) (h h' : Heap) : Prop where
  st : St w h'
  kp : Kp [aS] h h'
  s : Has h' aS (sS aN n)
theorem G.post1 {w : World} {h₀ h h' : Heap} {W : List Addr} {D D' : Dl} {aS aN : Addr} {n : Nat} (H : G w h₀ W h D) (P : Post1 w aS aN n h h') (u : Upd aS (sS aN n) D D') : G w h₀ W h' D' :=
  let ⟨_, e, p⟩ := P.s; H.call1 P.st P.kp u e (nc_sS p) p
theorem G.toPost {w : World} {h h' : Heap} {D : Dl} {aS aN : Addr} {n m : Nat} (H : G w h [aS] h' D) (hm : (aS, sS aN n) ∈ D) (hn : n ≤ m) : Post1 w aS aN m h h' :=
  ⟨H.st, H.kp, let ⟨o, e, p⟩ := H.get hm; ⟨o, e, p.mono hn⟩⟩
theorem G.startS {w : World} {h : Heap} {aS aN n} (S : St w h) (x : Has h aS (sS aN n)) (hd : 714 ≤ aS) : G w h [aS] h [(aS, sS aN n)] := let ⟨_, e, p⟩ := x; G.start1 (P := sS aN n) S e (nc_sS p) p hd
section
variable {w : World} {A : Around} {k : Nat} {E : Value → Shared → Prop} {h₀ h : Heap} {W : List Addr} {D D' : Dl} {aS aN : Addr} {n : Nat} {many : Int} {tm : Tok} {g : Array GenState} {d : Drawn} {t : Nat} {os : OsState}
theorem c_next {Q : Value → Shared → Prop} (hA : AOk A (k + 1)) (hne : aN ≠ aS) (dN : 714 ≤ aN) (m2 : Has h aN sN) (H : G w h₀ W h D) (m1 : (aS, sS aN n) ∈ D) (hn : n < 1000) (hm : 0 < many) (u : Upd aS (sS aN (n + 1)) D D')
    (q : ∀ h' t' i tk, 0 ≤ i → i < many → G w h₀ W h' D' → Kp [aS] h h' → Q (.int i tk) ⟨h', g, d, t', os⟩) : wpAny (MM w) A (call (.ref 660) [.ref aS, .int many tm]) Q E ⟨h, g, d, t, os⟩ := by
  obtain ⟨oS, eS, kk, tk, lS, k0, k1⟩ := H.get m1
  obtain ⟨oN, eN, vs, ns, lN, hi, l0, l1, lb⟩ := m2
  refine wpAny_call (law_next hA H.st ⟨oS, eS, lS⟩ (H.at m1) ⟨oN, eN, lN⟩ dN hne hi l0 l1 k0 (by omega) lb hm fun h' t' tk' tk'' S K L => ?_)
  refine q h' t' _ tk'' (nextv_lt hm).1 (nextv_lt hm).2 (H.call1' S K u ?_) K
  obtain ⟨o, e, p⟩ := L
  exact ⟨o, e, nc_list p, kk + 1, tk', p, by omega, by omega⟩
end
end Mine
end

section -- the macro rows M
open PySem PySem.W PySem.Calls PyProof.Rows
namespace Mine
local macro_rules | `(tactic| tb_rel) => `(tactic| ((repeat' first | with_reducible exact List.mem_cons_self | with_reducible refine List.mem_cons_of_mem _ ?_); done))
local macro_rules | `(tactic| tb_start) => `(tactic| ((repeat' first | with_reducible exact Upd.head | with_reducible exact UpN.head | with_reducible apply Upd.tail | with_reducible apply UpN.tail); done))
local macro_rules | `(tactic| k_clsL) => `(tactic|
  first | ((first
  | ((with_reducible show wpAny _ _ (eval _ _) _ _ _); (first
  | ((with_reducible show wpAny _ _ (eval (Expr.Name _ _) _) _ _ _); first
    | with_reducible refine n_local (by assumption) (by tb_rel) (by assumption) (by tb_rel) (by tb_rel) ?_ (by decide +kernel)
    | with_reducible refine n_glob (by assumption) (by tb_rel) (by assumption) (by tb_rel) ?_ (by decide +kernel)
    | with_reducible refine n_cellG (by assumption) (by tb_rel) (by tb_rel) (by assumption) (by tb_rel) ?_ (by decide +kernel)
    | with_reducible refine n_blt (by assumption) (by tb_rel) (by assumption) (by tb_rel) ?_ (by decide +kernel))
  | with_reducible refine e_int fun _ _ => ?_
  | with_reducible refine wpAny_BinOp ?_
  | with_reducible refine wpAny_UnaryOp ?_
  | with_reducible refine wpAny_Call_NameR ?_
  | with_reducible refine e_str fun _ _ => ?_
  | ((fail_if_success (with_reducible show wpAny _ _ (eval (Expr.Subscript _ (Expr.Slice _ _ _ _) _) _) _ _ _)); with_reducible refine Subscript_ ?_)
  | with_reducible refine e_tuple ?_
  | with_reducible refine e_list ?_
  | with_reducible refine wpAny_Constant_none ?_
  | with_reducible refine wpAny_Constant_bool ?_))
  | ((with_reducible show wpAny _ _ (exec _ _) _ _ _); (first
  | ((with_reducible refine wpAny_Assign_Name ?h ?hs); (case hs => rfl))
  | with_reducible refine wpAny_Return_some ?_
  | ((with_reducible refine wpAny_Assign_Subscript ?h ?hs); (case hs => rfl))))
  | ((with_reducible show wpAny _ _ (spliced _) _ _ _); first
     | ((with_reducible refine i_cons ?h ?he); (case he => rfl))
     | with_reducible refine i_nil ?_)
  | with_reducible refine x_cons ?_
  | with_reducible refine x_next ?_
  | with_reducible refine ift ?_
  | with_reducible refine iff ?_
  | ((with_reducible show wpAny _ _ (storeName _ _ _) _ _ _); with_reducible refine n_store (by assumption) (by tb_rel) (by assumption) (by tb_rel) (by tb_start) (by tb_start) fun _ _ _ => ?_)
  | with_reducible refine x_retd ?_
  | with_reducible refine x_nil ?_
  | ((with_reducible refine callWith_method1 ?h ?he ?hp); (case he => rfl); (case hp => rfl))
  | ((with_reducible refine c_fun ?h ?hk ?he); (case he => rfl); (case hk => kernel_rfl))
  | ((with_reducible show St _ _ ∧ _); with_reducible refine and_st (by assumption) ?_)
  | ((with_reducible refine PyProof.Rows.callWith_type1 ?h ?he ?hp); (case he => rfl); (case hp => rfl))
  | ((with_reducible refine wpAny_isTrue_Compare1 ?h ?hm); (case hm => with_unfolding_all rfl))
  | with_reducible refine PyProof.Rows.isTrue_and ?_
  | with_reducible refine PyProof.Rows.isTrue_and_nil ?_
  | with_reducible refine PyProof.Rows.isTrue_or ?_
  | with_reducible refine PyProof.Rows.isTrue_or_nil ?_
  | with_reducible refine wpAny_truthy_bool ?_
  | with_reducible refine PyProof.Rows.gt_int ?_
  | with_reducible refine PyProof.Rows.lt_int ?_
  | with_reducible refine PyProof.Rows.eq_int ?_
  | with_reducible refine s_eq ?_
  | with_reducible refine is_none ?_
  | with_reducible refine isNot_none ?_
  | with_reducible refine b_add fun _ _ => ?_
  | with_reducible refine b_neg fun _ _ => ?_
  | with_reducible refine b_sub fun _ _ => ?_
  | with_reducible refine wpAny_assignInOrder_more ?_
  | with_reducible refine wpAny_assignInOrder_none ?_
  | with_reducible refine wpAny_bindName ?_
  | with_reducible refine wpAny_assign_Name ?_); k_clsL) | skip)
section -- F2
open PySem PySem.W PySem.Calls PyProof.Rows
set_option linter.unusedVariables false
set_option maxRecDepth 100000
theorem item_len {x : Str} {k : Int} : (Txt.item x k).length = 1 := rfl
theorem app_len {x y : Str} : (x ++ y).length = x.length + y.length := by show (x.cps ++ y.cps).size = _; rw [Array.size_append]; rfl
/-- _law_text: a text of many letters -/
theorem law_text {w : World} {A : Around} {k : Nat} {R : Result → Shared → Prop} {h : Heap} {aS aN : Addr} {n : Nat} {many : Int} {tm tl : Tok} {ls : Str} {g : Array GenState} {d : Drawn} {t : Nat} {os : OsState}
    (hA : AOk A (k + 2)) (hne : aN ≠ aS) (S : St w h) (m1 : Has h aS (sS aN n)) (dS : 714 ≤ aS) (m2 : Has h aN sN) (dN : 714 ≤ aN) (hn : n + 20 < 1000) (h0 : 0 ≤ many) (h1 : many ≤ 20) (hl : 0 < ls.length) (hl' : ls.length ≤ 100)
    (q : ∀ h' t' x tk, x.length = many.toNat → Post1 w aS aN (n + many.toNat) h h' → R (.ok (.ret (.str x tk))) ⟨h', g, d, t', os⟩) :
    codeAny (MM w) A (.call (.ref 672) ⟨[.ref aS, .str ls tl, .int many tm], []⟩) R ⟨h, g, d, t, os⟩ := by
  have H0 := G.startS S m1 dS
  have nN : aN ∉ [aS] := fun q => hne (List.mem_singleton.mp q)
  refine enter [("state", some (.ref aS)), ("letters", some (.str ls tl)), ("many", some (.int many tm)), ("text", none), ("turn", none)] hA H0 (S.k 672 _ rfl) rfl (codeRec_of S.k (by kernel_rfl)) rfl (BindsTo.of_eq (binds := [("state", .ref aS), ("letters", .str ls tl), ("many", .int many tm)]) (by kernel_rfl)) (by kernel_rfl) ⟨by kernel_rfl, by kernel_rfl, by kernel_rfl, trivial⟩ ?_
  intro env L h₁ t₁ Ev hA₁ H₁ K₁
  dsimp only at Ev
  k_clsL
  refine wpAny_For ?_
  k_clsL
  refine it_range (by assumption) h0 (by omega) fun I h₃ t₃ H₃ K₃ nI => ?_
  refine codeAny_forLoop (fun m s => ∃ i x tk tu hh tt, s = ⟨hh, g, d, tt, os⟩ ∧ m = (many - i).toNat + 1 ∧ 0 ≤ i ∧ i ≤ many ∧
    G w h [aS] hh [(I, isRI i (many - i)), (L, fr [("state", some (.ref aS)), ("letters", some (.str ls tl)), ("many", some (.int many tm)), ("text", some (.str x tk)), ("turn", tu)]), (aS, sS aN (n + i.toNat))] ∧ x.length = i.toNat) ?_ (many.toNat + 1) ?_
  · intro m s hpat
    obtain ⟨i, x, tk, tu, hh, tt, e, em, i0, i1, H, hx⟩ := hpat
    subst e
    by_cases hi : i < many
    · refine nx_range H (by tb_rel) (by omega) (by tb_start) fun h' t' tk' H' => ?_
      dsimp only
      k_clsL
      refine s_len (by omega) fun _ _ => ?_
      k_clsL
      refine c_next hA₁ hne dN (G.has (h₀ := h) (W := [aS]) (by assumption) m2 nN dN) (by assumption) (by tb_rel) (by omega) (by omega) (by tb_start) fun h'' t'' j tj j0 j1 H'' K'' => ?_
      refine s_item j0 j1 (by omega) fun _ _ => ?_
      refine s_add (by rw [hx, item_len]; omega) fun _ _ => ?_
      k_clsL
      have e1 : many - (i + 1) = many - i - 1 := by omega
      have e2 : n + (i + 1).toNat = n + i.toNat + 1 := by omega
      exact ⟨(many - (i + 1)).toNat + 1, by omega, i + 1, _, _, _, _, _, rfl, rfl, by omega, by omega, by rw [e1, e2]; assumption, by rw [app_len, hx, item_len]; omega⟩
    · have hi : i = many := by omega
      subst hi
      refine nx_range_end hA₁.hd H (by tb_rel) (by omega) Del.head nI fun h' H' => ?_
      dsimp only
      k_clsL
      exact q _ _ _ _ hx (G.toPost (by assumption) (by tb_rel) (Nat.le_refl _))
  · have e1 : many - 0 = many := by omega
    have e2 : n + (0 : Int).toNat = n := rfl
    exact ⟨0, _, _, _, _, _, rfl, by omega, by omega, h0, by rw [e1, e2]; assumption, by kernel_rfl⟩
end

section -- R6
open PySem PySem.W PySem.Calls PyProof.Rows
set_option linter.unusedVariables false
set_option maxRecDepth 100000
theorem inter {env L ns cl} (Ev : EnvOk env L ns cl) : interactive env = false := by unfold interactive; rw [Ev.kd]; rfl
section
variable {w : World} {A : Around} {E : Value → Shared → Prop} {h₀ h : Heap} {W : List Addr} {D D' : Dl} {L c a b I : Addr} {env : Env} {v : Value} {p pos : Pos}
  {g : Array GenState} {d : Drawn} {t : Nat} {os : OsState} {its its2 : List Value} {i : Nat}
theorem G.pl (H : G w h₀ W h D) (hm : (a, isPL its) ∈ D) : h.IsList a its.toArray := let ⟨o, e, p⟩ := H.get hm; ⟨o, e, p.l⟩
theorem l_appendP {Q : Value → Shared → Prop} (H : G w h₀ W h D) (hm : (a, isPL its) ∈ D) (hz : its.length ≤ 100000) (u : Upd a (isPL (its ++ [v])) D D') (q : ∀ h', G w h₀ W h' D' → Q .none ⟨h', g, d, t, os⟩) :
    wpAny (MM w) A (call (.builtin "list.append") [.ref a, v]) Q E ⟨h, g, d, t, os⟩ := by
  obtain ⟨⟨cls, dd, dat, sl⟩, ho, hc, hdd, hsl, n, hd⟩ := H.get hm
  dsimp only at hc hdd hsl hd
  subst hc; subst hdd; subst hsl; subst hd
  have hT : (⟨h, g, d, t, os⟩ : Shared).TypeIs (.ref a) "list" := ⟨_, ho, rfl⟩
  refine wpAny_call_entry slot_list_append hT entry_list_append ?_ (args_list_append _ _)
  show wpAny _ _ (updateSeq a (·.push v) >>= fun _ => ret .none) _ _ _
  refine wpAny_bind ?_
  refine wpAny_updateSeq ho rfl (wpAny_pure ⟨.none, rfl, ?_⟩)
  obtain ⟨n', hd'⟩ := Obj.data_mapSeq (o := ⟨.type "list", none, .seq its.toArray n, #[]⟩) rfl (·.push v)
  refine q _ (H.upd (P := isPL (its ++ [v])) u (Heap.SameBut.update ..) (Heap.get?_update_self _ ho (Obj.isFreed_of_seq hd')) ?_ ?_)
  · exact fun q => absurd (Value.type.inj ((Obj.cls_mapSeq ..).symm.trans q)) (by decide)
  · refine ⟨Obj.cls_mapSeq .., ?_, ?_, n', by rw [hd']; simp⟩ <;> rfl
theorem new_pl {Q : Value → Shared → Prop} {vs : List Value} (H : G w h₀ W h D) (q : ∀ r h', G w h₀ W h' ((r, isPL vs) :: D) → Kp [] h h' → h₀.get? r = none → h.get? r = none → Q (.ref r) ⟨h', g, d, t, os⟩) :
    New Q { cls := .type "list", data := .seq vs.toArray } ⟨h, g, d, t, os⟩ :=
  q _ _ (H.push (P := isPL vs) { cls := .type "list", data := .seq vs.toArray } rfl (nc_list (its := vs.toArray) ⟨rfl, 0, rfl⟩) ⟨rfl, rfl, rfl, 0, rfl⟩) ((Kp.refl [] h).ext fun b o e => Heap.get?_push_of_some _ e) (H.new (get_size h)).1 (get_size h)
/-- x.append(e) as a statement -/
theorem x_append {o elt : Expr} {apos cpos : Pos} {ns cl} {Q : Flow → Shared → Prop} (Ev : EnvOk env L ns cl)
    (hw : wpAny (MM w) A (eval o env) (fun ov s₁ => ∃ a its h₁ t₁, ov = .ref a ∧ s₁ = ⟨h₁, g, d, t₁, os⟩ ∧ (∃ o, h₁.get? a = some o ∧ isPL its o) ∧
      wpAny (MM w) A (eval elt env) (fun y s₂ => wpAny (MM w) A (call (.builtin "list.append") [.ref a, y]) (fun v s₃ => v = .none ∧ Q .next s₃) E s₂) E s₁) E ⟨h, g, d, t, os⟩)
    (hbase : attributeBase o "append" env (eval o env) = eval o env)
    (hfew : ((backTo cpos (starEach [elt] env)).all (fun x => !x.1) && (backToKw cpos (keywordEach [] env)).all (fun x => x.1.isSome)
      && decide (([elt] : List Expr).length + ([] : List Keyword).length + (if ([] : List Keyword).isEmpty then 0 else 1) < 30)) = true)
    (hline : (apos.endLine == cpos.line) = true) (htrees : backTo cpos (starEach [elt] env) = [(false, eval elt env)])
    : wpAny (MM w) A (exec (.Expr (.Call (.Attribute o "append" apos) [elt] [] cpos) pos) env) Q E ⟨h, g, d, t, os⟩ := by
  refine wpAny_Expr (wpAny_Call_append hbase hfew hline htrees (wpAny_mono hw (fun ov s₁ x => ?_) fun _ _ x => x)) (inter Ev) rfl
  obtain ⟨a, its, h₁, t₁, rfl, rfl, H₁, hq⟩ := x
  obtain ⟨ob, e, hc, hdd, hsl, n, hd⟩ := H₁
  exact ⟨a, its.toArray, rfl, ⟨ob, n, e, hc, hdd, hd⟩, wpAny_mono hq (fun y s₂ x => wpAny_mono x (fun v s₃ x => by obtain ⟨rfl, x⟩ := x; exact x) fun _ _ x => x) fun _ _ x => x⟩
end
/-! data in the heap: whose addresses are all good -/
mutual
def Rep (g : Addr → Prop) (h : Heap) : PyData → Value → Prop
  | .none, v => v = .none
  | .bool b, v => v = .bool b
  | .int i, v => ∃ t, v = .int i t
  | .str x, v => ∃ t, v = .str x t
  | .list l, v => ∃ a vs, v = .ref a ∧ g a ∧ h.IsList a vs.toArray ∧ Reps g h l vs
  | .tuple l, v => ∃ a vs, v = .ref a ∧ g a ∧ IsTup h a vs.toArray ∧ Reps g h l vs
  | .dict _, _ => False
def Reps (g : Addr → Prop) (h : Heap) : List PyData → List Value → Prop
  | [], vs => vs = []
  | d :: ds, vs => ∃ v r, vs = v :: r ∧ Rep g h d v ∧ Reps g h ds r
end
mutual
theorem Rep.keep {g g' : Addr → Prop} {h h' : Heap} (hg : ∀ a, g a → g' a) (hk : ∀ a o, g a → h.get? a = some o → h'.get? a = some o) : ∀ (d : PyData) (v : Value), Rep g h d v → Rep g' h' d v
  | .none, _, x => x
  | .bool _, _, x => x
  | .int _, _, x => x
  | .str _, _, x => x
  | .list l, _, x => by
    rw [Rep] at x ⊢
    obtain ⟨a, vs, e, ga, ⟨o, ho, r⟩, y⟩ := x; exact ⟨a, vs, e, hg a ga, ⟨o, hk a o ga ho, r⟩, Reps.keep hg hk l vs y⟩
  | .tuple l, _, x => by
    rw [Rep] at x ⊢
    obtain ⟨a, vs, e, ga, ⟨o, ho, r⟩, y⟩ := x; exact ⟨a, vs, e, hg a ga, ⟨o, hk a o ga ho, r⟩, Reps.keep hg hk l vs y⟩
  | .dict _, _, x => by rw [Rep] at x; exact x.elim
theorem Reps.keep {g g' : Addr → Prop} {h h' : Heap} (hg : ∀ a, g a → g' a) (hk : ∀ a o, g a → h.get? a = some o → h'.get? a = some o) : ∀ (ds : List PyData) (vs : List Value), Reps g h ds vs → Reps g' h' ds vs
  | [], _, x => by rw [Reps] at x ⊢; exact x
  | d :: ds, _, x => by rw [Reps] at x ⊢; obtain ⟨v, r, e, y, z⟩ := x; exact ⟨v, r, e, Rep.keep hg hk d v y, Reps.keep hg hk ds r z⟩
end
theorem rep_str {g h x t} : Rep g h (.str x) (.str x t) := by rw [Rep]; exact ⟨t, rfl⟩
theorem rep_int {g h i t} : Rep g h (.int i) (.int i t) := by rw [Rep]; exact ⟨t, rfl⟩
theorem rep_none {g h} : Rep g h .none .none := by rw [Rep]
theorem reps_nil {g h} : Reps g h [] [] := by rw [Reps]
theorem reps_cons {g h d v ds vs} (x : Rep g h d v) (y : Reps g h ds vs) : Reps g h (d :: ds) (v :: vs) := by rw [Reps]; exact ⟨v, vs, rfl, x, y⟩
theorem reps_app {g h} : ∀ {ds ds' : List PyData} {vs vs' : List Value}, Reps g h ds vs → Reps g h ds' vs' → Reps g h (ds ++ ds') (vs ++ vs')
  | [], _, _, _, x, y => by rw [Reps] at x; subst x; exact y
  | d :: ds, _, _, _, x, y => by
    rw [Reps] at x; obtain ⟨v, r, rfl, x, z⟩ := x
    exact reps_cons x (reps_app z y)
theorem rep_list {g h a vs ds} (ga : g a) (hl : h.IsList a vs.toArray) (r : Reps g h ds vs) : Rep g h (.list ds) (.ref a) := by rw [Rep]; exact ⟨a, vs, rfl, ga, hl, r⟩
theorem rep_tup {g h a vs ds} (ga : g a) (hl : IsTup h a vs.toArray) (r : Reps g h ds vs) : Rep g h (.tuple ds) (.ref a) := by rw [Rep]; exact ⟨a, vs, rfl, ga, hl, r⟩
theorem Reps.len {g h} : ∀ {ds : List PyData} {vs : List Value}, Reps g h ds vs → vs.length = ds.length
  | [], _, x => by rw [Reps] at x; subst x; rfl
  | d :: ds, _, x => by rw [Reps] at x; obtain ⟨v, r, rfl, _, z⟩ := x; simp [z.len]
theorem Reps.get {g h} : ∀ {ds : List PyData} {vs : List Value} {i : Nat} {d : PyData}, Reps g h ds vs → ds[i]? = some d → ∃ v, vs[i]? = some v ∧ Rep g h d v
  | [], _, _, _, _, e => by cases e
  | d :: ds, _, 0, _, x, e => by rw [Reps] at x; obtain ⟨v, r, rfl, y, _⟩ := x; cases e; exact ⟨v, rfl, y⟩
  | d :: ds, _, i + 1, _, x, e => by rw [Reps] at x; obtain ⟨v, r, rfl, _, z⟩ := x; have e' : ds[i]? = some _ := e; obtain ⟨v', a, b⟩ := Reps.get z e'; exact ⟨v', a, b⟩
/-- new since h -/
def Fresh (h : Heap) (a : Addr) : Prop := h.get? a = none ∧ 714 ≤ a
theorem Fresh.back {W : List Addr} {h h' : Heap} (K : Kp W h h') {a : Addr} (x : Fresh h' a) : Fresh h a := by
  refine ⟨?_, x.2⟩
  cases q : h.get? a with
  | none => rfl
  | some o => obtain ⟨o', e⟩ := K.there a o q; rw [x.1] at e; cases e
/-- data that is kept by what turns only others -/
theorem Rep.kp {W : List Addr} {g : Addr → Prop} {h h' : Heap} {d : PyData} {v : Value} (x : Rep g h d v) (K : Kp W h h') (hg : ∀ a, g a → a ∉ W ∧ 714 ≤ a) : Rep g h' d v :=
  Rep.keep (fun _ x => x) (fun a o ga e => K.keep a o e (hg a ga).1 (ne380 (hg a ga).2) (ne403 (hg a ga).2)) d v x
theorem Reps.kp {W : List Addr} {g : Addr → Prop} {h h' : Heap} {d : List PyData} {v : List Value} (x : Reps g h d v) (K : Kp W h h') (hg : ∀ a, g a → a ∉ W ∧ 714 ≤ a) : Reps g h' d v :=
  Reps.keep (fun _ x => x) (fun a o ga e => K.keep a o e (hg a ga).1 (ne380 (hg a ga).2) (ne403 (hg a ga).2)) d v x
theorem Rep.weak {g g' : Addr → Prop} {h : Heap} {d : PyData} {v : Value} (x : Rep g h d v) (hg : ∀ a, g a → g' a) : Rep g' h d v := Rep.keep hg (fun _ _ _ e => e) d v x
theorem Reps.weak {g g' : Addr → Prop} {h : Heap} {d : List PyData} {v : List Value} (x : Reps g h d v) (hg : ∀ a, g a → g' a) : Reps g' h d v := Reps.keep hg (fun _ _ _ e => e) d v x
theorem fresh_ne {h : Heap} {aS : Addr} {o : Obj} (e : h.get? aS = some o) {a : Addr} (x : Fresh h a) : a ∉ [aS] ∧ 714 ≤ a := ⟨fun q => (by rw [List.mem_singleton.mp q] at x; rw [x.1] at e; cases e), x.2⟩
end

section -- F3
open PySem PySem.W PySem.Calls PyProof.Rows
set_option linter.unusedVariables false
set_option maxRecDepth 100000
theorem g_post1 {w : World} {h₀ h h' : Heap} {W : List Addr} {D D' : Dl} {aS aN : Addr} {n : Nat} {X : Prop} (H : G w h₀ W h D) (P : Post1 w aS aN n h h') (u : Upd aS (sS aN n) D D') (q : G w h₀ W h' D' → X) : X := q (H.post1 P u)
theorem g_weak {w : World} {h₀ h : Heap} {W : List Addr} {D D' : Dl} {a : Addr} {P P' : Pr} {X : Prop} (H : G w h₀ W h D) (hm : (a, P) ∈ D) (hp : ∀ o, P o → P' o) (u : Upd a P' D D') (q : G w h₀ W h D' → X) : X := by
  obtain ⟨o, e, n, p⟩ := H.own _ hm
  exact q (H.upd u (Heap.SameBut.refl ..) e n (hp o p))
abbrev strsD (ys : List Str) : List PyData := ys.map .str
theorem reps_strs {g g' : Addr → Prop} {h h' : Heap} : ∀ {ys : List Str} {vs : List Value}, Reps g h (strsD ys) vs → Reps g' h' (strsD ys) vs
  | [], _, x => by rw [strsD, List.map_nil, Reps] at x ⊢; exact x
  | y :: ys, _, x => by
    rw [strsD, List.map_cons, Reps] at x
    obtain ⟨v, r, rfl, y1, z⟩ := x
    rw [Rep] at y1
    obtain ⟨t, rfl⟩ := y1
    exact reps_cons rep_str (reps_strs z)
theorem law_words {w : World} {A : Around} {k : Nat} {R : Result → Shared → Prop} {h : Heap} {aS aN : Addr} {n : Nat} {g : Array GenState} {d : Drawn} {t : Nat} {os : OsState}
    (hA : AOk A (k + 3)) (hne : aN ≠ aS) (S : St w h) (m1 : Has h aS (sS aN n)) (dS : 714 ≤ aS) (m2 : Has h aN sN) (dN : 714 ≤ aN) (hn : n + 40 < 1000)
    (q : ∀ h' t' v ys, (∀ y ∈ ys, 1 ≤ y.length ∧ y.length ≤ 2) → ys.length ≤ 2 → Post1 w aS aN (n + 7) h h' → Rep (Fresh h) h' (.list (strsD ys)) v → R (.ok (.ret v)) ⟨h', g, d, t', os⟩) :
    codeAny (MM w) A (.call (.ref 679) ⟨[.ref aS], []⟩) R ⟨h, g, d, t, os⟩ := by
  have H0 := G.startS S m1 dS
  have nN : aN ∉ [aS] := fun q => hne (List.mem_singleton.mp q)
  obtain ⟨oS, eS, _⟩ := m1
  refine enter [("state", some (.ref aS)), ("found", none), ("turn", none)] hA H0 (S.k 679 _ rfl) rfl (codeRec_of S.k (by kernel_rfl)) rfl (BindsTo.of_eq (binds := [("state", .ref aS)]) (by kernel_rfl)) (by kernel_rfl) ⟨by kernel_rfl, trivial⟩ ?_
  intro env L h₁ t₁ Ev hA₁ H₁ K₁
  dsimp only at Ev
  k_clsL
  refine ⟨rfl, new_pl H₁ fun r h₂ H₂ K₂ nr0 nr => ?_⟩
  k_clsL
  refine wpAny_For ?_
  k_clsL
  refine c_next hA₁ hne dN (G.has (h₀ := h) (W := [aS]) (by assumption) m2 nN dN) (by assumption) (by tb_rel) (by omega) (by omega) (by tb_start) fun h₃ t₃ c tc c0 c1 H₃ K₃ => ?_
  refine b_add fun _ _ => ?_
  k_clsL
  refine it_range (by assumption) (by omega) (by omega) fun I h₄ t₄ H₄ K₄ nI => ?_
  refine codeAny_forLoop (fun m s => ∃ (i : Int) (ys : List Str) (vs : List Value) (tu : Option Value) (hh : Heap) (tt : Nat), s = ⟨hh, g, d, tt, os⟩ ∧ m = (1 + c - i).toNat + 1 ∧ 0 ≤ i ∧ i ≤ 1 + c ∧
    G w h [aS] hh [(I, isRI i (1 + c - i)), (r, isPL vs), (L, fr [("state", some (.ref aS)), ("found", some (.ref r)), ("turn", tu)]), (aS, sS aN (n + 1 + 3 * i.toNat))] ∧ Reps (Fresh h) hh (strsD ys) vs ∧ ys.length = i.toNat ∧ (∀ y ∈ ys, 1 ≤ y.length ∧ y.length ≤ 2)) ?_ ((1 + c).toNat + 1) ?_
  · intro m s hpat
    obtain ⟨i, ys, vs, tu, hh, tt, e, em, i0, i1, H, hr, hl, hy⟩ := hpat
    subst e
    by_cases hi : i < 1 + c
    · refine nx_range H (by tb_rel) (by omega) (by tb_start) fun h' t' tk' H' => ?_
      dsimp only
      k_clsL
      refine x_append Ev ?_ (by with_unfolding_all rfl) rfl rfl rfl
      k_clsL
      refine ⟨r, vs, _, _, rfl, rfl, G.get (h₀ := h) (W := [aS]) (by assumption) (by tb_rel), ?_⟩
      k_clsL
      refine c_next hA₁ hne dN (G.has (h₀ := h) (W := [aS]) (by assumption) m2 nN dN) (by assumption) (by tb_rel) (by omega) (by omega) (by tb_start) fun h₅ t₅ c₅ tc₅ c50 c51 H₅ K₅ => ?_
      k_clsL
      refine wpAny_call (law_text hA₁ hne (G.st (h₀ := h) (W := [aS]) (by assumption)) (G.get (h₀ := h) (W := [aS]) (by assumption) (by tb_rel)) dS (G.has (h₀ := h) (W := [aS]) (by assumption) m2 nN dN) dN (by omega) (by omega) (by omega) (by decide +kernel) (by decide +kernel) fun h₆ t₆ x₆ tk₆ hl₆ P₆ => ?_)
      dsimp only
      refine g_post1 H₅ P₆ (by tb_start) fun H₆ => ?_
      refine g_weak H₆ (P' := sS aN (n + 1 + 3 * (i + 1).toNat)) (by tb_rel) (fun o x => sS.mono x (by omega)) (by tb_start) fun H₇ => ?_
      have hl' := hr.len
      simp only [List.length_map] at hl'
      refine l_appendP H₇ (by tb_rel) (by omega) (by tb_start) fun h₈ H₈ => ⟨rfl, ?_⟩
      k_clsL
      have e1 : 1 + c - (i + 1) = 1 + c - i - 1 := by omega
      have f8 := fun a => fresh_ne eS (a := a)
      exact ⟨(1 + c - (i + 1)).toNat + 1, by omega, i + 1, ys ++ [x₆], _, _, _, _, rfl, rfl, by omega, by omega, by rw [e1]; assumption, by rw [strsD, List.map_append]; exact reps_app (reps_strs hr) (reps_cons rep_str reps_nil), by rw [List.length_append, hl, List.length_singleton]; omega, fun y hy' => by
        rcases List.mem_append.mp hy' with h1 | h1
        · exact hy y h1
        · rw [List.mem_singleton.mp h1, hl₆]; omega⟩
    · refine nx_range_end hA₁.hd H (by tb_rel) (by omega) Del.head nI fun h' H' => ?_
      dsimp only
      k_clsL
      have hl' := hr.len
      simp only [List.length_map] at hl'
      refine q _ _ _ ys hy (by omega) (G.toPost (by assumption) (by tb_rel) (by omega)) (rep_list ⟨nr0, G.at (h₀ := h) (W := [aS]) H' (a := r) (by tb_rel)⟩ (G.pl (h₀ := h) (W := [aS]) H' (by tb_rel)) (reps_strs hr))
  · exact ⟨0, [], _, _, _, _, rfl, by omega, by omega, by omega, by
      have e1 : 1 + c - 0 = 1 + c := by omega
      rw [e1]; assumption, reps_nil, rfl, fun _ hy => (nomatch hy)⟩
end

section -- R7
open PySem PySem.W PySem.Calls PyProof.Rows
set_option linter.unusedVariables false
set_option maxRecDepth 100000
/-! data whose objects are all in hand: no heap is named -/
mutual
def RepD (T : Dl) : PyData → Value → Prop
  | .none, v => v = .none
  | .bool b, v => v = .bool b
  | .int i, v => ∃ t, v = .int i t
  | .str x, v => ∃ t, v = .str x t
  | .list l, v => ∃ a vs, v = .ref a ∧ (a, isPL vs) ∈ T ∧ RepDs T l vs
  | .tuple l, v => ∃ a vs, v = .ref a ∧ (a, isT vs.toArray) ∈ T ∧ RepDs T l vs
  | .dict _, _ => False
def RepDs (T : Dl) : List PyData → List Value → Prop
  | [], vs => vs = []
  | d :: ds, vs => ∃ v r, vs = v :: r ∧ RepD T d v ∧ RepDs T ds r
end
mutual
theorem RepD.more {T T' : Dl} (hT : ∀ p ∈ T, p ∈ T') : ∀ (d : PyData) (v : Value), RepD T d v → RepD T' d v
  | .none, _, x => x
  | .bool _, _, x => x
  | .int _, _, x => x
  | .str _, _, x => x
  | .list l, _, x => by rw [RepD] at x ⊢; obtain ⟨a, vs, e, m, y⟩ := x; exact ⟨a, vs, e, hT _ m, RepDs.more hT l vs y⟩
  | .tuple l, _, x => by rw [RepD] at x ⊢; obtain ⟨a, vs, e, m, y⟩ := x; exact ⟨a, vs, e, hT _ m, RepDs.more hT l vs y⟩
  | .dict _, _, x => by rw [RepD] at x; exact x.elim
theorem RepDs.more {T T' : Dl} (hT : ∀ p ∈ T, p ∈ T') : ∀ (ds : List PyData) (vs : List Value), RepDs T ds vs → RepDs T' ds vs
  | [], _, x => by rw [RepDs] at x ⊢; exact x
  | d :: ds, _, x => by rw [RepDs] at x ⊢; obtain ⟨v, r, e, y, z⟩ := x; exact ⟨v, r, e, RepD.more hT d v y, RepDs.more hT ds r z⟩
end
mutual
theorem RepD.rep {w : World} {h₀ h : Heap} {W : List Addr} {D T : Dl} (H : G w h₀ W h D) (hT : ∀ p ∈ T, p ∈ D ∧ h₀.get? p.1 = none) : ∀ (d : PyData) (v : Value), RepD T d v → Rep (Fresh h₀) h d v
  | .none, _, x => by rw [RepD] at x; rw [Rep]; exact x
  | .bool _, _, x => by rw [RepD] at x; rw [Rep]; exact x
  | .int _, _, x => by rw [RepD] at x; rw [Rep]; exact x
  | .str _, _, x => by rw [RepD] at x; rw [Rep]; exact x
  | .list l, _, x => by rw [RepD] at x; rw [Rep]; obtain ⟨a, vs, e, m, y⟩ := x; exact ⟨a, vs, e, ⟨(hT _ m).2, (H.dyn _ (hT _ m).1).1⟩, H.pl (hT _ m).1, RepDs.rep H hT l vs y⟩
  | .tuple l, _, x => by rw [RepD] at x; rw [Rep]; obtain ⟨a, vs, e, m, y⟩ := x; exact ⟨a, vs, e, ⟨(hT _ m).2, (H.dyn _ (hT _ m).1).1⟩, H.tup (hT _ m).1, RepDs.rep H hT l vs y⟩
  | .dict _, _, x => by rw [RepD] at x; exact x.elim
theorem RepDs.rep {w : World} {h₀ h : Heap} {W : List Addr} {D T : Dl} (H : G w h₀ W h D) (hT : ∀ p ∈ T, p ∈ D ∧ h₀.get? p.1 = none) : ∀ (ds : List PyData) (vs : List Value), RepDs T ds vs → Reps (Fresh h₀) h ds vs
  | [], _, x => by rw [RepDs] at x; rw [Reps]; exact x
  | d :: ds, _, x => by rw [RepDs] at x; rw [Reps]; obtain ⟨v, r, e, y, z⟩ := x; exact ⟨v, r, e, RepD.rep H hT d v y, RepDs.rep H hT ds r z⟩
end
theorem repD_str {T x t} : RepD T (.str x) (.str x t) := by rw [RepD]; exact ⟨t, rfl⟩
theorem repD_int {T i t} : RepD T (.int i) (.int i t) := by rw [RepD]; exact ⟨t, rfl⟩
theorem repD_none {T} : RepD T .none .none := by rw [RepD]
theorem repDs_nil {T} : RepDs T [] [] := by rw [RepDs]
theorem repDs_cons {T d v ds vs} (x : RepD T d v) (y : RepDs T ds vs) : RepDs T (d :: ds) (v :: vs) := by rw [RepDs]; exact ⟨v, vs, rfl, x, y⟩
theorem repDs_app {T} : ∀ {ds ds' : List PyData} {vs vs' : List Value}, RepDs T ds vs → RepDs T ds' vs' → RepDs T (ds ++ ds') (vs ++ vs')
  | [], _, _, _, x, y => by rw [RepDs] at x; subst x; exact y
  | d :: ds, _, _, _, x, y => by rw [RepDs] at x; obtain ⟨v, r, rfl, x, z⟩ := x; exact repDs_cons x (repDs_app z y)
theorem repD_tup {T a vs ds} (m : (a, isT (List.toArray vs)) ∈ T) (r : RepDs T ds vs) : RepD T (.tuple ds) (.ref a) := by rw [RepD]; exact ⟨a, vs, rfl, m, r⟩
theorem repD_list {T a vs ds} (m : (a, isPL vs) ∈ T) (r : RepDs T ds vs) : RepD T (.list ds) (.ref a) := by rw [RepD]; exact ⟨a, vs, rfl, m, r⟩
theorem RepDs.len {T} : ∀ {ds : List PyData} {vs : List Value}, RepDs T ds vs → vs.length = ds.length
  | [], _, x => by rw [RepDs] at x; subst x; rfl
  | d :: ds, _, x => by rw [RepDs] at x; obtain ⟨v, r, rfl, _, z⟩ := x; simp [z.len]
theorem G.perm {w : World} {h₀ h : Heap} {W : List Addr} {D D' : Dl} (H : G w h₀ W h D) (p : D'.Perm D) : G w h₀ W h D' :=
  ⟨H.st, H.kp, fun x hx => H.own x (p.mem_iff.mp hx), fun x hx => H.dyn x (p.mem_iff.mp hx), (p.map _).nodup_iff.mpr H.nd, H.big⟩
theorem new_tupF {w : World} {h₀ h : Heap} {W : List Addr} {D : Dl} {g : Array GenState} {d : Drawn} {t : Nat} {os : OsState} {Q : Value → Shared → Prop} {vs : List Value} (H : G w h₀ W h D)
    (q : ∀ r h', G w h₀ W h' ((r, isT vs.toArray) :: D) → Kp [] h h' → h₀.get? r = none → h.get? r = none → Q (.ref r) ⟨h', g, d, t, os⟩) :
    New Q { cls := .type "tuple", data := .seq vs.toArray } ⟨h, g, d, t, os⟩ :=
  q _ _ (H.push (P := isT vs.toArray) { cls := .type "tuple", data := .seq vs.toArray } rfl (nc_tup ⟨rfl, 0, rfl⟩) ⟨rfl, 0, rfl⟩) ((Kp.refl [] h).ext fun b o e => Heap.get?_push_of_some _ e) (H.new (get_size h)).1 (get_size h)
/-- an object in hand is moved behind the first ones -/
theorem g_move {w : World} {h₀ h : Heap} {W : List Addr} {x : Addr × Pr} {T : Dl} {X : Prop} (l : Dl) (H : G w h₀ W h (x :: (l ++ T))) (q : G w h₀ W h (l ++ x :: T) → X) : X := q (H.perm List.perm_middle)
end

section -- F4
open PySem PySem.W PySem.Calls PyProof.Rows
set_option maxHeartbeats 0
set_option linter.unusedVariables false
set_option maxRecDepth 100000
theorem g_tail {w : World} {h₀ h : Heap} {W : List Addr} {D : Dl} {x : Addr × Pr} {X : Prop} (H : G w h₀ W h (x :: D)) (q : G w h₀ W h D → X) : X := q (H.sub (List.sublist_cons_self ..))
abbrev kinds : List Str := ["Name", "Number", "Comment"]
theorem law_kinds {w : World} {A : Around} {k : Nat} {R : Result → Shared → Prop} {h₀ h : Heap} {W : List Addr} {D : Dl} {g : Array GenState} {d : Drawn} {t : Nat} {os : OsState} (hA : AOk A (k + 1)) (H : G w h₀ W h D)
    (q : ∀ r h' t' vs, G w h₀ W h' ((r, isPL vs) :: D) → StrsAre vs kinds → Kp [] h h' → h₀.get? r = none → h.get? r = none → R (.ok (.ret (.ref r))) ⟨h', g, d, t', os⟩) :
    codeAny (MM w) A (.call (.ref 686) ⟨[], []⟩) R ⟨h, g, d, t, os⟩ := by
  refine enter [] hA H (H.st.k 686 _ rfl) rfl (codeRec_of H.st.k (by kernel_rfl)) rfl (BindsTo.of_eq (binds := []) (by kernel_rfl)) (by kernel_rfl) trivial ?_
  intro env L h₁ t₁ Ev hA₁ H₁ K₁
  dsimp only at Ev
  k_clsL
  refine ⟨rfl, new_pl H₁ fun r h₂ H₂ K₂ nr0 nr => ?_⟩
  k_clsL
  refine q r _ _ _ (H₂.sub (List.Sublist.cons_cons _ (List.sublist_cons_self ..))) (.cons _ _ (.cons _ _ (.cons _ _ .nil))) (K₁.trans K₂) nr0 ?_
  cases e : h.get? r with
  | none => rfl
  | some o => obtain ⟨o', e'⟩ := K₁.there r o e; rw [nr] at e'; cases e'
abbrev Piece := Option Str × Int
abbrev optD : Option Str → PyData | none => .none | some x => .str x
abbrev pieceD (p : Piece) : PyData := .tuple [optD p.1, .int p.2]
abbrev piecesD (l : List Piece) : List PyData := l.map pieceD
/-- what _law_pieces makes -/
structure PiecesOk (l : List Piece) : Prop where
  len : l.length ≤ 3
  small : ∀ p ∈ l, 0 ≤ p.2 ∧ p.2 ≤ 5 ∧ ∀ x, p.1 = some x → x.length ≤ 2
theorem pick4 {a b c d : Tok} {z : Int} (h0 : 0 ≤ z) (h1 : z < 4) : ∃ y ty, ([.int 1 a, .int 1 b, .int 2 c, .int 0 d] : List Value)[z.toNat]? = some (.int y ty) ∧ 0 ≤ y ∧ y ≤ 2 := by
  have : z = 0 ∨ z = 1 ∨ z = 2 ∨ z = 3 := by omega
  rcases this with rfl | rfl | rfl | rfl <;> exact ⟨_, _, rfl, by decide, by decide⟩
theorem len_pos {x : Str} (h : ¬ ((x == Str.ofString "") = true)) : 1 ≤ x.length := by
  rcases Nat.lt_or_ge 0 x.length with h' | h'
  · exact h'
  · exfalso
    apply h
    have : x = Str.ofString "" := by
      obtain ⟨c⟩ := x
      have : c = #[] := Array.eq_empty_of_size_eq_zero (Nat.le_zero.mp h')
      subst this
      decide +kernel
    rw [this]; exact beq_self_eq_true _
def optV (p : Option Str) (v : Value) : Prop := match p with | none => v = .none | some x => ∃ t, v = .str x t
theorem repD_opt {T p v} (x : optV p v) : RepD T (optD p) v := by
  cases p with
  | none => exact x ▸ repD_none
  | some y => obtain ⟨t, rfl⟩ := x; exact repD_str
theorem rep_opt {g h p v} (x : optV p v) : Rep g h (optD p) v := by
  cases p with
  | none => exact x ▸ rep_none
  | some y => obtain ⟨t, rfl⟩ := x; exact rep_str
theorem law_pieces {w : World} {A : Around} {k : Nat} {R : Result → Shared → Prop} {h : Heap} {aS aN : Addr} {n : Nat} {g : Array GenState} {d : Drawn} {t : Nat} {os : OsState}
    (hA : AOk A (k + 3)) (hne : aN ≠ aS) (S : St w h) (m1 : Has h aS (sS aN n)) (dS : 714 ≤ aS) (m2 : Has h aN sN) (dN : 714 ≤ aN) (hn : n + 40 < 1000)
    (q : ∀ h' t' v ps, PiecesOk ps → (∃ x j, ps.head? = some (some x, j) ∧ 1 ≤ x.length) → Post1 w aS aN (n + 16) h h' → Rep (Fresh h) h' (.list (piecesD ps)) v → R (.ok (.ret v)) ⟨h', g, d, t', os⟩) :
    codeAny (MM w) A (.call (.ref 693) ⟨[.ref aS], []⟩) R ⟨h, g, d, t, os⟩ := by
  have H0 := G.startS S m1 dS
  have nN : aN ∉ [aS] := fun q => hne (List.mem_singleton.mp q)
  obtain ⟨oS, eS, _⟩ := m1
  refine enter [("state", some (.ref aS)), ("found", none), ("turn", none), ("way", none), ("piece", none)] hA H0 (S.k 693 _ rfl) rfl (codeRec_of S.k (by kernel_rfl)) rfl (BindsTo.of_eq (binds := [("state", .ref aS)]) (by kernel_rfl)) (by kernel_rfl) ⟨by kernel_rfl, trivial⟩ ?_
  intro env L h₁ t₁ Ev hA₁ H₁ K₁
  dsimp only at Ev
  k_clsL
  refine ⟨rfl, new_pl H₁ fun r h₂ H₂ K₂ nr0 nr => ?_⟩
  k_clsL
  refine wpAny_For ?_
  k_clsL
  refine c_next hA₁ hne dN (G.has (h₀ := h) (W := [aS]) (by assumption) m2 nN dN) (by assumption) (by tb_rel) (by omega) (by omega) (by tb_start) fun h₃ t₃ c tc c0 c1 H₃ K₃ => ?_
  refine b_add fun _ _ => ?_
  k_clsL
  refine it_range (by assumption) (by omega) (by omega) fun I h₄ t₄ H₄ K₄ nI => ?_
  refine codeAny_forLoop (fun m s => ∃ (i : Int) (ps : List Piece) (vs : List Value) (T : Dl) (tu wy pc : Option Value) (hh : Heap) (tt : Nat), s = ⟨hh, g, d, tt, os⟩ ∧ m = (2 + c - i).toNat + 1 ∧ 0 ≤ i ∧ i ≤ 2 + c ∧
    G w h [aS] hh ((I, isRI i (2 + c - i)) :: (r, isPL vs) :: (L, fr [("state", some (.ref aS)), ("found", some (.ref r)), ("turn", tu), ("way", wy), ("piece", pc)]) :: (aS, sS aN (n + 1 + 5 * i.toNat)) :: T) ∧ RepDs T (piecesD ps) vs ∧ (∀ p ∈ T, h.get? p.1 = none) ∧ ps.length = i.toNat ∧ PiecesOk ps ∧ (ps = [] ∨ ∃ x j, ps.head? = some (some x, j) ∧ 1 ≤ x.length)) ?_ ((2 + c).toNat + 1) ?_
  · intro m s hpat
    obtain ⟨i, ps, vs, T, tu, wy, pc, hh, tt, e, em, i0, i1, H, hr, hT, hl, hy, hf⟩ := hpat
    subst e
    by_cases hi : i < 2 + c
    · refine nx_range H (by tb_rel) (by omega) (by tb_start) fun h' t' tk' H' => ?_
      dsimp only
      k_clsL
      refine c_next hA₁ hne dN (G.has (h₀ := h) (W := [aS]) (by assumption) m2 nN dN) (by assumption) (by tb_rel) (by omega) (by omega) (by tb_start) fun h₅ t₅ c₅ tc₅ c50 c51 H₅ K₅ => ?_
      k_clsL
      refine ⟨rfl, new_pl (by assumption) fun r₂ h₆ H₆ K₆ _ _ => ?_⟩
      k_clsL
      obtain ⟨z, tz, ez, z0, z1⟩ := pick4 c50 c51
      refine sub_list (G.pl (h₀ := h) (W := [aS]) (by assumption) (by tb_rel)) c50 (by omega) ez ?_
      k_clsL
      refine wpAny_call (law_text hA₁ hne (G.st (h₀ := h) (W := [aS]) (by assumption)) (G.get (h₀ := h) (W := [aS]) (by assumption) (by tb_rel)) dS (G.has (h₀ := h) (W := [aS]) (by assumption) m2 nN dN) dN (by omega) (by omega) (by omega) (by decide +kernel) (by decide +kernel) fun h₇ t₇ x₇ tk₇ hl₇ P₇ => ?_)
      dsimp only
      refine g_post1 (by assumption) P₇ (by tb_start) fun H₇ => ?_
      refine g_weak H₇ (P' := sS aN (n + 1 + 5 * i.toNat + 3)) (by tb_rel) (fun o x => sS.mono x (by omega)) (by tb_start) fun H₇' => ?_
      k_clsL
      refine g_tail (by assumption) fun Hm => ?_
      refine wpAny_mono (Q := fun f s => f = Flow.next ∧ ∃ (hh : Heap) (tt : Nat) (po : Option Str) (pv : Value), s = ⟨hh, g, d, tt, os⟩ ∧ optV po pv ∧ (i = 0 → po = some x₇) ∧ (∀ x, po = some x → x.length ≤ 2) ∧
        G w h [aS] hh ((I, isRI (i + 1) (2 + c - i - 1)) :: (r, isPL vs) :: (L, fr [("state", some (.ref aS)), ("found", some (.ref r)), ("turn", some (.int i tk')), ("way", some (.int c₅ tc₅)), ("piece", some pv)]) :: (aS, sS aN (n + 1 + 5 * i.toNat + 4)) :: T)) ?_ (fun f s hs => ?_) (fun _ _ h => h)
      · refine wpAny_If ?_
        k_clsL
        refine split_dec (fun hi0 => ?_) (fun hi0 => ?_)
        · k_clsL
          refine split_bool (fun hw => ?_) (fun hw => ?_)
          · k_clsL
            refine c_next hA₁ hne dN (G.has (h₀ := h) (W := [aS]) (by assumption) m2 nN dN) (by assumption) (by tb_rel) (by omega) (by omega) (by tb_start) fun h₈ t₈ c₈ tc₈ c80 c81 H₈ K₈ => ?_
            k_clsL
            refine split_bool (fun hc => ?_) (fun hc => ?_)
            · k_clsL
              exact ⟨rfl, _, _, none, _, rfl, rfl, fun q => by omega, fun _ q => (nomatch q), by assumption⟩
            · k_clsL
              exact ⟨rfl, _, _, some x₇, _, rfl, ⟨_, rfl⟩, fun _ => rfl, fun x q => by cases q; omega, by assumption⟩
          · k_clsL
            refine g_weak (by assumption) (P' := sS aN (n + 1 + 5 * i.toNat + 4)) (by tb_rel) (fun o x => sS.mono x (by omega)) (by tb_start) fun H₈ => ?_
            exact ⟨rfl, _, _, some x₇, _, rfl, ⟨_, rfl⟩, fun _ => rfl, fun x q => by cases q; omega, by assumption⟩
        · k_clsL
          refine g_weak (by assumption) (P' := sS aN (n + 1 + 5 * i.toNat + 4)) (by tb_rel) (fun o x => sS.mono x (by omega)) (by tb_start) fun H₈ => ?_
          exact ⟨rfl, _, _, some x₇, _, rfl, ⟨_, rfl⟩, fun _ => rfl, fun x q => by cases q; omega, by assumption⟩
      · obtain ⟨rfl, hq, tq, po, pv, rfl, hpv, hp0, hp1, Hq⟩ := hs
        refine x_next ?_
        k_clsL
        refine wpAny_mono (Q := fun f s => f = Flow.next ∧ ∃ (hh : Heap) (tt : Nat) (po : Option Str) (pv : Value), s = ⟨hh, g, d, tt, os⟩ ∧ optV po pv ∧ (i = 0 → ∃ x, po = some x ∧ 1 ≤ x.length) ∧ (∀ x, po = some x → x.length ≤ 2) ∧
          G w h [aS] hh ((I, isRI (i + 1) (2 + c - i - 1)) :: (r, isPL vs) :: (L, fr [("state", some (.ref aS)), ("found", some (.ref r)), ("turn", some (.int i tk')), ("way", some (.int c₅ tc₅)), ("piece", some pv)]) :: (aS, sS aN (n + 1 + 5 * i.toNat + 4)) :: T)) ?_ (fun f s hs => ?_) (fun _ _ h => h)
        · refine wpAny_If ?_
          k_clsL
          refine split_bool (fun hi0 => ?_) (fun hi0 => ?_)
          · replace hi0 : i = 0 := by simpa using hi0
            obtain rfl := hp0 hi0
            obtain ⟨tv, rfl⟩ := hpv
            k_clsL
            refine split_bool (fun hx => ?_) (fun hx => ?_)
            · k_clsL
              exact ⟨rfl, _, _, some (Str.ofString "b"), _, rfl, ⟨_, rfl⟩, fun _ => ⟨_, rfl, by decide +kernel⟩, fun x q => by cases q; decide +kernel, by assumption⟩
            · replace hx : ¬ ((x₇ == Str.ofString "") = true) := by rw [hx]; decide
              k_clsL
              exact ⟨rfl, _, _, some x₇, _, rfl, ⟨_, rfl⟩, fun _ => ⟨_, rfl, len_pos hx⟩, fun x q => by cases q; omega, by assumption⟩
          · replace hi0 : i ≠ 0 := by simpa using hi0
            k_clsL
            exact ⟨rfl, _, _, po, _, rfl, hpv, fun q => absurd q hi0, hp1, by assumption⟩
        · obtain ⟨rfl, hq2, tq2, po2, pv2, rfl, hpv2, hp2, hp3, Hq2⟩ := hs
          refine x_next ?_
          k_clsL
          refine x_append Ev ?_ (by with_unfolding_all rfl) rfl rfl rfl
          k_clsL
          refine ⟨r, vs, _, _, rfl, rfl, G.get (h₀ := h) (W := [aS]) (by assumption) (by tb_rel), ?_⟩
          k_clsL
          refine c_next hA₁ hne dN (G.has (h₀ := h) (W := [aS]) (by assumption) m2 nN dN) (by assumption) (by tb_rel) (by omega) (by omega) (by tb_start) fun h₉ t₉ c₉ tc₉ c90 c91 H₉ K₉ => ?_
          k_clsL
          refine ⟨rfl, new_tupF (by assumption) fun r₃ hb Hb Kb nb0 nb => ?_⟩
          have hl' := hr.len
          simp only [List.length_map] at hl'
          refine l_appendP Hb (by tb_rel) (by omega) (by tb_start) fun h₁₀ H₁₀ => ⟨rfl, ?_⟩
          k_clsL
          have e1 : 2 + c - (i + 1) = 2 + c - i - 1 := by clear hf hp2; omega
          have e2 : n + 1 + 5 * (i + 1).toNat = n + 1 + 5 * i.toNat + 4 + 1 := by clear hf hp2; omega
          refine g_move [_, _, _, _] H₁₀ fun H₁₁ => ?_
          have mT : ∀ p ∈ T, p ∈ (r₃, isT [pv2, Value.int c₉ tc₉].toArray) :: T := fun p hp => .tail _ hp
          exact ⟨(2 + c - (i + 1)).toNat + 1, by clear hf hp2; omega, i + 1, ps ++ [(po2, c₉)], _, _, _, _, _, _, _, rfl, rfl, by clear hf hp2; omega, by clear hf hp2; omega, by rw [e1, e2]; exact H₁₁,
            by rw [piecesD, List.map_append]; exact repDs_app (RepDs.more mT _ _ hr) (repDs_cons (repD_tup (.head _) (repDs_cons (repD_opt hpv2) (repDs_cons repD_int repDs_nil))) repDs_nil),
            fun p hp => by rcases List.mem_cons.mp hp with rfl | hp; exact nb0; exact hT p hp,
            by rw [List.length_append, hl, List.length_singleton]; clear hf hp2; omega,
            ⟨by rw [List.length_append, List.length_singleton]; clear hf hp2; omega, fun p hp => by
              rcases List.mem_append.mp hp with h1 | h1
              · exact hy.small p h1
              · rw [List.mem_singleton.mp h1]; exact ⟨c90, by omega, hp3⟩⟩,
            .inr (by
              cases ps with
              | nil =>
                have hi0 : i = 0 := by simp at hl; omega
                obtain ⟨x, rfl, hx⟩ := hp2 hi0
                exact ⟨x, c₉, rfl, hx⟩
              | cons p ps' =>
                obtain ⟨x, j, e, hx⟩ := hf.resolve_left (fun q => by cases q)
                exact ⟨x, j, e, hx⟩)⟩
    · have hi : i = 2 + c := by omega
      refine nx_range_end hA₁.hd H (by tb_rel) (by omega) Del.head nI fun h' H' => ?_
      dsimp only
      k_clsL
      exact q _ _ _ ps hy (hf.resolve_left (fun q => by rw [q] at hl; simp at hl; omega)) (G.toPost (by assumption) (by tb_rel) (by omega)) (rep_list ⟨nr0, G.at (h₀ := h) (W := [aS]) H' (a := r) (by tb_rel)⟩ (G.pl (h₀ := h) (W := [aS]) H' (by tb_rel)) (RepDs.rep H' (fun p hp => ⟨.tail _ (.tail _ (.tail _ hp)), hT p hp⟩) _ _ hr))
  · exact ⟨0, [], [], [], _, _, _, _, _, rfl, by omega, by omega, by omega, by
      have e1 : 2 + c - 0 = 2 + c := by omega
      rw [e1]; assumption, repDs_nil, fun _ hp => (nomatch hp), rfl, ⟨by decide, fun _ hy => (nomatch hy)⟩, .inl rfl⟩
end

section -- R8
open PySem PySem.W PySem.Calls PyProof.Rows
set_option linter.unusedVariables false
set_option maxRecDepth 100000
section
variable {w : World} {A : Around} {E : Value → Shared → Prop} {h₀ h : Heap} {W : List Addr} {D D' : Dl} {L c a b I r : Addr} {env : Env} {x y z : Str} {u v u' : Value} {p pos px py pz : Pos} {k : Nat}
  {g : Array GenState} {d : Drawn} {t : Nat} {os : OsState} {its its2 : List Value} {i : Nat}
theorem a_tup2 {Q : Unit → Shared → Prop} (hA : A.handled = none) (H : G w h₀ W h D) (ht : IsTup h r #[u, v]) (q : ∀ h', G w h₀ W h' D → wpAny (MM w) A (storeName env x u) (fun _ s₁ => wpAny (MM w) A (storeName env y v) Q E s₁) E ⟨h', g, d, t, os⟩) :
    wpAny (MM w) A (assign (.Tuple [.Name x px, .Name y py] k pos) env (.ref r)) Q E ⟨h, g, d, t, os⟩ := by
  refine assign_Tuple_tuple hA ht rfl rfl fun h' hx => ?_
  exact wpAny_assignInOrder_more (wpAny_assign_Name (wpAny_mono (q h' (H.extBut hx)) (fun _ _ h => wpAny_assignInOrder_more (wpAny_assign_Name (wpAny_mono h (fun _ _ h => wpAny_assignInOrder_none h) fun _ _ h => h))) fun _ _ h => h))
theorem a_tup3 {Q : Unit → Shared → Prop} (hA : A.handled = none) (H : G w h₀ W h D) (ht : IsTup h r #[u, v, u']) (q : ∀ h', G w h₀ W h' D → wpAny (MM w) A (storeName env x u) (fun _ s₁ => wpAny (MM w) A (storeName env y v) (fun _ s₂ => wpAny (MM w) A (storeName env z u') Q E s₂) E s₁) E ⟨h', g, d, t, os⟩) :
    wpAny (MM w) A (assign (.Tuple [.Name x px, .Name y py, .Name z pz] k pos) env (.ref r)) Q E ⟨h, g, d, t, os⟩ := by
  refine assign_Tuple_tuple hA ht rfl rfl fun h' hx => ?_
  exact wpAny_assignInOrder_more (wpAny_assign_Name (wpAny_mono (q h' (H.extBut hx)) (fun _ _ h => wpAny_assignInOrder_more (wpAny_assign_Name (wpAny_mono h (fun _ _ h => wpAny_assignInOrder_more (wpAny_assign_Name (wpAny_mono h (fun _ _ h => wpAny_assignInOrder_none h) fun _ _ h => h))) fun _ _ h => h))) fun _ _ h => h))
theorem own_list {elts : List Expr} {Q : Unit → Shared → Prop} (H : G w h₀ W h D) (hm : (I, isLI a i) ∈ D) (q : Q () ⟨h, g, d, t, os⟩) : wpAny (MM w) A (letOwnedTupleGo (.Tuple elts k pos) (.ref I) (.ref r)) Q E ⟨h, g, d, t, os⟩ :=
  wpAny_letOwnedTupleGo_listiter (H.get hm) q
theorem self_list {Q : Value → Shared → Prop} (H : G w h₀ W h D) (hm : (I, isLI a i) ∈ D) (q : Q (.ref I) ⟨h, g, d, t, os⟩) : wpAny (MM w) A (pyIter (.ref I)) Q E ⟨h, g, d, t, os⟩ := wpAny_pyIter_listiter (H.get hm) q
theorem self_range {Q : Value → Shared → Prop} {j l : Int} (H : G w h₀ W h D) (hm : (I, isRI j l) ∈ D) (q : Q (.ref I) ⟨h, g, d, t, os⟩) : wpAny (MM w) A (pyIter (.ref I)) Q E ⟨h, g, d, t, os⟩ := by
  obtain ⟨o, e, rfl⟩ := H.get hm
  exact wpAny_pyIter_rangeiter e q
end
theorem clos_none {scope : Scope} {env : Env} (h : scope.names.all (fun x => x.2 != .free) = true) : closureFor scope env = pure [] := closureFor_none fun x hx => by simpa using List.all_eq_true.mp h x hx
end

section -- F5
open PySem PySem.W PySem.Calls PyProof.Rows
set_option maxHeartbeats 0
set_option linter.unusedVariables false
set_option maxRecDepth 100000
def absmod (n : Int) : Int := (if n < 0 then -n else n).fmod 1000003
theorem IntsAre.take : ∀ {vs : List Value} {ns : List Int} (k : Nat), IntsAre vs ns → IntsAre (vs.take k) (ns.take k)
  | _, _, 0, _ => .nil
  | _, _, k + 1, .nil => .nil
  | _, _, k + 1, .cons n t r => .cons n t (IntsAre.take k r)
theorem take_snoc {l : List Int} {i : Nat} (h : i < l.length) : l.take (i + 1) = l.take i ++ [l.getD i 0] := by
  have eg : l[i]? = some (l.getD i 0) := by rw [List.getD_eq_getElem?_getD, List.getElem?_eq_getElem h]; rfl
  rw [List.take_add_one, eg]; rfl
theorem absmod_lt (n : Int) : 0 ≤ absmod n ∧ absmod n < 1000003 := ⟨fmod_lo _ (by decide), fmod_hi _ (by decide)⟩
theorem law_state {w : World} {A : Around} {k : Nat} {R : Result → Shared → Prop} {h : Heap} {a : Addr} {vs : List Value} {ns : List Int} {g : Array GenState} {d : Drawn} {t : Nat} {os : OsState}
    (hA : AOk A (k + 3)) (S : St w h) (hs : h.IsList a vs.toArray) (hi : IntsAre vs ns) (hn : ns.length ≤ 63) (hd1 : a ≠ 380) (hd2 : a ≠ 403)
    (q : ∀ h' t' r aN, St w h' → Kp [] h h' → Has h' r (sS aN 0) → Has h' aN sN → Fresh h r → Fresh h aN → aN ≠ r → R (.ok (.ret (.ref r))) ⟨h', g, d, t', os⟩) :
    codeAny (MM w) A (.call (.ref 665) ⟨[.ref a], []⟩) R ⟨h, g, d, t, os⟩ := by
  have H0 : G w h [] h [] := G.start S
  refine enter [("script", some (.ref a))] hA H0 (S.k 665 _ rfl) rfl (codeRec_of S.k (by kernel_rfl)) rfl (BindsTo.of_eq (binds := [("script", .ref a)]) (by kernel_rfl)) (by kernel_rfl) ⟨by kernel_rfl, trivial⟩ ?_
  intro env L h₁ t₁ Ev hA₁ H₁ K₁
  dsimp only at Ev
  have hl := hi.length
  k_clsL
  rw [eval_ListComp]
  refine g_comp (h₀ := h) (W := []) [("number", none)] Ev (clos_none (by kernel_rfl)) (by kernel_rfl) ?_
  refine sl_upto (a := a) (its := vs) (by decide) ?hv H₁ ?hl (by omega) (fun r₁ h₂ t₂ H₂ K₂ n₂ => ?_) (by intro _ _; rfl)
  case hv =>
    k_clsL
    exact ⟨rfl, rfl⟩
  case hl => exact let ⟨o, e, r⟩ := hs; ⟨o, K₁.keep _ _ e List.not_mem_nil hd1 hd2, r⟩
  refine it_list H₂ (H₂.list (by tb_rel)) fun I h₃ H₃ K₃ nI0 nI => ?_
  refine ⟨_, _, _, rfl, H₃, ?_⟩
  intro cenv C acc h₄ t₄ Ec H₄ K₄ nC nacc nacc2
  have Ec' : EnvOk cenv C [(".0", .local), ("number", .local), ("abs", .globalImplicit)] [] := Ec
  refine ⟨?_, self_list H₄ (by tb_rel) ⟨rfl, rfl⟩⟩
  refine kcp_loop (fun m s => ∃ (i : Nat) (ys : List Value) (lc : Option Value) (hh : Heap) (tt : Nat), s = ⟨hh, g, d, tt, os⟩ ∧ m = ns.length + 1 - i ∧ i ≤ (ns.take 24).length ∧
    G w h [] hh ((C, fr [("number", lc)]) :: (acc, isPL ys) :: (I, isLI r₁ i) :: (r₁, isL (vs.take 24).toArray) :: (L, fr [("script", some (.ref a))]) :: []) ∧ IntsAre ys (((ns.take 24).take i).map absmod)) ?_ (ns.length + 1) ?_
  · intro m s hpat
    obtain ⟨i, ys, lc, hh, tt, e, em, hi1, H, hy⟩ := hpat
    subst e
    rcases Nat.lt_or_ge i (ns.take 24).length with hlt | hge
    · have hv : ∃ v, (vs.take 24)[i]? = some v := ⟨_, List.getElem?_eq_getElem (by rw [(IntsAre.take 24 hi).length]; exact hlt)⟩
      obtain ⟨v, hv⟩ := hv
      obtain ⟨tv, ev⟩ := (IntsAre.take 24 hi).int_at i v hv
      refine nx_list H (by tb_rel) (H.list (by tb_rel)) hv (by tb_start) fun h' H' hs' => ?_
      dsimp only
      refine wpAny_of_eq (a := ()) rfl ?_
      subst ev
      k_clsL
      refine b_abs fun _ _ => ?_
      k_clsL
      refine b_mod (by decide) fun _ _ => ?_
      refine l_appendP (by assumption) (by tb_rel) (by rw [hy.length]; simp; omega) (by tb_start) fun h₆ H₆ => ?_
      exact ⟨ns.length + 1 - (i + 1), by simp at hlt; omega, i + 1, _, _, _, _, rfl, rfl, hlt, H₆, by
        rw [take_snoc hlt, List.map_append]
        exact hy.append (.cons _ _ .nil)⟩
    · refine nx_list_end hA₁.hd H (by tb_rel) (H.list (by tb_rel)) (List.getElem?_eq_none (by rw [(IntsAre.take 24 hi).length]; exact hge)) (Del.tail (Del.tail Del.head)) nI0 fun h' H' hx => ?_
      dsimp only
      refine ⟨rfl, _, _, _, _, rfl, H', fun h'' H'' => ?_⟩
      have hi' : i = (ns.take 24).length := by omega
      rw [hi', List.take_length] at hy
      k_clsL
      refine ⟨rfl, new_pl (by assumption) fun r₂ h₅ H₅ K₅ _ _ => ?_⟩
      have hlen := hy.length
      simp at hlen
      refine b_addL H₅ (G.pl H₅ (a := acc) (by tb_rel)) (G.pl H₅ (a := r₂) (by tb_rel)) (by simp; omega) fun r₃ h₆ H₆ K₆ n₆ n₆' => ?_
      k_clsL
      refine ⟨rfl, new_pl (by assumption) fun r₄ h₇ H₇ K₇ n₇ n₇' => ?_⟩
      k_clsL
      obtain ⟨o₄, e₄, p₄⟩ := H₇.get (a := r₄) (by tb_rel)
      obtain ⟨o₃, e₃, p₃⟩ := H₇.get (a := r₃) (by tb_rel)
      have hne : r₃ ≠ r₄ := fun q => by
        have := H₇.nd
        simp only [List.map_cons, List.nodup_cons, List.mem_cons] at this
        exact this.1 (.inl q.symm)
      refine q _ _ r₄ r₃ H₇.st H₇.kp ⟨o₄, e₄, 0, _, p₄.l, Int.le_refl _, Int.le_refl _⟩ ⟨o₃, e₃, _, _, p₃, hy.append (.cons 5 _ (.cons 0 _ (.cons 11 _ .nil))), by simp, by simp; omega, fun n hn => ?_⟩ ⟨n₇, H₇.at (a := r₄) (by tb_rel)⟩ ⟨n₆, H₇.at (a := r₃) (by tb_rel)⟩ hne
      rcases List.mem_append.mp hn with h1 | h1
      · obtain ⟨x, _, rfl⟩ := List.mem_map.mp h1
        exact absmod_lt x
      · simp at h1; omega
  · exact ⟨0, [], _, _, _, rfl, by omega, Nat.zero_le _, H₄, .nil⟩
end

section -- F6
open PySem PySem.W PySem.Calls PyProof.Rows
set_option maxHeartbeats 0
set_option linter.unusedVariables false
set_option maxRecDepth 100000
abbrev E0 : Str := Str.ofString ""
def pw (p : Piece) : Str := p.1.getD E0
def wholeS (ps : List Piece) : Str := Txt.join E0 (ps.map pw)
theorem strValues_of : ∀ {vs : List Value} {ys : List Str}, StrsAre vs ys → ∃ l : List (Str × Tok), vs = strValues l ∧ l.map (·.1) = ys
  | _, _, .nil => ⟨[], rfl, rfl⟩
  | _, _, .cons y t r => by obtain ⟨l, e, e'⟩ := strValues_of r; exact ⟨(y, t) :: l, by rw [e]; rfl, by rw [List.map_cons, e']⟩
theorem StrsAre.snoc : ∀ {vs : List Value} {ys : List Str} {y : Str} {t : Tok}, StrsAre vs ys → StrsAre (vs ++ [.str y t]) (ys ++ [y])
  | _, _, y, t, .nil => .cons y t .nil
  | _, _, _, _, .cons y t r => .cons y t (StrsAre.snoc r)
theorem Rep.listE {g h l v} (x : Rep g h (.list l) v) : ∃ a vs, v = .ref a ∧ g a ∧ h.IsList a vs.toArray ∧ Reps g h l vs := by rw [Rep] at x; exact x
theorem Rep.tupE {g h l v} (x : Rep g h (.tuple l) v) : ∃ a vs, v = .ref a ∧ g a ∧ IsTup h a vs.toArray ∧ Reps g h l vs := by rw [Rep] at x; exact x
theorem Rep.intE {g h i v} (x : Rep g h (.int i) v) : ∃ t, v = .int i t := by rw [Rep] at x; exact x
theorem Rep.strE {g h i v} (x : Rep g h (.str i) v) : ∃ t, v = .str i t := by rw [Rep] at x; exact x
theorem Rep.optE {g h p v} (x : Rep g h (optD p) v) : optV p v := by
  cases p with
  | none => rw [optD, Rep] at x; exact x
  | some y => exact Rep.strE x
theorem Reps.consE {g h d ds vs} (x : Reps g h (d :: ds) vs) : ∃ v r, vs = v :: r ∧ Rep g h d v ∧ Reps g h ds r := by rw [Reps] at x; exact x
theorem Reps.nilE {g h vs} (x : Reps g h [] vs) : vs = [] := by rw [Reps] at x; exact x
theorem Rep.pieceE {g h p v} (x : Rep g h (pieceD p) v) : ∃ r pv t, v = .ref r ∧ g r ∧ IsTup h r #[pv, .int p.2 t] ∧ optV p.1 pv := by
  obtain ⟨a, vs, rfl, ga, ht, hr⟩ := Rep.tupE x
  obtain ⟨v1, r1, rfl, x1, hr⟩ := Reps.consE hr
  obtain ⟨v2, r2, rfl, x2, hr⟩ := Reps.consE hr
  obtain rfl := Reps.nilE hr
  obtain ⟨t, rfl⟩ := Rep.intE x2
  exact ⟨a, v1, t, rfl, ga, ht, Rep.optE x1⟩
theorem e_or0 {w : World} {A : Around} {E : Value → Shared → Prop} {h : Heap} {g : Array GenState} {d : Drawn} {t : Nat} {os : OsState} {env : Env} {e : Expr} {k : Nat} {p pos : Pos} {po : Option Str} {pv : Value} {Q : Value → Shared → Prop}
    (hp : optV po pv) (hz : ∀ x, po = some x → x.length ≤ 1000) (he : ∀ Q' : Value → Shared → Prop, Q' pv ⟨h, g, d, t, os⟩ → wpAny (MM w) A (eval e env) Q' E ⟨h, g, d, t, os⟩)
    (q : ∀ tk t', Q (.str (po.getD E0) tk) ⟨h, g, d, t', os⟩) : wpAny (MM w) A (eval (.BoolOp .Or [e, .Constant (.str E0) k p] pos) env) Q E ⟨h, g, d, t, os⟩ := by
  refine BoolOp_or (he _ ?_)
  cases po with
  | none =>
    obtain rfl := hp
    exact PyProof.Rows.truthy_none (BoolOp_one (e_str fun _ _ => q _ _))
  | some x =>
    obtain ⟨tk, rfl⟩ := hp
    have := hz x rfl
    refine P.truthy_str (by omega) ?_
    by_cases hx : x.length = 0
    · have : (((x.length : Nat) : Int) != 0) = false := by simp [hx]
      rw [this]
      have ex : x = E0 := by
        obtain ⟨c⟩ := x
        have : c = #[] := Array.eq_empty_of_size_eq_zero hx
        subst this; decide +kernel
      refine iff (BoolOp_one (e_str fun tk' t' => ?_))
      have := q tk' t'
      rw [ex] at this; exact this
    · have : (((x.length : Nat) : Int) != 0) = true := by simp [hx]
      rw [this]
      exact ift (q _ _)
theorem sum_le : ∀ (l : List Str), (∀ y ∈ l, y.length ≤ 100) → (l.map (·.length)).sum ≤ 100 * l.length
  | [], _ => Nat.zero_le _
  | y :: l, h => by
    have h1 := sum_le l (fun z hz => h z (.tail _ hz))
    have h2 := h y (.head _)
    simp only [List.map_cons, List.sum_cons, List.length_cons]; omega
theorem pw_small {ps : List Piece} (hz : ∀ p ∈ ps, ∀ x, p.1 = some x → x.length ≤ 100) : ∀ y ∈ ps.map pw, y.length ≤ 100 := fun y hy => by
  obtain ⟨p, hp, rfl⟩ := List.mem_map.mp hy
  unfold pw
  cases e : p.1 with
  | none => exact Nat.zero_le _
  | some x => exact hz p hp x e
theorem law_whole {w : World} {A : Around} {k : Nat} {R : Result → Shared → Prop} {gd : Addr → Prop} {h : Heap} {v : Value} {ps : List Piece} {g : Array GenState} {d : Drawn} {t : Nat} {os : OsState}
    (hA : AOk A (k + 2)) (S : St w h) (hr : Rep gd h (.list (piecesD ps)) v) (hg : ∀ a, gd a → 714 ≤ a) (hz : ∀ p ∈ ps, ∀ x, p.1 = some x → x.length ≤ 100) (hl : ps.length ≤ 100)
    (q : ∀ h' t' tk, St w h' → Kp [] h h' → R (.ok (.ret (.str (wholeS ps) tk))) ⟨h', g, d, t', os⟩) :
    codeAny (MM w) A (.call (.ref 698) ⟨[v], []⟩) R ⟨h, g, d, t, os⟩ := by
  have H0 : G w h [] h [] := G.start S
  obtain ⟨a, vs, rfl, ga, hla, hrs⟩ := Rep.listE hr
  refine enter [("rule", some (.ref a))] hA H0 (S.k 698 _ rfl) rfl (codeRec_of S.k (by kernel_rfl)) rfl (BindsTo.of_eq (binds := [("rule", .ref a)]) (by kernel_rfl)) (by kernel_rfl) ⟨by kernel_rfl, trivial⟩ ?_
  intro env L h₁ t₁ Ev hA₁ H₁ K₁
  dsimp only at Ev
  k_clsL
  refine Call_method1 (by with_unfolding_all rfl) rfl rfl ?_
  k_clsL
  refine SB.join ?_
  rw [eval_ListComp]
  refine g_comp (h₀ := h) (W := []) [("piece", none), ("deed", none)] Ev (clos_none (by kernel_rfl)) (by kernel_rfl) ?_
  k_clsL
  refine it_list (by assumption) (G.old (by assumption) hla (hg _ ga) List.not_mem_nil) fun I h₃ H₃ K₃ nI0 nI => ?_
  refine ⟨_, _, _, rfl, H₃, ?_⟩
  intro cenv C acc h₄ t₄ Ec H₄ K₄ nC nacc nacc2
  refine ⟨?_, self_list H₄ (by tb_rel) ⟨rfl, rfl⟩⟩
  have Ec' : EnvOk cenv C [(".0", .local), ("piece", .local), ("deed", .local)] [] := Ec
  have hvl : vs.length = ps.length := by have := hrs.len; simpa using this
  refine kcp_loop (fun m s => ∃ (i : Nat) (ys : List Value) (lp ld : Option Value) (hh : Heap) (tt : Nat), s = ⟨hh, g, d, tt, os⟩ ∧ m = ps.length + 1 - i ∧ i ≤ ps.length ∧
    G w h [] hh ((C, fr [("piece", lp), ("deed", ld)]) :: (acc, isPL ys) :: (I, isLI a i) :: (L, fr [("rule", some (.ref a))]) :: []) ∧ StrsAre ys ((ps.take i).map pw)) ?_ (ps.length + 1) ?_
  · intro m s hpat
    obtain ⟨i, ys, lp, ld, hh, tt, e, em, hi1, H, hy⟩ := hpat
    subst e
    have hylen : ys.length ≤ 100 := by
      obtain ⟨l, e1, e2⟩ := strValues_of hy
      have e3 : ys.length = l.length := by rw [e1]; simp [strValues]
      have e4 : l.length = ((ps.take i).map pw).length := by rw [← e2]; simp
      rw [e3, e4]; simp; omega
    rcases Nat.lt_or_ge i ps.length with hlt | hge
    · obtain ⟨v, hv, rv⟩ := hrs.get (i := i) (d := pieceD ps[i]) (by simp [piecesD, hlt])
      obtain ⟨r, pv, tp, rfl, gr, ht, hp⟩ := Rep.pieceE rv
      refine nx_list H (by tb_rel) (H.old hla (hg _ ga) List.not_mem_nil) hv (by tb_start) fun h' H' hs' => ?_
      dsimp only
      refine own_list H' (by tb_rel) ?_
      refine a_tup2 hA₁.hd H' (H'.oldT ht (hg _ gr) List.not_mem_nil) fun h'' H'' => ?_
      k_clsL
      refine e_or0 hp (fun x hx => Nat.le_trans (hz _ (List.getElem_mem hlt) x hx) (by decide)) (fun Q' q' => ?_) fun _ _ => ?_
      · k_clsL
        exact q'
      refine l_appendP (by assumption) (by tb_rel) (by omega) (by tb_start) fun h₆ H₆ => ?_
      exact ⟨ps.length + 1 - (i + 1), by omega, i + 1, _, _, _, _, _, rfl, rfl, hlt, H₆, by
        rw [List.take_add_one, List.map_append, List.getElem?_eq_getElem hlt]
        exact StrsAre.snoc hy⟩
    · refine nx_list_end hA₁.hd H (by tb_rel) (H.old hla (hg _ ga) List.not_mem_nil) (List.getElem?_eq_none (by omega)) (Del.tail (Del.tail Del.head)) nI0 fun h' H' hx => ?_
      dsimp only
      refine ⟨rfl, _, _, _, _, rfl, H', fun h'' H'' => ?_⟩
      have hi' : i = ps.length := by omega
      rw [hi', List.take_length] at hy
      obtain ⟨l, e1, e2⟩ := strValues_of hy
      refine ⟨acc, l, rfl, by rw [← e1]; exact H''.pl (by tb_rel), _, e2, joinOk_of_weight ?_ (by decide +kernel), fun t' kk => ?_⟩
      · have := sum_le _ (pw_small hz)
        simp only [List.length_map] at this ⊢; omega
      · k_clsL
        exact q _ _ _ (G.st (h₀ := h) (W := []) (by assumption)) (G.kp (h₀ := h) (W := []) (by assumption))
  · exact ⟨0, [], _, _, _, _, rfl, by omega, Nat.zero_le _, H₄, .nil⟩
end

section -- R9
open PySem PySem.W PySem.Calls PyProof.Rows
set_option linter.unusedVariables false
set_option maxRecDepth 100000
theorem bindL_all {kindOf : Str → Option NameKind} : ∀ (binds : List (Str × Value)) (m : Str → Option Value), (∀ p ∈ binds, kindOf p.1 = some .local) → ∀ x v, binds.reverse.lookup x = some v → bindL kindOf binds m x = some v := by
  suffices hh : ∀ (binds : List (Str × Value)) (m : Str → Option Value), (∀ p ∈ binds, kindOf p.1 = some .local) → ∀ x, bindL kindOf binds m x = (binds.reverse.lookup x).or (m x) by
    intro binds m hb x v hv
    rw [hh binds m hb x, hv]; rfl
  intro binds
  induction binds with
  | nil => intro m _ x; rfl
  | cons p r ih =>
    intro m hb x
    obtain ⟨n, u⟩ := p
    rw [bindL, if_pos (hb (n, u) (.head _)), ih _ (fun q hq => hb q (.tail _ hq)), List.reverse_cons, List.lookup_append]
    cases e : r.reverse.lookup x with
    | some v => rfl
    | none =>
      simp only [Option.none_or, List.lookup_cons, List.lookup_nil]
      by_cases h : x = n
      · subst h; simp
      · have : (x == n) = false := by simpa using h
        simp [this, h]
theorem enterC {w : World} {A : Around} {k : Nat} {R : Result → Shared → Prop} {h₀ h : Heap} {W : List Addr} {D : Dl} {g : Array GenState} {d : Drawn} {t : Nat} {os : OsState} {f : Addr} {o : Obj} {fd : FuncData} {body : List Stmt} {vals : List Value} {binds : List (Str × Value)} (l : Nl) (cs : List (Str × Nat))
    (hA : AOk A (k + 1)) (H : G w h₀ W h D) (ho : h.get? f = some o) (hdat : o.data = .func fd) (hcd : h.CodeRec fd.code fd.qualname) (hbody : fd.body = .stmts body)
    (hbind : bindArgs fd ⟨vals, []⟩ = pure binds)
    (hl : (binds.all (fun x => fd.scope.names.lookup x.1 == some .local) && (fd.scope.kind == .function) && !fd.scope.isCoroutine && !fd.scope.isGenerator && (fd.globals == mainGlobals) && (fd.builtins == builtinsNs) &&
       decide (fd.scope.names.map (·.1)).Nodup && decide (cs.map (·.1)).Nodup && decide (cs.map (·.2)).Nodup && decide (l.map (·.1)).Nodup) = true) (hclo : fd.closure = [])
    (hcs : ∀ n, cellsFrom n fd.scope.names [] = cs.map fun p => (p.1, n + p.2))
    (hlv : LocOk binds l)
    (q : ∀ env L c h' t', EnvOk env L fd.scope.names (cs.map fun p => (p.1, c + p.2)) → AOk (A.deeper env) k → G w h₀ W h' ((L, fr l) :: (cs.map fun p => (c + p.2, isC none)) ++ D) → Kp [] h h' → (∀ p ∈ cs, h.get? (c + p.2) = none ∧ h₀.get? (c + p.2) = none) → h₀.get? L = none →
      wpAny (MM w) (A.deeper env) (execs body env) (callPost R) (fun _ _ => False) ⟨h', g, d, t', os⟩) :
    codeAny (MM w) A (.call (.ref f) ⟨vals, []⟩) R ⟨h, g, d, t, os⟩ := by
  simp only [Bool.and_eq_true, Bool.not_eq_true', decide_eq_true_eq, beq_iff_eq] at hl
  obtain ⟨⟨⟨⟨⟨⟨⟨⟨⟨h2, h3⟩, h4⟩, h5⟩, h6⟩, h7⟩, h8⟩, h9⟩, h9b⟩, h10⟩ := hl
  have hloc : ∀ x ∈ binds, fd.scope.names.lookup x.1 = some .local := fun x hx => by simpa using List.all_eq_true.mp h2 x hx
  refine codeAny_call_cells hA.room ho hdat H.st.lim hcd hbody hbind hclo (fun x hx => .inl (hloc x hx)) (fun s₁ X => ?_) h4 h5 h3
  obtain ⟨hh, tk, rfl⟩ := X.toInCall.same
  have hcells : (callEnvC fd h.objs.size f).cells = cs.map fun p => (p.1, (h.objs.size + 1) + p.2) := hcs _
  have ev : EnvOk (callEnvC fd h.objs.size f) h.objs.size fd.scope.names (cs.map fun p => (p.1, (h.objs.size + 1) + p.2)) := by
    refine ⟨rfl, h3, rfl, h8, hcells, ?_, h6, h7, h4⟩
    rw [List.map_map]; exact h9
  obtain ⟨oL, es, ep, e1, e2, e3, e4⟩ := X.toInCall.ns
  have hgn : ∀ i : Nat, h.get? (h.objs.size + 1 + i) = none := fun i => by
    cases q : h.get? (h.objs.size + 1 + i) with
    | none => rfl
    | some o => exact absurd (show h.objs.size + 1 + i < h.objs.size from Heap.lt_size q) (by omega)
  have nl := fun (i : Nat) => H.new (hgn i)
  have n0 := H.new (get_size h)
  have Hx := H.ext (h' := hh) X.toInCall.keep
  -- the cells
  have Hc : ∀ (cs' : List (Str × Nat)), (∀ p ∈ cs', p ∈ cs) → (cs'.map (·.2)).Nodup → G w h₀ W hh ((cs'.map fun p => (h.objs.size + 1 + p.2, isC none)) ++ D) := by
    intro cs'
    induction cs' with
    | nil => intro _ _; exact Hx
    | cons p r ih =>
      intro hp hn
      rw [List.map_cons, List.nodup_cons] at hn
      have Hr := ih (fun q hq => hp q (.tail _ hq)) hn.2
      have hm : (p.1, h.objs.size + 1 + p.2) ∈ (callEnvC fd h.objs.size f).cells := by rw [hcells]; exact List.mem_map_of_mem (hp p (.head _))
      have hlk : (callEnvC fd h.objs.size f).cells.lookup p.1 = some (h.objs.size + 1 + p.2) := by
        rw [hcells] at hm ⊢
        exact lookup_nd (by rw [List.map_map]; exact h9) hm
      obtain ⟨oc, ec, dc⟩ := X.cell p.1 _ hlk
      have hcm : bindC (callEnvC fd h.objs.size f).kindOf binds (fun _ => none) p.1 = none := by
        have : ∀ (bs : List (Str × Value)) (m : Str → Option Value), (∀ x ∈ bs, (callEnvC fd h.objs.size f).kindOf x.1 = some .local) → bindC (callEnvC fd h.objs.size f).kindOf bs m = m := by
          intro bs
          induction bs with
          | nil => intro m _; rfl
          | cons b bs ih => intro m hb; rw [bindC, if_pos (hb b (.head _))]; exact ih m fun x hx => hb x (.tail _ hx)
        rw [this binds _ hloc]
      rw [hcm] at dc
      refine Hr.add' ec (nc_cell dc) dc (show 714 ≤ h.objs.size + 1 + p.2 by have := H.st.big; omega) (nl p.2).1 fun q hq hqe => ?_
      rcases List.mem_append.mp hq with h1 | h1
      · obtain ⟨p', hp', rfl⟩ := List.mem_map.mp h1
        have hqe' : h.objs.size + 1 + p'.2 = h.objs.size + 1 + p.2 := hqe
        exact hn.1 (by have : p'.2 = p.2 := by omega
                       rw [← this]; exact List.mem_map_of_mem hp')
      · exact (nl p.2).2 q h1 hqe
  have HC := Hc cs (fun _ h => h) h9b
  have HL : G w h₀ W hh ((h.objs.size, fr l) :: ((cs.map fun p => (h.objs.size + 1 + p.2, isC none)) ++ D)) := by
    refine HC.add' e1 (fun _ vs q => by rw [e2] at q; cases q) ⟨h10, es, ep, e2, e3, fun p hp v hv => (e4 _).trans (bindL_all binds _ hloc _ _ (hlv.at p hp v hv))⟩ H.st.big n0.1 fun q hq hqe => ?_
    rcases List.mem_append.mp hq with h1 | h1
    · obtain ⟨p', hp', rfl⟩ := List.mem_map.mp h1
      have hqe' : h.objs.size + 1 + p'.2 = h.objs.size := hqe
      omega
    · exact n0.2 q h1 hqe
  exact wpAny_mono (q _ _ (h.objs.size + 1) _ _ ev (hA.deeper _) HL ((Kp.refl [] h).ext X.toInCall.keep) (fun p _ => ⟨hgn p.2, (nl p.2).1⟩) n0.1) (fun _ _ x => x) fun _ _ x => x.elim
theorem clos_loop {env : Env} {f : Str × NameKind → List (Str × Addr) → Sem (ForInStep (List (Str × Addr)))} (hf : ∀ n k cs, f (n, k) cs = if (k == .free) = true then (do let c ← cellOf env n; pure (ForInStep.yield ((n, c) :: cs))) else pure (ForInStep.yield cs)) :
    ∀ (names : List (Str × NameKind)) (acc : List (Str × Addr)), (∀ p ∈ names, p.2 = .free → ∃ c, env.cells.lookup p.1 = some c) →
      forIn names acc f = (pure (names.foldl (fun acc p => if (p.2 == .free) = true then (p.1, (env.cells.lookup p.1).getD 0) :: acc else acc) acc) : Sem (List (Str × Addr)))
  | [], _, _ => rfl
  | (n, k) :: r, acc, h => by
    rw [List.forIn_cons, hf, List.foldl_cons]
    by_cases hk : (k == NameKind.free) = true
    · rw [if_pos hk, if_pos hk]
      obtain ⟨c, hc⟩ := h (n, k) (.head _) (by simpa using hk)
      dsimp only at hc
      have e : cellOf env n = pure c := by unfold cellOf; rw [hc]
      rw [e, hc]
      exact clos_loop hf r _ fun p hp => h p (.tail _ hp)
    · rw [if_neg hk, if_neg hk]
      exact clos_loop hf r _ fun p hp => h p (.tail _ hp)
/-- the cells that an inner scope takes -/
theorem clos_of {scope : Scope} {env : Env} {L : Addr} {ns cl cl'} (Ev : EnvOk env L ns cl) (hf : (scope.names.all fun p => p.2 != .free || (cl.lookup p.1).isSome) = true)
    (he : scope.names.foldl (fun acc p => if (p.2 == .free) = true then (p.1, (cl.lookup p.1).getD 0) :: acc else acc) [] = cl') : closureFor scope env = pure cl' := by
  have h1 := clos_loop (env := env) (f := fun x cs => match x with
    | (name, kind) => if (kind == NameKind.free) = true then (do let c ← cellOf env name; pure (ForInStep.yield ((name, c) :: cs))) else pure (ForInStep.yield cs)) (fun n k cs => rfl) scope.names [] (fun p hp hk => by
      have := List.all_eq_true.mp hf p hp
      rw [hk] at this
      simp only [bne_self_eq_false, Bool.false_or] at this
      rw [Ev.ce]; exact Option.isSome_iff_exists.mp this)
  rw [Ev.ce, he] at h1
  have h2 : closureFor scope env = (forIn scope.names ([] : List (Str × Addr)) (fun x cs => match x with
    | (name, kind) => if (kind == NameKind.free) = true then (do let c ← cellOf env name; pure (ForInStep.yield ((name, c) :: cs))) else pure (ForInStep.yield cs)) >>= fun cs => pure cs) := rfl
  rw [h2, h1]; rfl
end

section -- R10
open PySem PySem.W PySem.Calls PyProof.Rows
set_option linter.unusedVariables false
set_option maxRecDepth 100000
mutual
def noL : PyData → Bool
  | .list _ => false
  | .dict _ => false
  | .tuple l => noLs l
  | _ => true
def noLs : List PyData → Bool
  | [] => true
  | d :: ds => noL d && noLs ds
end
/-- T: tuples in hand, new since h₀ -/
structure TupT (h₀ : Heap) (T : Dl) : Prop where
  tup : ∀ p ∈ T, ∃ vs : List Value, p.2 = isT vs.toArray
  new : ∀ p ∈ T, h₀.get? p.1 = none
mutual
theorem Rep.add {w : World} {h₀ h : Heap} {W : List Addr} {D : Dl} {gd : Addr → Prop} (hgd : ∀ a, gd a → 714 ≤ a ∧ h₀.get? a = none ∧ ∀ p ∈ D, p.1 ≠ a) :
    ∀ (d : PyData) (v : Value), noL d = true → Rep gd h d v → ∀ T₁ : Dl, G w h₀ W h (T₁ ++ D) → TupT h₀ T₁ → ∃ T : Dl, (∀ p ∈ T₁, p ∈ T) ∧ G w h₀ W h (T ++ D) ∧ TupT h₀ T ∧ RepD T d v
  | .none, v, _, x, T₁, H, hT => ⟨T₁, fun _ h => h, H, hT, by rw [Rep] at x; rw [RepD]; exact x⟩
  | .bool _, v, _, x, T₁, H, hT => ⟨T₁, fun _ h => h, H, hT, by rw [Rep] at x; rw [RepD]; exact x⟩
  | .int _, v, _, x, T₁, H, hT => ⟨T₁, fun _ h => h, H, hT, by rw [Rep] at x; rw [RepD]; exact x⟩
  | .str _, v, _, x, T₁, H, hT => ⟨T₁, fun _ h => h, H, hT, by rw [Rep] at x; rw [RepD]; exact x⟩
  | .list _, _, hn, _, _, _, _ => by rw [noL] at hn; cases hn
  | .dict _, _, hn, _, _, _, _ => by rw [noL] at hn; cases hn
  | .tuple l, v, hn, x, T₁, H, hT => by
    rw [noL] at hn
    rw [Rep] at x
    obtain ⟨a, vs, rfl, ga, ht, hr⟩ := x
    obtain ⟨T, h1, h2, h3, h4⟩ := Reps.add hgd l vs hn hr T₁ H hT
    by_cases hm : ∃ p ∈ T, p.1 = a
    · obtain ⟨p, hp, rfl⟩ := hm
      obtain ⟨ws, hw⟩ := h3.tup p hp
      have : (p.1, isT ws.toArray) ∈ T := by rw [← hw]; exact hp
      obtain ⟨o, e, _, n, q⟩ := h2.tup (List.mem_append_left _ this)
      obtain ⟨o', e', _, n', q'⟩ := ht
      rw [e] at e'; cases e'; rw [q] at q'
      have hws : ws = vs := by injection q' with q1 _; simpa using q1
      subst hws
      exact ⟨T, h1, h2, h3, by rw [RepD]; exact ⟨_, _, rfl, this, h4⟩⟩
    · obtain ⟨g1, g2, g3⟩ := hgd a ga
      obtain ⟨o, e, p⟩ := ht
      refine ⟨(a, isT vs.toArray) :: T, fun p hp => .tail _ (h1 p hp), h2.add' e (nc_tup p) p g1 g2 fun q hq hqe => ?_, ⟨fun q hq => ?_, fun q hq => ?_⟩, by rw [RepD]; exact ⟨a, vs, rfl, .head _, RepDs.more (fun _ h => .tail _ h) _ _ h4⟩⟩
      · rcases List.mem_append.mp hq with hq | hq
        · exact hm ⟨q, hq, hqe⟩
        · exact g3 q hq hqe
      · rcases List.mem_cons.mp hq with rfl | hq
        · exact ⟨vs, rfl⟩
        · exact h3.tup q hq
      · rcases List.mem_cons.mp hq with rfl | hq
        · exact g2
        · exact h3.new q hq
theorem Reps.add {w : World} {h₀ h : Heap} {W : List Addr} {D : Dl} {gd : Addr → Prop} (hgd : ∀ a, gd a → 714 ≤ a ∧ h₀.get? a = none ∧ ∀ p ∈ D, p.1 ≠ a) :
    ∀ (ds : List PyData) (vs : List Value), noLs ds = true → Reps gd h ds vs → ∀ T₁ : Dl, G w h₀ W h (T₁ ++ D) → TupT h₀ T₁ → ∃ T : Dl, (∀ p ∈ T₁, p ∈ T) ∧ G w h₀ W h (T ++ D) ∧ TupT h₀ T ∧ RepDs T ds vs
  | [], vs, _, x, T₁, H, hT => ⟨T₁, fun _ h => h, H, hT, by rw [Reps] at x; rw [RepDs]; exact x⟩
  | d :: ds, vs, hn, x, T₁, H, hT => by
    rw [noLs, Bool.and_eq_true] at hn
    rw [Reps] at x
    obtain ⟨v, r, rfl, x1, x2⟩ := x
    obtain ⟨T, h1, h2, h3, h4⟩ := Rep.add hgd d v hn.1 x1 T₁ H hT
    obtain ⟨T', k1, k2, k3, k4⟩ := Reps.add hgd ds r hn.2 x2 T h2 h3
    exact ⟨T', fun p hp => k1 p (h1 p hp), k2, k3, repDs_cons (RepD.more k1 _ _ h4) k4⟩
end
theorem TupT.cons {h₀ : Heap} {T : Dl} {r : Addr} {vs : List Value} (x : TupT h₀ T) (hn : h₀.get? r = none) : TupT h₀ ((r, isT vs.toArray) :: T) :=
  ⟨fun q hq => by rcases List.mem_cons.mp hq with rfl | hq; exact ⟨vs, rfl⟩; exact x.tup q hq, fun q hq => by rcases List.mem_cons.mp hq with rfl | hq; exact hn; exact x.new q hq⟩
theorem TupT.nil {h₀ : Heap} : TupT h₀ [] := ⟨fun _ h => (nomatch h), fun _ h => (nomatch h)⟩
end

end Mine
end

section -- Pure
open PySem PySem.W PySem.Calls PyProof.Rows
set_option maxHeartbeats 0
set_option linter.unusedVariables false
set_option maxRecDepth 100000
open Builtin Builtin.Str in
theorem Mine.slice_len {x : Str} {p m : Int} (h0 : 0 ≤ p) (h1 : p ≤ x.length) (hm : 0 ≤ m) : (Txt.slice x (some p) (some (p + m))).length ≤ x.length - p.toNat := by
  have key : (strSliceIndices (some p) (some (p + m)) 1 x.length).length ≤ x.length - p.toNat := by
    unfold strSliceIndices sliceRange
    simp only [show (1 : Int) > 0 by decide, if_true, List.length_map, List.length_range]
    split <;> (try simp only [Int.ediv_one]) <;> (repeat' split) <;> omega
  unfold Txt.slice
  split
  · rename_i h
    simp only [beq_self_eq_true, Bool.true_and, beq_iff_eq] at h
    rw [h] at key; exact key
  · show (List.filterMap _ (strSliceIndices (some p) (some (p + m)) 1 x.length)).toArray.size ≤ _
    rw [List.size_toArray]
    exact Nat.le_trans (List.length_filterMap_le _ _) key
namespace Mine
abbrev Item := Int × List Str × Str
def hits (text : Str) (place : Int) (x : Str) : Bool := Txt.slice text (some place) (some (place + x.length)) == x
theorem hits_len {text : Str} {place : Int} {x : Str} (h0 : 0 ≤ place) (h1 : place ≤ text.length) (h : hits text place x = true) : place + x.length ≤ text.length := by
  have e := eq_of_beq h
  have := slice_len (m := x.length) h0 h1 (by omega)
  rw [e] at this
  omega
def shift (p : Int) (l : List Item) : List Item := l.map fun i => (p + i.1, i.2)
def own (f : Str → Option (List Item)) (p : Int) (pc : Piece) : Option (List Item) := match pc.1 with
  | none => some []
  | some x => if pc.2 < 3 then some (if x.length = 0 then [] else [(p, [kinds.getD pc.2.toNat E0], x)]) else if 3 < pc.2 then (f x).map (shift p) else some []
def pcs (f : Str → Option (List Item)) : List Piece → Int → Option (List Item)
  | [], _ => some []
  | pc :: rest, p => (own f p pc).bind fun a => (pcs f rest (p + (pw pc).length)).map fun b => a ++ b
def wlen : List Piece → Nat
  | [] => 0
  | pc :: rest => (pw pc).length + wlen rest
def pickR (rules : List (List Piece)) (text : Str) (place : Int) : Option (List Piece) := rules.find? fun r => hits text place (wholeS r)
def pickT (terms : List Str) (text : Str) (place : Int) : Option (List Piece) := (terms.find? fun x => hits text place x).map fun x => [(some x, 2)]
def pick (rules : List (List Piece)) (terms : List Str) (root : Bool) (text : Str) (place : Int) : Option (List Piece) := if root then pickR rules text place else pickT terms text place
abbrev NL : Str := Str.ofString "\n"
def missItem (text : Str) (place : Int) : Item := (place, if Txt.item text place == NL then ["Text", "Whitespace"] else ["Error"], Txt.item text place)
/-- the plain machine, with fuel -/
def mc (rules : List (List Piece)) (terms : List Str) : Nat → Bool → Str → Int → Option (List Item)
  | 0, _, _, _ => none
  | n + 1, root, text, place =>
    if place < text.length then
      match pick rules terms root text place with
      | none => (mc rules terms n (root || Txt.item text place == NL) text (place + 1)).map fun r => missItem text place :: r
      | some ps => (pcs (fun x => mc rules terms n false x 0) ps place).bind fun a => (mc rules terms n root text (place + wlen ps)).map fun r => a ++ r
    else some []
theorem app_nil {x : Str} : E0 ++ x = x := Str.append_left_empty (by decide +kernel)
theorem glued_len : ∀ (l : List Str), (Txt.join E0 l).length = (l.map (·.length)).sum := by
  intro l
  show (Builtin.Str.glued E0 l).length = _
  rw [size_glued]
  have : E0.length = 0 := by decide +kernel
  rw [this]; omega
theorem whole_len : ∀ (ps : List Piece), (wholeS ps).length = wlen ps := by
  intro ps
  unfold wholeS
  rw [glued_len]
  induction ps with
  | nil => rfl
  | cons p ps ih => simp only [List.map_cons, List.sum_cons, wlen, ih]
theorem pcs_some {f : Str → Option (List Item)} : ∀ {ps : List Piece} {p : Int}, (∀ pc ∈ ps, ∀ x, pc.1 = some x → 3 < pc.2 → ∃ r, f x = some r) → ∃ r, pcs f ps p = some r
  | [], _, _ => ⟨[], rfl⟩
  | pc :: rest, p, h => by
    obtain ⟨b, hb⟩ := pcs_some (ps := rest) (p := p + (pw pc).length) fun q hq => h q (.tail _ hq)
    have ha : ∃ a, own f p pc = some a := by
      unfold own
      cases e : pc.1 with
      | none => exact ⟨_, rfl⟩
      | some x =>
        dsimp only
        split
        · exact ⟨_, rfl⟩
        · split
          · rename_i _ h3
            obtain ⟨r, hr⟩ := h pc (.head _) x e h3
            exact ⟨_, by rw [hr]; rfl⟩
          · exact ⟨_, rfl⟩
    obtain ⟨a, ha⟩ := ha
    exact ⟨a ++ b, by rw [pcs, ha, hb]; rfl⟩
theorem wlen_ge {ps : List Piece} {pc : Piece} (h : pc ∈ ps) {x : Str} (e : pc.1 = some x) : x.length ≤ wlen ps := by
  induction ps with
  | nil => cases h
  | cons q ps ih =>
    rcases List.mem_cons.mp h with rfl | h
    · have : pw pc = x := by unfold pw; rw [e]; rfl
      rw [wlen, this]; omega
    · have := ih h; rw [wlen]; omega
/-- fuel enough: an answer -/
theorem mc_some {rules : List (List Piece)} {terms : List Str} (hr : ∀ r ∈ rules, 1 ≤ wlen r) (ht : ∀ x ∈ terms, 1 ≤ x.length) :
    ∀ (n : Nat) (root : Bool) (text : Str) (place : Int), 0 ≤ place → place ≤ text.length → 2 * (text.length - place.toNat) + (if root then 1 else 0) < n → ∃ r, mc rules terms n root text place = some r
  | 0, _, _, _, _, _, h => absurd h (Nat.not_lt_zero _)
  | n + 1, root, text, place, h0, h1, h => by
    rw [mc]
    split
    · rename_i hlt
      cases e : pick rules terms root text place with
      | none =>
        obtain ⟨r, hr'⟩ := mc_some hr ht n (root || Txt.item text place == NL) text (place + 1) (by omega) (by omega) (by cases root <;> (simp only [Bool.true_or, Bool.false_or, if_true, if_false, Bool.false_eq_true] at h ⊢) <;> (try split) <;> omega)
        exact ⟨_, by dsimp only; rw [hr']; rfl⟩
      | some ps =>
        dsimp only
        have hw : place + wlen ps ≤ text.length ∧ 1 ≤ wlen ps ∧ (root = false → ∀ pc ∈ ps, ¬ 3 < pc.2) := by
          unfold pick at e
          split at e
          · rename_i hroot
            unfold pickR at e
            have h2 := List.find?_some e
            have h3 := List.mem_of_find?_eq_some e
            have h4 := hits_len h0 h1 h2
            rw [whole_len] at h4
            exact ⟨h4, hr _ h3, fun q => by rw [hroot] at q; cases q⟩
          · unfold pickT at e
            cases e2 : terms.find? fun x => hits text place x with
            | none => rw [e2] at e; cases e
            | some x =>
              rw [e2] at e; cases e
              have h2 := List.find?_some e2
              have h3 := List.mem_of_find?_eq_some e2
              have h4 := hits_len h0 h1 h2
              have h5 : wlen [((some x, 2) : Piece)] = x.length := by simp [wlen, pw]
              rw [h5]
              exact ⟨h4, ht _ h3, fun _ pc hpc => by rw [List.mem_singleton.mp hpc]; show ¬ (3 : Int) < 2; decide⟩
        obtain ⟨hw1, hw2, hw3⟩ := hw
        obtain ⟨b, hb⟩ := mc_some hr ht n root text (place + wlen ps) (by omega) hw1 (by split at h <;> (split) <;> first | omega | simp_all)
        obtain ⟨a, ha⟩ := pcs_some (f := fun x => mc rules terms n false x 0) (ps := ps) (p := place) fun pc hpc x hx h3 => by
          have hroot : root = true := by
            cases hq : root with
            | true => rfl
            | false => exact absurd h3 (hw3 hq pc hpc)
          have := wlen_ge hpc hx
          exact mc_some hr ht n false x 0 (by omega) (by omega) (by rw [hroot] at h; simp only [if_true] at h; simp; omega)
        exact ⟨_, by rw [ha]; dsimp only [Option.bind]; rw [hb]; rfl⟩
    · exact ⟨_, rfl⟩
end Mine
end

section -- R11
open PySem PySem.W PySem.Calls PyProof.Rows
set_option linter.unusedVariables false
set_option maxRecDepth 100000
namespace Mine
theorem g_keptH {w : World} {h₀ : Heap} {W : List Addr} {D : Dl} : KeptH (fun h => G w h₀ W h D) := fun _ ob H => H.ext fun _ _ e => Heap.get?_push_of_some _ e
section
variable {w : World} {A : Around} {E : Value → Shared → Prop} {h₀ h : Heap} {W : List Addr} {D : Dl} {env : Env} {p pos : Pos} {g : Array GenState} {d : Drawn} {t : Nat} {os : OsState}
/-- x[i:j] of a text -/
theorem s_slice {value lo up : Expr} {x : Str} {tx : Tok} {i j : Int} {Q : Value → Shared → Prop} (hz : x.length ≤ 100000)
    (hv : wpAny (MM w) A (eval value env) (fun o s₁ => o = .str x tx ∧ wpAny (MM w) A (eval lo env) (fun l s₂ => (∃ tl, l = .int i tl) ∧ wpAny (MM w) A (eval up env) (fun u s₃ => (∃ tu, u = .int j tu) ∧
      ∃ h₃ t₃ D₃, s₃ = ⟨h₃, g, d, t₃, os⟩ ∧ G w h₀ W h₃ D₃ ∧ ∀ h' tk t', G w h₀ W h' D₃ → Q (.str (Txt.slice x (some i) (some j)) tk) ⟨h', g, d, t', os⟩) E s₂) E s₁) E ⟨h, g, d, t, os⟩)
    (ht : ∀ o r, letTemporaryGo value o r = pure () := by intro _ _; rfl) :
    wpAny (MM w) A (eval (.Subscript value (.Slice (some lo) (some up) none p) pos) env) Q E ⟨h, g, d, t, os⟩ := by
  refine Subscript_Slice (wpAny_mono hv (fun o s₁ e => ?_) fun _ _ x => x) ht
  obtain ⟨rfl, e⟩ := e
  refine wpAny_Slice (evalPart_some_step (wpAny_mono e (fun l s₂ e => ?_) fun _ _ x => x))
  obtain ⟨⟨tl, rfl⟩, e⟩ := e
  refine evalPart_some_step (wpAny_mono e (fun u s₃ e => ?_) fun _ _ x => x)
  obtain ⟨⟨tu, rfl⟩, h₃, t₃, D₃, rfl, H₃, q⟩ := e
  refine evalPart_none_step ?_
  exact SBH.sliceItem_ss (P := fun h => G w h₀ W h D₃) g_keptH H₃ (fun h' tk k H' => q h' tk k H') (Nat.le_trans hz (by decide +kernel))
end
theorem n_cellG {w : World} {A : Around} {E : Value → Shared → Prop} {h₀ h : Heap} {W : List Addr} {D : Dl} {L c : Addr} {ns : List (Str × NameKind)} {cl : List (Str × Addr)} {env : Env} {x : Str} {v : Value} {p : Pos}
    {g : Array GenState} {d : Drawn} {t : Nat} {os : OsState} {Q : Value → Shared → Prop} (Ev : EnvOk env L ns cl) (hx : (x, .cell) ∈ ns) (hc : (x, c) ∈ cl) (H : G w h₀ W h D) (hm : (c, isC (some v)) ∈ D) (q : Q v ⟨h, g, d, t, os⟩)
    (hd : (x == ("__debug__" : Str)) = false := by decide +kernel) : wpAny (MM w) A (eval (.Name x p) env) Q E ⟨h, g, d, t, os⟩ := n_cell Ev hx hc (H.get hm) q hd
theorem b_neg {w : World} {A : Around} {E : Value → Shared → Prop} {h : Heap} {g : Array GenState} {d : Drawn} {t : Nat} {os : OsState} {Q : Value → Shared → Prop} {i : Int} {ti : Tok} (q : ∀ tk t', Q (.int (-i) tk) ⟨h, g, d, t', os⟩) : wpAny (MM w) A (unaryOp .USub (.int i ti)) Q E ⟨h, g, d, t, os⟩ := neg_int (q _ _)
theorem last_neg {vs : List Value} {v : Value} (h : vs.getLast? = some v) : -(vs.length : Int) ≤ -1 ∧ vs[(-1 + (vs.length : Int)).toNat]? = some v := by
  rw [List.getLast?_eq_getElem?] at h
  have hn : vs ≠ [] := fun q => by subst q; cases h
  have hp := List.length_pos_iff.mpr hn
  refine ⟨by omega, ?_⟩
  have : (-1 + (vs.length : Int)).toNat = vs.length - 1 := by omega
  rw [this]; exact h
theorem v_none_none : (Value.none == Value.none) = true := rfl
theorem v_str_none {x : Str} {t : Tok} : (Value.str x t == Value.none) = false := rfl
theorem v_ref_none {a : Addr} : (Value.ref a == Value.none) = false := rfl
theorem whole_small {ps : List Piece} (hz : ∀ p ∈ ps, ∀ x, p.1 = some x → x.length ≤ 100) (hl : ps.length ≤ 3) : (wholeS ps).length ≤ 300 := by
  unfold wholeS
  rw [glued_len]
  have := sum_le _ (pw_small hz)
  rw [List.length_map] at this; omega
theorem G.fresh {w : World} {h₀ h : Heap} {D : Dl} (H : G w h₀ [] h D) {a : Addr} {P : Pr} (hm : (a, P) ∈ D) : h₀.get? a = none := (H.dyn _ hm).2.resolve_left List.not_mem_nil
section
variable {w : World} {h₀ h : Heap} {W : List Addr} {x a b c e f : Addr × Pr} {T : Dl} {X : Prop}
theorem g_mv1 (H : G w h₀ W h (x :: a :: T)) (q : G w h₀ W h (a :: x :: T) → X) : X := q (H.perm (List.perm_middle (l₁ := [a])))
theorem g_mv2 (H : G w h₀ W h (x :: a :: b :: T)) (q : G w h₀ W h (a :: b :: x :: T) → X) : X := q (H.perm (List.perm_middle (l₁ := [a, b])))
theorem g_mv3 (H : G w h₀ W h (x :: a :: b :: c :: T)) (q : G w h₀ W h (a :: b :: c :: x :: T) → X) : X := q (H.perm (List.perm_middle (l₁ := [a, b, c])))
theorem g_mv4 (H : G w h₀ W h (x :: a :: b :: c :: e :: T)) (q : G w h₀ W h (a :: b :: c :: e :: x :: T) → X) : X := q (H.perm (List.perm_middle (l₁ := [a, b, c, e])))
theorem g_mv5 (H : G w h₀ W h (x :: a :: b :: c :: e :: f :: T)) (q : G w h₀ W h (a :: b :: c :: e :: f :: x :: T) → X) : X := q (H.perm (List.perm_middle (l₁ := [a, b, c, e, f])))
end
/-- some pieces, as a list that may be walked -/
def Cho (w : World) (h₀ : Heap) (U : Dl) (ps : List Piece) (v : Value) : Prop := ∃ (a : Addr) (vs : List Value), v = .ref a ∧ vs.length = ps.length ∧ ∀ h' D, G w h₀ [] h' D → (∀ p ∈ U, p ∈ D) →
  h'.IsList a vs.toArray ∧ ∀ i (hi : i < ps.length), ∃ (r : Addr) (pv : Value) (t : Tok), vs[i]? = some (.ref r) ∧ optV ps[i].1 pv ∧ IsTup h' r #[pv, .int ps[i].2 t]
theorem Cho.more {w h₀ U U' ps v} (x : Cho w h₀ U ps v) (hu : ∀ p ∈ U, p ∈ U') : Cho w h₀ U' ps v := by
  obtain ⟨a, vs, e, l, x⟩ := x
  exact ⟨a, vs, e, l, fun h' D H hD => x h' D H fun p hp => hD p (hu p hp)⟩
theorem Cho.of_rep {w h₀ U ps v} {gd : Addr → Prop} (hg : ∀ a, gd a → 714 ≤ a) (x : Rep gd h₀ (.list (piecesD ps)) v) : Cho w h₀ U ps v := by
  obtain ⟨a, vs, rfl, ga, hl, r⟩ := Rep.listE x
  refine ⟨a, vs, rfl, by have := r.len; simpa using this, fun h' D H _ => ⟨H.old hl (hg _ ga) List.not_mem_nil, fun i hi => ?_⟩⟩
  obtain ⟨v, hv, rv⟩ := r.get (i := i) (d := pieceD ps[i]) (by simp [piecesD, hi])
  obtain ⟨r, pv, tp, rfl, gr, ht, hp⟩ := Rep.pieceE rv
  exact ⟨r, pv, tp, hv, hp, H.oldT ht (hg _ gr) List.not_mem_nil⟩
theorem Cho.word {w h₀} {U : Dl} {a r : Addr} {x : Str} {t t' : Tok} (m1 : (a, isPL [.ref r]) ∈ U) (m2 : (r, isT [.str x t, .int 2 t'].toArray) ∈ U) : Cho w h₀ U [(some x, 2)] (.ref a) := by
  refine ⟨a, _, rfl, rfl, fun h' D H hD => ⟨H.pl (hD _ m1), fun i hi => ?_⟩⟩
  obtain rfl : i = 0 := by simpa using hi
  exact ⟨r, _, _, rfl, ⟨_, rfl⟩, H.tup (hD _ m2)⟩
def ChoO (w : World) (h₀ : Heap) (U : Dl) (o : Option (List Piece)) (v : Value) : Prop := match o with
  | none => v = .none
  | some ps => Cho w h₀ U ps v
theorem find_snoc {α : Type} {p : α → Bool} {l : List α} {i : Nat} (hi : i < l.length) : (l.take (i + 1)).find? p = ((l.take i).find? p).or (if p l[i] then some l[i] else none) := by
  rw [List.take_add_one, List.getElem?_eq_getElem hi, List.find?_append]
  congr 1
  simp only [Option.toList, List.find?_cons, List.find?_nil]
  cases p l[i] <;> rfl
theorem pick_small {rules : List (List Piece)} {terms : List Str} {root : Bool} {text : Str} {place : Int} {ps : List Piece} (h : pick rules terms root text place = some ps) : (ps ∈ rules) ∨ ∃ x ∈ terms, ps = [(some x, 2)] := by
  unfold pick at h
  split at h
  · exact .inl (List.mem_of_find?_eq_some h)
  · unfold pickT at h
    cases e : terms.find? fun x => hits text place x with
    | none => rw [e] at h; cases h
    | some x => rw [e] at h; cases h; exact .inr ⟨x, List.mem_of_find?_eq_some e, rfl⟩
end Mine
end

section -- R12
open PySem PySem.W PySem.Calls PyProof.Rows
set_option linter.unusedVariables false
set_option maxRecDepth 100000
namespace Mine
section
variable {w : World} {h₀ h : Heap} {W : List Addr} {x a b c e f f' k l : Addr × Pr} {T : Dl} {X : Prop}
theorem g_mv6 (H : G w h₀ W h (x :: a :: b :: c :: e :: f :: f' :: T)) (q : G w h₀ W h (a :: b :: c :: e :: f :: f' :: x :: T) → X) : X := q (H.perm (List.perm_middle (l₁ := [a, b, c, e, f, f'])))
theorem g_mv8 (H : G w h₀ W h (x :: a :: b :: c :: e :: f :: f' :: k :: l :: T)) (q : G w h₀ W h (a :: b :: c :: e :: f :: f' :: k :: l :: x :: T) → X) : X := q (H.perm (List.perm_middle (l₁ := [a, b, c, e, f, f', k, l])))
end
theorem RepD.tupE {T l v} (x : RepD T (.tuple l) v) : ∃ a vs, v = .ref a ∧ (a, isT (List.toArray vs)) ∈ T ∧ RepDs T l vs := by rw [RepD] at x; exact x
theorem RepD.intE {T i v} (x : RepD T (.int i) v) : ∃ t, v = .int i t := by rw [RepD] at x; exact x
theorem RepD.strE {T i v} (x : RepD T (.str i) v) : ∃ t, v = .str i t := by rw [RepD] at x; exact x
theorem RepDs.consE {T d ds vs} (x : RepDs T (d :: ds) vs) : ∃ v r, vs = v :: r ∧ RepD T d v ∧ RepDs T ds r := by rw [RepDs] at x; exact x
theorem RepDs.nilE {T vs} (x : RepDs T [] vs) : vs = [] := by rw [RepDs] at x; exact x
theorem RepDs.get {T} : ∀ {ds : List PyData} {vs : List Value} {i : Nat} {d : PyData}, RepDs T ds vs → ds[i]? = some d → ∃ v, vs[i]? = some v ∧ RepD T d v
  | [], _, _, _, _, e => by cases e
  | d :: ds, _, 0, _, x, e => by obtain ⟨v, r, rfl, y, _⟩ := x.consE; cases e; exact ⟨v, rfl, y⟩
  | d :: ds, _, i + 1, _, x, e => by obtain ⟨v, r, rfl, _, z⟩ := x.consE; have e' : ds[i]? = some _ := e; obtain ⟨v', a, b⟩ := RepDs.get z e'; exact ⟨v', a, b⟩
theorem RepD.itemE {T} {i : Item} {v} (x : RepD T (.tuple [.int i.1, .tuple (strsD i.2.1), .str i.2.2]) v) : ∃ r t nv t', v = .ref r ∧ (r, isT #[.int i.1 t, nv, .str i.2.2 t']) ∈ T ∧ RepD T (.tuple (strsD i.2.1)) nv := by
  obtain ⟨a, vs, rfl, m, r⟩ := x.tupE
  obtain ⟨v1, r, rfl, x1, r⟩ := r.consE
  obtain ⟨v2, r, rfl, x2, r⟩ := r.consE
  obtain ⟨v3, r, rfl, x3, r⟩ := r.consE
  obtain rfl := r.nilE
  obtain ⟨t1, rfl⟩ := x1.intE
  obtain ⟨t3, rfl⟩ := x3.strE
  exact ⟨a, t1, v2, t3, rfl, m, x2⟩
theorem noLs_strs : ∀ (l : List Str), noLs (strsD l) = true
  | [] => rfl
  | _ :: l => by show noLs (.str _ :: strsD l) = true; rw [noLs, noLs_strs l]; rfl
theorem noLs_items : ∀ (l : List Item), noLs (l.map fun i => PyData.tuple [.int i.1, .tuple (strsD i.2.1), .str i.2.2]) = true
  | [] => rfl
  | i :: l => by
    rw [List.map_cons, noLs, noLs_items l]; simp [noL, noLs, noLs_strs]
/-- rows that a call gave are brought in hand -/
theorem rows_in {w : World} {h₀ h h' : Heap} {D₁ U : Dl} {ds : List PyData} {v : Value} {X : Prop} (H : G w h₀ [] h (D₁ ++ U)) (S' : St w h') (K' : Kp [] h h') (r : Rep (Fresh h) h' (.list ds) v) (hn : noLs ds = true)
    (q : ∀ aB vB T, v = .ref aB → RepDs T ds vB → h₀.get? aB = none → G w h₀ [] h' ((aB, isL (List.toArray vB)) :: (D₁ ++ (T ++ U))) → X) : X := by
  have H₈ := H.call S' K'
  obtain ⟨aB, vB, rfl, gB, lB, rB⟩ := Rep.listE r
  obtain ⟨T, _, HT, hTT, rT⟩ := Reps.add (D := D₁ ++ U) (gd := Fresh h) (fun a ga => ⟨ga.2, (H.new ga.1).1, (H.new ga.1).2⟩) ds vB hn rB [] H₈ TupT.nil
  obtain ⟨o, e, p⟩ := lB
  have n := H.new gB.1
  refine q aB vB T rfl rT n.1 (G.perm (HT.add' (P := isL (List.toArray vB)) e (nc_list p) p gB.2 n.1 fun p' hp' => ?_) ?_)
  · rcases List.mem_append.mp hp' with hp' | hp'
    · intro q
      obtain ⟨ws, hw⟩ := hTT.tup _ hp'
      obtain ⟨o', e', _, pp⟩ := HT.own _ (List.mem_append_left _ hp')
      rw [hw] at pp
      rw [q, e] at e'; cases e'
      have := p.1.symm.trans pp.1
      exact absurd (Value.type.inj this) (by decide)
    · exact n.2 p' hp'
  · refine List.Perm.cons _ ?_
    rw [← List.append_assoc, ← List.append_assoc]
    exact List.Perm.append_right _ List.perm_append_comm
theorem StrsAre.at : ∀ {vs : List Value} {ys : List Str} {i : Nat} {y : Str}, StrsAre vs ys → ys[i]? = some y → ∃ t, vs[i]? = some (.str y t)
  | _, _, _, _, .nil, e => by cases e
  | _, _, 0, _, .cons y t r, e => by cases e; exact ⟨t, rfl⟩
  | _, _, i + 1, _, .cons (ys := ys) y t r, e => by have e' : ys[i]? = some _ := e; obtain ⟨t', h⟩ := StrsAre.at r e'; exact ⟨t', h⟩
section
variable {w : World} {A : Around} {E : Value → Shared → Prop} {h₀ h : Heap} {W : List Addr} {D D' : Dl} {L c a b I : Addr} {g : Array GenState} {d : Drawn} {t : Nat} {os : OsState} {its its2 : List Value}
theorem b_addP {Q : Value → Shared → Prop} (H : G w h₀ W h D) (hl : h.IsList a its.toArray) (hb : h.IsList b its2.toArray) (hsz : its.length + its2.length ≤ 100000)
    (q : ∀ r h', G w h₀ W h' ((r, isPL (its ++ its2)) :: D) → Kp [] h h' → h₀.get? r = none → h.get? r = none → Q (.ref r) ⟨h', g, d, t, os⟩) : wpAny (MM w) A (binaryOp .Add (.ref a) (.ref b)) Q E ⟨h, g, d, t, os⟩ := by
  obtain ⟨⟨cls, dd, data, sl⟩, ho, hc, n, hd⟩ := id hl
  obtain ⟨⟨cls2, dd2, data2, sl2⟩, ho2, hc2, n2, hd2⟩ := id hb
  simp only at hc hd hc2 hd2
  subst hc hd hc2 hd2
  have e : its.toArray ++ its2.toArray = (its ++ its2).toArray := by simp
  refine concat_meets ⟨_, ho, rfl⟩ ⟨_, ho2, rfl⟩ noFill_list_add seq_list_add PySem.F.slot_list_add PySem.F.entry_list_add (PySem.F.args_list_add_2 _ _) (list_addW a b its.toArray its2.toArray n n2 dd dd2 sl sl2 (by simpa using Nat.le_trans hsz (by decide +kernel))) ⟨ho, ho2, ?_⟩
  rw [e]
  exact q _ _ (H.push (P := isPL (its ++ its2)) _ rfl (nc_list (its := (its ++ its2).toArray) ⟨rfl, 0, rfl⟩) ⟨rfl, rfl, rfl, 0, rfl⟩) ((Kp.refl [] h).ext fun b o e => Heap.get?_push_of_some _ e) (H.new (get_size h)).1 (get_size h)
end
/-! how many items -/
theorem pcs_len {f : Str → Option (List Item)} (hf : ∀ x r, f x = some r → r.length ≤ x.length) : ∀ {ps : List Piece} {p : Int} {a}, pcs f ps p = some a → a.length ≤ wlen ps
  | [], _, _, h => by rw [pcs] at h; cases h; exact Nat.zero_le _
  | pc :: rest, p, a, h => by
    rw [pcs] at h
    obtain ⟨a0, ho, h2⟩ := Option.bind_eq_some_iff.mp h
    obtain ⟨b, hb, rfl⟩ := Option.map_eq_some_iff.mp h2
    have h1 := pcs_len hf hb
    rw [wlen, List.length_append]
    have h0 : a0.length ≤ (pw pc).length := by
      unfold own at ho
      unfold pw
      cases e : pc.1 with
      | none => rw [e] at ho; cases ho; exact Nat.zero_le _
      | some x =>
        rw [e] at ho
        dsimp only at ho
        show _ ≤ x.length
        split at ho
        · cases ho
          split
          · exact Nat.zero_le _
          · simp only [List.length_singleton]; omega
        · split at ho
          · obtain ⟨r, hr, rfl⟩ := Option.map_eq_some_iff.mp ho
            have := hf x r hr
            simpa [shift] using this
          · cases ho; exact Nat.zero_le _
    omega
theorem mc_len {rules : List (List Piece)} {terms : List Str} : ∀ (n : Nat) {root : Bool} {text : Str} {place : Int} {its}, 0 ≤ place → place ≤ text.length → mc rules terms n root text place = some its → its.length ≤ text.length - place.toNat
  | 0, _, _, _, _, _, _, h => by rw [mc] at h; cases h
  | n + 1, root, text, place, its, h0, h1, h => by
    rw [mc] at h
    split at h
    · rename_i hlt
      cases e : pick rules terms root text place with
      | none =>
        rw [e] at h
        obtain ⟨r, hr, rfl⟩ := Option.map_eq_some_iff.mp h
        have := mc_len n (by omega) (by omega) hr
        rw [List.length_cons]; omega
      | some ps =>
        rw [e] at h
        obtain ⟨a, ha, h2⟩ := Option.bind_eq_some_iff.mp h
        obtain ⟨b, hb, rfl⟩ := Option.map_eq_some_iff.mp h2
        have hh : hits text place (wholeS ps) = true := by
          unfold pick at e
          split at e
          · unfold pickR at e; exact List.find?_some (p := fun r => hits text place (wholeS r)) e
          · unfold pickT at e
            cases e2 : terms.find? fun x => hits text place x with
            | none => rw [e2] at e; cases e
            | some x =>
              rw [e2] at e; cases e
              have : wholeS [((some x, 2) : Piece)] = x := by
                show Txt.join E0 [x] = x
                show Builtin.Str.glued E0 [x] = x
                simp [Builtin.Str.glued]
              rw [this]
              exact List.find?_some (p := fun x => hits text place x) e2
        have hl := hits_len h0 h1 hh
        rw [whole_len] at hl
        have h3 := pcs_len (f := fun x => mc rules terms n false x 0) (fun x r hr => by have := mc_len n (Int.le_refl _) (by omega) hr; simpa using this) ha
        have h4 := mc_len n (by omega) hl hb
        rw [List.length_append]; omega
    · cases h; exact Nat.zero_le _
theorem mc_len0 {rules terms n root text its} (h : mc rules terms n root text 0 = some its) (hx : text.length ≤ 100) : its.length ≤ 100 := by
  have := mc_len n (Int.le_refl _) (by omega) h
  omega
end Mine
end

section -- F7d
open PySem PySem.W PySem.Calls PyProof.Rows
set_option maxHeartbeats 0
set_option linter.unusedVariables false
set_option maxRecDepth 100000
namespace Mine
abbrev itemD (i : Item) : PyData := .tuple [.int i.1, .tuple (strsD i.2.1), .str i.2.2]
abbrev itemsD (l : List Item) : List PyData := l.map itemD
abbrev rulesD (l : List (List Piece)) : List PyData := l.map fun r => .list (piecesD r)
abbrev MFr (tb tx st ru te fo ch rl wh wd nm pc dd rw : Option Value) : Nl := [("table", tb), ("text", tx), ("stack", st), ("rules", ru), ("terms", te), ("found", fo), ("chosen", ch), ("rule", rl), ("whole", wh), ("word", wd), ("names", nm), ("piece", pc), ("deed", dd), ("rows", rw)]
abbrev NSM : List (Str × NameKind) := [("table", .local), ("text", .local), ("stack", .local), ("rules", .local), ("terms", .local), ("found", .local), ("place", .cell), ("chosen", .local), ("rule", .local), ("whole", .local), ("word", .local), ("names", .local), ("piece", .local), ("deed", .local), ("rows", .local), ("len", .globalImplicit), ("_law_whole", .globalImplicit), ("_law_kinds", .globalImplicit), ("_law_machine", .globalImplicit)]
/-- a stack: what its last item says -/
def StkOk (h : Heap) (U : Dl) (v : Value) (root : Bool) : Prop := ∃ sA vs s t, v = .ref sA ∧ vs.getLast? = some (.str s t) ∧ (s == Str.ofString "root") = root ∧ ((h.IsList sA vs.toArray ∧ 714 ≤ sA) ∨ (sA, isPL vs) ∈ U)
theorem StkOk.more {h U U' v root} (x : StkOk h U v root) (hu : ∀ p ∈ U, p ∈ U') : StkOk h U' v root := by
  obtain ⟨sA, vs, s, t, e, a, b, c⟩ := x
  exact ⟨sA, vs, s, t, e, a, b, c.imp_right (hu _)⟩
/-- rules and words, small and none empty -/
structure TabOk (rules : List (List Piece)) (terms : List Str) : Prop where
  r1 : ∀ r ∈ rules, 1 ≤ wlen r
  r2 : ∀ r ∈ rules, r.length ≤ 3 ∧ ∀ p ∈ r, 0 ≤ p.2 ∧ p.2 ≤ 5 ∧ ∀ x, p.1 = some x → x.length ≤ 100
  r3 : rules.length ≤ 10
  t1 : ∀ x ∈ terms, 1 ≤ x.length ∧ x.length ≤ 100
  t2 : terms.length ≤ 10
end Mine
end

section -- I1
open PySem PySem.W PySem.Calls PyProof.Rows
set_option linter.unusedVariables false
set_option maxRecDepth 100000
namespace Mine
/-! instances of own classes -/
def isIn (C dx : Addr) : Pr := fun o => o = instObj C dx
/-- a dict of names: these alone -/
def nsx (k : Nat) (l : List (Str × Value)) : Pr := fun o => ∃ es ep, o.data = .dict es ep ∧ StrKeys es ∧ es.size ≤ k ∧ ∀ x, nsFind es x = l.lookup x
theorem nc_in {o : Obj} {C dx : Addr} (h : isIn C dx o) : NC o := fun q => by rw [h] at q; cases q
theorem nc_dict {o : Obj} {es : Array DictEntry} {ep : Nat} (h : o.data = .dict es ep) : NC o := fun _ vs q => by rw [h] at q; cases q
theorem nsx_put {k : Nat} {l : List (Str × Value)} {o : Obj} {name : Str} {hs : Int} {t : Tok} {v : Value} (h : nsx k l o) : nsx (k + 1) ((name, v) :: l) (Obj.putName name hs (.str name t) v o) ∧ (Obj.putName name hs (.str name t) v o).isFreed = false := by
  obtain ⟨es, ep, hd, hk, hz, hm⟩ := h
  obtain ⟨c, d, dt, sl⟩ := o
  dsimp only at hd
  subst hd
  have hl : ∀ x : Str, (if x = name then some v else l.lookup x) = ((name, v) :: l).lookup x := fun x => by
    rw [List.lookup_cons]
    by_cases e : x = name
    · subst e; simp
    · have : (x == name) = false := by simpa using e
      rw [if_neg e, this]
  cases hi : es.findIdx? (·.key.isStr name) with
  | some i =>
    have e : Obj.putName name hs (.str name t) v ⟨c, d, .dict es ep, sl⟩ = ⟨c, d, .dict (es.modify i fun e => { e with val := v }) ep, sl⟩ := by simp only [Obj.putName_eq, Obj.putNameByArray, hi]
    rw [e]
    refine ⟨⟨_, _, rfl, hk.modify _ _, by rw [Array.size_modify]; omega, fun x => ?_⟩, rfl⟩
    rw [← hl, ← hm]; exact findBy_modify (fun n v => v.isStr n) Value.isStr_inj es name x v i hi
  | none =>
    have e : Obj.putName name hs (.str name t) v ⟨c, d, .dict es ep, sl⟩ = ⟨c, d, .dict (es.push ⟨hs, .str name t, v⟩) (ep + 1), sl⟩ := by simp only [Obj.putName_eq, Obj.putNameByArray, hi]
    rw [e]
    refine ⟨⟨_, _, rfl, hk.push _ _ _ _, by rw [Array.size_push]; omega, fun x => ?_⟩, rfl⟩
    rw [← hl, ← hm]
    exact findBy_push (fun n v => v.isStr n) es name x _ _ v (fun y => by
      show (name == y) = decide (y = name)
      by_cases h : y = name
      · subst h; simp
      · have : ¬ name = y := fun e => h e.symm
        simp [h, this]) hi
theorem nsx_look {k : Nat} {l : List (Str × Value)} {o : Obj} {name : Str} (h : nsx k l o) : lookIn name o = some (l.lookup name) := by
  obtain ⟨es, ep, hd, hk, hz, hm⟩ := h
  have hany : es.toList.any (·.refKey) = false := by
    rw [Array.any_toList, Array.any_eq_false']; intro e he; obtain ⟨n, t, h⟩ := hk e he; simp [DictEntry.refKey, h]
  unfold lookIn
  rw [hd]
  dsimp only
  have := hm name
  unfold nsFind findBy at this
  rw [← Array.find?_toList] at this
  cases e : es.toList.find? (·.key.isStr name) with
  | some x => rw [e] at this; rw [← this]; rfl
  | none => rw [e] at this; rw [← this, hany]; rfl
section
variable {w : World} {A : Around} {E : Value → Shared → Prop} {h₀ h : Heap} {W : List Addr} {D D' : Dl} {x dx C : Addr} {name : Str} {v : Value} {l : List (Str × Value)} {k : Nat}
  {g : Array GenState} {d : Drawn} {t : Nat} {os : OsState}
theorem G.inst (H : G w h₀ W h D) (hx : (x, isIn C dx) ∈ D) (hd : (dx, nsx k l) ∈ D) : ∃ od, InstAt h x (instObj C dx) C (some od) ∧ nsx k l od ∧ h.get? dx = some od := by
  obtain ⟨o, e, rfl⟩ := H.get hx
  obtain ⟨od, e', p⟩ := H.get hd
  exact ⟨od, ⟨e, rfl, rfl, e'⟩, p, e'⟩
/-- x.name = v -/
theorem a_set {Q : Unit → Shared → Prop} (H : G w h₀ W h D) (hx : (x, isIn C dx) ∈ D) (hd : (dx, nsx k l) ∈ D) (hk : k ≤ 100)
    (hc : (findIn (KK w) (.ref C) "__setattr__" == some (some (.builtin "object.__setattr__")) && plainOver (KK w) C && takerIn (KK w) C name == some none && (clsIn (KK w) C).any (·.hasDict)) = true)
    (u : Upd dx (nsx (k + 1) ((name, v) :: l)) D D') (q : ∀ h' t', G w h₀ W h' D' → Q () ⟨h', g, d, t', os⟩) : wpAny (MM w) A (setAttr (.ref x) name v) Q E ⟨h, g, d, t, os⟩ := by
  simp only [Bool.and_eq_true, beq_iff_eq] at hc
  obtain ⟨⟨⟨c1, c2⟩, c3⟩, c4⟩ := hc
  obtain ⟨od, I, p, eD⟩ := H.inst hx hd
  refine set_plain (K := KK w) H.st.k I c1 ?_
  refine osa_open (K := KK w) H.st.k I c2 c3 fun b => ?_
  obtain ⟨cd, hcd, hd'⟩ := any_some c4
  have I' := I
  obtain ⟨hxo, -, -, -⟩ := I'
  have hlook := nsx_look (name := name) p
  obtain ⟨es₀, n₀, q₀, hk₀, hz₀, hm₀⟩ := id p
  refine wpAny_bind (wpAny_pure (wpAny_bind (wpAny_bind (wpAny_loadPart hxo (wpAny_bind ((looks_clsIn H.st.k hcd).here ?_))))))
  rw [hd']
  refine wpAny_pure (a := some dx) (wpAny_bind (wpAny_pure (wpAny_bind ?_)))
  unfold nsSet
  refine wpAny_bind (wpAny_bind (wpAny_askSetting (wpAny_pure (wpAny_bind (wpAny_mkText (wpAny_bind (wpAny_loadPart eD ?_)))))))
  rw [q₀]
  dsimp only
  have c : (!es₀.any (·.key.isStr name) && es₀.any (·.refKey)) = false := by
    have hany : es₀.any (·.refKey) = false := by
      rw [Array.any_eq_false']; intro e he; obtain ⟨n, t, h⟩ := hk₀ e he; simp [DictEntry.refKey, h]
    rw [hany, Bool.and_false]
  rw [aRefKeyMayBeTheName_at, c]
  refine wpAny_updatePart eD ?_
  obtain ⟨p', hf⟩ := nsx_put (name := name) (hs := PyData.keyHash w.params name) (t := t + 1) (v := v) p
  have D' := Heap.get?_update_self (Obj.putName name (PyData.keyHash w.params name) (.str name (t + 1)) v) eD hf
  obtain ⟨es', n', q', hk', hz', hm'⟩ := id p'
  refine wpAny_bind (wpAny_lookBehind D' (by rw [q']; exact pastItsLine_dict (Nat.le_trans hz' (by rw [sizeLine_eq]; omega))) ?_)
  exact wpAny_pure (q _ _ (H.upd u (Heap.SameBut.update ..) D' (nc_dict q') p'))
/-- x.name, of its own -/
theorem a_get {Q : Value → Shared → Prop} (H : G w h₀ W h D) (hx : (x, isIn C dx) ∈ D) (hd : (dx, nsx k l) ∈ D) (hl : l.lookup name = some v)
    (hc : (findIn (KK w) (.ref C) "__getattribute__" == some (some (.builtin "object.__getattribute__")) && findIn (KK w) (.ref C) name == some none && (clsIn (KK w) C).any (·.hasDict)) = true) (hv : handedIn v = true)
    (q : ∀ t', Q v ⟨h, g, d, t', os⟩) : wpAny (MM w) A (getAttr (.ref x) name) Q E ⟨h, g, d, t, os⟩ := by
  simp only [Bool.and_eq_true, beq_iff_eq] at hc
  obtain ⟨⟨c1, c2⟩, c3⟩ := hc
  obtain ⟨od, I, p, eD⟩ := H.inst hx hd
  obtain ⟨cd, hcd, hd'⟩ := any_some c3
  refine get_value (K := KK w) (v := v) H.st.k I c1 ?_ hv (q _)
  unfold findObj PySem.W.ownOf
  rw [hcd, c2]
  dsimp only [Option.bind_some]
  have e1 : (if cd.hasDict = true then lookIn name od else some none) = some (some v) := by rw [if_pos hd', nsx_look p, hl]
  rw [e1]
  rfl
end
end Mine
end

section -- I2
open PySem PySem.W PySem.Calls PyProof.Rows
set_option linter.unusedVariables false
set_option maxRecDepth 100000
namespace Mine
theorem AOk.under {A : Around} {k : Nat} {c : Code} (h : AOk A (k + 1)) (hw : c.weight ≤ 8) (hu : c.cUnits ≤ 64) : AOk (A.under c) k :=
  ⟨h.hd, by have := h.dp; show A.depth + c.weight + 8 * k ≤ 900; omega, by have := h.un; show A.units + c.cUnits + 64 * k ≤ 9000; omega⟩
def isM (f x : Addr) : Pr := fun o => o = methodObj (.ref f) (.ref x)
section
variable {w : World} {A : Around} {E : Value → Shared → Prop} {h₀ h : Heap} {W : List Addr} {D D' : Dl} {x dx C fI f : Addr} {name : Str} {v : Value} {l : List (Str × Value)} {k : Nat}
  {g : Array GenState} {d : Drawn} {t : Nat} {os : OsState} {R : Result → Shared → Prop} {rest : List Value} {kw : List (Str × Value)}
/-- C(..): a new object, then its __init__ -/
theorem c_make (H : G w h₀ W h D) (hc : (makesIn (KK w) C && findIn (KK w) (.ref C) "__init__" == some (some (.ref fI)) && typeIn (KK w) (.ref fI) == some (.type "function")) = true)
    (q : ∀ x dx h', G w h₀ W h' ((x, isIn C dx) :: (dx, nsx 0 []) :: D) → Kp [] h h' → h₀.get? x = none → h.get? x = none → h₀.get? dx = none →
      codeAny (MM w) (A.under (.builtin "type.__call__" ⟨.ref C :: rest, kw⟩)) (.call (.ref fI) ⟨.ref x :: rest, kw⟩) (InitBack x R) ⟨h', g, d, t, os⟩) :
    codeAny (MM w) A (.call (.ref C) ⟨rest, kw⟩) R ⟨h, g, d, t, os⟩ := by
  simp only [Bool.and_eq_true, beq_iff_eq] at hc
  obtain ⟨⟨c1, c2⟩, c3⟩ := hc
  have X := H.st.k
  refine make_core (makes_of X c1) (looks_findIn X c2) (fun self => bind_fn X self c3) (.inl rfl) ?_
  have k1 : ∀ b o, h.get? b = some o → (h.push emptyDict).get? b = some o := fun b o e => Heap.get?_push_of_some _ e
  have H1 : G w h₀ W (h.push emptyDict) ((h.objs.size, nsx 0 []) :: D) := H.push (P := nsx 0 []) emptyDict rfl (fun q => absurd (Value.type.inj q) (by decide)) ⟨#[], 0, rfl, fun e he => absurd he (by simp), Nat.le_refl _, fun x => rfl⟩
  have H2 : G w h₀ W ((h.push emptyDict).push (instObj C h.objs.size)) (((h.push emptyDict).objs.size, isIn C h.objs.size) :: (h.objs.size, nsx 0 []) :: D) := H1.push (P := isIn C h.objs.size) (instObj C h.objs.size) rfl (nc_in rfl) rfl
  rw [Heap.size_push] at H2
  have n1 : h.get? (h.objs.size + 1) = none := Heap.get?_none_of_le (Nat.le_succ _)
  exact q _ _ _ H2 ((Kp.refl [] h).ext fun b o e => Heap.get?_push_of_some _ (k1 b o e)) (H.new n1).1 n1 (H.new (get_size h)).1
/-- x.name, of its own (as an expression too) -/
theorem a_getX {ex : Bool} {Q : Value → Shared → Prop} (H : G w h₀ W h D) (hx : (x, isIn C dx) ∈ D) (hd : (dx, nsx k l) ∈ D) (hl : l.lookup name = some v)
    (hc : (findIn (KK w) (.ref C) "__getattribute__" == some (some (.builtin "object.__getattribute__")) && findIn (KK w) (.ref C) name == some none && (clsIn (KK w) C).any (·.hasDict)) = true) (hv : handedIn v = true)
    (q : ∀ t', Q v ⟨h, g, d, t', os⟩) : wpAny (MM w) A (getAttr (.ref x) name ex) Q E ⟨h, g, d, t, os⟩ := by
  simp only [Bool.and_eq_true, beq_iff_eq] at hc
  obtain ⟨⟨c1, c2⟩, c3⟩ := hc
  obtain ⟨od, I, p, eD⟩ := H.inst hx hd
  obtain ⟨cd, hcd, hd'⟩ := any_some c3
  refine get_value (K := KK w) (v := v) H.st.k I c1 ?_ hv (q _)
  unfold findObj PySem.W.ownOf
  rw [hcd, c2]
  dsimp only [Option.bind_some]
  have e1 : (if cd.hasDict = true then lookIn name od else some none) = some (some v) := by rw [if_pos hd', nsx_look p, hl]
  rw [e1]
  rfl
/-- the method of an object, for a call -/
theorem m_get {pl : Sem Bool} {Q : Value × List Value → Shared → Prop} (H : G w h₀ W h D) (hx : (x, isIn C dx) ∈ D) (hd : (dx, nsx k l) ∈ D) (hl : l.lookup name = none)
    (hc : (findIn (KK w) (.ref C) "__getattribute__" == some (some (.builtin "object.__getattribute__")) && findIn (KK w) (.ref C) "__getattr__" == some none && findIn (KK w) (.ref C) name == some (some (.ref f)) && typeIn (KK w) (.ref f) == some (.type "function")) = true)
    (q : Q (.ref f, [.ref x]) ⟨h, g, d, t, os⟩) : wpAny (MM w) A (getMethod (.ref x) name pl) Q E ⟨h, g, d, t, os⟩ := by
  simp only [Bool.and_eq_true, beq_iff_eq] at hc
  obtain ⟨⟨⟨c1, c2⟩, c3⟩, c4⟩ := hc
  obtain ⟨od, I, p, eD⟩ := H.inst hx hd
  refine method_fn (K := KK w) H.st.k I c1 c2 c3 c4 ?_ q
  show (lookIn name od).map (·.isSome) = some false
  rw [nsx_look p, hl]; rfl
/-- x.name: a bound method as an object -/
theorem a_bound {ex : Bool} {Q : Value → Shared → Prop} (H : G w h₀ W h D) (hx : (x, isIn C dx) ∈ D) (hd : (dx, nsx k l) ∈ D) (hl : l.lookup name = none)
    (hc : (findIn (KK w) (.ref C) "__getattribute__" == some (some (.builtin "object.__getattribute__")) && findIn (KK w) (.ref C) "__getattr__" == some none && findIn (KK w) (.ref C) name == some (some (.ref f)) && typeIn (KK w) (.ref f) == some (.type "function") &&
      hasDictIn (KK w) C && specialIn (KK w) (.ref f) "__get__" == some (some (.builtin "function.__get__")) && takesIn (KK w) (.ref f) == some false && !copiedNames.contains name) = true)
    (q : ∀ r h' t', G w h₀ W h' ((r, isM f x) :: D) → Kp [] h h' → h₀.get? r = none → h.get? r = none → Q (.ref r) ⟨h', g, d, t', os⟩) : wpAny (MM w) A (getAttr (.ref x) name ex) Q E ⟨h, g, d, t, os⟩ := by
  simp only [Bool.and_eq_true, beq_iff_eq, Bool.not_eq_true'] at hc
  obtain ⟨⟨⟨⟨⟨⟨⟨c1, c2⟩, c3⟩, c4⟩, c5⟩, c6⟩, c7⟩, c8⟩ := hc
  obtain ⟨od, I, p, eD⟩ := H.inst hx hd
  refine get_bind (K := KK w) H.st.k I c1 (findObj_fn c5 c3 c6 c7 c8 (by rw [nsx_look p, hl])) c2 (wpAny_call (fn_get (K := KK w) H.st.k c4 (handed_on rfl ?_)))
  exact q _ _ _ (H.push (P := isM f x) _ rfl (fun q => absurd (Value.type.inj q) (by decide)) rfl) ((Kp.refl [] h).ext fun b o e => Heap.get?_push_of_some _ e) (H.new (get_size h)).1 (get_size h)
end
end Mine
end

section -- I3
open PySem PySem.W PySem.Calls PyProof.Rows
set_option linter.unusedVariables false
set_option maxRecDepth 100000
namespace Mine
theorem bindL_gen {kindOf : Str → Option NameKind} : ∀ (binds : List (Str × Value)) (m : Str → Option Value) (x : Str) (v : Value), kindOf x = some .local → binds.reverse.lookup x = some v → bindL kindOf binds m x = some v := by
  suffices hh : ∀ (binds : List (Str × Value)) (m : Str → Option Value) (x : Str), kindOf x = some .local → bindL kindOf binds m x = (binds.reverse.lookup x).or (m x) by
    intro binds m x v hk hv
    rw [hh binds m x hk, hv]; rfl
  intro binds
  induction binds with
  | nil => intro m x _; rfl
  | cons p r ih =>
    intro m x hk
    obtain ⟨n, u⟩ := p
    by_cases hn : kindOf n = some .local
    · rw [bindL, if_pos hn, ih _ x hk, List.reverse_cons, List.lookup_append]
      cases e : r.reverse.lookup x with
      | some v => rfl
      | none =>
        simp only [Option.none_or, List.lookup_cons, List.lookup_nil]
        by_cases h : x = n
        · subst h; simp
        · have : (x == n) = false := by simpa using h
          simp [this, h]
    · rw [bindL, if_neg hn, ih _ x hk, List.reverse_cons, List.lookup_append]
      cases e : r.reverse.lookup x with
      | some v => rfl
      | none =>
        simp only [Option.none_or, List.lookup_cons, List.lookup_nil]
        have h : x ≠ n := fun q => hn (q ▸ hk)
        have : (x == n) = false := by simpa using h
        simp [this]
theorem mem_of_look {β : Type} : ∀ {l : List (Str × β)} {x : Str} {k : β}, l.lookup x = some k → (x, k) ∈ l
  | [], _, _, h => by cases h
  | (y, b) :: r, x, k, h => by
    rw [List.lookup_cons] at h
    cases e : x == y with
    | true => rw [e] at h; cases h; rw [eq_of_beq e]; exact .head _
    | false => rw [e] at h; exact .tail _ (mem_of_look h)
/-- entering a def: its arguments bound by any means; cells with what they hold -/
theorem enterB1 {w : World} {A : Around} {k : Nat} {R : Result → Shared → Prop} {h₀ h : Heap} {W : List Addr} {D : Dl} {g : Array GenState} {d : Drawn} {t : Nat} {os : OsState} {f : Addr} {o : Obj} {fd : FuncData} {body : List Stmt} {args : Args} (names : List Str) (cs : List (Str × Nat))
    (hA : AOk A (k + 1)) (H : G w h₀ W h D) (ho : h.get? f = some o) (hdat : o.data = .func fd) (hcd : h.CodeRec fd.code fd.qualname) (hbody : fd.body = .stmts body)
    (hl : (names.all (fun x => fd.scope.names.lookup x == some .local || (fd.scope.names.lookup x == some .cell && (cs.lookup x).isSome)) && (fd.scope.kind == .function) && !fd.scope.isCoroutine && !fd.scope.isGenerator && (fd.globals == mainGlobals) && (fd.builtins == builtinsNs) &&
       decide (fd.scope.names.map (·.1)).Nodup && decide (cs.map (·.1)).Nodup && decide (cs.map (·.2)).Nodup) = true) (hclo : fd.closure = [])
    (hcs : ∀ n, cellsFrom n fd.scope.names [] = cs.map fun p => (p.1, n + p.2))
    (q : wpAny (MM w) A.in1 (bindArgs fd args) (fun binds s₁ => ∃ (h₁ : Heap) (t₁ : Nat) (D₁ : Dl) (l : Nl) (cv : Str → Option Value), s₁ = ⟨h₁, g, d, t₁, os⟩ ∧ G w h₀ W h₁ D₁ ∧ binds.map (·.1) = names ∧ (decide (l.map (·.1)).Nodup && l.all fun p => !p.2.isSome || fd.scope.names.lookup p.1 == some .local) = true ∧ LocOk binds l ∧
      (∀ p ∈ cs, bindC (fun n => fd.scope.names.lookup n) binds (fun _ => none) p.1 = cv p.1) ∧
      ∀ env L c h' t', EnvOk env L fd.scope.names (cs.map fun p => (p.1, c + p.2)) → env.code = fd.code → env.qual = fd.qualname ++ ".<locals>." → AOk (A.deeper env) k → G w h₀ W h' ((L, fr l) :: (cs.map fun p => (c + p.2, isC (cv p.1))) ++ D₁) → Kp [] h₁ h' → (∀ p ∈ cs, h₁.get? (c + p.2) = none ∧ h₀.get? (c + p.2) = none) → h₀.get? L = none →
        wpAny (MM w) (A.deeper env) (execs body env) (callPost R) (fun _ _ => False) ⟨h', g, d, t', os⟩) (fun _ _ => False) ⟨h, g, d, t, os⟩) :
    codeAny (MM w) A (.call (.ref f) args) R ⟨h, g, d, t, os⟩ := by
  simp only [Bool.and_eq_true, Bool.not_eq_true', decide_eq_true_eq, beq_iff_eq] at hl
  obtain ⟨⟨⟨⟨⟨⟨⟨⟨h2, h3⟩, h4⟩, h5⟩, h6⟩, h7⟩, h8⟩, h9⟩, h9b⟩ := hl
  refine codeAny_call_function hA.room ho hdat h4 h5 hbody hcd (wpAny_mono q (fun binds s₁ x => ?_) fun _ _ x => x.elim)
  obtain ⟨h₁, t₁, D₁, l, cv, rfl, H₁, hbn, h10, hlv, hcv, q⟩ := x
  simp only [Bool.and_eq_true, decide_eq_true_eq] at h10
  obtain ⟨h10, hll'⟩ := h10
  have hll : ∀ p ∈ l, p.2.isSome = true → fd.scope.names.lookup p.1 = some .local := fun p hp hs => by
    have := List.all_eq_true.mp hll' p hp
    rw [hs] at this
    simpa using this
  have hkind : ∀ x ∈ binds, fd.scope.names.lookup x.1 = some .local ∨ (fd.scope.names.lookup x.1 = some .cell ∧ ((cellsFrom (h₁.objs.size + 1) fd.scope.names []).lookup x.1).isSome = true) := fun x hx => by
    have hn : x.1 ∈ names := by rw [← hbn]; exact List.mem_map_of_mem (f := (·.1)) hx
    have := List.all_eq_true.mp h2 x.1 hn
    simp only [Bool.or_eq_true, Bool.and_eq_true, beq_iff_eq] at this
    refine this.imp id fun y => ⟨y.1, ?_⟩
    rw [hcs]
    obtain ⟨v, hv⟩ := Option.isSome_iff_exists.mp y.2
    have hm : (x.1, v) ∈ cs := mem_of_look hv
    rw [lookup_nd (k := h₁.objs.size + 1 + v) (by rw [List.map_map]; exact h9) (List.mem_map.mpr ⟨_, hm, rfl⟩)]; rfl
  rw [hclo]
  refine wpAny_newFunctionEnv_cells h3 hkind fun env he s' X => ?_
  subst he
  refine ⟨H₁.st.lim.keeps X.toInCall.keep, codeAny_func ?_⟩
  obtain ⟨hh, tk, rfl⟩ := X.toInCall.same
  have hcells : (callEnvC fd h₁.objs.size f).cells = cs.map fun p => (p.1, (h₁.objs.size + 1) + p.2) := hcs _
  have ev : EnvOk (callEnvC fd h₁.objs.size f) h₁.objs.size fd.scope.names (cs.map fun p => (p.1, (h₁.objs.size + 1) + p.2)) := by
    refine ⟨rfl, h3, rfl, h8, hcells, ?_, h6, h7, h4⟩
    rw [List.map_map]; exact h9
  obtain ⟨oL, es, ep, e1, e2, e3, e4⟩ := X.toInCall.ns
  have hgn : ∀ i : Nat, h₁.get? (h₁.objs.size + 1 + i) = none := fun i => by
    cases q : h₁.get? (h₁.objs.size + 1 + i) with
    | none => rfl
    | some o => exact absurd (show h₁.objs.size + 1 + i < h₁.objs.size from Heap.lt_size q) (by omega)
  have nl := fun (i : Nat) => H₁.new (hgn i)
  have n0 := H₁.new (get_size h₁)
  have Hx := H₁.ext (h' := hh) X.toInCall.keep
  have Hc : ∀ (cs' : List (Str × Nat)), (∀ p ∈ cs', p ∈ cs) → (cs'.map (·.2)).Nodup → G w h₀ W hh ((cs'.map fun p => (h₁.objs.size + 1 + p.2, isC (cv p.1))) ++ D₁) := by
    intro cs'
    induction cs' with
    | nil => intro _ _; exact Hx
    | cons p r ih =>
      intro hp hn
      rw [List.map_cons, List.nodup_cons] at hn
      have Hr := ih (fun q hq => hp q (.tail _ hq)) hn.2
      have hm : (p.1, h₁.objs.size + 1 + p.2) ∈ (callEnvC fd h₁.objs.size f).cells := by rw [hcells]; exact List.mem_map_of_mem (hp p (.head _))
      have hlk : (callEnvC fd h₁.objs.size f).cells.lookup p.1 = some (h₁.objs.size + 1 + p.2) := by
        rw [hcells] at hm ⊢
        exact lookup_nd (by rw [List.map_map]; exact h9) hm
      obtain ⟨oc, ec, dc⟩ := X.cell p.1 _ hlk
      have dc' : oc.data = .cell (cv p.1) := by rw [dc]; exact congrArg Data.cell (hcv p (hp p (.head _)))
      refine Hr.add' ec (nc_cell dc') dc' (show 714 ≤ h₁.objs.size + 1 + p.2 by have := H₁.st.big; omega) (nl p.2).1 fun q hq hqe => ?_
      rcases List.mem_append.mp hq with h1 | h1
      · obtain ⟨p', hp', rfl⟩ := List.mem_map.mp h1
        have hqe' : h₁.objs.size + 1 + p'.2 = h₁.objs.size + 1 + p.2 := hqe
        exact hn.1 (by have : p'.2 = p.2 := by omega
                       rw [← this]; exact List.mem_map_of_mem hp')
      · exact (nl p.2).2 q h1 hqe
  have HC := Hc cs (fun _ h => h) h9b
  have HL : G w h₀ W hh ((h₁.objs.size, fr l) :: ((cs.map fun p => (h₁.objs.size + 1 + p.2, isC (cv p.1))) ++ D₁)) := by
    refine HC.add' e1 (fun _ vs q => by rw [e2] at q; cases q) ⟨h10, es, ep, e2, e3, fun p hp v hv => (e4 _).trans (bindL_gen binds _ _ _ (hll p hp (by rw [hv]; rfl)) (hlv.at p hp v hv))⟩ H₁.st.big n0.1 fun q hq hqe => ?_
    rcases List.mem_append.mp hq with h1 | h1
    · obtain ⟨p', hp', rfl⟩ := List.mem_map.mp h1
      have hqe' : h₁.objs.size + 1 + p'.2 = h₁.objs.size := hqe
      omega
    · exact n0.2 q h1 hqe
  exact wpAny_mono (q _ _ (h₁.objs.size + 1) _ _ ev rfl rfl (hA.deeper _) HL ((Kp.refl [] h₁).ext X.toInCall.keep) (fun p _ => ⟨hgn p.2, (nl p.2).1⟩) n0.1) (fun _ _ x => x) fun _ _ x => x.elim
/-- entering a def: its arguments bound by any means; cells with what they hold -/
theorem enterB {w : World} {A : Around} {k : Nat} {R : Result → Shared → Prop} {h₀ h : Heap} {W : List Addr} {D : Dl} {g : Array GenState} {d : Drawn} {t : Nat} {os : OsState} {f : Addr} {o : Obj} {fd : FuncData} {body : List Stmt} {args : Args} (names : List Str) (cs : List (Str × Nat))
    (hA : AOk A (k + 1)) (H : G w h₀ W h D) (ho : h.get? f = some o) (hdat : o.data = .func fd) (hcd : h.CodeRec fd.code fd.qualname) (hbody : fd.body = .stmts body)
    (hl : (names.all (fun x => fd.scope.names.lookup x == some .local || (fd.scope.names.lookup x == some .cell && (cs.lookup x).isSome)) && (fd.scope.kind == .function) && !fd.scope.isCoroutine && !fd.scope.isGenerator && (fd.globals == mainGlobals) && (fd.builtins == builtinsNs) &&
       decide (fd.scope.names.map (·.1)).Nodup && decide (cs.map (·.1)).Nodup && decide (cs.map (·.2)).Nodup) = true) (hclo : fd.closure = [])
    (hcs : ∀ n, cellsFrom n fd.scope.names [] = cs.map fun p => (p.1, n + p.2))
    (q : wpAny (MM w) A.in1 (bindArgs fd args) (fun binds s₁ => ∃ (h₁ : Heap) (t₁ : Nat) (D₁ : Dl) (l : Nl) (cv : Str → Option Value), s₁ = ⟨h₁, g, d, t₁, os⟩ ∧ G w h₀ W h₁ D₁ ∧ binds.map (·.1) = names ∧ (decide (l.map (·.1)).Nodup && l.all fun p => !p.2.isSome || fd.scope.names.lookup p.1 == some .local) = true ∧ LocOk binds l ∧
      (∀ p ∈ cs, bindC (fun n => fd.scope.names.lookup n) binds (fun _ => none) p.1 = cv p.1) ∧
      ∀ env L c h' t', EnvOk env L fd.scope.names (cs.map fun p => (p.1, c + p.2)) → AOk (A.deeper env) k → G w h₀ W h' ((L, fr l) :: (cs.map fun p => (c + p.2, isC (cv p.1))) ++ D₁) → Kp [] h₁ h' → (∀ p ∈ cs, h₁.get? (c + p.2) = none ∧ h₀.get? (c + p.2) = none) → h₀.get? L = none →
        wpAny (MM w) (A.deeper env) (execs body env) (callPost R) (fun _ _ => False) ⟨h', g, d, t', os⟩) (fun _ _ => False) ⟨h, g, d, t, os⟩) :
    codeAny (MM w) A (.call (.ref f) args) R ⟨h, g, d, t, os⟩ :=
  enterB1 names cs hA H ho hdat hcd hbody hl hclo hcs (wpAny_mono q (fun binds s₁ x => by
    obtain ⟨h₁, t₁, D₁, l, cv, e1, e2, e3, e4, e5, e6, e7⟩ := x
    exact ⟨h₁, t₁, D₁, l, cv, e1, e2, e3, e4, e5, e6, fun env L c h' t' a _ _ b => e7 env L c h' t' a b⟩) fun _ _ x => x)
theorem x_attr {M : Model} {A : Around} {E : Value → Shared → Prop} {s : Shared} {env : Env} {o : Expr} {attr : Str} {pos' pos : Pos} {value : Expr} {Q : Flow → Shared → Prop}
    (h : wpAny M A (eval value env) (fun v s₁ => wpAny M A (eval o env) (fun ov s₂ => wpAny M A (setAttr ov attr v) (fun _ => Q .next) E s₂) E s₁) E s)
    (hs : swapsWith value (some (.Attribute o attr pos')) pos.line env = pure false) : wpAny M A (exec (.Assign [.Attribute o attr pos'] value pos) env) Q E s := by
  rw [plainObj_exec_Assign_Attribute o attr pos' value pos hs]
  refine wpAny_bind (wpAny_standAt (wpAny_bind (wpAny_mono h (fun v s₁ h₁ => wpAny_bind (kas_attr (wpAny_mono h₁ (fun ov s₂ h₂ => wpAny_mono h₂ (fun _ _ x => wpAny_pure x) fun _ _ x => x) fun _ _ x => x))) fun _ _ x => x)))
/-- what a call made, brought in hand -/
theorem G.take {w : World} {h₀ h h' : Heap} {W : List Addr} {D T : Dl} (H : G w h₀ W h D) (N : G w h [] h' T) : G w h₀ W h' (T ++ D) := by
  have Hc := H.call N.st N.kp
  have fr : ∀ p ∈ T, h.get? p.1 = none := fun p hp => (N.dyn p hp).2.resolve_left List.not_mem_nil
  refine ⟨Hc.st, Hc.kp, fun p hp => ?_, fun p hp => ?_, ?_, Hc.big⟩
  · rcases List.mem_append.mp hp with hp | hp
    · exact N.own p hp
    · exact Hc.own p hp
  · rcases List.mem_append.mp hp with hp | hp
    · exact ⟨(N.dyn p hp).1, .inr (H.new (fr p hp)).1⟩
    · exact Hc.dyn p hp
  · rw [List.map_append, List.nodup_append]
    refine ⟨N.nd, Hc.nd, fun a ha b hb hab => ?_⟩
    obtain ⟨p, hp, rfl⟩ := List.mem_map.mp ha
    obtain ⟨q, hq, rfl⟩ := List.mem_map.mp hb
    exact (H.new (fr p hp)).2 q hq hab.symm
/-- the walk goes on from here as its start; what it does counts for the start before -/
theorem G.restart {w : World} {h₀ h : Heap} {W : List Addr} {D : Dl} (H : G w h₀ W h D) : G w h (D.map (·.1)) h D :=
  ⟨H.st, Kp.refl _ _, H.own, fun p hp => ⟨(H.dyn p hp).1, .inl (List.mem_map_of_mem (f := (·.1)) hp)⟩, H.nd, H.st.big⟩
theorem G.over {w : World} {h₀ h h' : Heap} {W : List Addr} {D D' : Dl} (H : G w h₀ W h D) (N : G w h (D.map (·.1)) h' D') : G w h₀ W h' D' := by
  have ne : ∀ b, b ∈ D.map (·.1) → b ∈ W ∨ h₀.get? b = none := fun b hb => by
    obtain ⟨p, hp, rfl⟩ := List.mem_map.mp hb
    exact (H.dyn p hp).2
  refine ⟨N.st, ⟨fun b o e x y z => N.kp.keep _ _ (H.kp.keep b o e x y z) (fun q => ?_) y z, fun b o e => let ⟨o', e'⟩ := H.kp.there b o e; N.kp.there b o' e'⟩, N.own, fun p hp => ⟨(N.dyn p hp).1, ?_⟩, N.nd, H.big⟩
  · rcases ne b q with q | q
    · exact x q
    · rw [e] at q; cases q
  · rcases (N.dyn p hp).2 with q | q
    · exact ne _ q
    · exact .inr (H.new q).1
theorem wp_eq {α : Type} {M : Model} {A : Around} {E : Value → Shared → Prop} {s : Shared} {Q : α → Shared → Prop} {m m' : Sem α} (e : m = m') (h : wpAny M A m' Q E s) : wpAny M A m Q E s := e ▸ h
end Mine
end

section -- I4
open PySem PySem.W PySem.Calls PyProof.Rows
set_option linter.unusedVariables false
set_option maxRecDepth 100000
namespace Mine
/-- arguments bound with defaults of the static heap -/
theorem binds_peek {w : World} {s : Shared} {fd : FuncData} {args : Args} {binds : List (Str × Value)} (X : (KK w).In s.heap) (e : ∀ S, peek (KK w) S (bindArgs fd args) = some binds) : BindsTo s fd args binds :=
  fun M A E Q hq Γ p hΓ => wp_of_peek X hq _ (e _)
/-- an object in the heap, to be read -/
def InH (h : Heap) (x C dx : Addr) (k : Nat) (l : List (Str × Value)) : Prop := h.get? x = some (instObj C dx) ∧ 714 ≤ x ∧ 714 ≤ dx ∧ ∃ od, h.get? dx = some od ∧ nsx k l od
theorem InH.kp {W : List Addr} {h h' : Heap} {x C dx k l} (K : Kp W h h') (i : InH h x C dx k l) (h1 : x ∉ W) (h2 : dx ∉ W) : InH h' x C dx k l := by
  obtain ⟨a, b, c, od, e, p⟩ := i
  exact ⟨K.keep _ _ a h1 (ne380 b) (ne403 b), b, c, od, K.keep _ _ e h2 (ne380 c) (ne403 c), p⟩
section
variable {w : World} {A : Around} {E : Value → Shared → Prop} {h₀ h : Heap} {W : List Addr} {D D' : Dl} {x dx C fI f : Addr} {name : Str} {v : Value} {l : List (Str × Value)} {k : Nat}
  {g : Array GenState} {d : Drawn} {t : Nat} {os : OsState} {R : Result → Shared → Prop}
theorem G.inH (H : G w h₀ W h D) (hx : (x, isIn C dx) ∈ D) (hd : (dx, nsx k l) ∈ D) : InH h x C dx k l := by
  obtain ⟨o, e, rfl⟩ := H.get hx
  obtain ⟨od, e', p⟩ := H.get hd
  exact ⟨e, (H.dyn _ hx).1, (H.dyn _ hd).1, od, e', p⟩
theorem h_get {ex : Bool} {Q : Value → Shared → Prop} (X : (KK w).In h) (I : InH h x C dx k l) (hl : l.lookup name = some v)
    (hc : (findIn (KK w) (.ref C) "__getattribute__" == some (some (.builtin "object.__getattribute__")) && findIn (KK w) (.ref C) name == some none && (clsIn (KK w) C).any (·.hasDict)) = true) (hv : handedIn v = true)
    (q : ∀ t', Q v ⟨h, g, d, t', os⟩) : wpAny (MM w) A (getAttr (.ref x) name ex) Q E ⟨h, g, d, t, os⟩ := by
  simp only [Bool.and_eq_true, beq_iff_eq] at hc
  obtain ⟨⟨c1, c2⟩, c3⟩ := hc
  obtain ⟨ex, -, -, od, eD, p⟩ := I
  obtain ⟨cd, hcd, hd'⟩ := any_some c3
  refine get_value (K := KK w) (v := v) (ox := instObj C dx) (od := some od) X ⟨ex, rfl, rfl, eD⟩ c1 ?_ hv (q _)
  unfold findObj PySem.W.ownOf
  rw [hcd, c2]
  dsimp only [Option.bind_some]
  have e1 : (if cd.hasDict = true then lookIn name od else some none) = some (some v) := by rw [if_pos hd', nsx_look p, hl]
  rw [e1]
  rfl
theorem h_meth {pl : Sem Bool} {Q : Value × List Value → Shared → Prop} (X : (KK w).In h) (I : InH h x C dx k l) (hl : l.lookup name = none)
    (hc : (findIn (KK w) (.ref C) "__getattribute__" == some (some (.builtin "object.__getattribute__")) && findIn (KK w) (.ref C) "__getattr__" == some none && findIn (KK w) (.ref C) name == some (some (.ref f)) && typeIn (KK w) (.ref f) == some (.type "function")) = true)
    (q : Q (.ref f, [.ref x]) ⟨h, g, d, t, os⟩) : wpAny (MM w) A (getMethod (.ref x) name pl) Q E ⟨h, g, d, t, os⟩ := by
  simp only [Bool.and_eq_true, beq_iff_eq] at hc
  obtain ⟨⟨⟨c1, c2⟩, c3⟩, c4⟩ := hc
  obtain ⟨ex, -, -, od, eD, p⟩ := I
  refine method_fn (K := KK w) (ox := instObj C dx) (od := some od) X ⟨ex, rfl, rfl, eD⟩ c1 c2 c3 c4 ?_ q
  show (lookIn name od).map (·.isSome) = some false
  rw [nsx_look p, hl]; rfl
theorem h_bound {ex : Bool} {Q : Value → Shared → Prop} (H : G w h₀ W h D) (I : InH h x C dx k l) (hl : l.lookup name = none)
    (hc : (findIn (KK w) (.ref C) "__getattribute__" == some (some (.builtin "object.__getattribute__")) && findIn (KK w) (.ref C) "__getattr__" == some none && findIn (KK w) (.ref C) name == some (some (.ref f)) && typeIn (KK w) (.ref f) == some (.type "function") &&
      hasDictIn (KK w) C && specialIn (KK w) (.ref f) "__get__" == some (some (.builtin "function.__get__")) && takesIn (KK w) (.ref f) == some false && !copiedNames.contains name) = true)
    (q : ∀ r h' t', G w h₀ W h' ((r, isM f x) :: D) → Kp [] h h' → h₀.get? r = none → h.get? r = none → Q (.ref r) ⟨h', g, d, t', os⟩) : wpAny (MM w) A (getAttr (.ref x) name ex) Q E ⟨h, g, d, t, os⟩ := by
  simp only [Bool.and_eq_true, beq_iff_eq, Bool.not_eq_true'] at hc
  obtain ⟨⟨⟨⟨⟨⟨⟨c1, c2⟩, c3⟩, c4⟩, c5⟩, c6⟩, c7⟩, c8⟩ := hc
  obtain ⟨ex, -, -, od, eD, p⟩ := I
  refine get_bind (K := KK w) (ox := instObj C dx) (od := some od) H.st.k ⟨ex, rfl, rfl, eD⟩ c1 (findObj_fn c5 c3 c6 c7 c8 (by rw [nsx_look p, hl])) c2 (wpAny_call (fn_get (K := KK w) H.st.k c4 (handed_on rfl ?_)))
  exact q _ _ _ (H.push (P := isM f x) _ rfl (fun q => absurd (Value.type.inj q) (by decide)) rfl) ((Kp.refl [] h).ext fun b o e => Heap.get?_push_of_some _ e) (H.new (get_size h)).1 (get_size h)
end
end Mine
end

section -- the macro rows MI
open PySem PySem.W PySem.Calls PyProof.Rows
namespace Mine
local macro_rules | `(tactic| tb_rel) => `(tactic| ((repeat' first | with_reducible exact List.mem_cons_self | with_reducible refine List.mem_cons_of_mem _ ?_); done))
local macro_rules | `(tactic| tb_start) => `(tactic| ((repeat' first | with_reducible exact Upd.head | with_reducible exact UpN.head | with_reducible apply Upd.tail | with_reducible apply UpN.tail); done))
local macro_rules | `(tactic| k_clsL) => `(tactic|
  first | ((first
  | ((with_reducible show wpAny _ _ (eval _ _) _ _ _); (first
  | ((with_reducible show wpAny _ _ (eval (Expr.Name _ _) _) _ _ _); first
    | with_reducible refine n_local (by assumption) (by tb_rel) (by assumption) (by tb_rel) (by tb_rel) ?_ (by decide +kernel)
    | with_reducible refine n_glob (by assumption) (by tb_rel) (by assumption) (by tb_rel) ?_ (by decide +kernel)
    | with_reducible refine n_cellG (by assumption) (by tb_rel) (by tb_rel) (by assumption) (by tb_rel) ?_ (by decide +kernel)
    | with_reducible refine n_blt (by assumption) (by tb_rel) (by assumption) (by tb_rel) ?_ (by decide +kernel))
  | with_reducible refine e_int fun _ _ => ?_
  | with_reducible refine wpAny_BinOp ?_
  | with_reducible refine wpAny_UnaryOp ?_
  | with_reducible refine wpAny_Call_NameR ?_
  | with_reducible refine e_str fun _ _ => ?_
  | ((fail_if_success (with_reducible show wpAny _ _ (eval (Expr.Subscript _ (Expr.Slice _ _ _ _) _) _) _ _ _)); with_reducible refine Subscript_ ?_)
  | with_reducible refine e_tuple ?_
  | with_reducible refine e_list ?_
  | with_reducible refine wpAny_Constant_none ?_
  | with_reducible refine wpAny_Constant_bool ?_))
  | ((with_reducible show wpAny _ _ (exec _ _) _ _ _); (first
  | ((with_reducible refine wpAny_Assign_Name ?h ?hs); (case hs => rfl))
  | with_reducible refine wpAny_Return_some ?_
  | ((with_reducible refine x_attr ?h ?hs); (case hs => rfl))
  | ((with_reducible refine wpAny_Assign_Subscript ?h ?hs); (case hs => rfl))))
  | ((with_reducible show wpAny _ _ (spliced _) _ _ _); first
     | ((with_reducible refine i_cons ?h ?he); (case he => rfl))
     | with_reducible refine i_nil ?_)
  | with_reducible refine x_cons ?_
  | with_reducible refine x_next ?_
  | with_reducible refine ift ?_
  | with_reducible refine iff ?_
  | ((with_reducible show wpAny _ _ (storeName _ _ _) _ _ _); with_reducible refine n_store (by assumption) (by tb_rel) (by assumption) (by tb_rel) (by tb_start) (by tb_start) fun _ _ _ => ?_)
  | with_reducible refine x_retd ?_
  | with_reducible refine x_nil ?_
  | ((with_reducible refine callWith_method1 ?h ?he ?hp); (case he => rfl); (case hp => rfl))
  | ((with_reducible refine c_fun ?h ?hk ?he); (case he => rfl); (case hk => kernel_rfl))
  | ((with_reducible show St _ _ ∧ _); with_reducible refine and_st (by assumption) ?_)
  | ((with_reducible refine PyProof.Rows.callWith_type1 ?h ?he ?hp); (case he => rfl); (case hp => rfl))
  | ((with_reducible refine wpAny_isTrue_Compare1 ?h ?hm); (case hm => with_unfolding_all rfl))
  | with_reducible refine PyProof.Rows.isTrue_and ?_
  | with_reducible refine PyProof.Rows.isTrue_and_nil ?_
  | with_reducible refine PyProof.Rows.isTrue_or ?_
  | with_reducible refine PyProof.Rows.isTrue_or_nil ?_
  | with_reducible refine wpAny_truthy_bool ?_
  | with_reducible refine PyProof.Rows.gt_int ?_
  | with_reducible refine PyProof.Rows.lt_int ?_
  | with_reducible refine PyProof.Rows.eq_int ?_
  | with_reducible refine s_eq ?_
  | with_reducible refine is_none ?_
  | with_reducible refine isNot_none ?_
  | with_reducible refine b_add fun _ _ => ?_
  | with_reducible refine b_neg fun _ _ => ?_
  | with_reducible refine b_sub fun _ _ => ?_
  | with_reducible refine wpAny_assignInOrder_more ?_
  | with_reducible refine wpAny_assignInOrder_none ?_
  | with_reducible refine wpAny_bindName ?_
  | with_reducible refine wpAny_assign_Name ?_); k_clsL) | skip)
section -- F7
open PySem PySem.W PySem.Calls PyProof.Rows
set_option maxHeartbeats 0
set_option linter.unusedVariables false
set_option maxRecDepth 100000
/-- between the turns of the machine -/
def FInv (w : World) (h : Heap) (g : Array GenState) (d : Drawn) (os : OsState) (rules : List (List Piece)) (terms : List Str) (text : Str) (tt : Tok) (aT aR aW L c : Addr) (n : Nat) (its : List Item) (m : Nat) (s : Shared) : Prop :=
  ∃ (place : Int) (tp : Tok) (rt : Bool) (sv : Value) (fA : Addr) (fvs : List Value) (U : Dl) (done rest : List Item) (ch rl wh wd nm pc dd rw : Option Value) (hh : Heap) (t : Nat), s = ⟨hh, g, d, t, os⟩ ∧ m ≤ n + 1 ∧ 0 ≤ place ∧ mc rules terms m rt text place = some rest ∧ its = done ++ rest ∧
    G w h [] hh ((L, fr (MFr (some (.ref aT)) (some (.str text tt)) (some sv) (some (.ref aR)) (some (.ref aW)) (some (.ref fA)) ch rl wh wd nm pc dd rw)) :: (c, isC (some (.int place tp))) :: (fA, isPL fvs) :: U) ∧ RepDs U (itemsD done) fvs ∧ StkOk h U sv rt
theorem law_machine {w : World} {rules : List (List Piece)} {terms : List Str} (hT : TabOk rules terms) {gd : Addr → Prop} (hg : ∀ a, gd a → 714 ≤ a) : ∀ (n : Nat) {m₀ : Nat} {A : Around} {k : Nat} {R : Result → Shared → Prop} {h : Heap} {tb sv : Value} {root : Bool} {text : Str} {tt : Tok} {its : List Item} {g : Array GenState} {d : Drawn} {t : Nat} {os : OsState},
    m₀ ≤ n → AOk A (k + 4 * n + 4) → St w h → Rep gd h (.tuple [.list (rulesD rules), .list (strsD terms)]) tb → StkOk h [] sv root → text.length ≤ 100 → mc rules terms m₀ root text 0 = some its →
    (∀ h' t' v, St w h' → Kp [] h h' → Rep (Fresh h) h' (.list (itemsD its)) v → R (.ok (.ret v)) ⟨h', g, d, t', os⟩) →
    codeAny (MM w) A (.call (.ref 703) ⟨[tb, .str text tt, sv], []⟩) R ⟨h, g, d, t, os⟩ := by
  intro n
  induction n with
  | zero =>
    intros
    rename_i e1 _ _ _ _ _ e _
    obtain rfl := Nat.le_zero.mp e1
    rw [mc] at e; cases e
  | succ n ih =>
  intro m₀ A k R h tb sv root text tt its g d t os hmn hA S hr hs hx hm q
  obtain ⟨aT, vT, rfl, gT, tT, rT⟩ := Rep.tupE hr
  obtain ⟨v1, r1, rfl, x1, rT⟩ := Reps.consE rT
  obtain ⟨v2, r2, rfl, x2, rT⟩ := Reps.consE rT
  obtain rfl := Reps.nilE rT
  obtain ⟨aR, vR, rfl, gR, lR, rR⟩ := Rep.listE x1
  obtain ⟨aW, vW, rfl, gW, lW, rW⟩ := Rep.listE x2
  have H0 : G w h [] h [] := G.start S
  obtain ⟨sA, vs, s0, ts0, rfl, hs⟩ := hs
  refine enterC (binds := [("table", .ref aT), ("text", .str text tt), ("stack", .ref sA)]) (MFr (some (.ref aT)) (some (.str text tt)) (some (.ref sA)) none none none none none none none none none none none) [("place", 0)] hA H0 (S.k 703 _ rfl) rfl (codeRec_of S.k (by kernel_rfl)) rfl (by kernel_rfl) (by kernel_rfl) rfl (fun n => rfl) ⟨by kernel_rfl, by kernel_rfl, by kernel_rfl, trivial⟩ ?_
  intro env L c h₁ t₁ Ev hA₁ H₁ K₁ nc nL
  dsimp only [List.map_cons, List.map_nil, List.cons_append, List.nil_append, Nat.add_zero] at Ev H₁
  have Ev' : EnvOk env L NSM [("place", c)] := Ev
  clear Ev
  have H₁' : G w h [] h₁ ((L, fr (MFr (some (.ref aT)) (some (.str text tt)) (some (.ref sA)) none none none none none none none none none none none)) :: (c, isC none) :: []) := H₁
  clear H₁
  have hA₂ : AOk (A.deeper env) (k + 4 * n + 7) := hA₁.mono (by omega)
  refine x_cons ?_
  refine Assign_Tuple ?_ rfl
  k_clsL
  refine a_tup2 hA₂.hd H₁' (H₁'.oldT tT (hg _ gT) List.not_mem_nil) fun h₂ H₂ => ?_
  k_clsL
  refine ⟨rfl, new_pl (by assumption) fun fA h₃ H₃ K₃ nf0 nf => ?_⟩
  k_clsL
  refine c_store Ev' (by tb_rel) (by tb_rel) (by assumption) (by tb_rel) (by tb_start) fun h₄ H₄ => ?_
  k_clsL
  refine wpAny_While (codeAny_whileLoop (FInv w h g d os rules terms text tt aT aR aW L c n its) ?_ m₀ ?_)
  · intro m s hpat
    obtain ⟨place, tp, rt, sv, fA, fvs, U, done, rest, ch, rl, wh, wd, nm, pc, dd, rw, hh, ts, e, em, p0, hmc, hsplit, H, hr1, hstk⟩ := hpat
    subst e
    k_clsL
    refine s_len (by omega) fun _ _ => ?_
    k_clsL
    obtain ⟨sA', vs', s', ts', rfl, hlast, hroot, hsl⟩ := hstk
    have hsl' : ∀ h' D, G w h [] h' D → (∀ p ∈ U, p ∈ D) → h'.IsList sA' vs'.toArray := fun h' D HH hD => by
      rcases hsl with h1 | h1
      · exact HH.old h1.1 h1.2 List.not_mem_nil
      · exact HH.pl (hD _ h1)
    cases m with
    | zero => rw [mc] at hmc; cases hmc
    | succ m =>
    rw [mc] at hmc
    refine split_dec (fun hlt => ?_) (fun hge => ?_)
    · rw [if_pos hlt] at hmc
      k_clsL
      --BEGIN
      refine wpAny_mono (Q := fun f s => f = Flow.next ∧ ∃ (hh : Heap) (tt' : Nat) (chv : Value) (rl wh wd : Option Value) (U' : Dl), s = ⟨hh, g, d, tt', os⟩ ∧ (∀ p ∈ U, p ∈ U') ∧ ChoO w h U' (pick rules terms rt text place) chv ∧
        G w h [] hh ((L, fr (MFr (some (.ref aT)) (some (.str text tt)) (some (.ref sA')) (some (.ref aR)) (some (.ref aW)) (some (.ref fA)) (some chv) rl wh wd nm pc dd rw)) :: (c, isC (some (.int place tp))) :: (fA, isPL fvs) :: U')) ?_ (fun f s hs => ?_) (fun _ _ h => h)
      · refine wpAny_If ?_
        k_clsL
        obtain ⟨hln, hlv⟩ := last_neg hlast
        refine sub_list_neg (hsl' _ _ (by assumption) (fun p hp => .tail _ (.tail _ (.tail _ hp)))) (by decide) hln (by decide) hlv ?_
        k_clsL
        refine split_bool (fun hs0 => ?_) (fun hs0 => ?_)
        · have hrt : rt = true := by rw [← hroot]; exact hs0
          k_clsL
          refine wpAny_For ?_
          k_clsL
          refine it_list (by assumption) (G.old (by assumption) lR (hg _ gR) List.not_mem_nil) fun I h₅ H₅ K₅ nI0 nI => ?_
          have hvl : vR.length = rules.length := by have := rR.len; simpa using this
          refine codeAny_forLoop (fun m s => ∃ (i : Nat) (chv : Value) (rl wh : Option Value) (hh : Heap) (tt' : Nat), s = ⟨hh, g, d, tt', os⟩ ∧ m = rules.length + 1 - i ∧ i ≤ rules.length ∧ ChoO w h U ((rules.take i).find? fun r => hits text place (wholeS r)) chv ∧
            G w h [] hh ((I, isLI aR i) :: (L, fr (MFr (some (.ref aT)) (some (.str text tt)) (some (.ref sA')) (some (.ref aR)) (some (.ref aW)) (some (.ref fA)) (some chv) rl wh wd nm pc dd rw)) :: (c, isC (some (.int place tp))) :: (fA, isPL fvs) :: U)) ?_ (rules.length + 1) ?_
          · intro m' s hpat
            obtain ⟨i, chv, rl, wh, hh, tt', e, em', hi1, hcho, H⟩ := hpat
            subst e
            rcases Nat.lt_or_ge i rules.length with hi | hi
            · obtain ⟨v, hv, rv⟩ := rR.get (i := i) (d := .list (piecesD rules[i])) (by simp [hi])
              refine nx_list H (by tb_rel) (H.old lR (hg _ gR) List.not_mem_nil) hv (by tb_start) fun h' H' hs' => ?_
              dsimp only
              k_clsL
              refine wpAny_call (law_whole (k := 0) (hA₂.mono (by omega)) (G.st (h₀ := h) (W := []) (by assumption)) (rv.kp (G.kp (h₀ := h) (W := []) (by assumption)) fun a ga => ⟨List.not_mem_nil, hg a ga⟩) hg (fun p hp => ((hT.r2 _ (List.getElem_mem hi)).2 p hp).2.2) (Nat.le_trans (hT.r2 _ (List.getElem_mem hi)).1 (by decide)) fun h₆ t₆ tk₆ S₆ K₆ => ?_)
              dsimp only
              have H₆ := G.call (h₀ := h) (W := []) (by assumption) S₆ K₆
              k_clsL
              refine wpAny_If ?_
              cases ec : (rules.take i).find? fun r => hits text place (wholeS r) with
              | some ps =>
                rw [ec] at hcho
                obtain ⟨aC, vC, rfl, hC⟩ := hcho
                k_clsL
                rw [v_ref_none]
                k_clsL
                exact ⟨rules.length + 1 - (i + 1), by omega, i + 1, _, _, _, _, _, rfl, rfl, hi, by rw [find_snoc hi, ec]; exact ⟨aC, vC, rfl, hC⟩, by assumption⟩
              | none =>
                rw [ec] at hcho
                obtain rfl := hcho
                k_clsL
                rw [v_none_none]
                k_clsL
                have hwl := whole_small (fun p hp => ((hT.r2 _ (List.getElem_mem hi)).2 p hp).2.2) (hT.r2 _ (List.getElem_mem hi)).1
                refine s_slice (h₀ := h) (W := []) (x := text) (tx := tt) (i := place) (j := place + ((wholeS rules[i]).length : Nat)) (by omega) ?_
                k_clsL
                refine ⟨rfl, ?_⟩
                k_clsL
                refine ⟨⟨_, rfl⟩, ?_⟩
                k_clsL
                refine s_len (x := wholeS rules[i]) (by omega) fun _ _ => ?_
                k_clsL
                refine ⟨⟨_, rfl⟩, _, _, _, rfl, (by assumption), fun h₇ tk₇ t₇ H₇ => ?_⟩
                k_clsL
                refine split_bool (fun hh => ?_) (fun hh => ?_)
                · k_clsL
                  exact ⟨rules.length + 1 - (i + 1), by omega, i + 1, _, _, _, _, _, rfl, rfl, hi, by rw [find_snoc hi, ec, show hits text place (wholeS rules[i]) = true from hh]; exact Cho.of_rep hg rv, by assumption⟩
                · k_clsL
                  exact ⟨rules.length + 1 - (i + 1), by omega, i + 1, _, _, _, _, _, rfl, rfl, hi, by rw [find_snoc hi, ec, show hits text place (wholeS rules[i]) = false from hh]; rfl, by assumption⟩
            · obtain rfl : i = rules.length := by omega
              refine nx_list_end hA₂.hd H (by tb_rel) (H.old lR (hg _ gR) List.not_mem_nil) (List.getElem?_eq_none (by omega)) Del.head nI0 fun h' H' hx => ?_
              dsimp only
              k_clsL
              rw [List.take_length] at hcho
              exact ⟨rfl, _, _, _, _, _, _, U, rfl, fun _ h => h, by rw [hrt]; exact hcho, by assumption⟩
          · exact ⟨0, _, _, _, _, _, rfl, rfl, Nat.zero_le _, rfl, by assumption⟩
        · have hrt : rt = false := by rw [← hroot]; exact hs0
          k_clsL
          refine wpAny_For ?_
          k_clsL
          refine it_list (by assumption) (G.old (by assumption) lW (hg _ gW) List.not_mem_nil) fun I h₅ H₅ K₅ nI0 nI => ?_
          have hvl : vW.length = terms.length := by have := rW.len; simpa using this
          refine codeAny_forLoop (fun m s => ∃ (i : Nat) (chv : Value) (wd : Option Value) (U' : Dl) (hh : Heap) (tt' : Nat), s = ⟨hh, g, d, tt', os⟩ ∧ m = terms.length + 1 - i ∧ i ≤ terms.length ∧ (∀ p ∈ U, p ∈ U') ∧ ChoO w h U' (((terms.take i).find? fun x => hits text place x).map fun x => [(some x, 2)]) chv ∧
            G w h [] hh ((I, isLI aW i) :: (L, fr (MFr (some (.ref aT)) (some (.str text tt)) (some (.ref sA')) (some (.ref aR)) (some (.ref aW)) (some (.ref fA)) (some chv) rl wh wd nm pc dd rw)) :: (c, isC (some (.int place tp))) :: (fA, isPL fvs) :: U')) ?_ (terms.length + 1) ?_
          · intro m' s hpat
            obtain ⟨i, chv, wd, U', hh, tt', e, em', hi1, hUU, hcho, H⟩ := hpat
            subst e
            rcases Nat.lt_or_ge i terms.length with hi | hi
            · obtain ⟨v, hv, rv⟩ := rW.get (i := i) (d := .str terms[i]) (by simp [strsD, hi])
              obtain ⟨tv, rfl⟩ := Rep.strE rv
              have hwl := (hT.t1 _ (List.getElem_mem hi)).2
              refine nx_list H (by tb_rel) (H.old lW (hg _ gW) List.not_mem_nil) hv (by tb_start) fun h' H' hs' => ?_
              dsimp only
              k_clsL
              refine wpAny_If ?_
              cases ec : (terms.take i).find? fun x => hits text place x with
              | some ps =>
                rw [ec] at hcho
                obtain ⟨aC, vC, rfl, hC⟩ := hcho
                k_clsL
                rw [v_ref_none]
                k_clsL
                exact ⟨terms.length + 1 - (i + 1), by omega, i + 1, _, _, U', _, _, rfl, rfl, hi, hUU, by rw [find_snoc hi, ec]; exact ⟨aC, vC, rfl, hC⟩, by assumption⟩
              | none =>
                rw [ec] at hcho
                obtain rfl := hcho
                k_clsL
                rw [v_none_none]
                k_clsL
                refine s_slice (h₀ := h) (W := []) (x := text) (tx := tt) (i := place) (j := place + ((terms[i]).length : Nat)) (by omega) ?_
                k_clsL
                refine ⟨rfl, ?_⟩
                k_clsL
                refine ⟨⟨_, rfl⟩, ?_⟩
                k_clsL
                refine s_len (x := terms[i]) (by omega) fun _ _ => ?_
                k_clsL
                refine ⟨⟨_, rfl⟩, _, _, _, rfl, (by assumption), fun h₇ tk₇ t₇ H₇ => ?_⟩
                k_clsL
                refine split_bool (fun hh => ?_) (fun hh => ?_)
                · k_clsL
                  refine ⟨rfl, new_tupF (by assumption) fun r₁ hb Hb Kb nb0 nb => ?_⟩
                  k_clsL
                  refine ⟨rfl, new_pl (by assumption) fun r₂ hc Hc Kc nc0 nc' => ?_⟩
                  k_clsL
                  refine g_mv5 (by assumption) fun Hd => ?_
                  refine g_mv4 Hd fun He => ?_
                  exact ⟨terms.length + 1 - (i + 1), by omega, i + 1, _, _, (r₁, _) :: (r₂, _) :: U', _, _, rfl, rfl, hi, fun p hp => .tail _ (.tail _ (hUU p hp)), by rw [find_snoc hi, ec, show hits text place terms[i] = true from hh]; exact Cho.word (.tail _ (.head _)) (.head _), He⟩
                · k_clsL
                  exact ⟨terms.length + 1 - (i + 1), by omega, i + 1, _, _, U', _, _, rfl, rfl, hi, hUU, by rw [find_snoc hi, ec, show hits text place terms[i] = false from hh]; rfl, by assumption⟩
            · obtain rfl : i = terms.length := by omega
              refine nx_list_end hA₂.hd H (by tb_rel) (H.old lW (hg _ gW) List.not_mem_nil) (List.getElem?_eq_none (by omega)) Del.head nI0 fun h' H' hx => ?_
              dsimp only
              k_clsL
              rw [List.take_length] at hcho
              exact ⟨rfl, _, _, _, _, _, _, U', rfl, hUU, by rw [hrt]; exact hcho, by assumption⟩
          · exact ⟨0, _, _, U, _, _, rfl, rfl, Nat.zero_le _, fun _ h => h, rfl, by assumption⟩
      · obtain ⟨rfl, hq, tq, chv, rl₂, wh₂, wd₂, U₁, rfl, hUU, hcho, Hq⟩ := hs
        clear H
        replace hr1 := RepDs.more hUU _ _ hr1
        have hstk : StkOk h U₁ (.ref sA') rt := ⟨sA', vs', s', ts', rfl, hlast, hroot, hsl.imp_right (hUU _)⟩
        clear hsl hsl'
        refine x_next ?_
        k_clsL
        refine wpAny_If ?_
        cases ec : pick rules terms rt text place with
        | none =>
          rw [ec] at hcho hmc
          obtain rfl := hcho
          obtain ⟨r', hr', rfl⟩ := Option.map_eq_some_iff.mp hmc
          k_clsL
          rw [v_none_none]
          k_clsL
          refine ⟨rfl, new_tupF (by assumption) fun r₁ hb Hb Kb nb0 nb => ?_⟩
          k_clsL
          refine g_mv3 (by assumption) fun Hd => ?_
          clear Hb
          refine wpAny_mono (Q := fun f s => f = Flow.next ∧ ∃ (hh : Heap) (tt' : Nat) (nmv svv : Value) (U₂ : Dl), s = ⟨hh, g, d, tt', os⟩ ∧ (∀ p ∈ U₁, p ∈ U₂) ∧ RepD U₂ (.tuple (strsD (missItem text place).2.1)) nmv ∧ StkOk h U₂ svv (rt || Txt.item text place == NL) ∧
            G w h [] hh ((L, fr (MFr (some (.ref aT)) (some (.str text tt)) (some svv) (some (.ref aR)) (some (.ref aW)) (some (.ref fA)) (some .none) rl₂ wh₂ wd₂ (some nmv) pc dd rw)) :: (c, isC (some (.int place tp))) :: (fA, isPL fvs) :: U₂)) ?_ (fun f s hs => ?_) (fun _ _ h => h)
          · refine wpAny_If ?_
            k_clsL
            refine s_item (x := text) (k := place) p0 hlt (by omega) (fun _ _ => ?_) ?hs
            case hs => with_unfolding_all rfl
            k_clsL
            refine split_bool (fun hnl => ?_) (fun hnl => ?_)
            · k_clsL
              refine ⟨rfl, new_tupF (by assumption) fun r₂ hc Hc Kc nc0 nc' => ?_⟩
              k_clsL
              refine g_mv3 (by assumption) fun He => ?_
              refine ⟨rfl, new_pl (by assumption) fun r₃ he He Ke ne0 ne => ?_⟩
              k_clsL
              refine g_mv3 (by assumption) fun Hf => ?_
              refine ⟨rfl, _, _, _, _, (r₃, _) :: (r₂, _) :: (r₁, _) :: U₁, rfl, fun p hp => .tail _ (.tail _ (.tail _ hp)), ?_, ⟨r₃, _, _, _, rfl, rfl, ?_, .inr (.head _)⟩, Hf⟩
              · unfold missItem
                rw [if_pos hnl]
                exact repD_tup (vs := [_, _]) (.tail _ (.head _)) (repDs_cons repD_str (repDs_cons repD_str repDs_nil))
              · rw [show (Txt.item text place == NL) = true from hnl, Bool.or_true]; rfl
            · k_clsL
              refine ⟨rfl, _, _, _, _, (r₁, _) :: U₁, rfl, fun p hp => .tail _ hp, ?_, ?_, by assumption⟩
              · unfold missItem
                rw [if_neg (by rw [show (Txt.item text place == NL) = false from hnl]; decide)]
                exact repD_tup (vs := [_]) (.head _) (repDs_cons repD_str repDs_nil)
              · rw [show (Txt.item text place == NL) = false from hnl, Bool.or_false]
                exact hstk.more fun p hp => .tail _ hp
          · obtain ⟨rfl, hq2, tq2, nmv, svv, U₂, rfl, hU2, hnm, hst2, Hq2⟩ := hs
            refine x_next ?_
            k_clsL
            refine x_append Ev' ?_ (by with_unfolding_all rfl) rfl rfl rfl
            k_clsL
            refine ⟨fA, fvs, _, _, rfl, rfl, G.get (h₀ := h) (W := []) (by assumption) (by tb_rel), ?_⟩
            k_clsL
            refine s_item (x := text) (k := place) p0 hlt (by omega) (fun _ _ => ?_) ?hs
            case hs => with_unfolding_all rfl
            k_clsL
            refine ⟨rfl, new_tupF (by assumption) fun r₃ hb' Hb' Kb' nb0' nb' => ?_⟩
            have hfl := hr1.len
            rw [List.length_map] at hfl
            have hil : its.length ≤ 100 := mc_len0 hm hx
            rw [hsplit, List.length_append] at hil
            refine l_appendP Hb' (by tb_rel) (by omega) (by tb_start) fun h₁₀ H₁₀ => ⟨rfl, ?_⟩
            k_clsL
            refine c_store Ev' (by tb_rel) (by tb_rel) (by assumption) (by tb_rel) (by tb_start) fun h₁₁ H₁₁ => ?_
            k_clsL
            refine g_mv3 H₁₁ fun H₁₂ => ?_
            exact ⟨m, Nat.lt_succ_self m, place + 1, _, _, _, fA, _, (r₃, _) :: U₂, done ++ [missItem text place], r', _, _, _, _, _, _, _, _, _, _, rfl, by omega, by omega, hr', by rw [hsplit, List.append_assoc]; rfl, H₁₂,
              by rw [itemsD, List.map_append]; exact repDs_app (RepDs.more (fun p hp => .tail _ (hU2 p hp)) _ _ hr1) (repDs_cons (repD_tup (vs := [_, _, _]) (.head _) (repDs_cons repD_int (repDs_cons (RepD.more (fun p hp => .tail _ hp) _ _ hnm) (repDs_cons repD_str repDs_nil)))) repDs_nil), hst2.more fun p hp => .tail _ hp⟩
        | some ps =>
          rw [ec] at hcho hmc
          obtain ⟨aC, vC, rfl, hvC, hC⟩ := hcho
          obtain ⟨a, ha, hb⟩ := Option.bind_eq_some_iff.mp hmc
          obtain ⟨r', hr', rfl⟩ := Option.map_eq_some_iff.mp hb
          have hps : ps.length ≤ 3 ∧ ∀ p ∈ ps, 0 ≤ p.2 ∧ p.2 ≤ 5 ∧ ∀ x, p.1 = some x → x.length ≤ 100 := by
            rcases pick_small ec with h1 | ⟨x, h1, rfl⟩
            · exact hT.r2 _ h1
            · refine ⟨show (1 : Nat) ≤ 3 by decide, fun p hp => ?_⟩
              obtain rfl := List.mem_singleton.mp hp
              exact ⟨show (0 : Int) ≤ 2 by decide, show (2 : Int) ≤ 5 by decide, fun y hy => by cases hy; exact (hT.t1 _ h1).2⟩
          k_clsL
          rw [v_ref_none]
          k_clsL
          refine wpAny_For ?_
          k_clsL
          refine it_list (by assumption) (hC _ _ (by assumption) fun p hp => .tail _ (.tail _ (.tail _ hp))).1 fun I h₅ H₅ K₅ nI0 nI => ?_
          refine codeAny_forLoop_any (fun m' s => ∃ (i : Nat) (pl : Int) (tp' : Tok) (fA : Addr) (fvs : List Value) (U₂ : Dl) (a1 b : List Item) (nm pc dd rw : Option Value) (hh : Heap) (tt' : Nat), s = ⟨hh, g, d, tt', os⟩ ∧ m' = ps.length + 1 - i ∧ i ≤ ps.length ∧ 0 ≤ pl ∧ pl + wlen (ps.drop i) = place + wlen ps ∧
            pcs (fun x => mc rules terms m false x 0) (ps.drop i) pl = some b ∧ a = a1 ++ b ∧ (∀ p ∈ U₁, p ∈ U₂) ∧ RepDs U₂ (itemsD (done ++ a1)) fvs ∧
            G w h [] hh ((I, isLI aC i) :: (L, fr (MFr (some (.ref aT)) (some (.str text tt)) (some (.ref sA')) (some (.ref aR)) (some (.ref aW)) (some (.ref fA)) (some (.ref aC)) rl₂ wh₂ wd₂ nm pc dd rw)) :: (c, isC (some (.int pl tp'))) :: (fA, isPL fvs) :: U₂)) ?_ (ps.length + 1) ?_
          · intro m' s hpat
            obtain ⟨i, pl, tp', fA, fvs, U₂, a1, b, nm, pc, dd, rw, hh, tt', e, em', hi1, hpl, hwl, hpc, hab, hU2, hr2, H⟩ := hpat
            subst e
            rcases Nat.lt_or_ge i ps.length with hi | hi
            · obtain ⟨lC, iC⟩ := hC _ _ H fun p hp => .tail _ (.tail _ (.tail _ (.tail _ (hU2 p hp))))
              obtain ⟨r, pv, tv, hv, _, _⟩ := iC i hi
              refine nx_list H (by tb_rel) lC hv (by tb_start) fun h' H' hs' => ?_
              obtain ⟨_, iC'⟩ := hC _ _ H' fun p hp => .tail _ (.tail _ (.tail _ (.tail _ (hU2 p hp))))
              obtain ⟨r2, pv2, tv2, hv2, hpo, htt⟩ := iC' i hi
              obtain rfl : r2 = r := by rw [hv] at hv2; cases hv2; rfl
              have hsm := hps.2 _ (List.getElem_mem hi)
              rw [List.drop_eq_getElem_cons hi] at hwl hpc
              generalize ps[i] = po at hwl hpc hpo htt hsm
              rw [pcs] at hpc
              rw [wlen] at hwl
              obtain ⟨a0, ho, h2⟩ := Option.bind_eq_some_iff.mp hpc
              obtain ⟨b', hb', rfl⟩ := Option.map_eq_some_iff.mp h2
              dsimp only
              refine own_list H' (by tb_rel) ?_
              refine a_tup2 hA₂.hd H' htt fun h'' H'' => ?_
              clear iC iC' hv2 hC
              k_clsL
              refine wpAny_mono (Q := fun f s => f = Flow.next ∧ ∃ (hh : Heap) (tt' : Nat) (fA : Addr) (fvs : List Value) (U₃ : Dl) (nm rw : Option Value), s = ⟨hh, g, d, tt', os⟩ ∧ (∀ p ∈ U₂, p ∈ U₃) ∧ RepDs U₃ (itemsD (done ++ (a1 ++ a0))) fvs ∧
                G w h [] hh ((I, isLI aC (i + 1)) :: (L, fr (MFr (some (.ref aT)) (some (.str text tt)) (some (.ref sA')) (some (.ref aR)) (some (.ref aW)) (some (.ref fA)) (some (.ref aC)) rl₂ wh₂ wd₂ nm (some pv2) (some (.int po.2 tv2)) rw)) :: (c, isC (some (.int pl tp'))) :: (fA, isPL fvs) :: U₃)) ?_ (fun f s hs => ?_) (fun _ _ h => h)
              · refine wpAny_If ?_
                obtain ⟨po1, po2⟩ := po
                cases po1 with
                | none =>
                  obtain rfl := hpo
                  have ea : a0 = [] := by unfold own at ho; cases ho; rfl
                  subst ea
                  rw [List.append_nil]
                  have hmid : ∀ h₉ t₉ nm rw, G w h [] h₉ ((I, isLI aC (i + 1)) :: (L, fr (MFr (some (.ref aT)) (some (.str text tt)) (some (.ref sA')) (some (.ref aR)) (some (.ref aW)) (some (.ref fA)) (some (.ref aC)) rl₂ wh₂ wd₂ nm (some .none) (some (.int po2 tv2)) rw)) :: (c, isC (some (.int pl tp'))) :: (fA, isPL fvs) :: U₂) → Flow.next = Flow.next ∧ ∃ (hh : Heap) (tt' : Nat) (fA : Addr) (fvs : List Value) (U₃ : Dl) (nm rw : Option Value), (⟨h₉, g, d, t₉, os⟩ : Shared) = ⟨hh, g, d, tt', os⟩ ∧ (∀ p ∈ U₂, p ∈ U₃) ∧ RepDs U₃ (itemsD (done ++ a1)) fvs ∧
                    G w h [] hh ((I, isLI aC (i + 1)) :: (L, fr (MFr (some (.ref aT)) (some (.str text tt)) (some (.ref sA')) (some (.ref aR)) (some (.ref aW)) (some (.ref fA)) (some (.ref aC)) rl₂ wh₂ wd₂ nm (some .none) (some (.int po2 tv2)) rw)) :: (c, isC (some (.int pl tp'))) :: (fA, isPL fvs) :: U₃) :=
                    fun h₉ t₉ nm rw HH => ⟨rfl, _, _, fA, fvs, U₂, _, _, rfl, fun _ h => h, hr2, HH⟩
                  k_clsL
                  refine split_dec (fun h3 => ?_) (fun h3 => ?_)
                  · k_clsL
                    refine wpAny_isTrue_value ?_ (by rfl)
                    k_clsL
                    refine PyProof.Rows.truthy_none ?_
                    k_clsL
                    refine wpAny_If ?_
                    k_clsL
                    refine split_dec (fun h4 => ?_) (fun h4 => ?_)
                    · exact absurd h3 (show ¬ (po2 < 3) by have : (3 : Int) < po2 := h4; omega)
                    · k_clsL
                      exact hmid _ _ _ _ (by assumption)
                  · k_clsL
                    refine wpAny_If ?_
                    k_clsL
                    refine split_dec (fun h4 => ?_) (fun h4 => ?_)
                    · k_clsL
                      rw [v_none_none]
                      refine split_bool (fun h5 => absurd h5 (by decide)) (fun h5 => ?_)
                      k_clsL
                      exact hmid _ _ _ _ (by assumption)
                    · k_clsL
                      exact hmid _ _ _ _ (by assumption)
                | some x =>
                  obtain ⟨tx, rfl⟩ := hpo
                  have hxl : x.length ≤ 100 := hsm.2.2 x rfl
                  have hp20 : 0 ≤ po2 := hsm.1
                  have hp25 : po2 ≤ 5 := hsm.2.1
                  have hilen : its.length ≤ 100 := mc_len0 hm hx
                  have hfl := hr2.len
                  rw [List.length_map, List.length_append] at hfl
                  rw [hsplit, hab] at hilen
                  simp only [List.length_append] at hilen
                  unfold own at ho
                  dsimp only at ho
                  k_clsL
                  refine split_dec (fun h3 => ?_) (fun h3 => ?_)
                  · replace h3 : po2 < 3 := h3
                    rw [if_pos h3] at ho
                    k_clsL
                    refine wpAny_isTrue_value ?_ (by rfl)
                    k_clsL
                    refine P.truthy_str (by omega) ?_
                    refine split_bool (fun hz => ?_) (fun hz => ?_)
                    · k_clsL
                      have hz' : x.length ≠ 0 := by simpa using hz
                      rw [if_neg hz'] at ho
                      cases ho
                      refine x_append Ev' ?_ (by with_unfolding_all rfl) rfl rfl rfl
                      k_clsL
                      refine ⟨fA, fvs, _, _, rfl, rfl, G.get (h₀ := h) (W := []) (by assumption) (by tb_rel), ?_⟩
                      k_clsL
                      refine c_fun0 (and_st (by assumption) ?_) (by kernel_rfl)
                      refine wpAny_call (law_kinds (k := 0) (hA₂.mono (by omega)) (by assumption) fun rk h₈ t₈ vk H₈ hvk K₈ nk0 nk => ?_)
                      dsimp only
                      k_clsL
                      have hki : kinds[po2.toNat]? = some (kinds.getD po2.toNat E0) := by
                        have : po2 = 0 ∨ po2 = 1 ∨ po2 = 2 := by omega
                        rcases this with rfl | rfl | rfl <;> rfl
                      obtain ⟨tk8, hvi⟩ := hvk.at hki
                      refine sub_list (H₈.pl (by tb_rel)) hp20 (by omega) hvi ?_
                      k_clsL
                      refine ⟨rfl, new_tupF (by assumption) fun r₁ hb Hb Kb nb0 nb => ?_⟩
                      k_clsL
                      refine ⟨rfl, new_tupF (by assumption) fun r₂ hc Hc Kc nc0 nc' => ?_⟩
                      refine l_appendP Hc (by tb_rel) (by omega) (by tb_start) fun h₁₀ H₁₀ => ⟨rfl, ?_⟩
                      k_clsL
                      refine g_mv6 H₁₀ fun H₁₁ => ?_
                      refine g_mv5 H₁₁ fun H₁₂ => ?_
                      refine g_mv4 H₁₂ fun H₁₃ => ?_
                      exact ⟨rfl, _, _, fA, _, (rk, _) :: (r₁, _) :: (r₂, _) :: U₂, _, _, rfl, fun p hp => .tail _ (.tail _ (.tail _ hp)),
                        by rw [← List.append_assoc, itemsD, List.map_append]; exact repDs_app (RepDs.more (fun p hp => .tail _ (.tail _ (.tail _ hp))) _ _ hr2) (repDs_cons (repD_tup (vs := [_, _, _]) (.tail _ (.tail _ (.head _))) (repDs_cons repD_int (repDs_cons (repD_tup (vs := [_]) (.tail _ (.head _)) (repDs_cons repD_str repDs_nil)) (repDs_cons repD_str repDs_nil)))) repDs_nil), H₁₃⟩
                    · k_clsL
                      have hz' : x.length = 0 := by simpa using hz
                      rw [if_pos hz'] at ho
                      cases ho
                      rw [List.append_nil]
                      refine wpAny_If ?_
                      k_clsL
                      refine split_dec (fun h4 => ?_) (fun h4 => ?_)
                      · exact absurd h3 (show ¬ (po2 < 3) by have : (3 : Int) < po2 := h4; omega)
                      · k_clsL
                        exact ⟨rfl, _, _, fA, fvs, U₂, _, _, rfl, fun _ h => h, hr2, by assumption⟩
                  · replace h3 : ¬ po2 < 3 := h3
                    rw [if_neg h3] at ho
                    k_clsL
                    refine wpAny_If ?_
                    k_clsL
                    refine split_dec (fun h4 => ?_) (fun h4 => ?_)
                    · replace h4 : 3 < po2 := h4
                      rw [if_pos h4] at ho
                      obtain ⟨b0, hb0, rfl⟩ := Option.map_eq_some_iff.mp ho
                      k_clsL
                      rw [v_str_none]
                      refine split_bool (fun h5 => ?_) (fun h5 => absurd h5 (by decide))
                      k_clsL
                      refine ⟨rfl, new_pl (by assumption) fun r₁ hb Hb Kb nb0 nb => ?_⟩
                      k_clsL
                      refine ⟨rfl, new_pl (by assumption) fun r₂ hc Hc Kc nc0 nc' => ?_⟩
                      k_clsL
                      refine ⟨rfl, new_pl (by assumption) fun r₃ he He Ke ne0 ne => ?_⟩
                      k_clsL
                      have hge : ∃ sl ys tz, [Value.ref r₁, Value.ref r₂][(po2 - 4).toNat]? = some (.ref sl) ∧ he.IsList sl (List.toArray ys) ∧ 714 ≤ sl ∧ ys.getLast? = some (.str (Str.ofString "s") tz) := by
                        have : po2 = 4 ∨ po2 = 5 := by omega
                        rcases this with rfl | rfl
                        · exact ⟨r₁, _, _, rfl, G.pl (h₀ := h) (W := []) He (by tb_rel), G.at (h₀ := h) (W := []) He (a := r₁) (by tb_rel), rfl⟩
                        · exact ⟨r₂, _, _, rfl, G.pl (h₀ := h) (W := []) He (by tb_rel), G.at (h₀ := h) (W := []) He (a := r₂) (by tb_rel), rfl⟩
                      obtain ⟨sl, ys, tz, hsl1, hsl2, hsl3, hsl4⟩ := hge
                      refine sub_list (G.pl (h₀ := h) (W := []) He (by tb_rel)) (by omega) (by omega) hsl1 ?_
                      k_clsL
                      refine wpAny_call (ih (m₀ := m) (k := k) (by omega) (hA₂.mono (by omega)) (G.st (h₀ := h) (W := []) (by assumption)) (hr.kp (G.kp (h₀ := h) (W := []) (by assumption)) fun a ga => ⟨List.not_mem_nil, hg a ga⟩) ⟨sl, ys, _, _, rfl, hsl4, by decide +kernel, .inl ⟨hsl2, hsl3⟩⟩ hxl hb0 fun h₈ t₈ vv S₈ K₈ R₈ => ?_)
                      dsimp only
                      refine rows_in (D₁ := [_, _, _, _, _, _, _]) He S₈ K₈ R₈ (noLs_items _) fun aB vB T eB rT nB Hr => ?_
                      subst eB
                      dsimp only [List.cons_append, List.nil_append] at Hr
                      have Hs := G.sub (D' := (aB, isL vB.toArray) :: _) Hr (List.Sublist.cons_cons _ (List.Sublist.cons _ (List.Sublist.cons _ (List.Sublist.cons _ (List.Sublist.refl _)))))
                      clear Hr
                      k_clsL
                      rw [eval_ListComp]
                      refine g_comp (h₀ := h) (W := []) [("at", none), ("names", none), ("word", none)] Ev' (cl := [("place", c)]) (clos_of Ev' (by kernel_rfl) (by kernel_rfl)) (by kernel_rfl) ?_
                      k_clsL
                      refine it_list (by assumption) (G.list (h₀ := h) (W := []) (by assumption) (by tb_rel)) fun I₂ h₉ H₉ K₉ nI20 nI2 => ?_
                      refine ⟨_, _, _, rfl, H₉, ?_⟩
                      intro cenv C acc hA4 t₄ Ec H₄ K₄ nC nacc nacc2
                      refine ⟨?_, self_list H₄ (by tb_rel) ⟨rfl, rfl⟩⟩
                      have Ec' : EnvOk cenv C [(".0", .local), ("at", .local), ("names", .local), ("word", .local), ("place", .cell)] [("place", c)] := Ec
                      have hbl : vB.length = b0.length := by have := rT.len; simpa using this
                      have hb0l : b0.length ≤ 100 := by simp [shift] at hilen; omega
                      refine kcp_loop (fun m s => ∃ (i2 : Nat) (ys : List Value) (lat lnm lwd : Option Value) (V : Dl) (hh : Heap) (tt' : Nat), s = ⟨hh, g, d, tt', os⟩ ∧ m = b0.length + 1 - i2 ∧ i2 ≤ b0.length ∧ (∀ p ∈ T ++ U₂, p ∈ V) ∧ RepDs V (itemsD (shift pl (b0.take i2))) ys ∧
                        G w h [] hh ((C, fr [("at", lat), ("names", lnm), ("word", lwd)]) :: (acc, isPL ys) :: (I₂, isLI aB i2) :: (aB, isL vB.toArray) :: (I, isLI aC (i + 1)) :: (L, fr (MFr (some (.ref aT)) (some (.str text tt)) (some (.ref sA')) (some (.ref aR)) (some (.ref aW)) (some (.ref fA)) (some (.ref aC)) rl₂ wh₂ wd₂ nm (some (.str x tx)) (some (.int po2 tv2)) (some (.ref aB)))) :: (c, isC (some (.int pl tp'))) :: (fA, isPL fvs) :: V)) ?_ (b0.length + 1) ?_
                      · intro m2 s hpat
                        obtain ⟨i2, ys, lat, lnm, lwd, V, hh, tt', e, em2, hi21, hV, hy, H⟩ := hpat
                        subst e
                        have hyl : ys.length = i2 := by have := hy.len; simp [shift] at this; omega
                        rcases Nat.lt_or_ge i2 b0.length with hi2 | hi2
                        · obtain ⟨v, hv, rv⟩ := rT.get (i := i2) (d := itemD b0[i2]) (by simp [hi2])
                          obtain ⟨ri, ta, nv, tw, rfl, hrm, hnv⟩ := rv.itemE
                          refine nx_list H (by tb_rel) (H.list (by tb_rel)) hv (by tb_start) fun h' H' hs' => ?_
                          dsimp only
                          refine own_list H' (by tb_rel) ?_
                          refine a_tup3 hA₂.hd H' (H'.tup (.tail _ (.tail _ (.tail _ (.tail _ (.tail _ (.tail _ (.tail _ (.tail _ (hV _ (List.mem_append_left _ hrm))))))))))) fun h'' H'' => ?_
                          k_clsL
                          refine ⟨rfl, new_tupF (by assumption) fun r₄ hg Hg Kg ng0 ng => ?_⟩
                          refine l_appendP Hg (by tb_rel) (by omega) (by tb_start) fun h₆ H₆ => ?_
                          refine g_mv8 H₆ fun H₇ => ?_
                          exact ⟨b0.length + 1 - (i2 + 1), by omega, i2 + 1, _, _, _, _, (r₄, _) :: V, _, _, rfl, rfl, hi2, fun p hp => .tail _ (hV p hp), by
                            rw [List.take_add_one, List.getElem?_eq_getElem hi2, shift, List.map_append, itemsD, List.map_append]
                            exact repDs_app (RepDs.more (fun p hp => .tail _ hp) _ _ hy) (repDs_cons (repD_tup (vs := [_, _, _]) (.head _) (repDs_cons repD_int (repDs_cons (RepD.more (fun p hp => .tail _ (hV p (List.mem_append_left _ hp))) _ _ hnv) (repDs_cons repD_str repDs_nil)))) repDs_nil), H₇⟩
                        · obtain rfl : i2 = b0.length := by omega
                          rw [List.take_length] at hy
                          refine nx_list_end hA₂.hd H (by tb_rel) (H.list (by tb_rel)) (List.getElem?_eq_none (by omega)) (Del.tail (Del.tail Del.head)) nI20 fun h' H' hx => ?_
                          dsimp only
                          refine ⟨rfl, _, _, _, _, rfl, H', fun h'' H'' => ?_⟩
                          refine b_addP H'' (H''.pl (by tb_rel)) (H''.pl (by tb_rel)) (by omega) fun r₅ hk Hk Kk nk0 nk => ?_
                          k_clsL
                          refine g_mv5 (by assumption) fun Ha => ?_
                          refine g_tail Ha fun Hb => ?_
                          refine g_tail Hb fun Hc' => ?_
                          exact ⟨rfl, _, _, r₅, _, (fA, _) :: V, _, _, rfl, fun p hp => .tail _ (hV p (List.mem_append_right _ hp)),
                            by rw [← List.append_assoc, itemsD, List.map_append]; exact repDs_app (RepDs.more (fun p hp => .tail _ (hV p (List.mem_append_right _ hp))) _ _ hr2) (RepDs.more (fun p hp => .tail _ hp) _ _ hy), Hc'⟩
                      · exact ⟨0, [], _, _, _, T ++ U₂, _, _, rfl, rfl, Nat.zero_le _, fun _ h => h, repDs_nil, H₄⟩
                    · replace h4 : ¬ 3 < po2 := h4
                      rw [if_neg h4] at ho
                      cases ho
                      rw [List.append_nil]
                      k_clsL
                      exact ⟨rfl, _, _, fA, fvs, U₂, _, _, rfl, fun _ h => h, hr2, by assumption⟩
              · obtain ⟨rfl, hq3, tq3, fA₃, fvs₃, U₃, nm₃, rw₃, rfl, hU3, hr3, Hq3⟩ := hs
                refine x_next ?_
                k_clsL
                have hpw : (pw po).length ≤ 100 := by
                  unfold pw
                  cases e : po.1 with
                  | none => exact Nat.zero_le _
                  | some x => exact hsm.2.2 x e
                refine e_or0 hpo (fun x hx => Nat.le_trans (hsm.2.2 x hx) (by decide)) (fun Q' q' => ?_) fun _ _ => ?_
                · k_clsL
                  exact q'
                k_clsL
                refine s_len (x := pw po) (by omega) fun _ _ => ?_
                k_clsL
                refine c_store Ev' (by tb_rel) (by tb_rel) (by assumption) (by tb_rel) (by tb_start) fun h₁₁ H₁₁ => ?_
                k_clsL
                exact ⟨ps.length + 1 - (i + 1), by omega, i + 1, pl + ((pw po).length : Nat), _, fA₃, fvs₃, U₃, a1 ++ a0, b', _, _, _, _, _, _, rfl, rfl, hi, by omega, by omega, hb', by rw [hab, List.append_assoc], fun p hp => hU3 p (hU2 p hp), hr3, H₁₁⟩
            · obtain rfl : i = ps.length := by omega
              rw [List.drop_length] at hwl hpc
              rw [pcs] at hpc
              cases hpc
              rw [List.append_nil] at hab
              subst hab
              refine nx_list_end hA₂.hd H (by tb_rel) (hC _ _ H fun p hp => .tail _ (.tail _ (.tail _ (.tail _ (hU2 p hp))))).1 (List.getElem?_eq_none (by omega)) Del.head nI0 fun h' H' hx => ?_
              dsimp only
              k_clsL
              have epl : pl = place + wlen ps := by rw [wlen] at hwl; omega
              exact ⟨m, Nat.lt_succ_self m, pl, tp', rt, _, fA, fvs, U₂, done ++ a, r', _, _, _, _, _, _, _, _, _, _, rfl, by omega, hpl, by rw [epl]; exact hr', by rw [hsplit, List.append_assoc], H', hr2, hstk.more hU2⟩
          · exact ⟨0, place, _, fA, fvs, U₁, [], a, _, _, _, _, _, _, rfl, rfl, Nat.zero_le _, p0, rfl, ha, rfl, fun _ h => h, by rw [List.append_nil]; exact hr1, by assumption⟩
    · k_clsL
      rw [if_neg hge] at hmc
      cases hmc
      rw [List.append_nil] at hsplit
      subst hsplit
      exact q _ _ _ (G.st (h₀ := h) (W := []) (by assumption)) (G.kp (h₀ := h) (W := []) (by assumption)) (rep_list ⟨G.fresh H (a := fA) (by tb_rel), G.at (h₀ := h) (W := []) H (a := fA) (by tb_rel)⟩ (G.pl (h₀ := h) (W := []) H (by tb_rel)) (RepDs.rep H (fun p hp => ⟨.tail _ (.tail _ (.tail _ hp)), G.fresh H (.tail _ (.tail _ (.tail _ hp)))⟩) _ _ hr1))
  · refine g_mv2 (by assumption) fun H₅ => ?_
    exact ⟨0, _, root, _, fA, [], [], [], its, _, _, _, _, _, _, _, _, _, _, rfl, hmn, Int.le_refl _, hm, rfl, by assumption, repDs_nil, sA, vs, s0, ts0, rfl, hs⟩
end

section -- C1
open PySem PySem.W PySem.Calls PyProof.Rows
set_option maxHeartbeats 0
set_option linter.unusedVariables false
set_option maxRecDepth 100000
theorem mk_type {w : World} {A : Around} {k : Nat} {R : Result → Shared → Prop} {h : Heap} {g : Array GenState} {d : Drawn} {t : Nat} {os : OsState} {kind : Str} {tk : Tok}
    (hA : AOk A (k + 3)) (S : St w h)
    (q : ∀ x dx n h' t', G w h [] h' [(x, isIn 66 dx), (dx, nsx 1 [("names", .ref n)]), (n, isT [.str kind tk].toArray)] → R (.ok (.ret (.ref x))) ⟨h', g, d, t', os⟩) :
    codeAny (MM w) A (.call (.ref 66) ⟨[.str kind tk], []⟩) R ⟨h, g, d, t, os⟩ := by
  have H : G w h [] h [] := G.start S
  refine c_make (fI := 35) H (by kernel_rfl) fun x dx h₁ H₁ K₁ nx nx' ndx => ?_
  refine enterB (k := k + 1) ["self", "names"] [] ((hA.under (c := _) (Nat.le_of_ble_eq_true rfl) (Nat.le_of_ble_eq_true rfl)).mono (by omega)) H₁ (H₁.st.k 35 _ rfl) rfl (codeRec_of H₁.st.k (by kernel_rfl)) rfl (by kernel_rfl) rfl (fun n => rfl) ?_
  refine wp_eq (m' := newTuple [.str kind tk] >>= fun tup => pure [("self", Value.ref x), ("names", tup)]) (by kernel_rfl) (wpAny_bind (wpAny_newTuple (wpAny_pure ?_)))
  refine ⟨_, _, _, [("self", some (.ref x)), ("names", some (.ref h₁.objs.size))], fun _ => none, rfl, H₁.push (P := isT [.str kind tk].toArray) _ rfl (nc_tup ⟨rfl, 0, rfl⟩) ⟨rfl, 0, rfl⟩, rfl, by kernel_rfl, ⟨by kernel_rfl, by kernel_rfl, trivial⟩, fun _ hp => (nomatch hp), ?_⟩
  intro env L c h₂ t₂ Ev hA₂ H₂ K₂ nc nL
  dsimp only [List.map_nil, List.cons_append, List.nil_append] at Ev H₂
  k_clsL
  refine a_set (C := 66) (dx := dx) (k := 0) (l := []) H₂ (by k_memK) (by k_memK) (by decide) (by kernel_rfl) (.tail (.tail (.tail .head))) fun h₃ t₃ H₃ => ?_
  k_clsL
  refine ⟨rfl, ?_⟩
  refine g_tail H₃ fun H₄ => ?_
  refine g_mv2 H₄ fun H₅ => ?_
  exact q _ _ _ _ _ H₅
theorem mk_plain {w : World} {A : Around} {k : Nat} {R : Result → Shared → Prop} {h : Heap} {g : Array GenState} {d : Drawn} {t : Nat} {os : OsState} {v : Value}
    (hA : AOk A (k + 3)) (S : St w h)
    (q : ∀ x dx h' t', G w h [] h' [(x, isIn 630 dx), (dx, nsx 1 [("rows", v)])] → R (.ok (.ret (.ref x))) ⟨h', g, d, t', os⟩) :
    codeAny (MM w) A (.call (.ref 630) ⟨[v], []⟩) R ⟨h, g, d, t, os⟩ := by
  have H : G w h [] h [] := G.start S
  refine c_make (fI := 621) H (by kernel_rfl) fun x dx h₁ H₁ K₁ nx nx' ndx => ?_
  refine enter (k := k + 1) [("self", some (.ref x)), ("rows", some v)] ((hA.under (c := _) (Nat.le_of_ble_eq_true rfl) (Nat.le_of_ble_eq_true rfl)).mono (by omega)) H₁ (H₁.st.k 621 _ rfl) rfl (codeRec_of H₁.st.k (by kernel_rfl)) rfl (BindsTo.of_eq (binds := [("self", .ref x), ("rows", v)]) (by kernel_rfl)) (by kernel_rfl) ⟨by kernel_rfl, by kernel_rfl, trivial⟩ ?_
  intro env L h₂ t₂ Ev hA₂ H₂ K₂
  dsimp only at Ev
  k_clsL
  refine a_set (C := 630) (dx := dx) (k := 0) (l := []) H₂ (by tb_rel) (by tb_rel) (by decide) (by kernel_rfl) (.tail (.tail .head)) fun h₃ t₃ H₃ => ?_
  k_clsL
  refine ⟨rfl, ?_⟩
  refine g_tail H₃ fun H₄ => ?_
  exact q _ _ _ _ H₄
theorem mk_match {w : World} {A : Around} {k : Nat} {R : Result → Shared → Prop} {h : Heap} {g : Array GenState} {d : Drawn} {t : Nat} {os : OsState} {v v' : Value}
    (hA : AOk A (k + 3)) (S : St w h)
    (q : ∀ x dx h' t', G w h [] h' [(x, isIn 603 dx), (dx, nsx 2 [("pieces", v'), ("place", v)])] → R (.ok (.ret (.ref x))) ⟨h', g, d, t', os⟩) :
    codeAny (MM w) A (.call (.ref 603) ⟨[v, v'], []⟩) R ⟨h, g, d, t, os⟩ := by
  have H : G w h [] h [] := G.start S
  refine c_make (fI := 578) H (by kernel_rfl) fun x dx h₁ H₁ K₁ nx nx' ndx => ?_
  refine enter (k := k + 1) [("self", some (.ref x)), ("place", some v), ("pieces", some v')] ((hA.under (c := _) (Nat.le_of_ble_eq_true rfl) (Nat.le_of_ble_eq_true rfl)).mono (by omega)) H₁ (H₁.st.k 578 _ rfl) rfl (codeRec_of H₁.st.k (by kernel_rfl)) rfl (BindsTo.of_eq (binds := [("self", .ref x), ("place", v), ("pieces", v')]) (by kernel_rfl)) (by kernel_rfl) ⟨by kernel_rfl, by kernel_rfl, by kernel_rfl, trivial⟩ ?_
  intro env L h₂ t₂ Ev hA₂ H₂ K₂
  dsimp only at Ev
  k_clsL
  refine a_set (C := 603) (dx := dx) (k := 0) (l := []) H₂ (by tb_rel) (by tb_rel) (by decide) (by kernel_rfl) (.tail (.tail .head)) fun h₃ t₃ H₃ => ?_
  k_clsL
  refine a_set (C := 603) (dx := dx) (k := 1) (l := [("place", v)]) H₃ (by tb_rel) (by tb_rel) (by decide) (by kernel_rfl) (.tail (.tail .head)) fun h₄ t₄ H₄ => ?_
  k_clsL
  refine ⟨rfl, ?_⟩
  refine g_tail H₄ fun H₅ => ?_
  exact q _ _ _ _ H₅
theorem mk_pseudo {w : World} {A : Around} {k : Nat} {R : Result → Shared → Prop} {h : Heap} {g : Array GenState} {d : Drawn} {t : Nat} {os : OsState} {v v' : Value}
    (hA : AOk A (k + 3)) (S : St w h)
    (q : ∀ x dx h' t', G w h [] h' [(x, isIn 374 dx), (dx, nsx 2 [("_start", v), ("_text", v')])] → R (.ok (.ret (.ref x))) ⟨h', g, d, t', os⟩) :
    codeAny (MM w) A (.call (.ref 374) ⟨[v, v'], []⟩) R ⟨h, g, d, t, os⟩ := by
  have H : G w h [] h [] := G.start S
  refine c_make (fI := 333) H (by kernel_rfl) fun x dx h₁ H₁ K₁ nx nx' ndx => ?_
  refine enter (k := k + 1) [("self", some (.ref x)), ("start", some v), ("text", some v')] ((hA.under (c := _) (Nat.le_of_ble_eq_true rfl) (Nat.le_of_ble_eq_true rfl)).mono (by omega)) H₁ (H₁.st.k 333 _ rfl) rfl (codeRec_of H₁.st.k (by kernel_rfl)) rfl (BindsTo.of_eq (binds := [("self", .ref x), ("start", v), ("text", v')]) (by kernel_rfl)) (by kernel_rfl) ⟨by kernel_rfl, by kernel_rfl, by kernel_rfl, trivial⟩ ?_
  intro env L h₂ t₂ Ev hA₂ H₂ K₂
  dsimp only at Ev
  k_clsL
  refine a_set (C := 374) (dx := dx) (k := 0) (l := []) H₂ (by tb_rel) (by tb_rel) (by decide) (by kernel_rfl) (.tail (.tail .head)) fun h₃ t₃ H₃ => ?_
  k_clsL
  refine a_set (C := 374) (dx := dx) (k := 1) (l := [("_text", v')]) H₃ (by tb_rel) (by tb_rel) (by decide) (by kernel_rfl) (.tail (.tail .head)) fun h₄ t₄ H₄ => ?_
  k_clsL
  refine ⟨rfl, ?_⟩
  refine g_tail H₄ fun H₅ => ?_
  exact q _ _ _ _ H₅
end

section -- J1
open PySem PySem.W PySem.Calls PyProof.Rows
set_option maxHeartbeats 0
set_option linter.unusedVariables false
set_option maxRecDepth 100000
/-- values of optional texts -/
def OptsAre (vs : List Value) (ps : List (Option Str)) : Prop := vs.length = ps.length ∧ ∀ i (hi : i < ps.length), ∃ v, vs[i]? = some v ∧ optV ps[i] v
def joined (ps : List (Option Str)) : Str := Txt.join E0 (ps.map (·.getD E0))
theorem small_map {ps : List (Option Str)} (hz : ∀ p ∈ ps, ∀ x, p = some x → x.length ≤ 200) : ∀ y ∈ ps.map (·.getD E0), y.length ≤ 200 := fun y hy => by
  obtain ⟨p, hp, rfl⟩ := List.mem_map.mp hy
  cases e : p with
  | none => exact Nat.zero_le _
  | some x => exact hz p hp x e
theorem sum_le2 : ∀ (l : List Str), (∀ y ∈ l, y.length ≤ 200) → (l.map (·.length)).sum ≤ 200 * l.length
  | [], _ => Nat.zero_le _
  | y :: l, h => by
    have h1 := sum_le2 l (fun z hz => h z (.tail _ hz))
    have h2 := h y (.head _)
    simp only [List.map_cons, List.sum_cons, List.length_cons]; omega
/-- ''.join([piece or '' for piece in ..]) -/
theorem e_join {w : World} {A : Around} {E : Value → Shared → Prop} {h : Heap} {g : Array GenState} {d : Drawn} {t : Nat} {os : OsState} {env : Env} {L : Addr} {ns : List (Str × NameKind)} {cl : List (Str × Addr)} {Q : Value → Shared → Prop}
    {iter : Expr} {k1 k2 : Nat} {p1 p2 p3 p4 p5 p6 p7 p8 : Pos} {a : Addr} {vs : List Value} {ps : List (Option Str)} (Ev : EnvOk env L ns cl) (hA : A.handled = none) (hO : OptsAre vs ps) (hz : ∀ p ∈ ps, ∀ x, p = some x → x.length ≤ 200) (hl : ps.length ≤ 100)
    (S : St w h) (hla : h.IsList a vs.toArray) (ha : 714 ≤ a) (hi : ∀ t, wpAny (MM w) A (eval iter env) (fun o s₁ => o = .ref a ∧ ∃ t₁, s₁ = ⟨h, g, d, t₁, os⟩) E ⟨h, g, d, t, os⟩)
    (q : ∀ h' t' tk, St w h' → Kp [] h h' → Q (.str (joined ps) tk) ⟨h', g, d, t', os⟩)
    (hs : ∀ x, foldedSetIterable iter env x = pure x) (hline : (p2.endLine == p8.line) = true) :
    wpAny (MM w) A (eval (.Call (.Attribute (.Constant (.str E0) k1 p1) "join" p2) [.ListComp (.BoolOp .Or [.Name "piece" p3, .Constant (.str E0) k2 p4] p5) [⟨.Name "piece" p6, iter, [], 0⟩] { kind := .function, names := [(".0", .local), ("piece", .local)], isGenerator := false, isCoroutine := false } p7] [] p8) env) Q E ⟨h, g, d, t, os⟩ := by
  refine Call_method1 (by with_unfolding_all rfl) rfl hline ?_
  k_clsL
  refine SB.join ?_
  rw [eval_ListComp]
  refine g_comp (h₀ := h) (W := []) [("piece", none)] Ev (clos_none (by kernel_rfl)) (by kernel_rfl) ?_ hs
  refine wpAny_mono (hi _) (fun o s₁ x => ?_) fun _ _ x => x
  obtain ⟨rfl, t₁, rfl⟩ := x
  have H₁ : G w h [] h [] := G.start S
  refine it_list H₁ hla fun I h₃ H₃ K₃ nI0 nI => ?_
  refine ⟨_, _, _, rfl, H₃, ?_⟩
  intro cenv C acc h₄ t₄ Ec H₄ K₄ nC nacc nacc2
  refine ⟨?_, self_list H₄ (by tb_rel) ⟨rfl, rfl⟩⟩
  have Ec' : EnvOk cenv C [(".0", .local), ("piece", .local)] [] := Ec
  have hvl := hO.1
  refine kcp_loop (fun m s => ∃ (i : Nat) (ys : List Value) (lp : Option Value) (hh : Heap) (tt : Nat), s = ⟨hh, g, d, tt, os⟩ ∧ m = ps.length + 1 - i ∧ i ≤ ps.length ∧
    G w h [] hh ((C, fr [("piece", lp)]) :: (acc, isPL ys) :: (I, isLI a i) :: []) ∧ StrsAre ys ((ps.take i).map (·.getD E0))) ?_ (ps.length + 1) ?_
  · intro m s hpat
    obtain ⟨i, ys, lp, hh, tt, e, em, hi1, H, hy⟩ := hpat
    subst e
    have hylen : ys.length ≤ 100 := by
      obtain ⟨l, e1, e2⟩ := strValues_of hy
      have e3 : ys.length = l.length := by rw [e1]; simp [strValues]
      have e4 : l.length = ((ps.take i).map (·.getD E0)).length := by rw [← e2]; simp
      rw [e3, e4]; simp; omega
    rcases Nat.lt_or_ge i ps.length with hlt | hge
    · obtain ⟨v, hv, hp⟩ := hO.2 i hlt
      refine nx_list H (by tb_rel) (H.old hla ha List.not_mem_nil) hv (by tb_start) fun h' H' hs' => ?_
      dsimp only
      refine wpAny_of_eq (a := ()) rfl ?_
      k_clsL
      refine e_or0 hp (fun x hx => Nat.le_trans (hz _ (List.getElem_mem hlt) x hx) (by decide)) (fun Q' q' => ?_) fun _ _ => ?_
      · k_clsL
        exact q'
      refine l_appendP (by assumption) (by tb_rel) (by omega) (by tb_start) fun h₆ H₆ => ?_
      exact ⟨ps.length + 1 - (i + 1), by omega, i + 1, _, _, _, _, rfl, rfl, hlt, H₆, by
        rw [List.take_add_one, List.map_append, List.getElem?_eq_getElem hlt]
        exact StrsAre.snoc hy⟩
    · refine nx_list_end hA H (by tb_rel) (H.old hla ha List.not_mem_nil) (List.getElem?_eq_none (by omega)) (Del.tail (Del.tail Del.head)) nI0 fun h' H' hx => ?_
      dsimp only
      refine ⟨rfl, _, _, _, _, rfl, H', fun h'' H'' => ?_⟩
      have hi' : i = ps.length := by omega
      rw [hi', List.take_length] at hy
      obtain ⟨l, e1, e2⟩ := strValues_of hy
      refine ⟨acc, l, rfl, by rw [← e1]; exact H''.pl (by tb_rel), _, e2, joinOk_of_weight ?_ (by decide +kernel), fun t' kk => ?_⟩
      · have := sum_le2 _ (small_map hz)
        simp only [List.length_map] at this ⊢; omega
      · exact q _ _ _ H''.st H''.kp
  · exact ⟨0, [], _, _, _, rfl, by omega, Nat.zero_le _, H₄, .nil⟩
end

section -- C2
open PySem PySem.W PySem.Calls PyProof.Rows
set_option maxHeartbeats 0
set_option linter.unusedVariables false
set_option maxRecDepth 100000
theorem pm_group0 {w : World} {A : Around} {k : Nat} {R : Result → Shared → Prop} {h : Heap} {g : Array GenState} {d : Drawn} {t : Nat} {os : OsState} {x dx a : Addr} {v : Value} {vs : List Value} {ps : List (Option Str)}
    (hA : AOk A (k + 3)) (S : St w h) (I : InH h x 603 dx 2 [("pieces", .ref a), ("place", v)]) (hla : h.IsList a vs.toArray) (ha : 714 ≤ a) (hO : OptsAre vs ps) (hz : ∀ p ∈ ps, ∀ x, p = some x → x.length ≤ 200) (hl : ps.length ≤ 100)
    (q : ∀ h' t' tk, St w h' → Kp [] h h' → R (.ok (.ret (.str (joined ps) tk))) ⟨h', g, d, t', os⟩) :
    codeAny (MM w) A (.call (.ref 600) ⟨[.ref x], []⟩) R ⟨h, g, d, t, os⟩ := by
  have H0 : G w h [] h [] := G.start S
  refine enter (k := k + 2) [("self", some (.ref x)), ("arg", some (.int 0 1016))] hA H0 (S.k 600 _ rfl) rfl (codeRec_of S.k (by kernel_rfl)) rfl (binds_peek (binds := [("self", .ref x), ("arg", .int 0 1016)]) S.k (fun _ => by kernel_rfl)) (by kernel_rfl) ⟨by kernel_rfl, by kernel_rfl, trivial⟩ ?_
  intro env L h₁ t₁ Ev hA₁ H₁ K₁
  dsimp only at Ev
  k_clsL
  refine wpAny_If ?_
  refine wpAny_isTrue_value ?_ (by rfl)
  k_clsL
  refine PyProof.Rows.truthy_int ?_
  k_clsL
  refine split_bool (fun h5 => absurd h5 (by decide)) (fun h5 => ?_)
  k_clsL
  refine e_join Ev hA₁.hd hO hz hl H₁.st (H₁.old hla ha List.not_mem_nil) ha (fun t => ?_) (fun h' t' tk S' K' => ?_) (by intro _; rfl) rfl
  · refine Attribute_Name_ ?_
    k_clsL
    refine h_get H₁.st.k (I.kp H₁.kp List.not_mem_nil List.not_mem_nil) (by kernel_rfl) (by kernel_rfl) rfl fun t' => ⟨rfl, _, rfl⟩
  · k_clsL
    exact q _ _ _ S' ((H₁.call S' K').kp)
theorem pm_groupI {w : World} {A : Around} {k : Nat} {R : Result → Shared → Prop} {h : Heap} {g : Array GenState} {d : Drawn} {t : Nat} {os : OsState} {x dx a : Addr} {v : Value} {vs : List Value} {ps : List (Option Str)} {i : Nat} {ti : Tok}
    (hA : AOk A (k + 3)) (S : St w h) (I : InH h x 603 dx 2 [("pieces", .ref a), ("place", v)]) (hla : h.IsList a vs.toArray) (ha : 714 ≤ a) {u : Value} (hv : vs[i]? = some u) (hi : i ≤ 1000)
    (q : ∀ h' t', St w h' → Kp [] h h' → R (.ok (.ret u)) ⟨h', g, d, t', os⟩) :
    codeAny (MM w) A (.call (.ref 600) ⟨[.ref x, .int (i + 1) ti], []⟩) R ⟨h, g, d, t, os⟩ := by
  have H0 : G w h [] h [] := G.start S
  refine enter (k := k + 2) [("self", some (.ref x)), ("arg", some (.int (i + 1) ti))] hA H0 (S.k 600 _ rfl) rfl (codeRec_of S.k (by kernel_rfl)) rfl (binds_peek (binds := [("self", .ref x), ("arg", .int (i + 1) ti)]) S.k (fun _ => by kernel_rfl)) (by kernel_rfl) ⟨by kernel_rfl, by kernel_rfl, trivial⟩ ?_
  intro env L h₁ t₁ Ev hA₁ H₁ K₁
  dsimp only at Ev
  k_clsL
  refine wpAny_If ?_
  refine wpAny_isTrue_value ?_ (by rfl)
  k_clsL
  refine PyProof.Rows.truthy_int ?_
  refine split_bool (fun h5 => ?_) (fun h5 => absurd h5 (by simp; omega))
  k_clsL
  refine Attribute_Name_ ?_
  k_clsL
  refine h_get (v := .ref a) H₁.st.k (I.kp H₁.kp List.not_mem_nil List.not_mem_nil) (by kernel_rfl) (by kernel_rfl) rfl fun t' => ?_
  k_clsL
  refine sub_list (H₁.old hla ha List.not_mem_nil) (by omega) (by omega) (v := u) (by rw [show ((i : Int) + 1 - 1).toNat = i by omega]; exact hv) ?_
  k_clsL
  exact q _ _ H₁.st H₁.kp
theorem ps_group {w : World} {A : Around} {k : Nat} {R : Result → Shared → Prop} {h : Heap} {g : Array GenState} {d : Drawn} {t : Nat} {os : OsState} {x dx : Addr} {v v' : Value}
    (hA : AOk A (k + 3)) (S : St w h) (I : InH h x 374 dx 2 [("_start", v), ("_text", v')]) (hv : handedIn v' = true)
    (q : ∀ h' t', St w h' → Kp [] h h' → R (.ok (.ret v')) ⟨h', g, d, t', os⟩) :
    codeAny (MM w) A (.call (.ref 357) ⟨[.ref x], []⟩) R ⟨h, g, d, t, os⟩ := by
  have H0 : G w h [] h [] := G.start S
  refine enter (k := k + 2) [("self", some (.ref x)), ("arg", some .none)] hA H0 (S.k 357 _ rfl) rfl (codeRec_of S.k (by kernel_rfl)) rfl (binds_peek (binds := [("self", .ref x), ("arg", .none)]) S.k (fun _ => by kernel_rfl)) (by kernel_rfl) ⟨by kernel_rfl, by kernel_rfl, trivial⟩ ?_
  intro env L h₁ t₁ Ev hA₁ H₁ K₁
  dsimp only at Ev
  k_clsL
  refine wpAny_If ?_
  refine wpAny_isTrue_value ?_ (by rfl)
  k_clsL
  refine PyProof.Rows.truthy_none ?_
  k_clsL
  refine Attribute_Name_ ?_
  k_clsL
  refine h_get H₁.st.k (I.kp H₁.kp List.not_mem_nil List.not_mem_nil) (by kernel_rfl) (by kernel_rfl) hv fun t' => ?_
  k_clsL
  exact q _ _ H₁.st H₁.kp
theorem ps_start {w : World} {A : Around} {k : Nat} {R : Result → Shared → Prop} {h : Heap} {g : Array GenState} {d : Drawn} {t : Nat} {os : OsState} {x dx : Addr} {v v' : Value}
    (hA : AOk A (k + 3)) (S : St w h) (I : InH h x 374 dx 2 [("_start", v), ("_text", v')]) (hv : handedIn v = true)
    (q : ∀ h' t', St w h' → Kp [] h h' → R (.ok (.ret v)) ⟨h', g, d, t', os⟩) :
    codeAny (MM w) A (.call (.ref 341) ⟨[.ref x], []⟩) R ⟨h, g, d, t, os⟩ := by
  have H0 : G w h [] h [] := G.start S
  refine enter (k := k + 2) [("self", some (.ref x)), ("arg", some .none)] hA H0 (S.k 341 _ rfl) rfl (codeRec_of S.k (by kernel_rfl)) rfl (binds_peek (binds := [("self", .ref x), ("arg", .none)]) S.k (fun _ => by kernel_rfl)) (by kernel_rfl) ⟨by kernel_rfl, by kernel_rfl, trivial⟩ ?_
  intro env L h₁ t₁ Ev hA₁ H₁ K₁
  dsimp only at Ev
  k_clsL
  refine Attribute_Name_ ?_
  k_clsL
  refine h_get H₁.st.k (I.kp H₁.kp List.not_mem_nil List.not_mem_nil) (by kernel_rfl) (by kernel_rfl) hv fun t' => ?_
  k_clsL
  exact q _ _ H₁.st H₁.kp
def wl (ps : List (Option Str)) : Nat := (ps.map fun p => (p.getD E0).length).sum
theorem wl_take_succ {ps : List (Option Str)} {i : Nat} (hi : i < ps.length) : wl (ps.take (i + 1)) = wl (ps.take i) + (ps[i].getD E0).length := by
  unfold wl
  rw [List.take_add_one, List.getElem?_eq_getElem hi, List.map_append, List.sum_append]
  simp
theorem n_load {w : World} {A : Around} {E : Value → Shared → Prop} {h₀ h : Heap} {W : List Addr} {D : Dl} {L : Addr} {l : Nl} {ns : List (Str × NameKind)} {cl : List (Str × Addr)} {env : Env} {x : Str} {v : Value}
    {g : Array GenState} {d : Drawn} {t : Nat} {os : OsState} {Q : Value → Shared → Prop} (Ev : EnvOk env L ns cl) (hx : (x, .local) ∈ ns) (H : G w h₀ W h D) (hm : (L, fr l) ∈ D) (hv : (x, some v) ∈ l) (q : Q v ⟨h, g, d, t, os⟩) :
    wpAny (MM w) A (loadName env x) Q E ⟨h, g, d, t, os⟩ := by
  obtain ⟨m, hn, _, hml⟩ := H.ns hm
  exact wpAny_loadName_local Ev.kd (Ev.kind hx) (Ev.loc ▸ hn) (hml _ hv v rfl) q
/-- l[:e] of a list -/
theorem sl_uptoE {w : World} {A : Around} {E : Value → Shared → Prop} {h₀ h : Heap} {W : List Addr} {env : Env} {a : Addr} {p pos : Pos} {its : List Value}
    {g : Array GenState} {d : Drawn} {t : Nat} {os : OsState} {value up : Expr} {k : Int} {Q : Value → Shared → Prop} (h0 : 0 ≤ k)
    (hv : wpAny (MM w) A (eval value env) (fun o s₁ => o = .ref a ∧ wpAny (MM w) A (eval up env) (fun u s₂ => ∃ tk h₂ t₂ D, u = .int k tk ∧ s₂ = ⟨h₂, g, d, t₂, os⟩ ∧ G w h₀ W h₂ D ∧ h₂.IsList a its.toArray ∧
      ∀ r h' t', G w h₀ W h' ((r, isL (its.take k.toNat).toArray) :: D) → Kp [] h₂ h' → h₀.get? r = none → Q (.ref r) ⟨h', g, d, t', os⟩) E s₁) E ⟨h, g, d, t, os⟩)
    (hsz : its.length ≤ 100000) :
    wpAny (MM w) A (eval (.Subscript value (.Slice none (some up) none p) pos) env) Q E ⟨h, g, d, t, os⟩ := by
  refine Subscript_ (wpAny_mono hv (fun o s₁ e => ?_) fun _ _ x => x)
  obtain ⟨rfl, e⟩ := e
  refine wpAny_Slice (evalPart_none_step (evalPart_some_step (wpAny_mono e (fun u s₂ e => ?_) fun _ _ x => x)))
  obtain ⟨tk, h₂, t₂, D, rfl, rfl, H, hl, q⟩ := e
  rw [evalPart_none]
  refine wpAny_pure ?_
  refine tail_any (T := "list") (Heap.IsList.typeIs (hl.push _)) slot_list_getitem.lookup (wpAny_getItem_list_slice (lo := none) (hi := some k) (st := none) (hl.push _) (Heap.IsSliceOf.new ..) .none (.int k tk) .none (by simp) ?_ (by rw [List.size_toArray]; exact Nat.le_trans hsz (by decide +kernel))) (by with_unfolding_all rfl)
  rw [Heap.size_push]
  have e : slicePick its.toArray none (some k) none = (its.take k.toNat).toArray := by
    rw [slicePick_plain]
    have hc : clipAt its.toArray.size k = min k.toNat its.length := by
      unfold clipAt; simp only [List.size_toArray]; split <;> omega
    simp only [Option.elim, hc, List.drop_zero, Nat.sub_zero]
    congr 1
    rw [List.take_eq_take_iff]
    simp
  rw [e]
  have H1 : G w h₀ W (h₂.push { cls := .type "slice", data := .fields #[.none, .int k tk, .none] }) D := H.ext fun b o e => Heap.get?_push_of_some _ e
  have hz : h₂.objs.size + 1 = (h₂.push { cls := .type "slice", data := .fields #[.none, .int k tk, .none] }).objs.size := (Heap.size_push ..).symm
  dsimp only
  rw [hz]
  exact q _ _ _ (H1.push (P := isL (its.take k.toNat).toArray) _ rfl (nc_list (its := (its.take k.toNat).toArray) ⟨rfl, 0, rfl⟩) ⟨rfl, 0, rfl⟩) (((Kp.refl [] h₂).ext fun b o e => Heap.get?_push_of_some _ e).ext fun b o e => Heap.get?_push_of_some _ e) (H1.new (get_size _)).1
end

section -- C3
open PySem PySem.W PySem.Calls PyProof.Rows
set_option maxHeartbeats 0
set_option linter.unusedVariables false
set_option maxRecDepth 100000
theorem b_iadd {w : World} {A : Around} {E : Value → Shared → Prop} {h : Heap} {g : Array GenState} {d : Drawn} {t : Nat} {os : OsState} {Q : Value → Shared → Prop} {i j : Int} {ti tj : Tok} (q : ∀ tk t', Q (.int (i + j) tk) ⟨h, g, d, t', os⟩) : wpAny (MM w) A (inplaceOp .Add (.int i ti) (.int j tj)) Q E ⟨h, g, d, t, os⟩ := AutoIntOps.iadd_0 (q _ _)
theorem max0 (n : Nat) (t u : Tok) : ∃ tk, (if (n : Int) - 1 > 0 then Value.int ((n : Int) - 1) u else .int 0 t) = .int ((n - 1 : Nat) : Int) tk := by
  split
  · exact ⟨u, by rw [show ((n - 1 : Nat) : Int) = (n : Int) - 1 by omega]⟩
  · exact ⟨t, by rw [show ((n - 1 : Nat) : Int) = 0 by omega]⟩
theorem pm_start {w : World} {A : Around} {k : Nat} {R : Result → Shared → Prop} {h : Heap} {g : Array GenState} {d : Drawn} {t : Nat} {os : OsState} {x dx a : Addr} {vs : List Value} {ps : List (Option Str)} {pl : Int} {tp tn : Tok} {n : Nat} {args : Args}
    (hA : AOk A (k + 3)) (S : St w h) (I : InH h x 603 dx 2 [("pieces", .ref a), ("place", .int pl tp)]) (hla : h.IsList a vs.toArray) (ha : 714 ≤ a) (hO : OptsAre vs ps) (hl : ps.length ≤ 100) (hz : ∀ p ∈ ps, ∀ x, p = some x → x.length ≤ 200)
    (harg : (args = ⟨[.ref x], []⟩ ∧ n = 0 ∧ tn = 996) ∨ (args = ⟨[.ref x, .int n tn], []⟩ ∧ ∃ m y, n = m + 1 ∧ ps[m]? = some (some y)))
    (q : ∀ h' t' tk, St w h' → Kp [] h h' → R (.ok (.ret (.int (pl + wl (ps.take (n - 1))) tk))) ⟨h', g, d, t', os⟩) :
    codeAny (MM w) A (.call (.ref 586) args) R ⟨h, g, d, t, os⟩ := by
  have H0 : G w h [] h [] := G.start S
  refine enter (k := k + 2) (binds := [("self", .ref x), ("arg", .int n tn)]) [("self", some (.ref x)), ("arg", some (.int n tn)), ("found", none), ("piece", none)] hA H0 (S.k 586 _ rfl) rfl (codeRec_of S.k (by kernel_rfl)) rfl (by
    rcases harg with ⟨rfl, rfl, rfl⟩ | ⟨rfl, _⟩
    · exact binds_peek S.k (fun _ => by kernel_rfl)
    · exact binds_peek S.k (fun _ => by kernel_rfl)) (by kernel_rfl) ⟨by kernel_rfl, by kernel_rfl, trivial⟩ ?_
  intro env L h₁ t₁ Ev hA₁ H₁ K₁
  dsimp only at Ev
  have hlen := hO.1
  have hnl : n ≤ ps.length := by
    rcases harg with ⟨_, rfl, _⟩ | ⟨_, m, y, rfl, e⟩
    · omega
    · have := List.getElem?_eq_some_iff.mp e
      obtain ⟨hm, _⟩ := this
      omega
  have hn100 : (n : Int) ≤ 100 := by omega
  k_clsL
  refine wpAny_If ?_
  refine wpAny_mono (Q := fun b s => b = false ∧ ∃ h₂ t₂, s = ⟨h₂, g, d, t₂, os⟩ ∧ G w h [] h₂ [(L, fr [("self", some (.ref x)), ("arg", some (.int n tn)), ("found", none), ("piece", none)])]) ?_ (fun b s hb => ?_) fun _ _ x => x
  · k_clsL
    refine wpAny_isTrue_value ?_ (by rfl)
    k_clsL
    refine PyProof.Rows.truthy_int ?_
    rcases harg with ⟨-, rfl, -⟩ | ⟨-, m, y, rfl, e⟩
    · refine split_bool (fun h5 => absurd h5 (by decide)) (fun h5 => ?_)
      exact ⟨rfl, _, _, rfl, H₁⟩
    · refine split_bool (fun h5 => ?_) (fun h5 => absurd h5 (by simp; omega))
      k_clsL
      refine Attribute_Name_ ?_
      k_clsL
      refine h_get (v := .ref a) H₁.st.k (I.kp H₁.kp List.not_mem_nil List.not_mem_nil) (by kernel_rfl) (by kernel_rfl) rfl fun t' => ?_
      k_clsL
      obtain ⟨hm, e⟩ := List.getElem?_eq_some_iff.mp e
      obtain ⟨v, hv, hp⟩ := hO.2 m hm
      rw [e] at hp
      obtain ⟨ty, rfl⟩ := hp
      refine sub_list (H₁.old hla ha List.not_mem_nil) (by omega) (by omega) (v := .str y ty) (by rw [show (((m + 1 : Nat) : Int) - 1).toNat = m by omega]; exact hv) ?_
      k_clsL
      exact ⟨rfl, _, _, rfl, H₁⟩
  · obtain ⟨rfl, h₂, t₂, rfl, H₂⟩ := hb
    k_clsL
    refine Attribute_Name_ ?_
    k_clsL
    refine h_get (v := .int pl tp) H₂.st.k (I.kp H₂.kp List.not_mem_nil List.not_mem_nil) (by kernel_rfl) (by kernel_rfl) rfl fun t' => ?_
    k_clsL
    refine wpAny_For ?_
    have hk : (if ((n : Int) - 1) > 0 then ((n : Int) - 1) else 0) = ((n - 1 : Nat) : Int) := by split <;> omega
    refine sl_uptoE (a := a) (its := vs) (k := ((n - 1 : Nat) : Int)) (W := []) (h₀ := h) (by omega) ?_ (by omega)
    refine Attribute_Name_ ?_
    k_clsL
    refine h_get (v := .ref a) (G.st (h₀ := h) (W := []) (by assumption)).k (I.kp (G.kp (h₀ := h) (W := []) (by assumption)) List.not_mem_nil List.not_mem_nil) (by kernel_rfl) (by kernel_rfl) rfl fun t' => ⟨rfl, ?_⟩
    k_clsL
    refine max_two_ints hA₁.hd fun h₄ t₄ K₄ => ?_
    have H₄ := G.ext (h₀ := h) (W := []) (h' := h₄) (by assumption) K₄
    obtain ⟨tk, etk⟩ := max0 n _ _
    refine ⟨tk, h₄, _, _, etk, rfl, H₄, H₄.old hla ha List.not_mem_nil, fun r h₅ t₅ H₅ K₅ nr => ?_⟩
    have hr : (((n - 1 : Nat) : Int)).toNat = n - 1 := by omega
    rw [hr] at H₅
    refine it_list H₅ (H₅.list (by tb_rel)) fun I h₆ H₆ K₆ nI nI' => ?_
    refine codeAny_forLoop (fun m s => ∃ (i : Nat) (hh : Heap) (tt : Nat) (pv : Option Value) (tf : Tok), s = ⟨hh, g, d, tt, os⟩ ∧ m = n - i ∧ i ≤ (vs.take (n - 1)).length ∧
      G w h [] hh [(I, isLI r i), (r, isL (vs.take (n - 1)).toArray), (L, fr [("self", some (.ref x)), ("arg", some (.int n tn)), ("found", some (.int (pl + wl (ps.take i)) tf)), ("piece", pv)])]) ?_ n ?_
    · intro m s hpat
      obtain ⟨i, hh, tt, pv, tf, e, em, hi1, H⟩ := hpat
      subst e
      rcases Nat.lt_or_ge i (vs.take (n - 1)).length with hlt | hge
      · have hlt' : i < ps.length := by simp at hlt; omega
        obtain ⟨v, hv, hp⟩ := hO.2 i hlt'
        refine nx_list H (by tb_rel) (H.list (by tb_rel)) (v := v) (by rw [List.getElem?_take]; rw [if_pos (by simp at hlt; omega)]; exact hv) (by tb_start) fun h' H' hs' => ?_
        dsimp only
        k_clsL
        refine wpAny_AugAssign_Name ?_
        refine n_load Ev (by tb_rel) (by assumption) (by tb_rel) (by tb_rel) ?_
        k_clsL
        refine e_or0 hp (fun x hx => Nat.le_trans (hz _ (List.getElem_mem hlt') x hx) (by decide)) (fun Q' q' => ?_) fun _ _ => ?_
        · k_clsL
          exact q'
        k_clsL
        have hsm : (ps[i].getD E0).length ≤ 200 := by
          cases e : ps[i] with
          | none => exact Nat.zero_le _
          | some y => exact hz _ (List.getElem_mem hlt') y e
        refine s_len (by omega) fun _ _ => ?_
        refine b_iadd fun _ _ => ?_
        k_clsL
        exact ⟨n - (i + 1), by simp at hlt; omega, i + 1, _, _, _, _, rfl, rfl, hlt, by
          rw [wl_take_succ hlt', Int.natCast_add, ← Int.add_assoc]; assumption⟩
      · refine nx_list_end hA₁.hd H (by tb_rel) (H.list (by tb_rel)) (List.getElem?_eq_none hge) Del.head nI fun h' H' hx => ?_
        dsimp only
        k_clsL
        have hi' : i = n - 1 := by simp at hi1 hge; omega
        subst hi'
        exact q _ _ _ (G.st (h₀ := h) (W := []) (by assumption)) (G.kp (h₀ := h) (W := []) (by assumption))
    · exact ⟨0, _, _, _, _, rfl, by omega, by omega, by
        have : pl + (wl (ps.take 0) : Int) = pl := by show pl + ((0 : Nat) : Int) = pl; omega
        rw [this]
        exact H₆⟩
end

end Mine
end

section -- C4, its first part
open PySem PySem.W PySem.Calls PyProof.Rows
set_option maxHeartbeats 0
set_option linter.unusedVariables false
set_option maxRecDepth 100000
namespace Mine
theorem c_funK {w : World} {A : Around} {E : Value → Shared → Prop} {s : Shared} {env : Env} {pos : Pos} {f : Addr} {first : List Value} {e : Expr} {rest : List Expr} {Q : Value → Shared → Prop}
    (h₁ : wpAny (MM w) A (spliced (backTo pos (starEach (e :: rest) env))) (fun vs s₁ => St w s₁.heap ∧ wpAny (MM w) A (call (.ref f) (first ++ vs)) Q E s₁) E s)
    (hk : keepIn (KK w) (.ref f) = true) (he : starEach (e :: rest) env = (false, eval e env) :: starEach rest env) (hplain : (backTo pos (starEach rest env)).any (·.1) = false) :
    wpAny (MM w) A (callWith pos (.ref f) first (backTo pos (starEach (e :: rest) env)) []) Q E s := by
  rw [he] at h₁ ⊢
  exact callWith_of (P := fun h => (KK w).In h) (by show ((false || (backTo pos (starEach rest env)).any (·.1)) || false) = false; rw [hplain]; rfl) (keeps_K hk) (Calls.evalArgs_plain (wpAny_mono h₁ (fun _ _ x => ⟨x.1.k, x.2⟩) fun _ _ x => x))
end Mine
end

section -- the macro rows MC
open PySem PySem.W PySem.Calls PyProof.Rows
namespace Mine
local macro_rules | `(tactic| tb_rel) => `(tactic| ((repeat' first | with_reducible exact List.mem_cons_self | with_reducible refine List.mem_cons_of_mem _ ?_); done))
local macro_rules | `(tactic| tb_start) => `(tactic| ((repeat' first | with_reducible exact Upd.head | with_reducible exact UpN.head | with_reducible apply Upd.tail | with_reducible apply UpN.tail); done))
local macro_rules | `(tactic| k_clsL) => `(tactic|
  first | ((first
  | ((with_reducible show wpAny _ _ (eval _ _) _ _ _); (first
  | ((with_reducible show wpAny _ _ (eval (Expr.Name _ _) _) _ _ _); first
    | with_reducible refine n_local (by assumption) (by tb_rel) (by assumption) (by tb_rel) (by tb_rel) ?_ (by decide +kernel)
    | with_reducible refine n_glob (by assumption) (by tb_rel) (by assumption) (by tb_rel) ?_ (by decide +kernel)
    | with_reducible refine n_cellG (by assumption) (by tb_rel) (by tb_rel) (by assumption) (by tb_rel) ?_ (by decide +kernel)
    | with_reducible refine n_blt (by assumption) (by tb_rel) (by assumption) (by tb_rel) ?_ (by decide +kernel))
  | with_reducible refine e_int fun _ _ => ?_
  | with_reducible refine wpAny_BinOp ?_
  | with_reducible refine wpAny_UnaryOp ?_
  | with_reducible refine wpAny_Call_NameR ?_
  | with_reducible refine e_str fun _ _ => ?_
  | ((fail_if_success (with_reducible show wpAny _ _ (eval (Expr.Subscript _ (Expr.Slice _ _ _ _) _) _) _ _ _)); with_reducible refine Subscript_ ?_)
  | with_reducible refine e_tuple ?_
  | with_reducible refine e_list ?_
  | with_reducible refine wpAny_Constant_none ?_
  | with_reducible refine wpAny_Constant_bool ?_))
  | ((with_reducible show wpAny _ _ (exec _ _) _ _ _); (first
  | ((with_reducible refine wpAny_Assign_Name ?h ?hs); (case hs => rfl))
  | with_reducible refine wpAny_Return_some ?_
  | ((with_reducible refine x_attr ?h ?hs); (case hs => rfl))
  | ((with_reducible refine wpAny_Assign_Subscript ?h ?hs); (case hs => rfl))))
  | ((with_reducible show wpAny _ _ (spliced _) _ _ _); first
     | ((with_reducible refine i_cons ?h ?he); (case he => rfl))
     | with_reducible refine i_nil ?_)
  | with_reducible refine x_cons ?_
  | with_reducible refine x_next ?_
  | with_reducible refine ift ?_
  | with_reducible refine iff ?_
  | ((with_reducible show wpAny _ _ (storeName _ _ _) _ _ _); with_reducible refine n_store (by assumption) (by tb_rel) (by assumption) (by tb_rel) (by tb_start) (by tb_start) fun _ _ _ => ?_)
  | with_reducible refine x_retd ?_
  | with_reducible refine x_nil ?_
  | ((with_reducible refine callWith_method1 ?h ?he ?hp); (case he => rfl); (case hp => rfl))
  | ((with_reducible refine c_funK (f := @OfNat.ofNat Nat _ (instOfNatNat _)) ?h ?hk ?he ?hp); (case he => rfl); (case hp => rfl); (case hk => kernel_rfl))
  | ((with_reducible show St _ _ ∧ _); with_reducible refine and_st (by assumption) ?_)
  | ((with_reducible refine PyProof.Rows.callWith_type1 ?h ?he ?hp); (case he => rfl); (case hp => rfl))
  | ((with_reducible refine wpAny_isTrue_Compare1 ?h ?hm); (case hm => with_unfolding_all rfl))
  | with_reducible refine PyProof.Rows.isTrue_and ?_
  | with_reducible refine PyProof.Rows.isTrue_and_nil ?_
  | with_reducible refine PyProof.Rows.isTrue_or ?_
  | with_reducible refine PyProof.Rows.isTrue_or_nil ?_
  | with_reducible refine wpAny_truthy_bool ?_
  | with_reducible refine PyProof.Rows.gt_int ?_
  | with_reducible refine PyProof.Rows.lt_int ?_
  | with_reducible refine PyProof.Rows.eq_int ?_
  | with_reducible refine s_eq ?_
  | with_reducible refine is_none ?_
  | with_reducible refine isNot_none ?_
  | with_reducible refine b_add fun _ _ => ?_
  | with_reducible refine b_neg fun _ _ => ?_
  | with_reducible refine b_sub fun _ _ => ?_
  | with_reducible refine wpAny_assignInOrder_more ?_
  | with_reducible refine wpAny_assignInOrder_none ?_
  | with_reducible refine wpAny_bindName ?_
  | with_reducible refine wpAny_assign_Name ?_); k_clsL) | skip)
section -- C4
open PySem PySem.W PySem.Calls PyProof.Rows
set_option maxHeartbeats 0
set_option linter.unusedVariables false
set_option maxRecDepth 100000
theorem pm_end0 {w : World} {A : Around} {k : Nat} {R : Result → Shared → Prop} {h : Heap} {g : Array GenState} {d : Drawn} {t : Nat} {os : OsState} {x dx a : Addr} {vs : List Value} {ps : List (Option Str)} {pl : Int} {tp : Tok}
    (hA : AOk A (k + 5)) (S : St w h) (I : InH h x 603 dx 2 [("pieces", .ref a), ("place", .int pl tp)]) (hla : h.IsList a vs.toArray) (ha : 714 ≤ a) (hO : OptsAre vs ps) (hl : ps.length ≤ 100) (hz : ∀ p ∈ ps, ∀ x, p = some x → x.length ≤ 200)
    (q : ∀ h' t' tk, St w h' → Kp [] h h' → R (.ok (.ret (.int (pl + (joined ps).length) tk))) ⟨h', g, d, t', os⟩) :
    codeAny (MM w) A (.call (.ref 594) ⟨[.ref x], []⟩) R ⟨h, g, d, t, os⟩ := by
  have H0 : G w h [] h [] := G.start S
  refine enter (k := k + 4) (binds := [("self", .ref x), ("arg", .int 0 1007)]) [("self", some (.ref x)), ("arg", some (.int 0 1007))] hA H0 (S.k 594 _ rfl) rfl (codeRec_of S.k (by kernel_rfl)) rfl (binds_peek S.k (fun _ => by kernel_rfl)) (by kernel_rfl) ⟨by kernel_rfl, by kernel_rfl, trivial⟩ ?_
  intro env L h₁ t₁ Ev hA₁ H₁ K₁
  dsimp only at Ev
  k_clsL
  refine wpAny_If ?_
  refine wpAny_isTrue_value ?_ (by rfl)
  k_clsL
  refine PyProof.Rows.truthy_int ?_
  refine split_bool (fun h5 => absurd h5 (by decide)) (fun h5 => ?_)
  k_clsL
  refine Attribute_Name_ ?_
  k_clsL
  refine h_get (v := .int pl tp) H₁.st.k (I.kp H₁.kp List.not_mem_nil List.not_mem_nil) (by kernel_rfl) (by kernel_rfl) rfl fun t' => ?_
  k_clsL
  refine MethodCall_ ?_ (by rfl)
  k_clsL
  refine h_meth (f := 600) H₁.st.k (I.kp H₁.kp List.not_mem_nil List.not_mem_nil) (by kernel_rfl) (by kernel_rfl) ?_
  refine callWith_K0 H₁.st.k (by kernel_rfl) ?_
  refine wpAny_call (pm_group0 (k := k + 1) hA₁ H₁.st (I.kp H₁.kp List.not_mem_nil List.not_mem_nil) (H₁.old hla ha List.not_mem_nil) ha hO hz hl fun h' t' tk S' K' => ?_)
  dsimp only
  k_clsL
  have hj : (joined ps).length ≤ 20000 := by
    unfold joined; rw [glued_len]
    have := sum_le2 _ (small_map hz)
    rw [List.length_map] at this; omega
  refine s_len (by omega) fun _ _ => ?_
  k_clsL
  exact q _ _ _ S' ((H₁.call S' K').kp)
/-- Plain.match -/
theorem p_match {w : World} {A : Around} {k : Nat} {R : Result → Shared → Prop} {h : Heap} {g : Array GenState} {d : Drawn} {t : Nat} {os : OsState} {x dx ar a : Addr} {vs : List Value} {ps : List (Option Str)} {text : Str} {tt tp : Tok} {place : Int}
    (hA : AOk A (k + 6)) (S : St w h) (I : InH h x 630 dx 1 [("rows", .ref ar)]) (hra : h.IsList ar #[.ref a]) (har : 714 ≤ ar) (hla : h.IsList a vs.toArray) (ha : 714 ≤ a) (hO : OptsAre vs ps) (hl : ps.length ≤ 100) (hz : ∀ p ∈ ps, ∀ x, p = some x → x.length ≤ 200) (ht : text.length ≤ 100) (hp : 0 ≤ place)
    (q0 : hits text place (joined ps) = false → ∀ h' t', St w h' → Kp [] h h' → R (.ok (.ret .none)) ⟨h', g, d, t', os⟩)
    (q1 : hits text place (joined ps) = true → ∀ m dm h' t', G w h [] h' [(m, isIn 603 dm), (dm, nsx 2 [("pieces", .ref a), ("place", .int place tp)])] → R (.ok (.ret (.ref m))) ⟨h', g, d, t', os⟩) :
    codeAny (MM w) A (.call (.ref 627) ⟨[.ref x, .str text tt, .int place tp], []⟩) R ⟨h, g, d, t, os⟩ := by
  have H0 : G w h [] h [] := G.start S
  refine enter (k := k + 5) (binds := [("self", .ref x), ("text", .str text tt), ("pos", .int place tp), ("endpos", .none)]) [("self", some (.ref x)), ("text", some (.str text tt)), ("pos", some (.int place tp)), ("endpos", some .none), ("pieces", none), ("told", none)] hA H0 (S.k 627 _ rfl) rfl (codeRec_of S.k (by kernel_rfl)) rfl (binds_peek S.k (fun _ => by kernel_rfl)) (by kernel_rfl) ⟨by kernel_rfl, by kernel_rfl, by kernel_rfl, by kernel_rfl, trivial⟩ ?_
  intro env L h₁ t₁ Ev hA₁ H₁ K₁
  dsimp only at Ev
  k_clsL
  refine wpAny_For ?_
  refine Attribute_Name_ ?_
  k_clsL
  refine h_get (v := .ref ar) H₁.st.k (I.kp H₁.kp List.not_mem_nil List.not_mem_nil) (by kernel_rfl) (by kernel_rfl) rfl fun t' => ?_
  refine it_list (its := [.ref a]) H₁ (H₁.old hra har List.not_mem_nil) fun IT h₂ H₂ K₂ nI nI' => ?_
  have hj : (joined ps).length ≤ 20000 := by
    unfold joined; rw [glued_len]
    have := sum_le2 _ (small_map hz)
    rw [List.length_map] at this; omega
  refine codeAny_forLoop (fun m s => ∃ (i : Nat) (hh : Heap) (tt' : Nat) (pv tv : Option Value), s = ⟨hh, g, d, tt', os⟩ ∧ m = 2 - i ∧ i ≤ 1 ∧ (i = 1 → hits text place (joined ps) = false) ∧
    G w h [] hh [(IT, isLI ar i), (L, fr [("self", some (.ref x)), ("text", some (.str text tt)), ("pos", some (.int place tp)), ("endpos", some .none), ("pieces", pv), ("told", tv)])]) ?_ 2 ?_
  · intro m s hpat
    obtain ⟨i, hh, tt', pv, tv, e, em, hi1, hm, H⟩ := hpat
    subst e
    by_cases hi : i = 0
    · subst hi
      refine nx_list H (by tb_rel) (H.old hra har List.not_mem_nil) (v := .ref a) rfl (by tb_start) fun h' H' hs' => ?_
      dsimp only
      k_clsL
      refine e_join Ev hA₁.hd hO hz hl (G.st (h₀ := h) (W := []) (by assumption)) (G.old (h₀ := h) (W := []) (by assumption) hla ha List.not_mem_nil) ha (fun t => ?_) (fun h₃ t₃ tk₃ S₃ K₃ => ?_) (by intro _; rfl) rfl
      · k_clsL
        exact ⟨rfl, _, rfl⟩
      rename_i h₂' t₂' H₂'
      have H₃ := H₂'.call S₃ K₃
      k_clsL
      refine wpAny_If ?_
      k_clsL
      refine s_slice (h₀ := h) (W := []) (x := text) (tx := tt) (i := place) (j := place + ((joined ps).length : Nat)) (by omega) ?_
      k_clsL
      refine ⟨rfl, ?_⟩
      k_clsL
      refine ⟨⟨_, rfl⟩, ?_⟩
      k_clsL
      refine s_len (x := joined ps) (by omega) fun _ _ => ?_
      k_clsL
      refine ⟨⟨_, rfl⟩, _, _, _, rfl, (by assumption), fun h₇ tk₇ t₇ H₇ => ?_⟩
      k_clsL
      refine split_bool (fun hh => ?_) (fun hh => ?_)
      · k_clsL
        rw [v_none_none]
        k_clsL
        refine wpAny_call (mk_match (k := k + 2) hA₁ (G.st (h₀ := h) (W := []) (by assumption)) fun m dm h₈ t₈ N₈ => ?_)
        dsimp only
        k_clsL
        have H₈ := G.take (h₀ := h) (W := []) (by assumption) N₈
        exact q1 hh m dm _ _ (H₈.sub (List.sublist_append_left [_, _] _))
      · k_clsL
        exact ⟨1, by omega, 1, _, _, _, _, rfl, rfl, by omega, fun _ => hh, by assumption⟩
    · have hi' : i = 1 := by omega
      subst hi'
      refine nx_list_end hA₁.hd H (by tb_rel) (H.old hra har List.not_mem_nil) rfl Del.head nI fun h' H' hx => ?_
      dsimp only
      k_clsL
      exact q0 (hm rfl) _ _ (G.st (h₀ := h) (W := []) (by assumption)) (G.kp (h₀ := h) (W := []) (by assumption))
  · exact ⟨0, _, _, _, _, rfl, by omega, by omega, fun q => absurd q (by decide), H₂⟩
end

section -- K1
open PySem PySem.W PySem.Calls PyProof.Rows
set_option maxHeartbeats 0
set_option linter.unusedVariables false
set_option maxRecDepth 100000
/-- what the good objects make sure -/
def Sure (good : Addr → Prop) (h : Heap) (P : Heap → Prop) : Prop := ∀ h', (∀ a o, good a → h.get? a = some o → h'.get? a = some o) → P h'
theorem Sure.keep {good : Addr → Prop} {h h' : Heap} {P : Heap → Prop} (x : Sure good h P) (hk : ∀ a o, good a → h.get? a = some o → h'.get? a = some o) : Sure good h' P :=
  fun h'' hk' => x h'' fun a o g e => hk' a o g (hk a o g e)
theorem Sure.weak {good good' : Addr → Prop} {h : Heap} {P : Heap → Prop} (x : Sure good h P) (hg : ∀ a, good a → good' a) : Sure good' h P :=
  fun h' hk => x h' fun a o g e => hk a o (hg a g) e
theorem Sure.now {good : Addr → Prop} {h : Heap} {P : Heap → Prop} (x : Sure good h P) : P h := x h fun _ _ _ e => e
theorem Sure.mono {good : Addr → Prop} {h : Heap} {P P' : Heap → Prop} (x : Sure good h P) (hp : ∀ h', P h' → P' h') : Sure good h P' := fun h' hk => hp _ (x h' hk)
theorem Sure.and {good : Addr → Prop} {h : Heap} {P P' : Heap → Prop} (x : Sure good h P) (y : Sure good h P') : Sure good h (fun h => P h ∧ P' h) := fun h' hk => ⟨x h' hk, y h' hk⟩
theorem Sure.obj {good : Addr → Prop} {h : Heap} {a : Addr} {P : Pr} (g : good a) (x : ∃ o, h.get? a = some o ∧ P o) : Sure good h (fun h => ∃ o, h.get? a = some o ∧ P o) :=
  fun h' hk => let ⟨o, e, p⟩ := x; ⟨o, hk a o g e, p⟩
theorem Sure.kp {good : Addr → Prop} {W : List Addr} {h h' : Heap} {P : Heap → Prop} (x : Sure good h P) (K : Kp W h h') (hg : ∀ a, good a → a ∉ W ∧ 714 ≤ a) : Sure good h' P :=
  x.keep fun a o g e => K.keep a o e (hg a g).1 (ne380 (hg a g).2) (ne403 (hg a g).2)

def CodeAt (h : Heap) (c : Addr) (q : Str) : Prop := ∃ o vs t, h.get? c = some o ∧ o.cls = .type "code" ∧ o.data = .fields vs ∧ vs[1]? = some (.str q t)
theorem CodeAt.rec' {h c q} (x : CodeAt h c q) : h.CodeRec (.ref c) q := let ⟨o, vs, t, a, _, b, r⟩ := x; ⟨c, o, vs, t, rfl, a, b, r⟩
theorem CodeAt.kp {W h h' c q} (x : CodeAt h c q) (K : Kp W h h') (h1 : c ∉ W) (h2 : 714 ≤ c) : CodeAt h' c q := let ⟨o, vs, t, a, r⟩ := x; ⟨o, vs, t, K.keep _ _ a h1 (ne380 h2) (ne403 h2), r⟩

abbrev qB : Str := "bygroups.<locals>.callback"
abbrev qU : Str := "using.<locals>.callback"
/-- one of the two inner defs -/
def Inner (c P l cc : Nat) (q : Str) : Prop := (c = 384 ∧ P = 380 ∧ l = 217 ∧ cc = 4 ∧ q = qB) ∨ (c = 407 ∧ P = 403 ∧ l = 249 ∧ cc = 8 ∧ q = qU)
theorem Inner.hd {w : World} {h : Heap} {c P l cc q} (x : Inner c P l cc q) (S : St w h) : CodeHd h c P := by
  rcases x with ⟨rfl, rfl, -⟩ | ⟨rfl, rfl, -⟩
  · exact ⟨_, _, _, _, _, _, _, _, _, S.k 384 _ rfl, rfl, rfl, rfl, rfl, rfl, rfl, rfl, rfl, by decide⟩
  · exact ⟨_, _, _, _, _, _, _, _, _, S.k 407 _ rfl, rfl, rfl, rfl, rfl, rfl, rfl, rfl, rfl, by decide⟩
theorem Inner.tab {w : World} {h : Heap} {c P l cc q} (x : Inner c P l cc q) (S : St w h) : TabS h P l cc q := by
  rcases x with ⟨-, rfl, rfl, rfl, rfl⟩ | ⟨-, rfl, rfl, rfl, rfl⟩
  · exact S.t1
  · exact S.t2
theorem inner_code {w : World} {A : Around} {E : Value → Shared → Prop} {h : Heap} {g : Array GenState} {d : Drawn} {t : Nat} {os : OsState} {env : Env} {c P : Addr} {pos : Pos} {fl : Nat} {name q : Str} {p : Arguments} {scope : Scope} {body : FuncBody} {Q : Value → Shared → Prop}
    (S : St w h) (hI : Inner c P pos.line pos.col q) (hc : env.code = .ref c)
    (hq : ∀ c' h' t', St w h' → Kp [] h h' → CodeAt h' c' q → 714 ≤ c' → Q (.ref c') ⟨h', g, d, t', os⟩) :
    wpAny (MM w) A (functionCode env pos fl name q p scope body) Q E ⟨h, g, d, t, os⟩ := by
  have C := hI.hd S
  rcases hI.tab S with hT | ⟨c', o, vs, tq, hT, h714, ho, hcls, hd, hv⟩
  · refine wpAny_functionCodeX hc (C.code hT trivial) (C.tab hT) rfl fun c' h' tk hx hge hlt _ hrec htb hP => ?_
    obtain ⟨P', _, _, htab⟩ := hP
    obtain ⟨⟨oc, vc, e1, e2, e3, _⟩, _⟩ := htab
    obtain ⟨c₂, oc₂, vs, tq, ec, f1, f2, f3⟩ := hrec
    cases ec
    rw [e1] at f1; cases f1
    rw [e3] at f2; cases f2
    have hPs : (P = 380 ∧ pos.line = 217 ∧ pos.col = 4 ∧ q = qB) ∨ (P = 403 ∧ pos.line = 249 ∧ pos.col = 8 ∧ q = qU) := by
      rcases hI with ⟨-, b, r⟩ | ⟨-, b, r⟩
      · exact .inl ⟨b, r⟩
      · exact .inr ⟨b, r⟩
    have hPl : P < 714 := by rcases hPs with ⟨b, -⟩ | ⟨b, -⟩ <;> (rw [b]; decide)
    have h714 : 714 ≤ c' := Nat.le_trans S.big hge
    have kt : ∀ {P' l' c'' q'}, P' ≠ P → P' < 714 → TabS h P' l' c'' q' → TabS h' P' l' c'' q' := fun hn hP' x => by
      rcases x with x | ⟨c', o', vs, t, y, b, dd, r⟩
      · exact .inl (hx _ _ hn x)
      · exact .inr ⟨c', o', vs, t, hx _ _ hn y, b, hx _ _ (fun q => absurd hPl (Nat.not_lt.mpr (q ▸ b))) dd, r⟩
    have tn : TabS h' P pos.line pos.col q := .inr ⟨c', oc, vc, tq, htb.2, h714, e1, e2, e3, f3⟩
    have S' : St w h' := by
      refine ⟨fun b ob e => hx _ _ (fun q => ?_) (S.k b ob e), let ⟨mb, ⟨o, es, ep, e1, r⟩, y⟩ := S.b; ⟨mb, ⟨o, es, ep, hx _ _ (fun q => ?_) e1, r⟩, y⟩, let ⟨mc, ⟨o, es, ep, e1, r⟩, y⟩ := S.lim; ⟨mc, ⟨o, es, ep, hx _ _ (fun q => ?_) e1, r⟩, y⟩, ?_, ?_, let ⟨ob, e, r⟩ := S.bm; ⟨ob, hx _ _ (fun q => ?_) e, r⟩⟩
      · have := kk_lt e
        rcases hPs with ⟨b, -⟩ | ⟨b, -⟩
        · exact this.2.1 (q.trans b)
        · exact this.2.2 (q.trans b)
      · rcases hPs with ⟨b, -⟩ | ⟨b, -⟩ <;> (rw [b] at q; exact absurd q (by decide))
      · rcases hPs with ⟨b, -⟩ | ⟨b, -⟩ <;> (rw [b] at q; exact absurd q (by decide))
      · rcases hPs with ⟨b, r1, r2, r3⟩ | ⟨b, -⟩
        · rw [b, r1, r2, r3] at tn; exact tn
        · exact kt (by rw [b]; decide) (by decide) S.t1
      · rcases hPs with ⟨b, -⟩ | ⟨b, r1, r2, r3⟩
        · exact kt (by rw [b]; decide) (by decide) S.t2
        · rw [b, r1, r2, r3] at tn; exact tn
      · rcases hPs with ⟨b, -⟩ | ⟨b, -⟩ <;> (rw [b] at q; exact absurd q (by decide))
    refine hq c' h' tk S' ⟨fun b o e _ y z => hx _ _ (fun q => ?_) e, fun b o e => ?_⟩ ⟨oc, vc, tq, e1, e2, e3, f3⟩ h714
    · rcases hPs with ⟨b', -⟩ | ⟨b', -⟩
      · exact y (q.trans b')
      · exact z (q.trans b')
    · by_cases hb : b = P
      · subst hb; exact ⟨_, htb.2⟩
      · exact ⟨o, hx _ _ hb e⟩
  · refine wpAny_functionCode_hit hc (C.code hT trivial) (c' := .ref c') (by simp [codeAmong, rawInt]) ?_
    exact hq c' h t S (Kp.refl _ _) ⟨o, vs, tq, ho, hcls, hd, hv⟩ h714
end

section -- K2
open PySem PySem.W PySem.Calls PyProof.Rows
set_option maxHeartbeats 0
set_option linter.unusedVariables false
set_option maxRecDepth 100000
theorem G.codeNe {w : World} {h₀ h : Heap} {W : List Addr} {D : Dl} {c : Addr} {q : Str} (H : G w h₀ W h D) (x : CodeAt h c q) : c ∉ D.map (·.1) := fun hm => by
  obtain ⟨p, hp, rfl⟩ := List.mem_map.mp hm
  obtain ⟨o, e, n, _⟩ := H.own p hp
  obtain ⟨o', vs, t, e', c1, c2, _⟩ := x
  rw [e] at e'; cases e'
  exact n c1 vs c2
def isFnD (name q : Str) (params : Arguments) (body : List Stmt) (scope : Scope) (clos : List (Str × Addr)) (dV : Value) (c' : Addr) : Pr := fun o =>
  ∃ doc pm ct, o = { cls := .type "function", data := .func (kdv_fn name q params (.stmts body) scope clos dV doc pm (.ref c') ct) }
theorem nc_fn {name q params body scope clos dV c' o} (x : isFnD name q params body scope clos dV c' o) : NC o := fun e => by
  obtain ⟨_, _, _, rfl⟩ := x; exact absurd (Value.type.inj e) (by decide)
theorem main_ok (w : World) : (match (KK w).lookup 3 with | some ⟨_, _, .dict es _, _⟩ => es.toList.all (fun e => match e.key with | .str _ _ => true | _ => false) && (nsFind es "__builtins__" == some (.ref 4)) | _ => false) = true := by kernel_rfl
theorem main_ns {w : World} {h : Heap} (S : St w h) : ∃ mg, h.Ns mainGlobals mg ∧ h.BuiltinsAt mg 380 ∧ h.BuiltinsAt mg 403 := by
  have e := main_ok w
  split at e
  · rename_i cls dct es n sl hl
    simp only [Bool.and_eq_true, beq_iff_eq] at e
    obtain ⟨e1, e2⟩ := e
    obtain ⟨ob, b1, b2, b3, b4⟩ := S.bm
    refine ⟨fun x => nsFind es x, ⟨_, es, n, S.k 3 _ hl, rfl, fun en hen => ?_, fun _ => rfl⟩, ⟨4, ob, e2, by decide, by decide, by decide, b1, b2, b3, b4⟩, ⟨4, ob, e2, by decide, by decide, by decide, b1, b2, b3, b4⟩⟩
    have := List.all_eq_true.mp e1 en (Array.mem_toList_iff.mpr hen)
    split at this
    · rename_i n t hk; exact ⟨n, t, hk⟩
    · cases this
  · cases e
section
variable {w : World} {A : Around} {E : Value → Shared → Prop} {h₀ h : Heap} {W : List Addr} {D : Dl} {L c P : Addr} {ns : List (Str × NameKind)} {cl clos : List (Str × Addr)} {env : Env} {pos : Pos} {fl : Nat} {name q : Str} {params : Arguments} {scope : Scope} {body : List Stmt} {dV : Value}
  {g : Array GenState} {d : Drawn} {t : Nat} {os : OsState}
theorem f_make {Q : Value → Shared → Prop} (H : G w h₀ W h D) (Ev : EnvOk env L ns cl) (hI : Inner c P pos.line pos.col q) (hc : env.code = .ref c) (hcl : closureFor scope env = pure clos) (hne : clos.isEmpty = false) (hdoc : docOf body = none)
    (hq : ∀ f c' h' t', G w h₀ W h' ((f, isFnD name q params body scope clos dV c') :: D) → CodeAt h' c' q → Kp [] h h' → h.get? f = none → 714 ≤ c' → Q (.ref f) ⟨h', g, d, t', os⟩) :
    wpAny (MM w) A (makeTail name q params (.stmts body) scope env dV .none none pos fl) Q E ⟨h, g, d, t, os⟩ := by
  unfold makeTail
  rw [hcl, Ev.gl]
  refine wpAny_bind (wpAny_pure ?_)
  simp only [hne, Bool.false_eq_true, if_false]
  refine wpAny_bind (wpAny_newTextTuple ?_)
  have k1 : ∀ (o : Obj) b ob, h.get? b = some ob → (h.push o).get? b = some ob := fun o b ob e => Heap.get?_push_of_some _ e
  refine wpAny_bind (inner_code (H.st.ext (k1 _)) hI hc fun c' h' t' S' K' hcd h714 => ?_)
  have K0 : Kp [] h h' := ((Kp.refl [] h).ext (k1 _)).trans K'
  have H' := H.call S' K0
  obtain ⟨mg, hg, hb1, hb2⟩ := main_ns S'
  obtain ⟨bm, ob, hbm, hne0, _, _, hbo, hcls, hdict, hdata⟩ := hb1
  refine wpAny_bind (wpAny_builtinsFor hg hbm hne0 hbo hcls hdict hdata ?_)
  refine wpAny_bind (wpAny_nsGet hg ?_)
  simp only [hdoc]
  refine wpAny_bind (wpAny_pure (wpAny_newObj_type ?_ (by size_fits)))
  have n := H'.new (get_size h')
  have nf : h.get? h'.objs.size = none := by
    cases q : h.get? h'.objs.size with
    | none => rfl
    | some o => obtain ⟨o', e⟩ := K0.there _ _ q; rw [get_size] at e; cases e
  refine hq _ c' _ _ (H'.push (P := isFnD name q params body scope clos dV c') _ rfl (fun e => absurd (Value.type.inj e) (by decide)) ⟨_, _, _, rfl⟩) ?_ (K0.ext fun b o e => Heap.get?_push_of_some _ e) nf h714
  obtain ⟨o, vs, tq, e, r⟩ := hcd
  exact ⟨o, vs, tq, Heap.get?_push_of_some _ e, r⟩
/-- an inner def with one default, None -/
theorem x_def {Q : Flow → Shared → Prop} {k : Nat} {kp : Pos} (H : G w h₀ W h D) (Ev : EnvOk env L ns cl) (hI : Inner c P pos.line pos.col q) (hc : env.code = .ref c) (hcl : closureFor scope env = pure clos) (hne : clos.isEmpty = false) (hdoc : docOf body = none)
    (hqn : qualnameIn env name name = q) (hds : params.defaults = [.Constant .none k kp]) (hk0 : params.kw_defaults = []) (ha : annTrees params none env = [])
    (hq : ∀ f c' td h' t', G w h₀ W h' ((f, isFnD name q params body scope clos (.ref td) c') :: (td, isT #[.none]) :: D) → CodeAt h' c' q → Kp [] h h' → 714 ≤ c' → wpAny (MM w) A (storeName env name (.ref f)) (fun _ s'' => Q .next s'') E ⟨h', g, d, t', os⟩) :
    wpAny (MM w) A (exec (.FunctionDef name params body [] none [] scope none name pos) env) Q E ⟨h, g, d, t, os⟩ := by
  refine kdv_def (by rw [hds]; rfl) hk0 ha ?_
  rw [hds, hqn]
  refine kdv_all1 (wpAny_Constant_none (kdv_all0 ?_))
  rw [makeFunction_eq]
  simp only [List.zip_nil_right, List.filterMap_nil, List.isEmpty_nil, if_true, pure_bind, List.isEmpty_cons, Bool.false_eq_true, if_false]
  refine wpAny_bind (wpAny_newTextTuple ?_)
  have H1 : G w h₀ W (h.push { cls := .type "tuple", data := .seq #[.none] }) ((h.objs.size, isT #[.none]) :: D) := H.push (P := isT #[.none]) _ rfl (nc_tup (its := #[.none]) ⟨rfl, 0, rfl⟩) ⟨rfl, 0, rfl⟩
  exact f_make H1 Ev hI hc hcl hne hdoc fun f c' h' t' H' hcd K' _ h714 => hq f c' _ h' t' H' hcd (((Kp.refl [] h).ext fun b o e => Heap.get?_push_of_some _ e).trans K') h714
end
end

section -- K3
open PySem PySem.W PySem.Calls PyProof.Rows
set_option maxHeartbeats 0
set_option linter.unusedVariables false
set_option maxRecDepth 100000
def innerB? (K : Frag) : Option (Arguments × List Stmt × Scope) := match K.lookup 385 with
  | some ⟨_, _, .func fd, _⟩ => (match fd.body with
    | .stmts (.FunctionDef _ p b _ _ _ sc _ _ _ :: _) => some (p, b, sc)
    | _ => none)
  | _ => none
def innerU? (K : Frag) : Option (Arguments × List Stmt × Scope) := match K.lookup 408 with
  | some ⟨_, _, .func fd, _⟩ => (match fd.body with
    | .stmts (_ :: _ :: .If _ (.FunctionDef _ p b _ _ _ sc _ _ _ :: _) _ _ :: _) => some (p, b, sc)
    | _ => none)
  | _ => none
theorem mk_bygroups {w : World} {A : Around} {k : Nat} {R : Result → Shared → Prop} {h : Heap} {g : Array GenState} {d : Drawn} {t : Nat} {os : OsState} {vals : List Value} {pB : Arguments} {bB : List Stmt} {sB : Scope}
    (hB : innerB? (KK w) = some (pB, bB, sB)) (hn : vals.length ≤ 3) (hA : AOk A (k + 3)) (S : St w h)
    (q : ∀ f c' td ca at' h' t', G w h [] h' [(f, isFnD "callback" qB pB bB sB [("args", ca)] (.ref td) c'), (td, isT #[.none]), (ca, isC (some (.ref at'))), (at', isT vals.toArray)] → CodeAt h' c' qB → 714 ≤ c' → R (.ok (.ret (.ref f))) ⟨h', g, d, t', os⟩) :
    codeAny (MM w) A (.call (.ref 385) ⟨vals, []⟩) R ⟨h, g, d, t, os⟩ := by
  have e : innerB? (KK w) = some (_, _, _) := rfl
  rw [hB] at e
  clear hB
  cases e
  have H : G w h [] h [] := G.start S
  refine enterB1 (k := k + 2) ["args"] [("args", 0)] hA H (S.k 385 _ rfl) rfl (codeRec_of S.k (by kernel_rfl)) rfl (by kernel_rfl) rfl (fun n => rfl) ?_
  refine wp_eq (m' := newTuple vals >>= fun tup => pure [("args", tup)]) (by
    rcases vals with _ | ⟨v1, _ | ⟨v2, _ | ⟨v3, _ | ⟨v4, vs⟩⟩⟩⟩
    · kernel_rfl
    · kernel_rfl
    · kernel_rfl
    · kernel_rfl
    · simp at hn) (wpAny_bind (wpAny_newTuple (wpAny_pure ?_) (Nat.le_trans hn (by decide +kernel))))
  refine ⟨_, _, _, [("callback", none)], fun _ => some (.ref h.objs.size), rfl, H.push (P := isT vals.toArray) _ rfl (nc_tup (its := vals.toArray) ⟨rfl, 0, rfl⟩) ⟨rfl, 0, rfl⟩, rfl, by kernel_rfl, trivial, ?_, ?_⟩
  · intro p hp
    rw [List.mem_singleton.mp hp]; rfl
  intro env L c h₂ t₂ Ev hcode hqual hA₂ H₂ K₂ nc nL
  have Ev' : EnvOk env L [("args", .cell), ("callback", .local)] [("args", c)] := Ev
  have H₂' : G w h [] h₂ [(L, fr [("callback", none)]), (c, isC (some (.ref h.objs.size))), (h.objs.size, isT vals.toArray)] := H₂
  clear Ev H₂
  refine x_cons (x_def (c := 384) (P := 380) (q := qB) (clos := [("args", c)]) H₂' Ev' (.inl ⟨rfl, rfl, rfl, rfl, rfl⟩) hcode (clos_of Ev' (by kernel_rfl) rfl) rfl rfl ?_ rfl rfl (by rfl) ?_)
  · unfold qualnameIn
    rw [hqual, Ev'.kind (x := "callback") (by tb_rel)]
    kernel_rfl
  intro f c' td h₃ t₃ H₃ hcd K₃ h714
  have H₄ := H₃.restart
  k_clsL
  rename_i h₅ t₅ H₅
  exact q f c' td c _ _ _ ((H₃.over H₅).sub (.cons_cons _ (.cons_cons _ (.cons _ (List.Sublist.refl _))))) (hcd.kp H₅.kp (H₃.codeNe hcd) h714) h714
end

section -- K4
open PySem PySem.W PySem.Calls PyProof.Rows
set_option maxHeartbeats 0
set_option linter.unusedVariables false
set_option maxRecDepth 100000
/-! dicts with texts for keys -/
noncomputable abbrev sk (w : World) : KeyKind PP w Str := PySem.strKind PP w
abbrev DAt (w : World) (h : Heap) (a : Addr) (kvs : List (Str × Value)) : Prop := Heap.DictOf (sk w) h a kvs
def isDD (w : World) (kvs : List (Str × Value)) : Pr := fun o => Obj.IsDictOf (sk w) o kvs
theorem nc_dd {w : World} {kvs : List (Str × Value)} {o : Obj} (h : isDD w kvs o) : NC o := by
  obtain ⟨es, ep, _, hd, _⟩ := h; exact nc_dict hd
theorem sysNe {a : Addr} (h : 714 ≤ a) : (a == sysModules) = false := beq_eq_false_iff_ne.mpr fun q => by subst q; exact absurd h (by decide)
theorem dkey {w : World} {k : Str} {t : Tok} : (sk w).is k (.str k t) = true := strKind_is PP w k t
section
variable {w : World} {A : Around} {E : Value → Shared → Prop} {h₀ h : Heap} {W : List Addr} {D D' : Dl} {a : Addr} {env : Env} {kvs : List (Str × Value)} {k : Str} {v : Value} {tk : Tok} {pos apos : Pos}
  {g : Array GenState} {d : Drawn} {t : Nat} {os : OsState}
theorem G.dd (H : G w h₀ W h D) (hm : (a, isDD w kvs) ∈ D) : DAt w h a kvs := Heap.dictOf_iff.mpr (H.get hm)
theorem DAt.kp {W : List Addr} {h h' : Heap} (x : DAt w h a kvs) (K : Kp W h h') (h1 : a ∉ W) (h2 : 714 ≤ a) : DAt w h' a kvs :=
  let ⟨o, es, ep, ho, r⟩ := x; ⟨o, es, ep, K.keep _ _ ho h1 (ne380 h2) (ne403 h2), r⟩
theorem dd_new {Q : Value → Shared → Prop} (H : G w h₀ W h D) (q : ∀ r h', G w h₀ W h' ((r, isDD w []) :: D) → Kp [] h h' → h.get? r = none → Q (.ref r) ⟨h', g, d, t, os⟩) :
    wpAny (MM w) A (eval (.Dict [] [] pos) env) Q E ⟨h, g, d, t, os⟩ := by
  refine wpAny_Dict_empty ?_
  have P : isDD w [] { cls := .type "dict", data := .dict #[] } := by
    obtain ⟨o, e, p⟩ := Heap.dictOf_iff.mp (Heap.DictOf.new (knd := sk w) h)
    rw [Heap.get?_push_size _ rfl] at e; cases e; exact p
  exact q _ _ (H.push (P := isDD w []) _ rfl (nc_dd P) P) ((Kp.refl [] h).ext fun b o e => Heap.get?_push_of_some _ e) (get_size h)
theorem dd_set {Q : Unit → Shared → Prop} (H : G w h₀ W h D) (hm : (a, isDD w kvs) ∈ D) (hz : kvs.length ≤ 100) (u : Upd a (isDD w (stored kvs k v)) D D') (q : ∀ h' t', G w h₀ W h' D' → Q () ⟨h', g, d, t', os⟩) :
    wpAny (MM w) A (setItem (.ref a) (.str k tk) v) Q E ⟨h, g, d, t, os⟩ := by
  refine wpAny_setItem_pairs (knd := sk w) dkey (H.dd hm) (fun h' hd hs => ?_) (Nat.le_trans hz (by decide +kernel))
  obtain ⟨o, e, p⟩ := Heap.dictOf_iff.mp hd
  exact q _ _ (H.upd (P := isDD w (stored kvs k v)) u hs e (nc_dd p) p)
theorem dd_item {value slice : Expr} {Q : Value → Shared → Prop} (x : DAt w h a kvs) (hv : valueAt kvs k = some v) (q : ∀ t', Q v ⟨h, g, d, t', os⟩)
    (hs : subscripted slice false (.ref a) (.str k tk) = operate [.ref a, .str k tk] (getItem (.ref a) (.str k tk)) := by with_unfolding_all rfl) :
    wpAny (MM w) A (subscriptTail value slice (.ref a) (.str k tk)) Q E ⟨h, g, d, t, os⟩ :=
  tail_any x.mapOf.typeIs slot_dict_getitem.lookup (wpAny_getItem_of (knd := sk w) dkey x.mapOf hv (q _)) hs
theorem dd_in {Q : Value → Shared → Prop} (x : DAt w h a kvs) (h7 : 714 ≤ a) (q : ∀ t', Q (.bool (valueAt kvs k).isSome) ⟨h, g, d, t', os⟩) : wpAny (MM w) A (compareOp .In (.str k tk) (.ref a)) Q E ⟨h, g, d, t, os⟩ :=
  wpAny_in_of (knd := sk w) dkey (sysNe h7) x.mapOf (q _)
theorem dd_truthy {Q : Bool → Shared → Prop} (x : DAt w h a kvs) (h7 : 714 ≤ a) (hz : kvs.length ≤ 100) (q : ∀ t', Q (!kvs.isEmpty) ⟨h, g, d, t', os⟩) : wpAny (MM w) A (truthy (.ref a)) Q E ⟨h, g, d, t, os⟩ :=
  wpAny_truthy_dict (knd := sk w) (sysNe h7) x (by omega) (q _)
theorem dd_get2 {e1 : Sem Value} {e2 : Sem Value} {Q : Value → Shared → Prop} (h7 : 714 ≤ a)
    (hq : wpAny (MM w) A e1 (fun kv s₁ => wpAny (MM w) A e2 (fun dv s₂ => ∃ k tk h₂ t₂ kvs, kv = .str k tk ∧ s₂ = ⟨h₂, g, d, t₂, os⟩ ∧ DAt w h₂ a kvs ∧ ∀ t', Q ((valueAt kvs k).getD dv) ⟨h₂, g, d, t', os⟩) E s₁) E ⟨h, g, d, t, os⟩)
    (x : DAt w h a kvs) : MethodOnS PP w A E "get" (.ref a) pos [(false, e1), (false, e2)] Q ⟨h, g, d, t, os⟩ := by
  refine ⟨"dict", "dict.get", F.plainAttrs_dict, F.slot_dict_get, F.type_dict_get, x.mapOf.typeIs, x.mapOf.noDict, wpAny_dict_get2 (knd := sk w) (sysNe h7) (wpAny_mono hq (fun kv s₁ y => wpAny_mono y (fun dv s₂ y => ?_) fun _ _ x => x) fun _ _ x => x)⟩
  obtain ⟨k, tk, h₂, t₂, kvs, rfl, rfl, x, q⟩ := y
  exact ⟨k, _, dkey, x.mapOf, q _⟩
theorem dd_get1 {e1 : Sem Value} {Q : Value → Shared → Prop} (h7 : 714 ≤ a)
    (hq : wpAny (MM w) A e1 (fun kv s₁ => ∃ k tk h₂ t₂ kvs, kv = .str k tk ∧ s₁ = ⟨h₂, g, d, t₂, os⟩ ∧ DAt w h₂ a kvs ∧ ∀ t', Q ((valueAt kvs k).getD .none) ⟨h₂, g, d, t', os⟩) E ⟨h, g, d, t, os⟩)
    (x : DAt w h a kvs) : MethodOnS PP w A E "get" (.ref a) pos [(false, e1)] Q ⟨h, g, d, t, os⟩ := by
  refine ⟨"dict", "dict.get", F.plainAttrs_dict, F.slot_dict_get, F.type_dict_get, x.mapOf.typeIs, x.mapOf.noDict, wpAny_dict_get1 (knd := sk w) (sysNe h7) (wpAny_mono hq (fun kv s₁ y => ?_) fun _ _ x => x)⟩
  obtain ⟨k, tk, h₂, t₂, kvs, rfl, rfl, x, q⟩ := y
  exact ⟨k, _, dkey, x.mapOf, q _⟩
theorem dd_pop {e1 : Sem Value} {Q : Value → Shared → Prop} (x : DAt w h a kvs)
    (hq : wpAny (MM w) A e1 (fun kv s₁ => ∃ k tk h₂ t₂ kvs D D' v, kv = .str k tk ∧ s₁ = ⟨h₂, g, d, t₂, os⟩ ∧ G w h₀ W h₂ D ∧ (a, isDD w kvs) ∈ D ∧ kvs.length ≤ 100 ∧ valueAt kvs k = some v ∧ Upd a (isDD w (without kvs k)) D D' ∧ ∀ h' t', G w h₀ W h' D' → Q v ⟨h', g, d, t', os⟩) E ⟨h, g, d, t, os⟩) :
    MethodOnS PP w A E "pop" (.ref a) pos [(false, e1)] Q ⟨h, g, d, t, os⟩ := by
  refine ⟨"dict", "dict.pop", F.plainAttrs_dict, F.slot_dict_pop, F.type_dict_pop, x.mapOf.typeIs, x.mapOf.noDict, method1_meetsIn F.slot_dict_pop F.entry_dict_pop (wpAny_mono hq (fun kv s₁ y => ?_) fun _ _ x => x)⟩
  obtain ⟨k, tk, h₂, t₂, kvs, D, D', v, rfl, rfl, H, hm, hz, hv, u, q⟩ := y
  refine ⟨(H.dd hm).mapOf.typeIs, F.args_dict_pop_2 _ _, _, meets_dict_pop_there (sk w) a dkey [] (.inl rfl) rfl, kvs, v, H.dd hm, Nat.le_trans hz (by decide +kernel), hv, fun h' hd hs => ?_⟩
  obtain ⟨o, e, p⟩ := Heap.dictOf_iff.mp hd
  exact q _ _ (H.upd (P := isDD w (without kvs k)) u hs e (nc_dd p) p)
end
end

section -- K5
open PySem PySem.W PySem.Calls PyProof.Rows
set_option maxHeartbeats 0
set_option linter.unusedVariables false
set_option maxRecDepth 100000
/-- an empty dict, just made -/
def isE : Pr := fun o => o = { cls := .type "dict", data := .dict #[] }
def isTx (vs : List Value) : Pr := fun o => o = { cls := .type "tuple", data := .seq vs.toArray }
section
variable {w : World} {A : Around} {E : Value → Shared → Prop} {h₀ h : Heap} {W : List Addr} {D D' : Dl} {a : Addr} {env : Env} {k : Str} {v : Value} {tk : Tok} {pos apos : Pos}
  {g : Array GenState} {d : Drawn} {t : Nat} {os : OsState}
theorem dd_nsSet {Q : Unit → Shared → Prop} (H : G w h₀ W h D) (hm : (a, isE) ∈ D) (u : Upd a (isDD w [(k, v)]) D D') (q : ∀ h' t', G w h₀ W h' D' → Q () ⟨h', g, d, t', os⟩) :
    wpAny (MM w) A (nsSet a k v) Q E ⟨h, g, d, t, os⟩ := by
  obtain ⟨o, eD, rfl⟩ := H.get hm
  have e : Obj.putName k (PyData.keyHash w.params k) (.str k t) v { cls := .type "dict", data := .dict #[] } = dictOf (kwEs w.params t [(k, v)]) (0 + 1) := by
    exact putName_dict k (PyData.keyHash w.params k) (.str k t) v [] 0
  have P : isDD w [(k, v)] (dictOf (kwEs w.params t [(k, v)]) (0 + 1)) := kp_isDict (prog := PP) (w := w) t (0 + 1) (List.nodup_cons.mpr ⟨List.not_mem_nil, List.nodup_nil⟩)
  unfold nsSet
  refine wpAny_bind (wpAny_bind (wpAny_askSetting (wpAny_pure (wpAny_bind (wpAny_mkText (wpAny_bind (wpAny_loadPart eD ?_)))))))
  dsimp only
  refine wpAny_updatePart eD ?_
  exact q _ _ (H.upd (P := isDD w [(k, v)]) u (Heap.SameBut.update ..) (Heap.get?_update_self _ eD (by show (Obj.putName k (PyData.keyHash w.params k) (.str k t) v { cls := .type "dict", data := .dict #[] }).isFreed = false; rw [e]; rfl)) (by show NC (Obj.putName k (PyData.keyHash w.params k) (.str k t) v { cls := .type "dict", data := .dict #[] }); rw [e]; exact nc_dd P) (by show isDD w [(k, v)] (Obj.putName k (PyData.keyHash w.params k) (.str k t) v { cls := .type "dict", data := .dict #[] }); rw [e]; exact P))
theorem new_tupX {Q : Value → Shared → Prop} {vs : List Value} (H : G w h₀ W h D) (q : ∀ r h', G w h₀ W h' ((r, isTx vs) :: D) → Kp [] h h' → h.get? r = none → Q (.ref r) ⟨h', g, d, t, os⟩) :
    New Q { cls := .type "tuple", data := .seq vs.toArray } ⟨h, g, d, t, os⟩ :=
  q _ _ (H.push (P := isTx vs) { cls := .type "tuple", data := .seq vs.toArray } rfl (nc_tup (its := vs.toArray) ⟨rfl, 0, rfl⟩) rfl) ((Kp.refl [] h).ext fun b o e => Heap.get?_push_of_some _ e) (get_size h)
end
theorem mk_using {w : World} {A : Around} {k : Nat} {R : Result → Shared → Prop} {h : Heap} {g : Array GenState} {d : Drawn} {t : Nat} {os : OsState} {v : Value} {pU : Arguments} {bU : List Stmt} {sU : Scope}
    (hU : innerU? (KK w) = some (pU, bU, sU)) (hA : AOk A (k + 3)) (S : St w h) (hv : (∃ x t, v = .str x t) ∨ (∃ a its, v = .ref a ∧ 714 ≤ a ∧ IsTup h a its))
    (q : ∀ f c' td cg dg vs h' t', G w h [] h' [(f, isFnD "callback" qU pU bU sU [("gt_kwargs", cg)] (.ref td) c'), (td, isT #[.none]), (dg, isDD w [("stack", vs)]), (cg, isC (some (.ref dg)))] → CodeAt h' c' qU → 714 ≤ c' →
      ((∃ x t tr, v = .str x t ∧ ∃ r, vs = .ref r ∧ IsTup h' r #[.str "root" tr, .str x t] ∧ 714 ≤ r ∧ h.get? r = none) ∨ (∃ a, v = .ref a ∧ vs = v)) → R (.ok (.ret (.ref f))) ⟨h', g, d, t', os⟩) :
    codeAny (MM w) A (.call (.ref 408) ⟨[.ref 401], [("state", v)]⟩) R ⟨h, g, d, t, os⟩ := by
  have e : innerU? (KK w) = some (_, _, _) := rfl
  rw [hU] at e
  clear hU
  cases e
  have H : G w h [] h [] := G.start S
  refine enterB1 (k := k + 2) ["_other", "kwargs"] [("gt_kwargs", 1), ("_other", 0)] hA H (S.k 408 _ rfl) rfl (codeRec_of S.k (by kernel_rfl)) rfl (by kernel_rfl) rfl (fun n => rfl) ?_
  refine wp_eq (m' := alloc { cls := .type "dict", data := .dict #[] } >>= fun D => (forIn [(Str.ofString "state", v)] PUnit.unit (fun x _ => (nsSet D x.1 x.2 >>= fun _ => pure (ForInStep.yield PUnit.unit))) >>= fun _ => pure [("_other", Value.ref 401), ("kwargs", .ref D)])) (by kernel_rfl) (wpAny_bind (wpAny_alloc (wpAny_bind ?_)))
  have H1 : G w h [] (h.push { cls := .type "dict", data := .dict #[] }) [(h.objs.size, isE)] := H.push (P := isE) _ rfl (nc_dict rfl) rfl
  rw [List.forIn_cons]
  refine wpAny_bind (wpAny_bind (dd_nsSet H1 (by tb_rel) .head fun h₁ t₁ H₁ => wpAny_pure (wpAny_pure (wpAny_pure ?_))))
  refine ⟨_, _, _, [("kwargs", some (.ref h.objs.size)), ("s", none), ("callback", none)], fun x => if x = "_other" then some (.ref 401) else none, rfl, H₁, rfl, by kernel_rfl, ⟨by kernel_rfl, trivial⟩, ?_, ?_⟩
  · intro p hp
    rcases List.mem_cons.mp hp with rfl | hp
    · rfl
    · rw [List.mem_singleton.mp hp]; rfl
  intro env L c h₂ t₂ Ev hcode hqual hA₂ H₂ K₂ nc nL
  have Ev' : EnvOk env L [("_other", .cell), ("kwargs", .local), ("s", .local), ("callback", .local), ("gt_kwargs", .cell), ("isinstance", .globalImplicit), ("list", .globalImplicit), ("tuple", .globalImplicit), ("this", .globalImplicit)] [("gt_kwargs", c + 1), ("_other", c)] := Ev
  have H₂' : G w h [] h₂ [(L, fr [("kwargs", some (.ref h.objs.size)), ("s", none), ("callback", none)]), (c + 1, isC none), (c, isC (some (.ref 401))), (h.objs.size, isDD w [("state", v)])] := H₂
  clear Ev H₂
  k_clsL
  refine dd_new H₂' fun dg h₃ H₃ K₃ ndg => ?_
  refine c_store (c := c + 1) Ev' (by tb_rel) (by tb_rel) H₃ (by tb_rel) (by tb_start) fun h₄ H₄ => ?_
  refine x_next (x_cons ?_)
  refine wpAny_mono (Q := fun f s => f = .next ∧ ∃ h' t' vs T s₁, s = ⟨h', g, d, t', os⟩ ∧ G w h [] h' ((dg, isDD w [("stack", vs)]) :: (L, fr [("kwargs", some (.ref h.objs.size)), ("s", s₁), ("callback", none)]) :: (c + 1, isC (some (.ref dg))) :: (c, isC (some (.ref 401))) :: T) ∧
      ((∃ x t tr, v = .str x t ∧ ∃ r, vs = .ref r ∧ (r, isT #[.str "root" tr, .str x t]) ∈ T) ∨ (∃ a, v = .ref a ∧ vs = v))) ?_ (fun f s hf => ?_) fun _ _ x => x
  · refine wpAny_If ?_
    k_clsL
    refine dd_in (kvs := [("state", v)]) (G.dd (h₀ := h) (W := []) (by assumption) (by tb_rel)) (G.at (h₀ := h) (W := []) (by assumption) (P := isDD w [("state", v)]) (by tb_rel)) fun t' => ?_
    rw [show (valueAt [(Str.ofString "state", v)] "state").isSome = true from by kernel_rfl]
    k_clsL
    refine Call_method1 (by with_unfolding_all rfl) rfl rfl ?_
    k_clsL
    refine dd_pop (h₀ := h) (W := []) (kvs := [("state", v)]) (G.dd (h₀ := h) (W := []) (by assumption) (by tb_rel)) ?_
    k_clsL
    refine ⟨_, _, _, _, [("state", v)], _, _, v, rfl, rfl, by assumption, by tb_rel, by simp, by kernel_rfl, by tb_start, fun h₅ t₅ H₅ => ?_⟩
    k_clsL
    refine wpAny_If ?_
    refine wpAny_isTrue_value ?_ (by rfl)
    k_clsL
    refine ⟨rfl, new_tupX (by assumption) fun rt h₆ H₆ K₆ nrt => ?_⟩
    k_clsL
    obtain ⟨ot, et, pt⟩ := H₆.get (a := rt) (P := isTx _) (by tb_rel)
    unfold isTx at pt
    subst pt
    rcases hv with ⟨x, tx, rfl⟩ | ⟨a, its, rfl, ha7, hta⟩
    · refine kia_tup (K := KK w) (x := .str x tx) (b := false) kitx_str H₆.st.k trivial et (by kernel_rfl) (by simp) fun tk => ?_
      k_clsL
      refine ⟨rfl, new_tupF (by assumption) fun rr h₇ H₇ K₇ nr nr' => ?_⟩
      k_clsL
      refine dd_set (h₀ := h) (W := []) (kvs := []) (by assumption) (by tb_rel) (by decide) (by tb_start) fun h₈ t₈ H₈ => ?_
      k_clsL
      refine g_mv4 (G.sub (D' := _ :: _) (by assumption) (List.Sublist.cons_cons _ (List.Sublist.cons _ (List.Sublist.refl _)))) fun H₉ => ?_
      exact ⟨rfl, _, _, _, _, _, rfl, H₉, .inl ⟨x, tx, _, rfl, rr, rfl, .head _⟩⟩
    · have hta6 := H₆.oldT hta ha7 List.not_mem_nil
      obtain ⟨oa, ea, pa⟩ := id hta6
      refine kia_tup (K := KK w) (x := .ref a) (b := true) kitx_tuple H₆.st.k ⟨oa, ea, pa.1⟩ et (by kernel_rfl) (by simp) fun tk => ?_
      k_clsL
      refine dd_set (h₀ := h) (W := []) (kvs := []) (by assumption) (by tb_rel) (by decide) (by tb_start) fun h₈ t₈ H₈ => ?_
      k_clsL
      have H₉ := G.sub (h₀ := h) (W := []) (by assumption) (List.Sublist.cons (rt, isTx [.type "list", .type "tuple"]) (List.Sublist.refl _))
      exact ⟨rfl, _, _, _, _, _, rfl, H₉, .inr ⟨a, rfl, rfl⟩⟩
  · obtain ⟨rfl, h₈, t₈, vs, T, s₁, rfl, H₈, hvs⟩ := hf
    k_clsL
    refine wpAny_If ?_
    k_clsL
    refine wpAny_is_ref_self ?_
    k_clsL
    refine x_def (c := 407) (P := 403) (q := qU) (clos := [("gt_kwargs", c + 1)]) H₈ Ev' (.inr ⟨rfl, rfl, rfl, rfl, rfl⟩) hcode (clos_of Ev' (by kernel_rfl) rfl) rfl rfl ?_ rfl rfl (by rfl) ?_
    · unfold qualnameIn
      rw [hqual, Ev'.kind (x := "callback") (by tb_rel)]
      kernel_rfl
    intro f c' td h₉ t₉ H₉ hcd K₉ h714
    have HR := H₉.restart
    k_clsL
    rename_i ha ta Ha
    have HF := H₉.over Ha
    refine q f c' td (c + 1) dg vs _ _ (HF.sub (.cons_cons _ (.cons_cons _ ?_))) (hcd.kp Ha.kp (H₉.codeNe hcd) h714) h714 ?_
    · exact .cons_cons _ (.cons _ (.cons_cons _ (List.nil_sublist _)))
    · rcases hvs with ⟨x, t, tr, e1, r, e2, hm⟩ | y
      · have hm' := HF.tup (a := r) (.tail _ (.tail _ (.tail _ (.tail _ (.tail _ (.tail _ hm))))))
        exact .inl ⟨x, t, tr, e1, r, e2, hm', HF.at (.tail _ (.tail _ (.tail _ (.tail _ (.tail _ (.tail _ hm)))))), HF.fresh (.tail _ (.tail _ (.tail _ (.tail _ (.tail _ (.tail _ hm))))))⟩
      · exact .inr y
end

section -- K6
open PySem PySem.W PySem.Calls PyProof.Rows
set_option maxHeartbeats 0
set_option linter.unusedVariables false
set_option maxRecDepth 100000
/-- all of good that stands in h stands in h' -/
abbrev Keeps (good : Addr → Prop) (h h' : Heap) : Prop := ∀ a o, good a → h.get? a = some o → h'.get? a = some o
theorem Kp.keeps {W : List Addr} {h h' : Heap} {good : Addr → Prop} (K : Kp W h h') (hg : ∀ a, good a → 714 ≤ a ∧ a ∉ W) : Keeps good h h' :=
  fun a o g e => K.keep a o e (hg a g).2 (ne380 (hg a g).1) (ne403 (hg a g).1)
def FnH (inner? : Frag → Option (Arguments × List Stmt × Scope)) (w : World) (h : Heap) (f td : Addr) (q : Str) (clos : List (Str × Addr)) : Prop :=
  ∃ p b s c', inner? (KK w) = some (p, b, s) ∧ (∃ o, h.get? f = some o ∧ isFnD "callback" q p b s clos (.ref td) c' o) ∧ CodeAt h c' q ∧ IsTup h td #[.none]
def TypeK (good : Addr → Prop) (h : Heap) (v : Value) (kind : Str) : Prop := ∃ ty dx n tk, v = .ref ty ∧ (good ty ∧ good dx ∧ good n) ∧ Sure good h (fun h => InH h ty 66 dx 1 [("names", .ref n)] ∧ IsTup h n #[.str kind tk])
def UsK (w : World) (good : Addr → Prop) (h : Heap) (v : Value) (stack : List Str) : Prop := ∃ f td cg dg st stv, v = .ref f ∧ StrsAre stv stack ∧ (714 ≤ f ∧ 714 ≤ td ∧ 714 ≤ dg ∧ 714 ≤ st) ∧
  Sure good h (fun h => FnH innerU? w h f td qU [("gt_kwargs", cg)] ∧ h.IsCell cg (some (.ref dg)) ∧ DAt w h dg [("stack", .ref st)] ∧ IsTup h st stv.toArray)
def stackOf (deed : Int) : List Str := if deed = 4 then ["root", "s"] else ["s", "s", "s"]
def ActK (w : World) (good : Addr → Prop) (h : Heap) (v : Value) (deed : Int) : Prop :=
  (deed < 3 ∧ TypeK good h v (kinds.getD deed.toNat E0)) ∨ (deed = 3 ∧ v = .none) ∨ (3 < deed ∧ UsK w good h v (stackOf deed))
def CbK (w : World) (good : Addr → Prop) (h : Heap) (v : Value) (deeds : List Int) : Prop := ∃ f td ca at' acts, v = .ref f ∧ (714 ≤ f ∧ 714 ≤ td) ∧
  Sure good h (fun h => FnH innerB? w h f td qB [("args", ca)] ∧ h.IsCell ca (some (.ref at')) ∧ IsTup h at' (List.toArray acts)) ∧ acts.length = deeds.length ∧ ∀ i (hi : i < deeds.length), ∃ v, acts[i]? = some v ∧ ActK w good h v deeds[i]
def PlainK (good : Addr → Prop) (h : Heap) (v : Value) (ps : List (Option Str)) : Prop := ∃ x dx ar a vs, v = .ref x ∧ OptsAre vs ps ∧ 714 ≤ ar ∧ 714 ≤ a ∧
  Sure good h (fun h => InH h x 630 dx 1 [("rows", .ref ar)] ∧ h.IsList ar #[.ref a] ∧ h.IsList a vs.toArray)
def RuleK (w : World) (good : Addr → Prop) (h : Heap) (v : Value) (ps : List Piece) : Prop := ∃ r pl cb, v = .ref r ∧ Sure good h (fun h => IsTup h r #[pl, cb]) ∧ PlainK good h pl (ps.map (·.1)) ∧ CbK w good h cb (ps.map (·.2))
def TermK (good : Addr → Prop) (h : Heap) (v : Value) (x : Str) : Prop := ∃ r pl ty, v = .ref r ∧ Sure good h (fun h => IsTup h r #[pl, ty]) ∧ PlainK good h pl [some x] ∧ TypeK good h ty "Comment"
section
variable {w : World} {good good' : Addr → Prop} {h h' : Heap} {v : Value}
theorem TypeK.keep {kind} (x : TypeK good h v kind) (hk : Keeps good h h') : TypeK good h' v kind := let ⟨a, b, c, d, e, z, s⟩ := x; ⟨a, b, c, d, e, z, s.keep hk⟩
theorem TypeK.weak {kind} (x : TypeK good h v kind) (hg : ∀ a, good a → good' a) : TypeK good' h v kind := let ⟨a, b, c, d, e, z, s⟩ := x; ⟨a, b, c, d, e, ⟨hg _ z.1, hg _ z.2.1, hg _ z.2.2⟩, s.weak hg⟩
theorem UsK.keep {st} (x : UsK w good h v st) (hk : Keeps good h h') : UsK w good h' v st := let ⟨a, b, c, d, e, f, g, i, z, s⟩ := x; ⟨a, b, c, d, e, f, g, i, z, s.keep hk⟩
theorem UsK.weak {st} (x : UsK w good h v st) (hg : ∀ a, good a → good' a) : UsK w good' h v st := let ⟨a, b, c, d, e, f, g, i, z, s⟩ := x; ⟨a, b, c, d, e, f, g, i, z, s.weak hg⟩
theorem ActK.keep {dd} (x : ActK w good h v dd) (hk : Keeps good h h') : ActK w good h' v dd := x.imp (fun y => ⟨y.1, y.2.keep hk⟩) (Or.imp id fun y => ⟨y.1, y.2.keep hk⟩)
theorem ActK.weak {dd} (x : ActK w good h v dd) (hg : ∀ a, good a → good' a) : ActK w good' h v dd := x.imp (fun y => ⟨y.1, y.2.weak hg⟩) (Or.imp id fun y => ⟨y.1, y.2.weak hg⟩)
theorem CbK.keep {dd} (x : CbK w good h v dd) (hk : Keeps good h h') : CbK w good h' v dd := let ⟨a, b, c, d, e, f, z, s, l, y⟩ := x; ⟨a, b, c, d, e, f, z, s.keep hk, l, fun i hi => let ⟨u, p, q⟩ := y i hi; ⟨u, p, q.keep hk⟩⟩
theorem CbK.weak {dd} (x : CbK w good h v dd) (hg : ∀ a, good a → good' a) : CbK w good' h v dd := let ⟨a, b, c, d, e, f, z, s, l, y⟩ := x; ⟨a, b, c, d, e, f, z, s.weak hg, l, fun i hi => let ⟨u, p, q⟩ := y i hi; ⟨u, p, q.weak hg⟩⟩
theorem PlainK.keep {ps} (x : PlainK good h v ps) (hk : Keeps good h h') : PlainK good h' v ps := let ⟨a, b, c, d, e, f, g, i, j, s⟩ := x; ⟨a, b, c, d, e, f, g, i, j, s.keep hk⟩
theorem PlainK.weak {ps} (x : PlainK good h v ps) (hg : ∀ a, good a → good' a) : PlainK good' h v ps := let ⟨a, b, c, d, e, f, g, i, j, s⟩ := x; ⟨a, b, c, d, e, f, g, i, j, s.weak hg⟩
theorem RuleK.keep {ps} (x : RuleK w good h v ps) (hk : Keeps good h h') : RuleK w good h' v ps := let ⟨a, b, c, d, s, p, q⟩ := x; ⟨a, b, c, d, s.keep hk, p.keep hk, q.keep hk⟩
theorem RuleK.weak {ps} (x : RuleK w good h v ps) (hg : ∀ a, good a → good' a) : RuleK w good' h v ps := let ⟨a, b, c, d, s, p, q⟩ := x; ⟨a, b, c, d, s.weak hg, p.weak hg, q.weak hg⟩
theorem TermK.keep {ps} (x : TermK good h v ps) (hk : Keeps good h h') : TermK good h' v ps := let ⟨a, b, c, d, s, p, q⟩ := x; ⟨a, b, c, d, s.keep hk, p.keep hk, q.keep hk⟩
theorem TermK.weak {ps} (x : TermK good h v ps) (hg : ∀ a, good a → good' a) : TermK good' h v ps := let ⟨a, b, c, d, s, p, q⟩ := x; ⟨a, b, c, d, s.weak hg, p.weak hg, q.weak hg⟩
end
section
variable {w : World} {h₀ h : Heap} {W : List Addr} {D : Dl} {a : Addr} {P : Pr} {l : List Addr}
theorem mem1 {x : Addr} {l : List Addr} : x ∈ x :: l := .head _
theorem mem2 {x y : Addr} {l : List Addr} : x ∈ y :: x :: l := .tail _ (.head _)
theorem mem3 {x y z : Addr} {l : List Addr} : x ∈ y :: z :: x :: l := .tail _ (.tail _ (.head _))
theorem mem4 {x y z u : Addr} {l : List Addr} : x ∈ y :: z :: u :: x :: l := .tail _ (.tail _ (.tail _ (.head _)))
theorem mem5 {x y z u v : Addr} {l : List Addr} : x ∈ y :: z :: u :: v :: x :: l := .tail _ (.tail _ (.tail _ (.tail _ (.head _))))
theorem mem6 {x y z u v s : Addr} {l : List Addr} : x ∈ y :: z :: u :: v :: s :: x :: l := .tail _ (.tail _ (.tail _ (.tail _ (.tail _ (.head _)))))
theorem inH_sure {x C dx k l} {good : Addr → Prop} (I : InH h x C dx k l) (g1 : good x) (g2 : good dx) : Sure good h (fun h => InH h x C dx k l) := fun h' hk =>
  let ⟨a, b, c, od, e, p⟩ := I; ⟨hk _ _ g1 a, b, c, od, hk _ _ g2 e, p⟩
theorem tup_sure {a its} {good : Addr → Prop} (I : IsTup h a its) (g1 : good a) : Sure good h (fun h => IsTup h a its) := Sure.obj g1 I
theorem list_sure {a its} {good : Addr → Prop} (I : h.IsList a its) (g1 : good a) : Sure good h (fun h => h.IsList a its) := Sure.obj g1 I
theorem cell_sure {a v} {good : Addr → Prop} (I : h.IsCell a v) (g1 : good a) : Sure good h (fun h => h.IsCell a v) := Sure.obj g1 I
theorem dat_sure {a kvs} {good : Addr → Prop} (I : DAt w h a kvs) (g1 : good a) : Sure good h (fun h => DAt w h a kvs) := fun h' hk => let ⟨o, es, ep, e, r⟩ := I; ⟨o, es, ep, hk _ _ g1 e, r⟩
theorem fnH_sure {inner? : Frag → Option (Arguments × List Stmt × Scope)} {f td q clos p b s c'} {good : Addr → Prop} (hi : inner? (KK w) = some (p, b, s)) (x : ∃ o, h.get? f = some o ∧ isFnD "callback" q p b s clos (.ref td) c' o) (y : CodeAt h c' q) (z : IsTup h td #[.none])
    (g1 : good f) (g2 : good c') (g3 : good td) : Sure good h (fun h => FnH inner? w h f td q clos) := fun h' hk =>
  ⟨p, b, s, c', hi, let ⟨o, e, r⟩ := x; ⟨o, hk _ _ g1 e, r⟩, let ⟨o, vs, t, e, r⟩ := y; ⟨o, vs, t, hk _ _ g2 e, r⟩, let ⟨o, e, r⟩ := z; ⟨o, hk _ _ g3 e, r⟩⟩
theorem TypeK.of {ty dx n : Addr} {kind : Str} {tk : Tok} (H : G w h₀ W h D) (m1 : (ty, isIn 66 dx) ∈ D) (m2 : (dx, nsx 1 [("names", .ref n)]) ∈ D) (m3 : (n, isT [.str kind tk].toArray) ∈ D) : TypeK (· ∈ [ty, dx, n]) h (.ref ty) kind :=
  ⟨ty, dx, n, tk, rfl, ⟨mem1, mem2, mem3⟩, (inH_sure (H.inH m1 m2) mem1 mem2).and (tup_sure (H.tup m3) mem3)⟩
theorem UsK.of {f td cg dg st c' : Addr} {stv : List Value} {stack : List Str} {p b s} (hi : innerU? (KK w) = some (p, b, s)) (H : G w h₀ W h D) (m1 : (f, isFnD "callback" qU p b s [("gt_kwargs", cg)] (.ref td) c') ∈ D) (hc : CodeAt h c' qU) (m2 : (td, isT #[.none]) ∈ D) (m3 : (cg, isC (some (.ref dg))) ∈ D)
    (m4 : (dg, isDD w [("stack", .ref st)]) ∈ D) (ht : IsTup h st stv.toArray) (st7 : 714 ≤ st) (hs : StrsAre stv stack) : UsK w (· ∈ [f, c', td, cg, dg, st]) h (.ref f) stack :=
  ⟨f, td, cg, dg, st, stv, rfl, hs, ⟨H.at m1, H.at m2, H.at m4, st7⟩, (fnH_sure hi (H.get m1) hc (H.tup m2) mem1 mem2 mem3).and ((cell_sure (H.get m3) mem4).and ((dat_sure (H.dd m4) mem5).and (tup_sure ht mem6)))⟩
end
end

section -- K7
open PySem PySem.W PySem.Calls PyProof.Rows
set_option maxHeartbeats 0
set_option linter.unusedVariables false
set_option maxRecDepth 100000
/-- objects that a call made, or code objects: none that the caller turns -/
def FpOk (h h' : Heap) (fp : List Addr) : Prop := ∀ a ∈ fp, 714 ≤ a ∧ (∃ o, h'.get? a = some o) ∧ (h.get? a = none ∨ ∃ q, CodeAt h a q)
theorem FpOk.ne {w : World} {h₀ h h' : Heap} {W : List Addr} {D : Dl} {fp : List Addr} (F : FpOk h h' fp) (H : G w h₀ W h D) : ∀ a ∈ fp, 714 ≤ a ∧ a ∉ D.map (·.1) := fun a ha => by
  obtain ⟨h1, _, h3⟩ := F a ha
  refine ⟨h1, fun hm => ?_⟩
  rcases h3 with h3 | ⟨q, h3⟩
  · obtain ⟨p, hp, rfl⟩ := List.mem_map.mp hm
    exact (H.new h3).2 p hp rfl
  · exact H.codeNe h3 hm
theorem FpOk.of {w : World} {h h' : Heap} {D : Dl} {fp : List Addr} (H : G w h [] h' D) (hf : ∀ a ∈ fp, a ∈ D.map (·.1) ∨ (714 ≤ a ∧ ∃ q, CodeAt h' a q ∧ (h.get? a = none ∨ CodeAt h a q))) : FpOk h h' fp := fun a ha => by
  rcases hf a ha with h1 | ⟨h7, q, h1, h2⟩
  · obtain ⟨p, hp, rfl⟩ := List.mem_map.mp h1
    obtain ⟨o, e, _⟩ := H.own p hp
    exact ⟨(H.dyn p hp).1, ⟨o, e⟩, .inl ((H.dyn p hp).2.resolve_left List.not_mem_nil)⟩
  · obtain ⟨o, _, _, e, _⟩ := h1
    exact ⟨h7, ⟨o, e⟩, h2.imp id fun x => ⟨q, x⟩⟩
/-- a code object that stands now stood, or is new -/
theorem code_old {W : List Addr} {h h' : Heap} {a : Addr} {q : Str} (K : Kp [] h h') (h7 : 714 ≤ a) (x : CodeAt h' a q) : h.get? a = none ∨ CodeAt h a q := by
  cases e : h.get? a with
  | none => exact .inl rfl
  | some o =>
    have := K.keep _ _ e List.not_mem_nil (ne380 h7) (ne403 h7)
    obtain ⟨o', vs, t, e', r⟩ := x
    rw [this] at e'; cases e'
    exact .inr ⟨o, vs, t, e, r⟩
theorem mk_typeK {w : World} {A : Around} {k : Nat} {R : Result → Shared → Prop} {h : Heap} {g : Array GenState} {d : Drawn} {t : Nat} {os : OsState} {kind : Str} {tk : Tok}
    (hA : AOk A (k + 3)) (S : St w h)
    (q : ∀ x fp h' t', St w h' → Kp [] h h' → TypeK (· ∈ fp) h' (.ref x) kind → FpOk h h' fp → R (.ok (.ret (.ref x))) ⟨h', g, d, t', os⟩) :
    codeAny (MM w) A (.call (.ref 66) ⟨[.str kind tk], []⟩) R ⟨h, g, d, t, os⟩ :=
  mk_type hA S fun x dx n h' t' N => q x _ h' t' N.st N.kp (TypeK.of N (by tb_rel) (by tb_rel) (by tb_rel)) (FpOk.of N fun a ha => .inl ha)
theorem mk_usingK {w : World} {A : Around} {k : Nat} {R : Result → Shared → Prop} {h : Heap} {g : Array GenState} {d : Drawn} {t : Nat} {os : OsState} {v : Value} {stack : List Str}
    (hA : AOk A (k + 3)) (S : St w h) (hv : (∃ x t, v = .str x t ∧ stack = [Str.ofString "root", x]) ∨ (∃ a its, v = .ref a ∧ 714 ≤ a ∧ IsTup h a (List.toArray its) ∧ StrsAre its stack))
    (q : ∀ f fp h' t', St w h' → Kp [] h h' → (∀ good : Addr → Prop, (∀ a, a ∈ fp → good a) → (∀ a, v = .ref a → good a) → UsK w good h' (.ref f) stack) → FpOk h h' fp → R (.ok (.ret (.ref f))) ⟨h', g, d, t', os⟩) :
    codeAny (MM w) A (.call (.ref 408) ⟨[.ref 401], [("state", v)]⟩) R ⟨h, g, d, t, os⟩ := by
  obtain ⟨x, hx⟩ : ∃ x, innerU? (KK w) = some x := ⟨_, rfl⟩
  obtain ⟨pU, bU, sU⟩ := x
  refine mk_using hx hA S (hv.imp (fun ⟨x, t, e, _⟩ => ⟨x, t, e⟩) fun ⟨a, its, e, h7, ht, _⟩ => ⟨a, _, e, h7, ht⟩) fun f c' td cg dg vs h' t' N hc h7 hvs => ?_
  have hc' := code_old (W := []) N.kp h7 hc
  rcases hv with ⟨x, tx, rfl, rfl⟩ | ⟨a, its, rfl, ha7, hta, hs⟩
  · rcases hvs with ⟨x', tx', tr, e, r, rfl, ht, hr7, hrn⟩ | ⟨a, e, _⟩
    · cases e
      refine q f [f, c', td, cg, dg, r] h' t' N.st N.kp (fun good hg _ => ?_) fun a ha => ?_
      · exact (UsK.of hx N (by tb_rel) hc (by tb_rel) (by tb_rel) (by tb_rel) ht hr7 (.cons _ _ (.cons _ _ .nil))).weak fun a ha => hg a ha
      · by_cases hr : a = r
        · subst hr
          obtain ⟨o, e, _⟩ := ht
          exact ⟨hr7, ⟨o, e⟩, .inl hrn⟩
        · refine FpOk.of N (fp := [f, c', td, cg, dg]) (fun a ha => ?_) a (by simp only [List.mem_cons, List.not_mem_nil, or_false] at ha ⊢; rcases ha with h | h | h | h | h | h <;> first | exact absurd h hr | simp [h])
          simp only [List.mem_cons, List.not_mem_nil, or_false] at ha
          rcases ha with rfl | rfl | rfl | rfl | rfl
          · exact .inl (by simp)
          · exact .inr ⟨h7, _, hc, hc'⟩
          · exact .inl (by simp)
          · exact .inl (by simp)
          · exact .inl (by simp)
    · cases e
  · rcases hvs with ⟨x', tx', tr, e, _⟩ | ⟨a', e, rfl⟩
    · cases e
    · cases e
      have hta' : IsTup h' a (List.toArray its) := let ⟨o, e, r⟩ := hta; ⟨o, N.kp.keep _ _ e List.not_mem_nil (ne380 ha7) (ne403 ha7), r⟩
      refine q f [f, c', td, cg, dg] h' t' N.st N.kp (fun good hg hga => ?_) (FpOk.of N fun a ha => ?_)
      · refine (UsK.of hx N (by tb_rel) hc (by tb_rel) (by tb_rel) (by tb_rel) hta' ha7 hs).weak fun b hb => ?_
        by_cases hba : b = a
        · exact hga b (by rw [hba])
        · exact hg b (by simp only [List.mem_cons, List.not_mem_nil, or_false] at hb ⊢; rcases hb with h | h | h | h | h | h <;> first | exact absurd h hba | simp [h])
      · simp only [List.mem_cons, List.not_mem_nil, or_false] at ha
        rcases ha with rfl | rfl | rfl | rfl | rfl
        · exact .inl (by simp)
        · exact .inr ⟨h7, _, hc, hc'⟩
        · exact .inl (by simp)
        · exact .inl (by simp)
        · exact .inl (by simp)
end

section -- K7b
open PySem PySem.W PySem.Calls PyProof.Rows
set_option maxHeartbeats 0
set_option linter.unusedVariables false
set_option maxRecDepth 100000
section
variable {w : World} {A : Around} {E : Value → Shared → Prop} {h₀ h : Heap} {W : List Addr} {D : Dl} {env : Env} {g : Array GenState} {d : Drawn} {t : Nat} {os : OsState}
/-- as g_comp; what becomes of the heap when its names go is told -/
theorem g_compX {elt target iter : Expr} {scope : Scope} {pos : Pos} {L : Addr} {ns : List (Str × NameKind)} {cl₀ cl : List (Str × Addr)} {Q : Value → Shared → Prop} (lc : Nl)
    (Ev : EnvOk env L ns cl₀) (hclos : closureFor scope env = pure cl) (hk : (scope.names.all (fun x => x.2 != .cell) && (scope.kind == .function) && !scope.isCoroutine && decide (scope.names.map (·.1)).Nodup && decide (cl.map (·.1)).Nodup && decide (lc.map (·.1)).Nodup && lc.all (fun x => x.2.isNone)) = true)
    (hh : wpAny (MM w) A (eval iter env) (fun xv s₁ => wpAny (MM w) A (pyIter xv) (fun it s₂ => ∃ h₂ t₂ D₂, s₂ = ⟨h₂, g, d, t₂, os⟩ ∧ G w h₀ W h₂ D₂ ∧
      ∀ cenv C acc h₃ t₃, EnvOk cenv C (rl ns scope) cl → G w h₀ W h₃ ((C, fr lc) :: (acc, isPL []) :: D₂) → Kp [] h₂ h₃ → h₀.get? C = none → h₀.get? acc = none → h₂.get? acc = none → h₂.get? C = none →
        codeAny (MM w) A (.compLoop (.ListComp elt [⟨target, iter, [], 0⟩] scope pos) 0 it (.ref acc) cenv) (fun r s' => r = .ok .next ∧ ∃ h' t' lc' D', s' = ⟨h', g, d, t', os⟩ ∧ G w h₀ W h' ((C, fr lc') :: D') ∧
          ∀ h'', G w h₀ W h'' D' → Heap.ExtBut C h' h'' → Q (.ref acc) ⟨h'', g, d, t', os⟩) ⟨h₃, g, d, t₃, os⟩ ∧
        wpAny (MM w) A (pyIter it) (fun it'' s' => it'' = it ∧ s' = ⟨h₃, g, d, t₃, os⟩) (fun _ _ => False) ⟨h₃, g, d, t₃, os⟩) E s₁) E ⟨h, g, d, t, os⟩)
    (hs : ∀ x, foldedSetIterable iter env x = pure x := by intro _; rfl) :
    wpAny (MM w) A (eval (.ListComp elt [⟨target, iter, [], 0⟩] scope pos) env) Q E ⟨h, g, d, t, os⟩ := by
  rw [eval_ListComp]
  simp only [Bool.and_eq_true, Bool.not_eq_true', decide_eq_true_eq, beq_iff_eq] at hk
  obtain ⟨⟨⟨⟨⟨⟨k1, k2⟩, k3⟩, k4⟩, k5⟩, k6⟩, k7⟩ := hk
  have hcell : ∀ x ∈ scope.names, x.2 ≠ .cell := fun x hx => by simpa using List.all_eq_true.mp k1 x hx
  refine wpAny_comprehension_free rfl hs hclos k2 (fun x hx hl => lookup_nd k4 (by rw [← hl]; exact hx)) (wpAny_mono hh (fun xv s₁ h₁ => wpAny_mono h₁ (fun it s₂ h₂ => ?_) fun _ _ e => e) fun _ _ e => e)
  obtain ⟨hp, t₂, D₂, rfl, H₂, hq⟩ := h₂
  refine wpAny_newObj_type (wpAny_newFunctionEnv hcell (by intro y hy; simp at hy) (fun h₁ hns₁ hsb₁ => ?_) k2)
  dsimp only at hns₁ hsb₁ ⊢
  have Ha : G w h₀ W (hp.push { cls := .type "list", dict := none, data := .seq ([] : List Value).toArray }) ((hp.objs.size, isPL []) :: D₂) := H₂.push (P := isPL []) _ rfl (nc_list (its := #[]) ⟨rfl, 0, rfl⟩) ⟨rfl, rfl, rfl, 0, rfl⟩
  have hne : ∀ o : Obj, hp.get? (hp.push o).objs.size = none := fun o => by
    rw [Heap.size_push]; exact Heap.get?_none_of_le (Nat.le_succ _)
  have hne := hne { cls := .type "list", dict := none, data := .seq ([] : List Value).toArray }
  generalize hH2 : hp.push { cls := .type "list", dict := none, data := .seq ([] : List Value).toArray } = H2 at hns₁ hsb₁ Ha hne ⊢
  obtain ⟨oC, es, ep, e1, e2, e3, e4⟩ := hns₁
  have nC := Ha.new (get_size H2)
  have old : ∀ b o, H2.get? b = some o → h₁.get? b = some o := fun b o e => hsb₁.extBut b o (Nat.ne_of_lt (Heap.lt_size e)) (Heap.get?_push_of_some _ e)
  have Hb : G w h₀ W h₁ ((H2.objs.size, fr lc) :: (hp.objs.size, isPL []) :: D₂) := (Ha.ext old).add' e1 (fun _ vs q => by rw [e2] at q; cases q) (fr_none k6 k7 e2 e3) Ha.st.big nC.1 nC.2
  have Kb : Kp [] hp h₁ := ⟨fun b o e _ _ _ => old b o (hH2 ▸ Heap.get?_push_of_some _ e), fun b o e => ⟨o, old b o (hH2 ▸ Heap.get?_push_of_some _ e)⟩⟩
  have Ec : EnvOk (compEnvC scope cl H2.objs.size env) H2.objs.size (rl ns scope) cl := ⟨rfl, k2, relabel_rl Ev, by rw [rl_keys]; exact k4, rfl, k5, Ev.gl, Ev.bl, k3⟩
  obtain ⟨hloop, hself⟩ := hq (compEnvC scope cl H2.objs.size env) H2.objs.size hp.objs.size h₁ (t₂ + ([] : List (Str × Value)).length) Ec Hb Kb nC.1 (H₂.new (get_size hp)).1 (get_size hp) hne
  have hpost := codeAny_mono hloop (R' := compPost (MM w) A E none Q (.ref hp.objs.size) H2.objs.size) (fun r s' hr => by
    obtain ⟨rfl, h', t', lc', D', rfl, H', hu⟩ := hr
    obtain ⟨m, hm, _⟩ := H'.ns (List.mem_cons_self ..)
    exact ⟨m, hm, fun h'' hs'' => hu h'' (H'.del Del.head hs''.extBut nC.1) hs''.extBut⟩)
  exact codeAny_compStart_list hpost (wpAny_mono hself (fun it'' s' x => by obtain ⟨rfl, rfl⟩ := x; exact hpost) fun _ _ f => f.elim)
/-- x = [..]: the list is stored while the comprehension's names still stand -/
theorem g_compS {elt target iter : Expr} {scope : Scope} {pos spos py : Pos} {L : Addr} {y : Str} {ns : List (Str × NameKind)} {cl₀ cl : List (Str × Addr)} {Q : Flow → Shared → Prop} (lc : Nl)
    (Ev : EnvOk env L ns cl₀) (hy : (y, .local) ∈ ns) (hclos : closureFor scope env = pure cl) (hk : (scope.names.all (fun x => x.2 != .cell) && (scope.kind == .function) && !scope.isCoroutine && decide (scope.names.map (·.1)).Nodup && decide (cl.map (·.1)).Nodup && decide (lc.map (·.1)).Nodup && lc.all (fun x => x.2.isNone) &&
      (py.line == pos.line) && !(scope.names.any fun p => p.1 == y && (p.2 == .local || p.2 == .cell)) && (pos.line == spos.line)) = true)
    (hh : wpAny (MM w) A (eval iter env) (fun xv s₁ => wpAny (MM w) A (pyIter xv) (fun it s₂ => ∃ h₂ t₂ D₂, s₂ = ⟨h₂, g, d, t₂, os⟩ ∧ G w h₀ W h₂ D₂ ∧
      ∀ cenv C acc h₃ t₃, EnvOk cenv C (rl ns scope) cl → G w h₀ W h₃ ((C, fr lc) :: (acc, isPL []) :: D₂) → Kp [] h₂ h₃ → h₀.get? C = none → h₀.get? acc = none → h₂.get? acc = none → h₂.get? C = none →
        codeAny (MM w) A (.compLoop (.ListComp elt [⟨target, iter, [], 0⟩] scope pos) 0 it (.ref acc) cenv) (fun r s' => r = .ok .next ∧ ∃ h' t' lc' D' l l' D'', s' = ⟨h', g, d, t', os⟩ ∧ G w h₀ W h' ((C, fr lc') :: D') ∧
          (L, fr l) ∈ D' ∧ UpN y (.ref acc) l l' ∧ Upd L (fr l') D' D'' ∧ ∀ h'' t'', G w h₀ W h'' D'' → (∀ b o, b ≠ C → b ≠ L → h'.get? b = some o → h''.get? b = some o) → Q .next ⟨h'', g, d, t'', os⟩) ⟨h₃, g, d, t₃, os⟩ ∧
        wpAny (MM w) A (pyIter it) (fun it'' s' => it'' = it ∧ s' = ⟨h₃, g, d, t₃, os⟩) (fun _ _ => False) ⟨h₃, g, d, t₃, os⟩) E s₁) E ⟨h, g, d, t, os⟩)
    (hs : ∀ x, foldedSetIterable iter env x = pure x := by intro _; rfl) :
    wpAny (MM w) A (exec (.Assign [.Name y py] (.ListComp elt [⟨target, iter, [], 0⟩] scope pos) spos) env) Q E ⟨h, g, d, t, os⟩ := by
  simp only [Bool.and_eq_true, Bool.not_eq_true', decide_eq_true_eq, beq_iff_eq] at hk
  obtain ⟨⟨⟨⟨⟨⟨⟨⟨⟨k1, k2⟩, k3⟩, k4⟩, k5⟩, k6⟩, k7⟩, k8⟩, k9⟩, k10⟩ := hk
  have hsw : swapsWith (.ListComp elt [⟨target, iter, [], 0⟩] scope pos) (some (.Name y py)) spos.line env = pure true := by
    have e1 : env.blockKind = .function := by unfold Env.blockKind; rw [Ev.kd]; rfl
    show (pure (env.blockKind == .function && env.kindOf y == some .local && py.line == pos.line && !(scope.names.any fun (n, k) => n == y && (k == .local || k == .cell))) : Sem Bool) = pure true
    rw [e1, Ev.kind hy, k8]
    have : (scope.names.any fun (n, k) => n == y && (k == .local || k == .cell)) = false := k9
    rw [this]; simp
  rw [exec_Assign_Name_used _ _ _ _ hsw]
  have hcell : ∀ x ∈ scope.names, x.2 ≠ .cell := fun x hx => by simpa using List.all_eq_true.mp k1 x hx
  refine wpAny_bind (wpAny_standAt (wpAny_bind ?_))
  show wpAny _ A (do let _ ← comprehension (.ListComp elt [⟨target, iter, [], 0⟩] scope pos) scope env _ (newList []) false (eval iter env) (some (assign (.Name y py) env))) _ _ _
  refine wpAny_bind (wpAny_mono (wpAny_comprehension_free (Q := fun _ s' => Q .next s') rfl hs hclos k2 (fun x hx hl => lookup_nd k4 (by rw [← hl]; exact hx)) (wpAny_mono hh (fun xv s₁ h₁ => wpAny_mono h₁ (fun it s₂ h₂ => ?_) fun _ _ e => e) fun _ _ e => e))
    (fun _ s' hq => wpAny_pure (wpAny_pure hq)) fun _ _ e => e)
  obtain ⟨hp, t₂, D₂, rfl, H₂, hq⟩ := h₂
  refine wpAny_newObj_type (wpAny_newFunctionEnv hcell (by intro y hy; simp at hy) (fun h₁ hns₁ hsb₁ => ?_) k2)
  dsimp only at hns₁ hsb₁ ⊢
  have Ha : G w h₀ W (hp.push { cls := .type "list", dict := none, data := .seq ([] : List Value).toArray }) ((hp.objs.size, isPL []) :: D₂) := H₂.push (P := isPL []) _ rfl (nc_list (its := #[]) ⟨rfl, 0, rfl⟩) ⟨rfl, rfl, rfl, 0, rfl⟩
  have hne : ∀ o : Obj, hp.get? (hp.push o).objs.size = none := fun o => by
    rw [Heap.size_push]; exact Heap.get?_none_of_le (Nat.le_succ _)
  have hne := hne { cls := .type "list", dict := none, data := .seq ([] : List Value).toArray }
  generalize hH2 : hp.push { cls := .type "list", dict := none, data := .seq ([] : List Value).toArray } = H2 at hns₁ hsb₁ Ha hne ⊢
  obtain ⟨oC, es, ep, e1, e2, e3, e4⟩ := hns₁
  have nC := Ha.new (get_size H2)
  have old : ∀ b o, H2.get? b = some o → h₁.get? b = some o := fun b o e => hsb₁.extBut b o (Nat.ne_of_lt (Heap.lt_size e)) (Heap.get?_push_of_some _ e)
  have Hb : G w h₀ W h₁ ((H2.objs.size, fr lc) :: (hp.objs.size, isPL []) :: D₂) := (Ha.ext old).add' e1 (fun _ vs q => by rw [e2] at q; cases q) (fr_none k6 k7 e2 e3) Ha.st.big nC.1 nC.2
  have Kb : Kp [] hp h₁ := ⟨fun b o e _ _ _ => old b o (hH2 ▸ Heap.get?_push_of_some _ e), fun b o e => ⟨o, old b o (hH2 ▸ Heap.get?_push_of_some _ e)⟩⟩
  have Ec : EnvOk (compEnvC scope cl H2.objs.size env) H2.objs.size (rl ns scope) cl := ⟨rfl, k2, relabel_rl Ev, by rw [rl_keys]; exact k4, rfl, k5, Ev.gl, Ev.bl, k3⟩
  obtain ⟨hloop, hself⟩ := hq (compEnvC scope cl H2.objs.size env) H2.objs.size hp.objs.size h₁ (t₂ + ([] : List (Str × Value)).length) Ec Hb Kb nC.1 (H₂.new (get_size hp)).1 (get_size hp) hne
  have hpost := codeAny_mono hloop (R' := compPost (MM w) A E (some (assign (.Name y py) env)) (fun _ s' => Q .next s') (.ref hp.objs.size) H2.objs.size) (fun r s' hr => by
    obtain ⟨rfl, h', t', lc', D', l, l', D'', rfl, H', hmL, un, uL, hu⟩ := hr
    show wpAny _ _ (assign (.Name y py) env (.ref hp.objs.size)) _ _ _
    obtain ⟨m, hm, _, hml⟩ := H'.ns (.tail _ hmL)
    refine wpAny_assign_Name (wpAny_storeName_local (Ev.kind hy) (m := m) (by rw [Ev.loc]; exact hm) (fun h'' hn'' hs'' => ?_) (by rw [Ev.kd]; rfl))
    rw [Ev.loc] at hn'' hs''
    have H'' := H'.store (.tail _ hmL) hml hn'' hs'' un (.tail uL)
    obtain ⟨mC, hmC, _⟩ := H''.ns (List.mem_cons_self ..)
    exact ⟨mC, hmC, fun h₅ hs₅ => hu h₅ _ (H''.del Del.head hs₅.extBut nC.1) fun b o b1 b2 e => hs₅.extBut b o b1 ((hs''.2 b b2).trans e)⟩)
  exact codeAny_compStart_list hpost (wpAny_mono hself (fun it'' s' x => by obtain ⟨rfl, rfl⟩ := x; exact hpost) fun _ _ f => f.elim)
end
end

section -- K8
open PySem PySem.W PySem.Calls PyProof.Rows
set_option maxHeartbeats 0
set_option linter.unusedVariables false
set_option maxRecDepth 100000
theorem star_list {w : World} {A : Around} {E : Value → Shared → Prop} {h₀ h : Heap} {W : List Addr} {D : Dl} {a : Addr} {its : List Value} {g : Array GenState} {d : Drawn} {t : Nat} {os : OsState} {Q : List Value → Shared → Prop}
    (H : G w h₀ W h D) (hl : h.IsList a its.toArray) (hz : its.length ≤ 100000) (q : ∀ h', G w h₀ W h' D → Q its ⟨h', g, d, t, os⟩) : StarOf (MM w) A E (.ref a) Q ⟨h, g, d, t, os⟩ := by
  obtain ⟨o, e, hc, n, hd⟩ := id hl
  have z : wpAny (MM w) A (collect (.ref a)) Q E ⟨h, g, d, t, os⟩ := wpAny_collect_seq a (T := "list") (.inl rfl) e hc hd (fun h' hk => q h' (H.ext hk)) (by rw [List.size_toArray]; exact Nat.le_trans hz (by decide +kernel))
  unfold StarOf notIterableAtAll
  exact wpAny_bind (wpAny_specialOf ⟨o, e, hc⟩ PySem.F.slot_list_iter.lookup (wpAny_pure ⟨rfl, z⟩))
theorem G.notKey {w : World} {h₀ h : Heap} {W : List Addr} {D : Dl} {a : Addr} (H : G w h₀ W h D) (n : h.get? a = none) : a ∉ D.map (·.1) := fun hm =>
  let ⟨p, hp, e⟩ := List.mem_map.mp hm; (H.new n).2 p hp e
theorem isTx_tup {h : Heap} {a : Addr} {vs : List Value} (x : ∃ o, h.get? a = some o ∧ isTx vs o) : IsTup h a vs.toArray := by
  obtain ⟨o, e, p⟩ := x
  have p : o = { cls := .type "tuple", data := .seq vs.toArray } := p
  subst p
  exact ⟨_, e, rfl, 0, rfl⟩
theorem FpOk.back {h h₂ h₃ : Heap} {fp : List Addr} (F : FpOk h₂ h₃ fp) (K : Kp [] h h₂) : FpOk h h₃ fp := fun a ha => by
  obtain ⟨h7, x, y⟩ := F a ha
  refine ⟨h7, x, ?_⟩
  rcases y with y | ⟨q, y⟩
  · refine .inl ?_
    cases e : h.get? a with
    | none => rfl
    | some o => obtain ⟨o', e'⟩ := K.there a o e; rw [y] at e'; cases e'
  · exact (code_old (W := []) K h7 y).imp id fun z => ⟨q, z⟩
theorem FpOk.fwd {W : List Addr} {h h₂ h₃ : Heap} {fp : List Addr} (F : FpOk h h₂ fp) (K : Kp W h₂ h₃) : FpOk h h₃ fp := fun a ha =>
  let ⟨h7, ⟨o, e⟩, y⟩ := F a ha; ⟨h7, K.there a o e, y⟩
theorem FpOk.app {h h₂ : Heap} {fp fp' : List Addr} (F : FpOk h h₂ fp) (F' : FpOk h h₂ fp') : FpOk h h₂ (fp ++ fp') := fun a ha => (List.mem_append.mp ha).elim (F a) (F' a)
theorem FpOk.nil {h h₂ : Heap} : FpOk h h₂ [] := fun _ ha => (nomatch ha)
/-- values, each known to be what an index says -/
def AllK {α : Type} (P : Value → α → Prop) (vs : List Value) (xs : List α) : Prop := vs.length = xs.length ∧ ∀ j (hj : j < xs.length), ∃ v, vs[j]? = some v ∧ P v xs[j]
theorem AllK.mono {α : Type} {P P' : Value → α → Prop} {vs xs} (x : AllK P vs xs) (hp : ∀ v a, P v a → P' v a) : AllK P' vs xs := ⟨x.1, fun j hj => let ⟨v, e, p⟩ := x.2 j hj; ⟨v, e, hp _ _ p⟩⟩
theorem AllK.nil {α : Type} {P : Value → α → Prop} : AllK P [] [] := ⟨rfl, fun j hj => absurd hj (Nat.not_lt_zero _)⟩
theorem AllK.app {α : Type} {P : Value → α → Prop} {vs vs' : List Value} {xs xs' : List α} (x : AllK P vs xs) (y : AllK P vs' xs') : AllK P (vs ++ vs') (xs ++ xs') := by
  refine ⟨by rw [List.length_append, List.length_append, x.1, y.1], fun j hj => ?_⟩
  rcases Nat.lt_or_ge j xs.length with h | h
  · obtain ⟨v, e, p⟩ := x.2 j h
    refine ⟨v, ?_, ?_⟩
    · rw [List.getElem?_append_left (by rw [x.1]; exact h)]; exact e
    · rw [List.getElem_append_left h]; exact p
  · rw [List.length_append] at hj
    obtain ⟨v, e, p⟩ := y.2 (j - xs.length) (by omega)
    refine ⟨v, ?_, ?_⟩
    · rw [List.getElem?_append_right (by rw [x.1]; exact h), x.1]; exact e
    · rw [List.getElem_append_right h]; exact p
theorem AllK.one {α : Type} {P : Value → α → Prop} {v : Value} {a : α} (p : P v a) : AllK P [v] [a] := ⟨rfl, fun j hj => by
  obtain rfl : j = 0 := by simpa using hj
  exact ⟨v, rfl, p⟩⟩
theorem AllK.snoc {α : Type} {P : Value → α → Prop} {vs : List Value} {xs : List α} {i : Nat} {v : Value} (x : AllK P vs (xs.take i)) (hi : i < xs.length) (p : P v xs[i]) : AllK P (vs ++ [v]) (xs.take (i + 1)) := by
  rw [List.take_add_one, List.getElem?_eq_getElem hi]
  exact x.app (.one p)
theorem law_rule {w : World} {A : Around} {k : Nat} {R : Result → Shared → Prop} {gd : Addr → Prop} {h : Heap} {v : Value} {ps : List Piece} {g : Array GenState} {d : Drawn} {t : Nat} {os : OsState}
    (hA : AOk A (k + 6)) (S : St w h) (hr : Rep gd h (.list (piecesD ps)) v) (hg : ∀ a, gd a → 714 ≤ a) (hl : ps.length ≤ 3) (hd : ∀ p ∈ ps, 0 ≤ p.2 ∧ p.2 ≤ 5)
    (q : ∀ v' fp h' t', St w h' → Kp [] h h' → RuleK w (· ∈ fp) h' v' ps → FpOk h h' fp → R (.ok (.ret v')) ⟨h', g, d, t', os⟩) :
    codeAny (MM w) A (.call (.ref 708) ⟨[v], []⟩) R ⟨h, g, d, t, os⟩ := by
  have H0 : G w h [] h [] := G.start S
  obtain ⟨a, vs, rfl, ga, hla, hrs⟩ := Rep.listE hr
  refine enterC (k := k + 5) (binds := [("rule", .ref a)]) [("rule", some (.ref a)), ("types", none)] [("deeds", 0)] hA H0 (S.k 708 _ rfl) rfl (codeRec_of S.k (by kernel_rfl)) rfl (by kernel_rfl) (by kernel_rfl) rfl (fun n => rfl) ⟨by kernel_rfl, trivial⟩ ?_
  intro env L c h₁ t₁ Ev hA₁ H₁ K₁ nc nL
  have Ev' : EnvOk env L [("rule", .local), ("types", .local), ("deeds", .cell), ("_law_kinds", .globalImplicit), ("using", .globalImplicit), ("this", .globalImplicit), ("Plain", .globalImplicit), ("bygroups", .globalImplicit)] [("deeds", c)] := Ev
  have H₁' : G w h [] h₁ [(L, fr [("rule", some (.ref a)), ("types", none)]), (c, isC none)] := H₁
  clear Ev H₁
  refine x_cons (g_compS (h₀ := h) (W := []) [("kind", none)] Ev' (by tb_rel) (clos_none (by kernel_rfl)) (by kernel_rfl) ?_)
  k_clsL
  refine c_fun0 ⟨H₁'.st, ?_⟩ (by kernel_rfl)
  refine wpAny_call (law_kinds (k := k + 4) hA₁ H₁' fun lk h₂ t₂ kvs H₂ hks K₂ nk0 nk => ?_)
  dsimp only
  refine it_list H₂ (H₂.pl (by tb_rel)) fun I h₃ H₃ K₃ nI0 nI => ?_
  refine ⟨_, _, _, rfl, H₃, ?_⟩
  intro cenv C acc h₄ t₄ Ec H₄ K₄ nC nacc nacc2 nC2
  refine ⟨?_, self_list H₄ (by tb_rel) ⟨rfl, rfl⟩⟩
  have Ec' : EnvOk cenv C [(".0", .local), ("kind", .local), ("_TokenType", .globalImplicit)] [] := Ec
  have hkl : kvs.length = 3 := hks.length
  refine kcp_loop (fun m s => ∃ (i : Nat) (ys : List Value) (lp : Option Value) (hh : Heap) (tt : Nat) (fp : List Addr), s = ⟨hh, g, d, tt, os⟩ ∧ m = 4 - i ∧ i ≤ 3 ∧
    G w h [] hh [(C, fr [("kind", lp)]), (acc, isPL ys), (I, isLI lk i), (lk, isPL kvs), (L, fr [("rule", some (.ref a)), ("types", none)]), (c, isC none)] ∧ AllK (TypeK (· ∈ fp) hh) ys (kinds.take i) ∧ FpOk h hh fp ∧ (∀ b ∈ fp, b ∉ [C, acc, I, lk, L, c])) ?_ 4 ?_
  · intro m s hpat
    obtain ⟨i, ys, lp, hh, tt, fp, e, em, hi1, H, hy, F, Fn⟩ := hpat
    subst e
    have hyl : ys.length ≤ 3 := by rw [hy.1, List.length_take]; exact Nat.le_trans (Nat.min_le_right _ _) (Nat.le_refl _)
    rcases Nat.lt_or_ge i 3 with hlt | hge
    · obtain ⟨tv, hv⟩ := StrsAre.at hks (i := i) (List.getElem?_eq_getElem (l := kinds) (by exact hlt))
      have HR := H.restart
      refine nx_list HR (by tb_rel) (HR.pl (by tb_rel)) hv (by tb_start) fun h' H' hs' => ?_
      dsimp only
      refine wpAny_of_eq (a := ()) rfl ?_
      k_clsL
      rename_i h₅ t₅ H₅
      refine wpAny_call (mk_typeK (k := k + 2) hA₁ H₅.st fun x fp₁ h₆ t₆ S₆ K₆ T₆ F₆ => ?_)
      have H₆ := H₅.call S₆ K₆
      have HS := H₆.restart
      dsimp only
      refine l_appendP HS (by tb_rel) (by omega) (by tb_start) fun h₇ H₇ => ?_
      have HA := H₆.over H₇
      have k1 : Keeps (· ∈ fp) hh h₇ := HA.kp.keeps fun b hb => ⟨(F b hb).1, Fn b hb⟩
      have k2 : Keeps (· ∈ fp₁) h₆ h₇ := H₇.kp.keeps fun b hb => F₆.ne H₅ b hb
      refine ⟨4 - (i + 1), by omega, i + 1, _, _, h₇, _, fp ++ fp₁, rfl, rfl, hlt, H.over HA, AllK.snoc (hy.mono fun v a x => (x.keep k1).weak fun b hb => List.mem_append_left _ hb) hlt ((T₆.keep k2).weak fun b hb => List.mem_append_right _ hb),
        (F.fwd HA.kp).app ((F₆.back (H.over H₅).kp).fwd H₇.kp), fun b hb => ?_⟩
      rcases List.mem_append.mp hb with hb | hb
      · exact Fn b hb
      · exact (F₆.ne H₅ b hb).2
    · refine nx_list_end hA₁.hd H (by tb_rel) (H.pl (by tb_rel)) (List.getElem?_eq_none (by omega)) (Del.tail (Del.tail Del.head)) nI0 fun h' H' hx => ?_
      dsimp only
      refine ⟨rfl, h', _, _, _, _, _, _, rfl, H', by tb_rel, by tb_start, by tb_start, fun h₈ t₈ H₈ hk8 => ?_⟩
      have hi3 : i = 3 := by omega
      subst hi3
      have k1 : Keeps (· ∈ fp) hh h₈ := fun b o hb e => hk8 b o (fun q => Fn b hb (by rw [q]; tb_rel)) (fun q => Fn b hb (by rw [q]; tb_rel)) (hx b o (fun q => Fn b hb (by rw [q]; tb_rel)) e)
      have hT : AllK (TypeK (· ∈ fp) h₈) ys kinds := hy.mono fun v a x => x.keep k1
      have FT : FpOk h h₈ fp := fun b hb => let ⟨h7, ⟨o, e⟩, y⟩ := F b hb; ⟨h7, ⟨o, k1 b o hb e⟩, y⟩
      have Fn' : ∀ b ∈ fp, b ∉ [acc, lk, L, c] := fun b hb q => Fn b hb (by
        simp only [List.mem_cons, List.not_mem_nil, or_false] at q ⊢
        rcases q with q | q | q | q <;> simp [q])
      clear hy F Fn H H' hx hk8
      k_clsL
      refine wpAny_Call_Name_kw ?_
      k_clsL
      refine callWith_KW (K := KK w) H₈.st.k (by kernel_rfl) (by rfl) ?_
      k_clsL
      refine kwAll_cons ?_
      k_clsL
      refine kwAll_nil ⟨H₈.st.k, ?_⟩
      refine wpAny_call (mk_usingK (k := k + 2) (stack := [Str.ofString "root", Str.ofString "s"]) hA₁ H₈.st (.inl ⟨_, _, rfl, rfl⟩) fun u₁ fp₁ h₉ t₉ S₉ K₉ U₁ F₁ => ?_)
      dsimp only
      have H₉ := H₈.call S₉ K₉
      refine i_cons ?_ rfl
      refine wpAny_Call_Name_kw ?_
      k_clsL
      refine callWith_KW (K := KK w) H₉.st.k (by kernel_rfl) (by rfl) ?_
      k_clsL
      refine kwAll_cons ?_
      k_clsL
      refine ⟨rfl, new_tupX H₉ fun st ha Ha Ka nst => ?_⟩
      refine kwAll_nil ⟨Ha.st.k, ?_⟩
      have hst := isTx_tup (Ha.get (a := st) (P := isTx _) (by tb_rel))
      refine wpAny_call (mk_usingK (k := k + 2) (stack := ["s", "s", "s"]) hA₁ Ha.st (.inr ⟨st, _, rfl, Ha.at (by tb_rel), hst, .cons _ _ (.cons _ _ (.cons _ _ .nil))⟩) fun u₂ fp₂ hb tb Sb Kb U₂ F₂ => ?_)
      dsimp only
      have Hb := Ha.call Sb Kb
      k_clsL
      have Hs := Hb.sub (List.sublist_cons_self _ _)
      have HR := Hs.restart
      have KB : Kp [] h₉ hb := Ka.trans Kb
      have K8b : Kp [] h₈ hb := K₉.trans KB
      have st7 : 714 ≤ st := Ha.at (by tb_rel)
      have hstb : IsTup hb st (List.toArray _) := let ⟨o, e, r⟩ := hst; ⟨o, Kb.keep _ _ e List.not_mem_nil (ne380 st7) (ne403 st7), r⟩
      obtain ⟨fA, hfA⟩ : ∃ fA, fA = fp ++ (fp₁ ++ (st :: fp₂)) := ⟨_, rfl⟩
      have hDs : AllK (ActK w (· ∈ fA) hb) (ys ++ [.none, .ref u₁, .ref u₂]) [0, 1, 2, 3, 4, 5] := by
        refine AllK.app (xs := [0, 1, 2]) (xs' := [3, 4, 5]) ?_ (AllK.app (vs := [.none]) (xs := [3]) (.one (.inr (.inl ⟨rfl, rfl⟩))) (AllK.app (vs := [.ref u₁]) (xs := [4]) (.one (.inr (.inr ⟨by decide, ?_⟩))) (.one (.inr (.inr ⟨by decide, ?_⟩)))))
        · refine ⟨hT.1, fun j hj => ?_⟩
          obtain ⟨v, e, x⟩ := hT.2 j hj
          have x' := (x.keep (K8b.keeps fun b hb => ⟨(FT b hb).1, List.not_mem_nil⟩)).weak (good' := (· ∈ fA)) fun b hb => by rw [hfA]; exact List.mem_append_left _ hb
          refine ⟨v, e, .inl ?_⟩
          have hj' : j = 0 ∨ j = 1 ∨ j = 2 := by simp at hj; omega
          rcases hj' with rfl | rfl | rfl
          · exact ⟨by show (0 : Int) < 3; decide, x'⟩
          · exact ⟨by show (1 : Int) < 3; decide, x'⟩
          · exact ⟨by show (2 : Int) < 3; decide, x'⟩
        · exact (UsK.keep (U₁ (· ∈ fp₁) (fun _ h => h) (fun a e => (nomatch e))) (KB.keeps fun b hb => ⟨(F₁ b hb).1, List.not_mem_nil⟩)).weak fun b hb => by rw [hfA]; exact List.mem_append_right _ (List.mem_append_left _ hb)
        · refine U₂ (· ∈ fA) (fun b hb => by rw [hfA]; exact List.mem_append_right _ (List.mem_append_right _ (.tail _ hb))) (fun b e => ?_)
          cases e
          rw [hfA]; exact List.mem_append_right _ (List.mem_append_right _ (.head _))
      have FA : FpOk h hb fA := by
        rw [hfA]
        refine (FT.fwd K8b).app (((F₁.back H₈.kp).fwd KB).app fun b hb => ?_)
        rcases List.mem_cons.mp hb with rfl | hb
        · obtain ⟨o, e, _⟩ := hstb
          exact ⟨st7, ⟨o, e⟩, .inl (H₉.new nst).1⟩
        · exact F₂.back Ha.kp b hb
      have FN : ∀ b ∈ fA, b ∉ [acc, lk, L, c] := fun b hb => by
        rw [hfA] at hb
        rcases List.mem_append.mp hb with hb | hb
        · exact Fn' b hb
        rcases List.mem_append.mp hb with hb | hb
        · exact (F₁.ne H₈ b hb).2
        rcases List.mem_cons.mp hb with rfl | hb
        · exact H₉.notKey nst
        · exact fun q => (F₂.ne Ha b hb).2 (.tail _ q)
      have hyl : ys.length = 3 := hT.1
      clear hT FT Fn' U₁ U₂ F₁ F₂ hst hstb K8b KB Hb
      refine ⟨rfl, new_pl HR fun r₁ hc Hc Kc nr1 nr1' => ?_⟩
      refine b_addP Hc (Hc.pl (a := acc) (by tb_rel)) (Hc.pl (a := r₁) (by tb_rel)) (by simp; omega) fun r₂ hd' Hd Kd nr2 nr2' => ?_
      refine c_store (c := c) Ev' (by tb_rel) (by tb_rel) Hd (by tb_rel) (by tb_start) fun he He => ?_
      k_clsL
      refine g_compX (h₀ := hb) (W := [acc, lk, L, c]) [("piece", none), ("deed", none)] Ev' (clos_none (by kernel_rfl)) (by kernel_rfl) ?_
      k_clsL
      have hvl : vs.length = ps.length := by have := hrs.len; simpa using this
      refine it_list He ((Hs.over He).old hla (hg _ ga) List.not_mem_nil) fun I2 hf Hf Kf nJ0 nJ => ?_
      refine ⟨_, _, _, rfl, Hf, ?_⟩
      intro cenv2 C2 acc2 hg' tg Ec2 Hg Kg nC2 nacc2' _ _
      refine ⟨?_, self_list Hg (by tb_rel) ⟨rfl, rfl⟩⟩
      have Ec2' : EnvOk cenv2 C2 [(".0", .local), ("piece", .local), ("deed", .local)] [] := Ec2
      refine kcp_loop (fun m s => ∃ (i : Nat) (zs : List Value) (lp ld : Option Value) (hh : Heap) (tt : Nat), s = ⟨hh, g, d, tt, os⟩ ∧ m = ps.length + 1 - i ∧ i ≤ ps.length ∧
        G w hb [acc, lk, L, c] hh [(C2, fr [("piece", lp), ("deed", ld)]), (acc2, isPL zs), (I2, isLI a i), (r₂, isPL (ys ++ [.none, .ref u₁, .ref u₂])), (r₁, isPL [.none, .ref u₁, .ref u₂]), (acc, isPL ys), (lk, isPL kvs), (L, fr [("rule", some (.ref a)), ("types", some (.ref acc))]), (c, isC (some (.ref r₂)))] ∧ AllK (fun v p => optV p v) zs ((ps.map (·.1)).take i)) ?_ (ps.length + 1) ?_
      · intro m s hpat
        obtain ⟨i, zs, lp, ld, hh, tt, e, em, hi1, H, hz⟩ := hpat
        subst e
        have hzl : zs.length ≤ 3 := by rw [hz.1, List.length_take, List.length_map]; omega
        rcases Nat.lt_or_ge i ps.length with hlt | hge
        · obtain ⟨v, hv, rv⟩ := hrs.get (i := i) (d := pieceD ps[i]) (by simp [piecesD, hlt])
          obtain ⟨r, pv, tp, rfl, gr, ht, hp⟩ := Rep.pieceE rv
          refine nx_list H (by tb_rel) ((Hs.over H).old hla (hg _ ga) List.not_mem_nil) hv (by tb_start) fun h' H' hs' => ?_
          dsimp only
          refine own_list H' (by tb_rel) ?_
          refine a_tup2 hA₁.hd H' ((Hs.over H').oldT ht (hg _ gr) List.not_mem_nil) fun h'' H'' => ?_
          k_clsL
          refine l_appendP (by assumption) (by tb_rel) (by omega) (by tb_start) fun h₆ H₆ => ?_
          exact ⟨ps.length + 1 - (i + 1), by omega, i + 1, _, _, _, _, _, rfl, rfl, hlt, H₆, hz.snoc (by simpa using hlt) (by simpa using hp)⟩
        · refine nx_list_end hA₁.hd H (by tb_rel) ((Hs.over H).old hla (hg _ ga) List.not_mem_nil) (List.getElem?_eq_none (by omega)) (Del.tail (Del.tail Del.head)) nJ0 fun h' H' hx => ?_
          dsimp only
          refine ⟨rfl, _, _, _, _, rfl, H', fun h'' H'' hx'' => ?_⟩
          have hi' : i = (ps.map (·.1)).length := by simp; omega
          rw [hi', List.take_length] at hz
          have hz' : OptsAre zs (ps.map (·.1)) := hz
          k_clsL
          refine ⟨rfl, new_pl H'' fun r₄ hh Hh Kh _ _ => ?_⟩
          k_clsL
          refine wpAny_call (mk_plain (k := k + 2) hA₁ Hh.st fun x dx hi ti Ni => ?_)
          dsimp only
          have Hi := Hh.take Ni
          dsimp only [List.cons_append, List.nil_append] at Hi
          refine i_cons ?_ rfl
          refine wpAny_Call_NameR ?_
          k_clsL
          refine callWith_S (K := KK w) Hi.st.k (by kernel_rfl) ?_
          refine g_compX (h₀ := hb) (W := [acc, lk, L, c]) [("piece", none), ("deed", none)] Ev' (cl := [("deeds", c)]) (clos_of Ev' (by kernel_rfl) rfl) (by kernel_rfl) ?_
          k_clsL
          refine it_list Hi ((Hs.over Hi).old hla (hg _ ga) List.not_mem_nil) fun I3 hj Hj Kj nI3 nI3' => ?_
          refine ⟨_, _, _, rfl, Hj, ?_⟩
          intro cenv3 C3 acc3 hk' tk' Ec3 Hk Kk nC3 nacc3' _ _
          refine ⟨?_, self_list Hk (by tb_rel) ⟨rfl, rfl⟩⟩
          have Ec3' : EnvOk cenv3 C3 [(".0", .local), ("piece", .local), ("deed", .local), ("deeds", .cell)] [("deeds", c)] := Ec3
          refine kcp_loop (fun m s => ∃ (i : Nat) (as : List Value) (lp ld : Option Value) (hh : Heap) (tt : Nat), s = ⟨hh, g, d, tt, os⟩ ∧ m = ps.length + 1 - i ∧ i ≤ ps.length ∧
            G w hb [acc, lk, L, c] hh [(C3, fr [("piece", lp), ("deed", ld)]), (acc3, isPL as), (I3, isLI a i), (x, isIn 630 dx), (dx, nsx 1 [("rows", .ref r₄)]), (r₄, isPL [.ref acc2]), (acc2, isPL zs), (r₂, isPL (ys ++ [.none, .ref u₁, .ref u₂])), (r₁, isPL [.none, .ref u₁, .ref u₂]), (acc, isPL ys), (lk, isPL kvs),
              (L, fr [("rule", some (.ref a)), ("types", some (.ref acc))]), (c, isC (some (.ref r₂)))] ∧ AllK (ActK w (· ∈ fA) hb) as ((ps.map (·.2)).take i)) ?_ (ps.length + 1) ?_
          · intro m s hpat
            obtain ⟨i, as, lp, ld, hh, tt, e, em, hi1, H, has⟩ := hpat
            subst e
            have hal : as.length ≤ 3 := by rw [has.1, List.length_take, List.length_map]; omega
            rcases Nat.lt_or_ge i ps.length with hlt | hge
            · obtain ⟨v, hv, rv⟩ := hrs.get (i := i) (d := pieceD ps[i]) (by simp [piecesD, hlt])
              obtain ⟨r, pv, tp, rfl, gr, ht, hp⟩ := Rep.pieceE rv
              refine nx_list H (by tb_rel) ((Hs.over H).old hla (hg _ ga) List.not_mem_nil) hv (by tb_start) fun h' H' hs' => ?_
              dsimp only
              refine own_list H' (by tb_rel) ?_
              refine a_tup2 hA₁.hd H' ((Hs.over H').oldT ht (hg _ gr) List.not_mem_nil) fun h'' H'' => ?_
              k_clsL
              rename_i h5 t5 H5
              obtain ⟨hd0, hd5⟩ := hd ps[i] (List.getElem_mem hlt)
              obtain ⟨jj, hjj⟩ : ∃ jj : Nat, ps[i].2 = jj := ⟨ps[i].2.toNat, by omega⟩
              have hj6 : jj < 6 := by omega
              obtain ⟨v, ev, xv⟩ := hDs.2 jj hj6
              have exj : ([0, 1, 2, 3, 4, 5] : List Int)[jj] = ps[i].2 := by
                rw [hjj]
                have : jj = 0 ∨ jj = 1 ∨ jj = 2 ∨ jj = 3 ∨ jj = 4 ∨ jj = 5 := by omega
                rcases this with rfl | rfl | rfl | rfl | rfl | rfl <;> rfl
              rw [exj] at xv
              refine sub_list (H5.pl (a := r₂) (by tb_rel)) (by omega) (by omega) (v := v) (by rw [hjj]; exact ev) ?_
              k_clsL
              refine l_appendP H5 (by tb_rel) (by omega) (by tb_start) fun h₆ H₆ => ?_
              exact ⟨ps.length + 1 - (i + 1), by omega, i + 1, _, _, _, _, _, rfl, rfl, hlt, H₆, has.snoc (by simpa using hlt) (by simpa using xv)⟩
            · refine nx_list_end hA₁.hd H (by tb_rel) ((Hs.over H).old hla (hg _ ga) List.not_mem_nil) (List.getElem?_eq_none (by omega)) (Del.tail (Del.tail Del.head)) nI3 fun h' H' hx => ?_
              dsimp only
              refine ⟨rfl, _, _, _, _, rfl, H', fun h'' H'' hx'' => ?_⟩
              have hi' : i = (ps.map (·.2)).length := by simp; omega
              rw [hi', List.take_length] at has
              refine star_list H'' (H''.pl (a := acc3) (by tb_rel)) (by omega) fun hl Hl => ?_
              refine ⟨Hl.st.k, ?_⟩
              obtain ⟨xB, hxB⟩ : ∃ x, innerB? (KK w) = some x := ⟨_, rfl⟩
              obtain ⟨pB, bB, sB⟩ := xB
              refine wpAny_call (mk_bygroups (k := k + 2) hxB hal hA₁ Hl.st fun f c' td ca at' hm tm Nm hcd h714 => ?_)
              dsimp only
              have Hm := Hl.take Nm
              dsimp only [List.cons_append, List.nil_append] at Hm
              have HM := Hm.restart
              k_clsL
              refine ⟨rfl, new_tupF HM fun rt hz Hz Kz _ _ => ?_⟩
              k_clsL
              have HF := Hm.over Hz
              have HG := Hs.over HF
              have kA : Keeps (· ∈ fA) hb hz := HF.kp.keeps fun b hb => ⟨(FA b hb).1, FN b hb⟩
              have hcz : CodeAt hz c' qB := hcd.kp Hz.kp (Hm.codeNe hcd) h714
              have hsub : ∀ b, b ∈ fA → b ∈ fA ++ [rt, x, dx, r₄, acc2, f, c', td, ca, at'] := fun b hb => List.mem_append_left _ hb
              have hsub2 : ∀ b, b ∈ [rt, x, dx, r₄, acc2, f, c', td, ca, at'] → b ∈ fA ++ [rt, x, dx, r₄, acc2, f, c', td, ca, at'] := fun b hb => List.mem_append_right _ hb
              refine q (.ref rt) (fA ++ [rt, x, dx, r₄, acc2, f, c', td, ca, at']) hz _ HG.st HG.kp ⟨rt, .ref x, .ref f, rfl, tup_sure (HG.tup (by tb_rel)) (hsub2 _ (by simp)), ?_, ?_⟩ ?_
              · refine ⟨x, dx, r₄, acc2, zs, rfl, hz', HG.at (a := r₄) (by tb_rel), HG.at (a := acc2) (by tb_rel), (inH_sure (HG.inH (by tb_rel) (by tb_rel)) (hsub2 _ (by simp)) (hsub2 _ (by simp))).and ((list_sure (HG.pl (by tb_rel)) (hsub2 _ (by simp))).and (list_sure (HG.pl (by tb_rel)) (hsub2 _ (by simp))))⟩
              · refine ⟨f, td, ca, at', as, rfl, ⟨HG.at (a := f) (by k_memK), HG.at (a := td) (by k_memK)⟩, (fnH_sure hxB (HG.get (by k_memK)) hcz (HG.tup (by k_memK)) (hsub2 _ (by simp)) (hsub2 _ (by simp)) (hsub2 _ (by simp))).and ((cell_sure (HG.get (by k_memK)) (hsub2 _ (by simp))).and (tup_sure (HG.tup (by k_memK)) (hsub2 _ (by simp)))), has.1, fun j hj => ?_⟩
                obtain ⟨v, e, y⟩ := has.2 j hj
                exact ⟨v, e, (y.keep kA).weak hsub⟩
              · refine (FA.fwd HF.kp).app (FpOk.of HG fun b hb => ?_)
                simp only [List.mem_cons, List.not_mem_nil, or_false] at hb
                rcases hb with rfl | rfl | rfl | rfl | rfl | rfl | rfl | rfl | rfl | rfl
                · exact .inl (by simp)
                · exact .inl (by simp)
                · exact .inl (by simp)
                · exact .inl (by simp)
                · exact .inl (by simp)
                · exact .inl (by simp)
                · exact .inr ⟨h714, _, hcz, code_old (W := []) HG.kp h714 hcz⟩
                · exact .inl (by simp)
                · exact .inl (by simp)
                · exact .inl (by simp)
          · exact ⟨0, [], _, _, _, _, rfl, by omega, Nat.zero_le _, Hk, .nil⟩
      · exact ⟨0, [], _, _, _, _, rfl, by omega, Nat.zero_le _, Hg, .nil⟩
  · exact ⟨0, [], _, _, _, [], rfl, by omega, by omega, H₄, .nil, .nil, fun _ hb => (nomatch hb)⟩
end

section -- K9
open PySem PySem.W PySem.Calls PyProof.Rows
set_option maxHeartbeats 0
set_option linter.unusedVariables false
set_option maxRecDepth 100000
open AutoSeq1 (wpAny_loadPart') in
theorem enum_newT (l : Addr) (items : Array Value) (n : Nat) (dct : Option Addr) (sl : Array (Option Value)) :
    Meets (Builtin.«enumerate.__new__» ⟨[.type "enumerate", .ref l], []⟩) (fun _ R s => s.heap.get? l = some { cls := .type "tuple", dict := dct, data := .seq items n, slots := sl } ∧
      R (.ok (.ret (.ref (s.heap.push { cls := .type "tuple_iterator", data := .fields #[.ref l, .int 0 0] }).objs.size)))
        { s with heap := (s.heap.push { cls := .type "tuple_iterator", data := .fields #[.ref l, .int 0 0] }).push { cls := .type "enumerate", data := .fields #[.none, .bool false, .ref s.heap.objs.size, rawInt 0, .none, .none] } }) :=
  .of_wp fun prog w A R s h => by
    obtain ⟨hp, g, d, tk, os⟩ := s; obtain ⟨hl, h⟩ := h
    have hsub := sub_enumerate
    have hL : Heap.IsTuple (Shared.heap ⟨hp, g, d, tk, os⟩) l items := ⟨_, hl, rfl, n, rfl⟩
    wp_walk using wpAny_loadPart' hl
    refine wpAny_stack_any fun st => wpAny_pure ?_
    split
    · rename_i c _ _ _ _ _
      cases (c == Value.type "enumerate")
      · wp_walk using wpAny_loadPart' hl, wpAny_pyIter_tuple hL
        exact ⟨_, rfl, h⟩
      · wp_walk using wpAny_loadPart' hl, wpAny_pyIter_tuple hL
        exact ⟨_, rfl, h⟩
    · wp_walk using wpAny_loadPart' hl, wpAny_pyIter_tuple hL
      exact ⟨_, rfl, h⟩
section
variable {prog : Program} {w : World} {A : Around} {E : Value → Shared → Prop} {s : Shared}
theorem call_enumT {l : Addr} {items : Array Value} {Q : Value → Shared → Prop} (hL : IsTup s.heap l items)
    (h : ∀ h', IsEnum h' (s.heap.objs.size + 1) s.heap.objs.size 0 .none → h'.IsTupleIter s.heap.objs.size l 0 → h'.objs.size = s.heap.objs.size + 2 →
      (∀ b o, s.heap.get? b = some o → h'.get? b = some o) → Q (.ref (s.heap.objs.size + 1)) { s with heap := h' }) :
    wpAny (model prog w) A (call (.type "enumerate") [.ref l]) Q E s := by
  obtain ⟨⟨c, dct, dt, sl⟩, hl, hc, n, hd⟩ := hL
  replace hc : c = .type "tuple" := hc
  replace hd : dt = .seq items n := hd
  subst hc hd
  refine callType_new F.called_enumerate (by decide) (F.typeCall_enumerate_1 _) (F.newCall_enumerate_1 _) (fun obj => F.args_object_init_2 obj _) F.entry_enumerate_new
    (enum_newT l items n dct sl) ⟨hl, ?_⟩
  have hz : (s.heap.push { cls := .type "tuple_iterator", data := .fields #[.ref l, .int 0 0] }).objs.size = s.heap.objs.size + 1 := Heap.size_push ..
  show _ ∧ _
  rw [hz]
  have he : IsEnum ((s.heap.push { cls := .type "tuple_iterator", data := .fields #[.ref l, .int 0 0] }).push
      { cls := .type "enumerate", data := .fields #[.none, .bool false, .ref s.heap.objs.size, rawInt 0, .none, .none] }) (s.heap.objs.size + 1) s.heap.objs.size 0 .none := by
    have := Heap.get?_push_size (s.heap.push { cls := .type "tuple_iterator", data := .fields #[.ref l, .int 0 0] })
      (o := { cls := .type "enumerate", data := .fields #[.none, .bool false, .ref s.heap.objs.size, rawInt 0, .none, .none] }) rfl
    rw [hz] at this; exact this
  refine ⟨⟨_, he, rfl⟩, h _ he ⟨_, Heap.get?_push_of_some _ (Heap.get?_push_size _ rfl), rfl, rfl⟩ (by rw [Heap.size_push, hz]) fun b o x => Heap.get?_push_of_some _ (Heap.get?_push_of_some _ x)⟩
theorem nextOfT_item {it t : Addr} {i : Nat} {items} {x : Value} {Q : Value → Shared → Prop} (hit : s.heap.IsTupleIter it t i) (ht : s.heap.IsTuple t items) (hx : items[i]? = some x)
    (hQ : ∀ h', h'.IsTupleIter it t (i + 1) → Heap.SameBut it s.heap h' → Q x { s with heap := h' }) : wpAny (model prog w) A (Builtin.SmallTypes.nextOf (.ref it)) Q E s := by
  obtain ⟨o, ho, hc, hd⟩ := id hit
  obtain ⟨ol, hol, _, nl, hdl⟩ := ht
  unfold Builtin.SmallTypes.nextOf
  refine wpAny_bind (wpAny_callSpecial?_slot (name := Str.ofString "__next__") hit.typeIs F.slot_tuple_iterator_next
    (wpAny_call_entry F.slot_tuple_iterator_next hit.typeIs F.entry_tuple_iterator_next ?_ (F.args_tuple_iterator_next_1 _)))
  show wpAny _ _ (field (.ref it) 0 >>= _) _ _ s
  refine wpAny_bind (wpAny_field ho hd (x := .ref t) rfl ?_)
  show wpAny _ _ (if (Value.ref t == Value.none) = true then _ else _) _ _ s
  rw [if_neg (show ¬ ((Value.ref t == Value.none) = true) from Bool.false_ne_true)]
  show wpAny _ _ (field (.ref it) 1 >>= _) _ _ s
  refine wpAny_bind (wpAny_field ho hd (x := .int i 0) rfl ?_)
  show wpAny _ _ (seqItems? (.ref t) >>= _) _ _ s
  refine wpAny_bind (wpAny_seqItems hol hdl ?_)
  simp only [Int.toNat_natCast, hx]
  refine wpAny_bind (wpAny_setField ho hd (by simp) (wpAny_pure ⟨x, rfl, wpAny_pure (hQ _ ?_ (Heap.SameBut.update ..))⟩))
  exact ⟨_, Heap.get?_update_self _ ho (Obj.isFreed_of_fields (Obj.data_mapFields hd _)), (Obj.cls_mapFields ..).trans hc, by
    rw [Obj.data_mapFields hd]; simp [rawInt]⟩
theorem nextOfT_end {it t : Addr} {i : Nat} {items} {Q : Value → Shared → Prop} (hh : A.handled = none) (hit : s.heap.IsTupleIter it t i) (ht : s.heap.IsTuple t items) (hx : items[i]? = none)
    (hE : ∀ h' e, Heap.ExtBut it s.heap h' → (∃ o, h'.get? e = some o ∧ o.cls = .type "StopIteration") → E (.ref e) { s with heap := h' }) :
    wpAny (model prog w) A (Builtin.SmallTypes.nextOf (.ref it)) Q E s := by
  obtain ⟨o, ho, hc, hd⟩ := id hit
  obtain ⟨ol, hol, _, nl, hdl⟩ := ht
  unfold Builtin.SmallTypes.nextOf
  refine wpAny_bind (wpAny_callSpecial?_slot (name := Str.ofString "__next__") hit.typeIs F.slot_tuple_iterator_next
    (wpAny_call_entry F.slot_tuple_iterator_next hit.typeIs F.entry_tuple_iterator_next ?_ (F.args_tuple_iterator_next_1 _)))
  show wpAny _ _ (field (.ref it) 0 >>= _) _ _ s
  refine wpAny_bind (wpAny_field ho hd (x := .ref t) rfl ?_)
  show wpAny _ _ (if (Value.ref t == Value.none) = true then _ else _) _ _ s
  rw [if_neg (show ¬ ((Value.ref t == Value.none) = true) from Bool.false_ne_true)]
  show wpAny _ _ (field (.ref it) 1 >>= _) _ _ s
  refine wpAny_bind (wpAny_field ho hd (x := .int i 0) rfl ?_)
  show wpAny _ _ (seqItems? (.ref t) >>= _) _ _ s
  refine wpAny_bind (wpAny_seqItems hol hdl ?_)
  simp only [Int.toNat_natCast, hx]
  refine wpAny_bind (wpAny_rule (wpAny_bind (wpAny_setField ho hd (by simp) ?_)))
  show wpAny _ _ (newExc (.type "StopIteration") [] >>= _) _ _ _
  refine wpAny_bind ?_
  simp only [newExc, newTuple]
  refine wpAny_bind (wpAny_newObj_type ?_ (by size_fits))
  refine wpAny_bind (m := firstArgMember _ _) (wpAny_of_eq (a := Value.none) (by first | rfl | (simp only [firstArgMember]; rfl)) ?_)
  refine wpAny_newObj_type ?_ (by size_fits)
  simp only [raiseNew]
  refine wpAny_bind (wpAny_handled ?_)
  first | rw [show A.in1.handled = none from hh] | rw [hh]
  refine wpAny_bind (wpAny_pure (wpAny_throw ?_))
  exact hE _ _ (((Heap.SameBut.update ..).extBut.push _).push _) ⟨_, Heap.get?_push_size _ rfl, rfl⟩
end
theorem drawsT {prog : Program} {w : World} {A : Around} (hh : A.handled = none) (it l : Addr) (hne : l ≠ it) (items : Array Value) :
    Draws prog w A it [it, l] items.size (fun i v => items[i]? = some v) (fun i h => h.IsTupleIter it l i ∧ h.IsTuple l items) where
  live := fun _ _ st => let ⟨o, ho, _⟩ := st.1; ⟨o, ho⟩
  frame := fun _ _ _ st hk => ⟨st.1.at fun o e => hk it (by simp) o e, let ⟨o, e, r⟩ := st.2; ⟨o, hk l (by simp) o e, r⟩⟩
  item := fun i s Q E hi st hQ => by
    refine nextOfT_item st.1 st.2 (x := items[i]) (by simp [hi]) fun h' hit' hs' => ?_
    exact hQ _ h' s.toks (by simp [hi]) ⟨hit', st.2.extBut hs'.extBut hne⟩ hs'
  done := fun s Q E st hE => nextOfT_end hh st.1 st.2 (by simp) hE
theorem St.but {w : World} {h h' : Heap} {Wl : List Addr} (S : St w h) (hk : ∀ b o, b ∉ Wl → h.get? b = some o → h'.get? b = some o) (hw : ∀ a ∈ Wl, 714 ≤ a ∧ ∃ o, h.get? a = some o ∧ NC o) : St w h' := by
  have ne : ∀ {b}, b < 714 → b ∉ Wl := fun hb hm => absurd (hw _ hm).1 (Nat.not_le.mpr hb)
  have kt : ∀ {P l c q}, P < 714 → TabS h P l c q → TabS h' P l c q := fun hP x => by
    rcases x with x | ⟨c', o', vs, t, y, b, dd, e, r⟩
    · exact .inl (hk _ _ (ne hP) x)
    · refine .inr ⟨c', o', vs, t, hk _ _ (ne hP) y, b, hk _ _ (fun q => ?_) dd, e, r⟩
      obtain ⟨_, o, eo, n⟩ := hw _ q
      rw [eo] at dd; cases dd; exact n e vs r.1
  refine ⟨fun b ob e => hk _ _ (ne (kk_lt e).1) (S.k b ob e), let ⟨mb, ⟨o, es, ep, e1, r⟩, y⟩ := S.b; ⟨mb, ⟨o, es, ep, hk _ _ (ne (by decide)) e1, r⟩, y⟩, let ⟨mc, ⟨o, es, ep, e1, r⟩, y⟩ := S.lim; ⟨mc, ⟨o, es, ep, hk _ _ (ne (by decide)) e1, r⟩, y⟩, kt (by decide) S.t1, kt (by decide) S.t2, let ⟨ob, e, r⟩ := S.bm; ⟨ob, hk _ _ (ne (by decide)) e, r⟩⟩
theorem G.but2 {w : World} {h₀ h h' : Heap} {W : List Addr} {D D1 D2 : Dl} {a b : Addr} {P Q : Pr} (H : G w h₀ W h D) (u1 : Upd a P D D1) (u2 : Upd b Q D1 D2)
    (hk : ∀ c o, c ≠ a → c ≠ b → h.get? c = some o → h'.get? c = some o) (x : ∃ o, h'.get? a = some o ∧ NC o ∧ P o) (y : ∃ o, h'.get? b = some o ∧ NC o ∧ Q o) : G w h₀ W h' D2 := by
  obtain ⟨P₀, hm⟩ := u1.old
  obtain ⟨Q₁, hm1⟩ := u2.old
  have nd1 : (D1.map (·.1)).Nodup := by rw [u1.keys]; exact H.nd
  have hmb : ∃ Q₀, (b, Q₀) ∈ D := by
    have : b ∈ D1.map (·.1) := List.mem_map_of_mem (f := (·.1)) hm1
    rw [u1.keys] at this
    obtain ⟨p, hp, e⟩ := List.mem_map.mp this
    exact ⟨p.2, by rw [← e]; exact hp⟩
  obtain ⟨Q₀, hmb⟩ := hmb
  obtain ⟨oa, ea, na, _⟩ := H.own _ hm
  obtain ⟨ob, eb, nb, _⟩ := H.own _ hmb
  have hWl : ∀ c ∈ [a, b], 714 ≤ c ∧ ∃ o, h.get? c = some o ∧ NC o := fun c hc => by
    rcases List.mem_cons.mp hc with rfl | hc
    · exact ⟨(H.dyn _ hm).1, oa, ea, na⟩
    · rw [List.mem_singleton.mp hc]; exact ⟨(H.dyn _ hmb).1, ob, eb, nb⟩
  have hk' : ∀ c o, c ∉ [a, b] → h.get? c = some o → h'.get? c = some o := fun c o hc e => hk c o (fun q => hc (by rw [q]; exact .head _)) (fun q => hc (by rw [q]; exact .tail _ (.head _))) e
  have keys : D2.map (·.1) = D.map (·.1) := u2.keys.trans u1.keys
  refine ⟨H.st.but hk' hWl, ⟨fun c o e z1 z2 z3 => hk' c o (fun q => ?_) (H.kp.keep c o e z1 z2 z3), fun c o e => ?_⟩, fun p hp => ?_, fun p hp => ?_, by rw [keys]; exact H.nd, H.big⟩
  · have : c ∈ W ∨ h₀.get? c = none := by
      rcases List.mem_cons.mp q with rfl | q
      · exact (H.dyn _ hm).2
      · rw [List.mem_singleton.mp q]; exact (H.dyn _ hmb).2
    rcases this with q | q
    · exact z1 q
    · rw [e] at q; cases q
  · obtain ⟨o', e'⟩ := H.kp.there c o e
    by_cases h1 : c = a
    · subst h1; exact let ⟨o, e, _⟩ := x; ⟨o, e⟩
    · by_cases h2 : c = b
      · subst h2; exact let ⟨o, e, _⟩ := y; ⟨o, e⟩
      · exact ⟨o', hk c o' h1 h2 e'⟩
  · rcases u2.mem nd1 p hp with rfl | ⟨hp1, hne⟩
    · exact y
    · rcases u1.mem H.nd p hp1 with rfl | ⟨hp2, hne2⟩
      · exact x
      · obtain ⟨o, e, r⟩ := H.own p hp2
        exact ⟨o, hk _ _ hne2 hne e, r⟩
  · have : p.1 ∈ D.map (·.1) := by rw [← keys]; exact List.mem_map_of_mem (f := (·.1)) hp
    obtain ⟨p', hp', e⟩ := List.mem_map.mp this
    rw [← e]; exact H.dyn p' hp'
def isEn (it : Addr) (i : Nat) : Pr := fun o => ∃ old, o = { cls := .type "enumerate", dict := none, data := .fields #[.none, .bool false, .ref it, rawInt i, .none, old], slots := #[] }
def isEnO (it : Addr) (i : Nat) (T : Addr) : Pr := fun o => ∃ x, o = { cls := .type "enumerate", dict := none, data := .fields #[rawInt T, .bool false, .ref it, rawInt i, .none, x], slots := #[] }
theorem nc_en {it i o} (h : isEn it i o) : NC o := by obtain ⟨_, rfl⟩ := h; exact nc_of rfl (by decide)
theorem nc_enO {it i T o} (h : isEnO it i T o) : NC o := by obtain ⟨_, rfl⟩ := h; exact nc_of rfl (by decide)
section
variable {w : World} {A : Around} {E : Value → Shared → Prop} {h₀ h : Heap} {W : List Addr} {D D1 D' : Dl} {a e I T : Addr} {v : Value}
  {g : Array GenState} {d : Drawn} {t : Nat} {os : OsState} {its : List Value} {i : Nat}
theorem G.two (H : G w h₀ W h D) {h' : Heap} {P Q : Pr} {o1 o2 : Obj} (hk : ∀ b o, h.get? b = some o → h'.get? b = some o) (e1 : h'.get? (h.objs.size + 1) = some o1) (n1 : NC o1) (p1 : P o1) (e2 : h'.get? h.objs.size = some o2) (n2 : NC o2) (p2 : Q o2) :
    G w h₀ W h' ((h.objs.size + 1, P) :: (h.objs.size, Q) :: D) := by
  have a1 := H.new (get_size h)
  have a2 := H.new (a := h.objs.size + 1) (Heap.get?_none_of_le (Nat.le_succ _))
  refine ((H.ext hk).add' e2 n2 p2 H.st.big a1.1 a1.2).add' e1 n1 p1 (Nat.le_succ_of_le H.st.big) a2.1 fun p hp => ?_
  rcases List.mem_cons.mp hp with rfl | hp
  · exact Nat.ne_of_lt (Nat.lt_succ_self _)
  · exact a2.2 p hp
theorem en_list {Q : Value → Shared → Prop} (H : G w h₀ W h D) (hl : h.IsList a its.toArray) (q : ∀ e I h', G w h₀ W h' ((e, isEn I 0) :: (I, isLI a 0) :: D) → Kp [] h h' → h₀.get? e = none → h₀.get? I = none → e ≠ I → Q (.ref e) ⟨h', g, d, t, os⟩) :
    wpAny (MM w) A (call (.type "enumerate") [.ref a]) (fun v s => wpAny (MM w) A (pyIter v) Q E s) E ⟨h, g, d, t, os⟩ := by
  refine call_enumerate_list hl fun h' he hit hz hk => wpAny_pyIter_enum he ?_
  obtain ⟨oi, ei, ci, di⟩ := hit
  exact q _ _ _ (H.two (P := isEn h.objs.size 0) (Q := isLI a 0) hk he (nc_of rfl (by decide)) ⟨_, rfl⟩ ei (nc_of ci (by decide)) ⟨ci, di⟩) ((Kp.refl [] h).ext hk) (H.new (Heap.get?_none_of_le (Nat.le_succ _))).1 (H.new (get_size h)).1 (Nat.succ_ne_self _)
theorem en_tup {Q : Value → Shared → Prop} (H : G w h₀ W h D) (hl : IsTup h a its.toArray) (q : ∀ e I h', G w h₀ W h' ((e, isEn I 0) :: (I, isTI a 0) :: D) → Kp [] h h' → h₀.get? e = none → h₀.get? I = none → e ≠ I → Q (.ref e) ⟨h', g, d, t, os⟩) :
    wpAny (MM w) A (call (.type "enumerate") [.ref a]) (fun v s => wpAny (MM w) A (pyIter v) Q E s) E ⟨h, g, d, t, os⟩ := by
  refine call_enumT hl fun h' he hit hz hk => wpAny_pyIter_enum he ?_
  obtain ⟨oi, ei, ci, di⟩ := hit
  exact q _ _ _ (H.two (P := isEn h.objs.size 0) (Q := isTI a 0) hk he (nc_of rfl (by decide)) ⟨_, rfl⟩ ei (nc_of ci (by decide)) ⟨ci, di⟩) ((Kp.refl [] h).ext hk) (H.new (Heap.get?_none_of_le (Nat.le_succ _))).1 (H.new (get_size h)).1 (Nat.succ_ne_self _)
theorem en_self {Q : Value → Shared → Prop} (H : G w h₀ W h D) (m1 : (e, isEn I i) ∈ D) (q : Q (.ref e) ⟨h, g, d, t, os⟩) : wpAny (MM w) A (pyIter (.ref e)) Q E ⟨h, g, d, t, os⟩ := by
  obtain ⟨o, eo, old, rfl⟩ := H.get m1
  exact wpAny_pyIter_enum eo q
theorem nx_enL {Df1 Df : Addr → Dl} {Q : Option Value → Shared → Prop} (H : G w h₀ W h D) (m1 : (e, isEn I i) ∈ D) (m2 : (I, isLI a i) ∈ D) (hne : e ≠ I) (hl : h.IsList a its.toArray) (hx : its[i]? = some v)
    (u1 : ∀ T, Upd e (isEnO I (i + 1) T) D (Df1 T)) (u2 : ∀ T, Upd I (isLI a (i + 1)) (Df1 T) (Df T)) (q : ∀ T tk h' t', G w h₀ W h' ((T, isT #[.int i tk, v]) :: Df T) → h₀.get? T = none → Q (some (.ref T)) ⟨h', g, d, t', os⟩) :
    wpAny (MM w) A (pyNext (.ref e)) Q E ⟨h, g, d, t, os⟩ := by
  obtain ⟨o, eo, old, rfl⟩ := H.get m1
  obtain ⟨oi, ei, ci, di⟩ := H.get m2
  refine wpAny_pyNext_enum_item eo ⟨oi, ei, ci, di⟩ hl (by rw [List.getElem?_toArray]; exact hx) hne fun h' ho hit hT hz hk => ?_
  obtain ⟨oi', ei', ci', di'⟩ := hit
  have H' := H.but2 (P := isEnO I (i + 1) h.objs.size) (Q := isLI a (i + 1)) (u1 _) (u2 _) (fun c o h1 h2 e => hk c o h1 h2 e) ⟨_, ho, nc_of rfl (by decide), _, rfl⟩ ⟨oi', ei', nc_of ci' (by decide), ci', di'⟩
  have n := H.new (get_size h)
  have keys : (Df h.objs.size).map (·.1) = D.map (·.1) := (u2 _).keys.trans (u1 _).keys
  refine q h.objs.size t _ _ (H'.add' hT (nc_tup (its := #[.int i t, v]) ⟨rfl, _, rfl⟩) ⟨rfl, _, rfl⟩ H.st.big n.1 fun p hp => ?_) n.1
  have : p.1 ∈ D.map (·.1) := by rw [← keys]; exact List.mem_map_of_mem (f := (·.1)) hp
  obtain ⟨p', hp', e'⟩ := List.mem_map.mp this
  rw [← e']; exact n.2 p' hp'
theorem nx_enT {Df1 Df : Addr → Dl} {Q : Option Value → Shared → Prop} (hA : A.handled = none) (H : G w h₀ W h D) (m1 : (e, isEn I i) ∈ D) (m2 : (I, isTI a i) ∈ D) (hne : e ≠ I) (hea : e ≠ a) (hIa : a ≠ I) (hl : IsTup h a its.toArray) (hx : its[i]? = some v)
    (u1 : ∀ T, Upd e (isEnO I (i + 1) T) D (Df1 T)) (u2 : ∀ T, Upd I (isTI a (i + 1)) (Df1 T) (Df T)) (q : ∀ T tk h' t', G w h₀ W h' ((T, isT #[.int i tk, v]) :: Df T) → h₀.get? T = none → Q (some (.ref T)) ⟨h', g, d, t', os⟩) :
    wpAny (MM w) A (pyNext (.ref e)) Q E ⟨h, g, d, t, os⟩ := by
  obtain ⟨o, eo, old, rfl⟩ := H.get m1
  obtain ⟨oi, ei, ci, di⟩ := H.get m2
  have hlt : i < its.toArray.size := by rw [List.size_toArray]; exact (List.getElem?_eq_some_iff.mp hx).1
  refine wpAny_pyNext_enum_itemD (drawsT (prog := PP) (w := w) (A := A.in1) hA I a hIa its.toArray) eo (i := i) ⟨⟨oi, ei, ci, di⟩, hl⟩ hlt hne (by simp [hne, hea]) fun x h' tk hP ho hst hT hz hk => ?_
  obtain ⟨⟨oi', ei', ci', di'⟩, _⟩ := hst
  have hxv : x = v := by
    have : its.toArray[i]? = some x := hP
    rw [List.getElem?_toArray, hx] at this; exact (Option.some.inj this).symm
  subst hxv
  have H' := H.but2 (P := isEnO I (i + 1) h.objs.size) (Q := isTI a (i + 1)) (u1 _) (u2 _) (fun c o h1 h2 e => hk c o h1 h2 e) ⟨_, ho, nc_of rfl (by decide), _, rfl⟩ ⟨oi', ei', nc_of ci' (by decide), ci', di'⟩
  have n := H.new (get_size h)
  have keys : (Df h.objs.size).map (·.1) = D.map (·.1) := (u2 _).keys.trans (u1 _).keys
  refine q h.objs.size tk _ _ (H'.add' hT (nc_tup (its := #[.int i tk, x]) ⟨rfl, _, rfl⟩) ⟨rfl, _, rfl⟩ H.st.big n.1 fun p hp => ?_) n.1
  have : p.1 ∈ D.map (·.1) := by rw [← keys]; exact List.mem_map_of_mem (f := (·.1)) hp
  obtain ⟨p', hp', e'⟩ := List.mem_map.mp this
  rw [← e']; exact n.2 p' hp'
theorem own_en {elts : List Expr} {k : Nat} {pos : Pos} {Q : Unit → Shared → Prop} (H : G w h₀ W h D) (m1 : (e, isEnO I i T) ∈ D) (u : Upd e (isEn I i) D D') (q : ∀ h', G w h₀ W h' D' → Q () ⟨h', g, d, t, os⟩) :
    wpAny (MM w) A (letOwnedTupleGo (.Tuple elts k pos) (.ref e) (.ref T)) Q E ⟨h, g, d, t, os⟩ := by
  obtain ⟨o, eo, x, rfl⟩ := H.get m1
  exact wpAny_letOwnedTupleGo_enum eo fun h' he hs => q h' (H.upd (P := isEn I i) u hs he (nc_of rfl (by decide)) ⟨_, rfl⟩)
theorem nx_enL_end {Q : Option Value → Shared → Prop} (hA : A.handled = none) (H : G w h₀ W h D) (m1 : (e, isEn I i) ∈ D) (m2 : (I, isLI a i) ∈ D) (hIa : a ≠ I) (hl : h.IsList a its.toArray) (hx : i = its.length) (u : Del I D D') (hn : h₀.get? I = none) (q : ∀ h', G w h₀ W h' D' → Heap.ExtBut I h h' → Q none ⟨h', g, d, t, os⟩) :
    wpAny (MM w) A (pyNext (.ref e)) Q E ⟨h, g, d, t, os⟩ := by
  obtain ⟨o, eo, old, rfl⟩ := H.get m1
  obtain ⟨oi, ei, ci, di⟩ := H.get m2
  subst hx
  exact wpAny_pyNext_enum_endD (Draws.list (prog := PP) (w := w) (A := A.in1) hA I a hIa its.toArray) eo ⟨⟨oi, ei, ci, by simpa using di⟩, hl⟩ fun h' hs => q h' (H.del u hs hn) hs
theorem nx_enT_end {Q : Option Value → Shared → Prop} (hA : A.handled = none) (H : G w h₀ W h D) (m1 : (e, isEn I i) ∈ D) (m2 : (I, isTI a i) ∈ D) (hIa : a ≠ I) (hl : IsTup h a its.toArray) (hx : i = its.length) (u : Del I D D') (hn : h₀.get? I = none) (q : ∀ h', G w h₀ W h' D' → Heap.ExtBut I h h' → Q none ⟨h', g, d, t, os⟩) :
    wpAny (MM w) A (pyNext (.ref e)) Q E ⟨h, g, d, t, os⟩ := by
  obtain ⟨o, eo, old, rfl⟩ := H.get m1
  obtain ⟨oi, ei, ci, di⟩ := H.get m2
  subst hx
  exact wpAny_pyNext_enum_endD (drawsT (prog := PP) (w := w) (A := A.in1) hA I a hIa its.toArray) eo ⟨⟨oi, ei, ci, by simpa using di⟩, hl⟩ fun h' hs => q h' (H.del u hs hn) hs
end
end

section -- L1
open PySem PySem.W PySem.Calls PyProof.Rows
set_option maxHeartbeats 0
set_option linter.unusedVariables false
set_option maxRecDepth 100000
/-- values that are tuples in the heap -/
def TupsAre (h : Heap) (vs : List Value) : Prop := ∀ (i : Nat) v, vs[i]? = some v → ∃ r xs, v = .ref r ∧ IsTup h r xs ∧ 714 ≤ r
theorem TupsAre.kp {h h' : Heap} {vs : List Value} (x : TupsAre h vs) (K : Kp [] h h') : TupsAre h' vs := fun i v e =>
  let ⟨r, xs, e', ⟨o, eo, p⟩, h7⟩ := x i v e; ⟨r, xs, e', ⟨o, K.keep _ _ eo List.not_mem_nil (ne380 h7) (ne403 h7), p⟩, h7⟩
theorem isi_tup {w : World} {A : Around} {E : Value → Shared → Prop} {h : Heap} {g : Array GenState} {d : Drawn} {t : Nat} {os : OsState} {r : Addr} {xs : Array Value} {c : Value} {b : Bool} {Q : Value → Shared → Prop}
    (S : St w h) (hr : IsTup h r xs) (e : kitOne (KK w) (.type "tuple") c = some b) (q : ∀ t', Q (.bool b) ⟨h, g, d, t', os⟩) : wpAny (MM w) A (call (.builtin "isinstance") [.ref r, c]) Q E ⟨h, g, d, t, os⟩ :=
  let ⟨o, eo, ec, _⟩ := hr
  kia_one (K := KK w) (x := .ref r) kitx_tuple S.k ⟨o, eo, ec⟩ e (by simp) q
theorem inherit_place {w : World} {A : Around} {k : Nat} {R : Result → Shared → Prop} {h : Heap} {g : Array GenState} {d : Drawn} {t : Nat} {os : OsState} {a : Addr} {its : List Value}
    (hA : AOk A (k + 3)) (S : St w h) (hl : h.IsList a its.toArray) (ha : 714 ≤ a) (hT : TupsAre h its)
    (q : ∀ h' t', St w h' → Kp [] h h' → R (.ok (.ret .none)) ⟨h', g, d, t', os⟩) :
    codeAny (MM w) A (.call (.ref 473) ⟨[.ref a], []⟩) R ⟨h, g, d, t, os⟩ := by
  have H0 : G w h [] h [] := G.start S
  refine enter (k := k + 2) [("items", some (.ref a)), ("k", none), ("item", none)] hA H0 (S.k 473 _ rfl) rfl (codeRec_of S.k (by kernel_rfl)) rfl (BindsTo.of_eq (binds := [("items", .ref a)]) (by kernel_rfl)) (by kernel_rfl) ⟨by kernel_rfl, trivial⟩ ?_
  intro env L h₁ t₁ Ev hA₁ H₁ K₁
  dsimp only at Ev
  k_clsL
  refine wpAny_For ?_
  k_clsL
  refine en_list H₁ (H₁.old hl ha List.not_mem_nil) fun e I h₂ H₂ K₂ ne nI hne => ?_
  have hIa : a ≠ I := fun q => by subst q; obtain ⟨o, e, _⟩ := hl; rw [e] at nI; cases nI
  refine codeAny_forLoop_any (fun m s => ∃ (i : Nat) (hh : Heap) (tt : Nat) (kv iv : Option Value), s = ⟨hh, g, d, tt, os⟩ ∧ m = its.length + 1 - i ∧ i ≤ its.length ∧
    G w h [] hh [(e, isEn I i), (I, isLI a i), (L, fr [("items", some (.ref a)), ("k", kv), ("item", iv)])]) ?_ (its.length + 1) ?_
  · intro m s hpat
    obtain ⟨i, hh, tt, kv, iv, es, em, hi1, H⟩ := hpat
    subst es
    rcases Nat.lt_or_ge i its.length with hlt | hge
    · obtain ⟨v, hv⟩ : ∃ v, its[i]? = some v := ⟨_, List.getElem?_eq_getElem hlt⟩
      obtain ⟨r, xs, rfl, hr, h7⟩ := hT i v hv
      refine nx_enL H (by tb_rel) (by tb_rel) hne (H.old hl ha List.not_mem_nil) hv (fun T => by tb_start) (fun T => by tb_start) fun T tk h' t' H' nT => ?_
      dsimp only
      refine own_en H' (by tb_rel) (by tb_start) fun h₃ H₃ => ?_
      refine a_tup2 hA₁.hd H₃ (H₃.tup (by tb_rel)) fun h₄ H₄ => ?_
      k_clsL
      refine wpAny_If ?_
      refine wpAny_isTrue_value ?_ (by rfl)
      k_clsL
      rename_i h₅ t₅ H₅
      refine isi_tup H₅.st (H₅.oldT hr h7 List.not_mem_nil) (b := false) (by kernel_rfl) fun t₆ => ?_
      k_clsL
      exact ⟨its.length + 1 - (i + 1), by omega, i + 1, _, _, _, _, rfl, rfl, hlt, H₅.sub (List.sublist_cons_self _ _)⟩
    · refine nx_enL_end hA₁.hd H (by tb_rel) (by tb_rel) hIa (H.old hl ha List.not_mem_nil) (by omega) (.tail .head) nI fun h' H' hx => ?_
      dsimp only
      k_clsL
      exact q _ _ (G.st (h₀ := h) (W := []) (by assumption)) (G.kp (h₀ := h) (W := []) (by assumption))
  · exact ⟨0, _, _, _, _, rfl, by omega, Nat.zero_le _, H₂⟩
end

section -- L2
open PySem PySem.W PySem.Calls PyProof.Rows
set_option maxHeartbeats 0
set_option linter.unusedVariables false
set_option maxRecDepth 100000
def isItm (d : Addr) (i n ep : Nat) : Pr := fun o => ∃ ok ov, o = { cls := .type "dict_itemiterator", dict := none, data := .fields #[.none, .bool false, .ref d, .int i 0, .int n 0, .int ep 0, ok, ov], slots := #[] }
def isItmO (d : Addr) (i n ep : Nat) (T : Addr) : Pr := fun o => ∃ ok ov, o = { cls := .type "dict_itemiterator", dict := none, data := .fields #[rawInt T, .bool false, .ref d, .int i 0, .int n 0, .int ep 0, ok, ov], slots := #[] }
abbrev DAtE (w : World) (h : Heap) (a : Addr) (kvs : List (Str × Value)) (ep : Nat) : Prop := Heap.DictAt (sk w) h a kvs ep
section
variable {w : World} {A : Around} {E : Value → Shared → Prop} {h₀ h : Heap} {W : List Addr} {D D' : Dl} {a e I T : Addr} {v : Value} {env : Env}
  {g : Array GenState} {d : Drawn} {t : Nat} {os : OsState} {its : List Value} {i ep : Nat} {kvs : List (Str × Value)} {k : Str}
theorem DAtE.kp {W : List Addr} {h h' : Heap} (x : DAtE w h a kvs ep) (K : Kp W h h') (h1 : a ∉ W) (h2 : 714 ≤ a) : DAtE w h' a kvs ep :=
  let ⟨o, es, ho, r⟩ := x; ⟨o, es, K.keep _ _ ho h1 (ne380 h2) (ne403 h2), r⟩
/-- list(l) -/
theorem ls_list {Q : Value → Shared → Prop} (H : G w h₀ W h D) (hl : h.IsList a its.toArray) (hz : its.length ≤ 100000) (q : ∀ r h', G w h₀ W h' ((r, isPL its) :: D) → Kp [] h h' → h.get? r = none → Q (.ref r) ⟨h', g, d, t, os⟩) :
    wpAny (MM w) A (call (.type "list") [.ref a]) Q E ⟨h, g, d, t, os⟩ := by
  obtain ⟨o, e, hc, n, hd⟩ := hl
  refine call_list_seq a (T := "list") (.inl rfl) e hc hd (fun h' c' hk he => ?_) (by rw [List.size_toArray]; exact Nat.le_trans hz (by decide +kernel))
  have n := H.new (get_size h)
  exact q _ _ ((H.ext hk).add' (P := isPL its) he (nc_list (its := its.toArray) ⟨rfl, _, rfl⟩) ⟨rfl, rfl, rfl, _, rfl⟩ H.st.big n.1 n.2) ((Kp.refl [] h).ext hk) (get_size h)
theorem ls_tup {Q : Value → Shared → Prop} (H : G w h₀ W h D) (hl : IsTup h a its.toArray) (hz : its.length ≤ 100000) (q : ∀ r h', G w h₀ W h' ((r, isPL its) :: D) → Kp [] h h' → h.get? r = none → Q (.ref r) ⟨h', g, d, t, os⟩) :
    wpAny (MM w) A (call (.type "list") [.ref a]) Q E ⟨h, g, d, t, os⟩ := by
  obtain ⟨o, e, hc, n, hd⟩ := hl
  refine call_list_seq a (T := "tuple") (.inr rfl) e hc hd (fun h' c' hk he => ?_) (by rw [List.size_toArray]; exact Nat.le_trans hz (by decide +kernel))
  have n := H.new (get_size h)
  exact q _ _ ((H.ext hk).add' (P := isPL its) he (nc_list (its := its.toArray) ⟨rfl, _, rfl⟩) ⟨rfl, rfl, rfl, _, rfl⟩ H.st.big n.1 n.2) ((Kp.refl [] h).ext hk) (get_size h)
/-- list(d) -/
theorem ls_dict {Q : Value → Shared → Prop} (hA : A.handled = none) (H : G w h₀ W h D) (hd' : DAt w h a kvs) (h7 : 714 ≤ a) (hz : kvs.length ≤ 1000) (q : ∀ r ks h' t', G w h₀ W h' ((r, isPL ks) :: D) → Kp [] h h' → StrsAre ks (kvs.map (·.1)) → Q (.ref r) ⟨h', g, d, t', os⟩) :
    wpAny (MM w) A (call (.type "list") [.ref a]) Q E ⟨h, g, d, t, os⟩ := by
  obtain ⟨ep, hda⟩ := hd'.dictAt
  refine kdl_call (kdl_dict (knd := sk w) (sysNe h7)) hA hda (Nat.le_trans hz (by decide +kernel)) fun h' tk acc' c' hk he hi => ?_
  have n := H.new (get_size h)
  have hks : StrsAre acc'.toList (kvs.map (·.1)) := by
    obtain ⟨hs, hi⟩ := hi
    have gen : ∀ (ks : List (Str × Value)) (vs : List Value), vs.length = ks.length → (∀ (j : Nat) v, vs[j]? = some v → ∃ k x, ks[j]? = some (k, x) ∧ (sk w).is k v = true) → StrsAre vs (ks.map (·.1)) := by
      intro ks
      induction ks with
      | nil => intro vs hl _; obtain rfl := List.eq_nil_of_length_eq_zero hl; exact .nil
      | cons p ks ih =>
        intro vs hl hv
        cases vs with
        | nil => cases hl
        | cons v vs =>
          obtain ⟨k, x, e1, e2⟩ := hv 0 v rfl
          cases e1
          obtain ⟨t, rfl⟩ := Value.isStrOf_shape e2
          exact .cons k t (ih vs (by simpa using hl) fun j u hu => hv (j + 1) u hu)
    refine gen kvs acc'.toList (by simpa using hs) fun j v hv => hi j v (by simpa using hv)
  have he' : h'.get? h.objs.size = some { cls := .type "list", dict := none, data := .seq acc'.toList.toArray c', slots := #[] } := he
  exact q _ acc'.toList _ _ ((H.ext hk).add' (P := isPL acc'.toList) he' (nc_list (its := acc'.toList.toArray) ⟨rfl, _, rfl⟩) ⟨rfl, rfl, rfl, _, rfl⟩ H.st.big n.1 n.2) ((Kp.refl [] h).ext hk) hks
theorem it_tup {Q : Value → Shared → Prop} (H : G w h₀ W h D) (hl : IsTup h a its.toArray) (q : ∀ I h', G w h₀ W h' ((I, isTI a 0) :: D) → Kp [] h h' → h₀.get? I = none → h.get? I = none → Q (.ref I) ⟨h', g, d, t, os⟩) :
    wpAny (MM w) A (pyIter (.ref a)) Q E ⟨h, g, d, t, os⟩ :=
  wpAny_pyIter_tuple hl (q _ _ (H.push (P := isTI a 0) _ rfl (nc_of rfl (by decide)) ⟨rfl, rfl⟩) ((Kp.refl [] h).ext fun b o e => Heap.get?_push_of_some _ e) (H.new (get_size h)).1 (get_size h))
theorem nx_tup {Q : Option Value → Shared → Prop} (H : G w h₀ W h D) (hm : (I, isTI a i) ∈ D) (hl : IsTup h a its.toArray) (hx : its[i]? = some v) (u : Upd I (isTI a (i + 1)) D D') (q : ∀ h', G w h₀ W h' D' → Heap.SameBut I h h' → Q (some v) ⟨h', g, d, t, os⟩) :
    wpAny (MM w) A (pyNext (.ref I)) Q E ⟨h, g, d, t, os⟩ :=
  wpAny_pyNext_tuple_item (H.get hm) hl (by rw [List.getElem?_toArray]; exact hx) fun h' ⟨o, e, p⟩ hs => q h' (H.upd u hs e (nc_of p.1 (by decide)) p) hs
theorem nx_tup_end {Q : Option Value → Shared → Prop} (hA : A.handled = none) (H : G w h₀ W h D) (hm : (I, isTI a i) ∈ D) (hl : IsTup h a its.toArray) (hx : its[i]? = none) (u : Del I D D') (hn : h₀.get? I = none) (q : ∀ h', G w h₀ W h' D' → Heap.ExtBut I h h' → Q none ⟨h', g, d, t, os⟩) :
    wpAny (MM w) A (pyNext (.ref I)) Q E ⟨h, g, d, t, os⟩ :=
  wpAny_pyNext_tuple_end hA (H.get hm) hl (by rw [List.getElem?_toArray]; exact hx) fun h' hs => q h' (H.del u hs hn) hs
/-- d.items(), walked -/
theorem it_items {o : Expr} {apos pos : Pos} {Q : Value → Shared → Prop} (H : G w h₀ W h D) (hd' : DAtE w h a kvs ep) (h7 : 714 ≤ a) (hbase : attributeBase o "items" env (eval o env) = eval o env) (hline : (apos.endLine == pos.line) = true)
    (ho : ∀ Q', Q' (.ref a) ⟨h, g, d, t, os⟩ → wpAny (MM w) A (eval o env) Q' E ⟨h, g, d, t, os⟩)
    (q : ∀ I h', G w h₀ W h' ((I, isItm a 0 kvs.length ep) :: D) → Kp [] h h' → h₀.get? I = none → h.get? I = none → Q (.ref I) ⟨h', g, d, t, os⟩) :
    wpAny (MM w) A (eval (.Call (.Attribute o "items" apos) [] [] pos) env) (fun v s => wpAny (MM w) A (pyIter v) Q E s) E ⟨h, g, d, t, os⟩ := by
  refine wpAny_Call_items (knd := sk w) (sysNe h7) hd'.dictOf hbase hline ho ?_
  have k1 : ∀ b o, h.get? b = some o → (h.push { cls := .type "dict_items", data := .fields #[.ref a] }).get? b = some o := fun b o e => Heap.get?_push_of_some _ e
  refine wpAny_pyIter_items (knd := sk w) (d := a) (kvs := kvs) (ep := ep) ⟨_, Heap.get?_push_size _ rfl, rfl, rfl⟩ (hd'.push _) ?_
  have H1 := H.ext k1
  refine q _ _ (H1.push (P := isItm a 0 kvs.length ep) _ rfl (nc_of rfl (by decide)) ⟨_, _, rfl⟩) (((Kp.refl [] h).ext k1).ext fun b o e => Heap.get?_push_of_some _ e) (H1.new (get_size _)).1 ?_
  show h.get? (h.push _).objs.size = none
  rw [Heap.size_push]; exact Heap.get?_none_of_le (Nat.le_succ _)
theorem nx_items {Df : Addr → Dl} {Q : Option Value → Shared → Prop} (H : G w h₀ W h D) (hm : (I, isItm a i kvs.length ep) ∈ D) (hd' : DAtE w h a kvs ep) (hx : kvs[i]? = some (k, v)) (u : ∀ T, Upd I (isItmO a (i + 1) kvs.length ep T) D (Df T))
    (q : ∀ T tk h', G w h₀ W h' ((T, isT #[.str k tk, v]) :: Df T) → h₀.get? T = none → Q (some (.ref T)) ⟨h', g, d, t, os⟩) : wpAny (MM w) A (pyNext (.ref I)) Q E ⟨h, g, d, t, os⟩ := by
  obtain ⟨o, eo, ok, ov, rfl⟩ := H.get hm
  refine wpAny_pyNext_items_item (knd := sk w) eo hd' hx fun key h' hkey ho hT hz hk => ?_
  obtain ⟨tk, rfl⟩ := Value.isStrOf_shape hkey
  have u' := u h.objs.size
  obtain ⟨P₀, hm0⟩ := u'.old
  obtain ⟨o₀, e₀, n₀, _⟩ := H.own _ hm0
  have H' := H.but2 (a := I) (b := I) (P := isItmO a (i + 1) kvs.length ep h.objs.size) (Q := isItmO a (i + 1) kvs.length ep h.objs.size) u' (D2 := Df h.objs.size) (by
      have : ∀ {D D' : Dl} {P : Pr}, Upd I P D D' → Upd I P D' D' := fun u => by
        induction u with
        | head => exact .head
        | tail _ ih => exact .tail ih
      exact this u') (fun c o h1 _ e => hk c o h1 e) ⟨_, ho, nc_of rfl (by decide), _, _, rfl⟩ ⟨_, ho, nc_of rfl (by decide), _, _, rfl⟩
  have n := H.new (get_size h)
  refine q h.objs.size tk _ (H'.add' hT (nc_tup (its := #[.str k tk, v]) ⟨rfl, _, rfl⟩) ⟨rfl, _, rfl⟩ H.st.big n.1 fun p hp => ?_) n.1
  have : p.1 ∈ D.map (·.1) := by rw [← u'.keys]; exact List.mem_map_of_mem (f := (·.1)) hp
  obtain ⟨p', hp', e'⟩ := List.mem_map.mp this
  rw [← e']; exact n.2 p' hp'
theorem own_items {elts : List Expr} {kk n : Nat} {pos : Pos} {Q : Unit → Shared → Prop} (H : G w h₀ W h D) (m1 : (I, isItmO a i n ep T) ∈ D) (u : Upd I (isItm a i n ep) D D') (q : ∀ h', G w h₀ W h' D' → Q () ⟨h', g, d, t, os⟩) :
    wpAny (MM w) A (letOwnedTupleGo (.Tuple elts kk pos) (.ref I) (.ref T)) Q E ⟨h, g, d, t, os⟩ := by
  obtain ⟨o, eo, ok, ov, rfl⟩ := H.get m1
  exact wpAny_letOwnedTupleGo_items eo fun h' he hs => q h' (H.upd (P := isItm a i n ep) u hs he (nc_of rfl (by decide)) ⟨_, _, rfl⟩)
theorem nx_items_end {Q : Option Value → Shared → Prop} (hA : A.handled = none) (H : G w h₀ W h D) (hm : (I, isItm a i kvs.length ep) ∈ D) (hd' : DAtE w h a kvs ep) (hx : kvs[i]? = none) (u : Del I D D') (hn : h₀.get? I = none) (q : ∀ h', G w h₀ W h' D' → Heap.ExtBut I h h' → Q none ⟨h', g, d, t, os⟩) :
    wpAny (MM w) A (pyNext (.ref I)) Q E ⟨h, g, d, t, os⟩ := by
  obtain ⟨o, eo, ok, ov, rfl⟩ := H.get hm
  exact wpAny_pyNext_items_end (knd := sk w) hA eo hd' hx fun h' hs => q h' (H.del u hs hn) hs
end
end

section -- L3
open PySem PySem.W PySem.Calls PyProof.Rows
set_option maxHeartbeats 0
set_option linter.unusedVariables false
set_option maxRecDepth 100000
abbrev KV := List (Str × Value)
def MInv (its1 its2 : List Value) (i : Nat) (kvt : List (Str × Value)) (T : Dl) : Prop := (i = 0 ∧ kvt = [] ∧ T = []) ∨ (i = 1 ∧ ∃ n1, kvt = ([("root", .ref n1)] : KV) ∧ T = [(n1, isPL its1)]) ∨
  (i = 2 ∧ ∃ n1 n2, kvt = ([("root", .ref n1), ("s", .ref n2)] : KV) ∧ T = [(n2, isPL its2), (n1, isPL its1)])
/-- one turn more -/
theorem MInv.next {its1 its2 : List Value} {l1 l2 : Addr} {i : Nat} {kvt T} (x : MInv its1 its2 i kvt T) (hi : i < 2) : ∃ (k : Str) (l : Addr) (its : List Value), ([("root", .ref l1), ("s", .ref l2)] : KV)[i]? = some (k, .ref l) ∧ valueAt kvt k = none ∧ kvt.length ≤ 2 ∧
    ((l = l1 ∧ its = its1) ∨ (l = l2 ∧ its = its2)) ∧ ∀ r, MInv its1 its2 (i + 1) (stored kvt k (.ref r)) ((r, isPL its) :: T) := by
  rcases x with ⟨rfl, rfl, rfl⟩ | ⟨rfl, n1, rfl, rfl⟩ | ⟨rfl, _⟩
  · exact ⟨"root", l1, its1, rfl, rfl, by simp, .inl ⟨rfl, rfl⟩, fun r => .inr (.inl ⟨rfl, r, rfl, rfl⟩)⟩
  · exact ⟨"s", l2, its2, rfl, by kernel_rfl, by simp, .inr ⟨rfl, rfl⟩, fun r => .inr (.inr ⟨rfl, n1, r, by kernel_rfl, rfl⟩)⟩
  · omega
theorem merged {w : World} {A : Around} {k : Nat} {R : Result → Shared → Prop} {h : Heap} {g : Array GenState} {d : Drawn} {t : Nat} {os : OsState} {ta td l1 l2 : Addr} {its1 its2 : List Value} {ep : Nat}
    (hA : AOk A (k + 6)) (S : St w h) (hta : IsTup h ta #[.ref td]) (ta7 : 714 ≤ ta) (htd : DAtE w h td [("root", .ref l1), ("s", .ref l2)] ep) (td7 : 714 ≤ td) (h1 : h.IsList l1 its1.toArray) (l17 : 714 ≤ l1) (h2 : h.IsList l2 its2.toArray) (l27 : 714 ≤ l2)
    (hT1 : TupsAre h its1) (hT2 : TupsAre h its2) (hz1 : its1.length ≤ 1000) (hz2 : its2.length ≤ 1000)
    (q : ∀ tk n1 n2 h' t', G w h [] h' [(tk, isDD w [("root", .ref n1), ("s", .ref n2)]), (n2, isPL its2), (n1, isPL its1)] → R (.ok (.ret (.ref tk))) ⟨h', g, d, t', os⟩) :
    codeAny (MM w) A (.call (.ref 480) ⟨[.ref ta], []⟩) R ⟨h, g, d, t, os⟩ := by
  have H0 : G w h [] h [] := G.start S
  refine enter (k := k + 5) [("tables", some (.ref ta)), ("tokens", none), ("inheritable", none), ("toks", none), ("state", none), ("items", none), ("curitems", none), ("inherit_ndx", none)] hA H0 (S.k 480 _ rfl) rfl (codeRec_of S.k (by kernel_rfl)) rfl (BindsTo.of_eq (binds := [("tables", .ref ta)]) (by kernel_rfl)) (by kernel_rfl) ⟨by kernel_rfl, trivial⟩ ?_
  intro env L h₁ t₁ Ev hA₁ H₁ K₁
  dsimp only at Ev
  k_clsL
  refine dd_new H₁ fun tk h₂ H₂ K₂ n2 => ?_
  k_clsL
  refine dd_new (h₀ := h) (W := []) (by assumption) fun ih h₃ H₃ K₃ n3 => ?_
  k_clsL
  refine wpAny_For ?_
  k_clsL
  rename_i h₄ t₄ H₄
  refine it_tup (its := [.ref td]) H₄ (H₄.oldT hta ta7 List.not_mem_nil) fun IT h₅ H₅ K₅ nIT nIT' => ?_
  refine codeAny_forLoop (fun m s => ∃ (i : Nat) (kvt : List (Str × Value)) (T : Dl) (tv sv iv cv nv : Option Value) (hh : Heap) (tt : Nat), s = ⟨hh, g, d, tt, os⟩ ∧ m = 2 - i ∧ i ≤ 1 ∧ MInv its1 its2 (2 * i) kvt T ∧
    G w h [] hh ((IT, isTI ta i) :: (ih, isDD w []) :: (tk, isDD w kvt) :: (L, fr [("tables", some (.ref ta)), ("tokens", some (.ref tk)), ("inheritable", some (.ref ih)), ("toks", tv), ("state", sv), ("items", iv), ("curitems", cv), ("inherit_ndx", nv)]) :: T)) ?_ 2 ?_
  · intro m s hpat
    obtain ⟨i, kvt, T, tv, sv, iv, cv, nv, hh, tt, es, em, hi1, hM, H⟩ := hpat
    subst es
    by_cases hi : i = 0
    · subst hi
      refine nx_tup (its := [.ref td]) H (by tb_rel) (H.oldT hta ta7 List.not_mem_nil) rfl (by tb_start) fun h' H' hs' => ?_
      dsimp only
      k_clsL
      rename_i h6 t6 H6
      have hd6 : DAtE w h6 td [("root", .ref l1), ("s", .ref l2)] ep := htd.kp H6.kp List.not_mem_nil td7
      refine wpAny_For ?_
      refine it_items H6 hd6 td7 (by with_unfolding_all rfl) rfl (fun Q' q' => ?_) fun IM h7 H7 K7 nIM nIM' => ?_
      · k_clsL
        exact q'
      refine codeAny_forLoop_any (fun m' s => ∃ (j : Nat) (kvt : List (Str × Value)) (T : Dl) (sv iv cv nv : Option Value) (hh : Heap) (tt : Nat), s = ⟨hh, g, d, tt, os⟩ ∧ m' = 3 - j ∧ j ≤ 2 ∧ MInv its1 its2 j kvt T ∧
        G w h [] hh ((IM, isItm td j 2 ep) :: (IT, isTI ta 1) :: (ih, isDD w []) :: (tk, isDD w kvt) :: (L, fr [("tables", some (.ref ta)), ("tokens", some (.ref tk)), ("inheritable", some (.ref ih)), ("toks", some (.ref td)), ("state", sv), ("items", iv), ("curitems", cv), ("inherit_ndx", nv)]) :: T)) ?_ 3 ?_
      · intro m' s hpat
        obtain ⟨j, kvt, T, sv, iv, cv, nv, hh, tt, es, em, hj, hM, H⟩ := hpat
        subst es
        rcases Nat.lt_or_ge j 2 with hlt | hge
        · obtain ⟨k', l, its, hkv, hv, hkl, hl, hnx⟩ := hM.next (l1 := l1) (l2 := l2) hlt
          refine nx_items (kvs := [("root", .ref l1), ("s", .ref l2)]) H (by k_memK) (htd.kp H.kp List.not_mem_nil td7) hkv (fun T => by tb_start) fun Tu tk1 h8 H8 nTu => ?_
          dsimp only
          refine own_items H8 (by tb_rel) (by tb_start) fun h9 H9 => ?_
          refine a_tup2 hA₁.hd H9 (H9.tup (by tb_rel)) fun ha Ha => ?_
          k_clsL
          rename_i hb tb Hb
          refine Call_method1 (by with_unfolding_all rfl) rfl rfl ?_
          k_clsL
          refine dd_get1 (Hb.at (P := isDD w kvt) (by tb_rel)) ?_ (Hb.dd (by tb_rel))
          k_clsL
          refine ⟨k', _, _, _, kvt, rfl, rfl, Hb.dd (by tb_rel), fun tc => ?_⟩
          rw [hv]
          dsimp only [Option.getD]
          k_clsL
          refine wpAny_If ?_
          k_clsL
          rw [v_none_none]
          k_clsL
          rename_i hc2 tc2 Hc
          have hll : (h.IsList l its.toArray ∧ 714 ≤ l ∧ TupsAre h its ∧ its.length ≤ 1000) := by
            rcases hl with ⟨rfl, rfl⟩ | ⟨rfl, rfl⟩
            · exact ⟨h1, l17, hT1, hz1⟩
            · exact ⟨h2, l27, hT2, hz2⟩
          refine ls_list Hc (Hc.old hll.1 hll.2.1 List.not_mem_nil) (by omega) fun r hd7 Hd Kd nr => ?_
          k_clsL
          refine dd_set (kvs := kvt) Hd (by tb_rel) (by omega) (by tb_start) fun he te He => ?_
          k_clsL
          refine wpAny_call (inherit_place (k := k + 2) hA₁ He.st (He.old hll.1 hll.2.1 List.not_mem_nil) hll.2.1 (hll.2.2.1.kp He.kp) fun hf tf Sf Kf => ?_)
          dsimp only
          have Hf := He.call Sf Kf
          k_clsL
          refine wpAny_If ?_
          k_clsL
          rw [v_none_none]
          k_clsL
          rename_i hg tg Hg
          refine wpAny_Continue ?_
          refine x_contd (x_contd (x_contd ?_))
          refine g_mv5 (Hg.sub (.cons_cons (r, isPL its) (.cons _ (List.Sublist.refl _)))) fun Hh => ?_
          exact ⟨3 - (j + 1), by omega, j + 1, _, _, _, _, _, _, _, _, rfl, rfl, by omega, hnx r, Hh⟩
        · refine nx_items_end (kvs := [("root", .ref l1), ("s", .ref l2)]) hA₁.hd H (by k_memK) (htd.kp H.kp List.not_mem_nil td7) (List.getElem?_eq_none (by simpa using hge)) .head nIM fun h' H' hx => ?_
          dsimp only
          k_clsL
          have hj2 : j = 2 := by omega
          subst hj2
          exact ⟨1, by omega, 1, kvt, T, _, _, _, _, _, _, _, rfl, rfl, by omega, hM, by assumption⟩
      · rcases hM with ⟨_, rfl, rfl⟩ | ⟨q, _⟩ | ⟨q, _⟩
        · exact ⟨0, [], [], _, _, _, _, _, _, rfl, by omega, by omega, .inl ⟨rfl, rfl, rfl⟩, H7⟩
        · omega
        · omega
    · have hi' : i = 1 := by omega
      subst hi'
      refine nx_tup_end (its := [.ref td]) hA₁.hd H (by tb_rel) (H.oldT hta ta7 List.not_mem_nil) rfl .head nIT fun h' H' hx => ?_
      dsimp only
      k_clsL
      rcases hM with ⟨q, _⟩ | ⟨q, _⟩ | ⟨_, n1, n2, rfl, rfl⟩
      · omega
      · omega
      · exact q tk n1 n2 _ _ (H'.sub (.cons _ (.cons_cons _ (.cons _ (List.Sublist.refl _)))))
  · exact ⟨0, [], [], _, _, _, _, _, _, _, rfl, by omega, by omega, .inl ⟨rfl, rfl, rfl⟩, H₅⟩
end

section -- L4
open PySem PySem.W PySem.Calls PyProof.Rows
set_option maxHeartbeats 0
set_option linter.unusedVariables false
set_option maxRecDepth 100000
theorem TabS.noFn {h : Heap} {P l c q} (x : TabS h P l c q) {o : Obj} (e : h.get? P = some o) (co : o.cls = .type "function") : False := by
  rcases x with x | ⟨_, _, _, _, x, _⟩ <;> (rw [x] at e; cases e; exact absurd co (by intro q; cases q))
theorem Kp.fn {w : World} {W : List Addr} {h h' : Heap} (K : Kp W h h') (S : St w h) {a : Addr} {o : Obj} (e : h.get? a = some o) (co : o.cls = .type "function") (ha : a ∉ W) : h'.get? a = some o :=
  K.keep a o e ha (fun q => by subst q; exact S.t1.noFn e co) (fun q => by subst q; exact S.t2.noFn e co)
theorem kind_callable : builtinKind "callable" = none := by decide +kernel
theorem plain_callable : plainId "callable" = true := by decide +kernel
theorem entry_callable : entryFor table "callable" = some Builtin.«callable» := entryFor_of_fast (by kernel_rfl)
theorem args_callable (a : Value) : argsOk "callable" ⟨[a], []⟩ := by unfold argsOk; kernel_rfl
theorem look_fn_call : typeLookup (.type "function") "__call__" = pure (some (.builtin "function.__call__")) := by rw [typeLookup_type, builtinLookup_eq_fast]; kernel_rfl
section
variable {w : World} {A : Around} {E : Value → Shared → Prop} {h₀ h : Heap} {W : List Addr} {D D' : Dl} {a e I T : Addr} {v : Value} {env : Env} {g : Array GenState} {d : Drawn} {t : Nat} {os : OsState}
theorem call_callable {Q : Value → Shared → Prop} (hf : ∃ o, h.get? a = some o ∧ o.cls = .type "function") (q : Q (.bool true) ⟨h, g, d, t, os⟩) : wpAny (MM w) A (call (.builtin "callable") [.ref a]) Q E ⟨h, g, d, t, os⟩ := by
  have hT : (⟨h, g, d, t, os⟩ : Shared).TypeIs (.ref a) "function" := hf
  refine call_function_entry kind_callable plain_callable entry_callable (args_callable _) ?_
  unfold Builtin.«callable»
  refine wpAny_bind (m := oneArg "callable" _) (wpAny_pure ?_)
  refine wpAny_bind (wpAny_specialOf hT look_fn_call ?_)
  exact wpAny_pure ⟨_, rfl, q⟩
theorem call_type_fn {Q : Value → Shared → Prop} {T : String} (hf : ∃ o, h.get? a = some o ∧ o.cls = .type T) (hn : (Value.type T == Value.type "builtin_function_or_method") = false) (q : Q (.type T) ⟨h, g, d, t, os⟩) : wpAny (MM w) A (call (.type "type") [.ref a]) Q E ⟨h, g, d, t, os⟩ :=
  kto_cont hf hn q
theorem call_type_in {x C dx : Addr} {k : Nat} {l : List (Str × Value)} {Q : Value → Shared → Prop} (I : InH h x C dx k l) (q : Q (.ref C) ⟨h, g, d, t, os⟩) : wpAny (MM w) A (call (.type "type") [.ref x]) Q E ⟨h, g, d, t, os⟩ :=
  call_type_obj I.1 rfl q
theorem is_type_ref {T : String} {C : Addr} {Q : Value → Shared → Prop} {s : Shared} (q : Q (.bool false) s) : wpAny (MM w) A (compareOp .Is (.type T) (.ref C)) Q E s := wpAny_is_other (by rfl) (by simp) q
end
/-- regex.match -/
theorem p_regex {w : World} {A : Around} {k : Nat} {R : Result → Shared → Prop} {h : Heap} {g : Array GenState} {d : Drawn} {t : Nat} {os : OsState} {cls v1 v2 : Value} {x dx ar : Addr}
    (hA : AOk A (k + 3)) (S : St w h) (I : InH h x 630 dx 1 [("rows", .ref ar)])
    (q : ∀ r h' t', G w h [] h' [(r, isM 627 x)] → R (.ok (.ret (.ref r))) ⟨h', g, d, t', os⟩) :
    codeAny (MM w) A (.call (.ref 648) ⟨[cls, .ref x, v1, v2], []⟩) R ⟨h, g, d, t, os⟩ := by
  have H0 : G w h [] h [] := G.start S
  refine enter (k := k + 2) [("cls", some cls), ("regex", some (.ref x)), ("rflags", some v1), ("state", some v2)] hA H0 (S.k 648 _ rfl) rfl (codeRec_of S.k (by kernel_rfl)) rfl (BindsTo.of_eq (binds := [("cls", cls), ("regex", .ref x), ("rflags", v1), ("state", v2)]) (by kernel_rfl)) (by kernel_rfl) ⟨by kernel_rfl, by kernel_rfl, by kernel_rfl, by kernel_rfl, trivial⟩ ?_
  intro env L h₁ t₁ Ev hA₁ H₁ K₁
  dsimp only at Ev
  k_clsL
  refine Attribute_Name_ ?_
  k_clsL
  refine h_bound (f := 627) H₁ (I.kp H₁.kp List.not_mem_nil List.not_mem_nil) (by kernel_rfl) (by kernel_rfl) fun r h₂ t₂ H₂ K₂ nr nr' => ?_
  k_clsL
  exact q r _ _ (H₂.sub (.cons_cons _ (List.nil_sublist _)))
theorem p_token {w : World} {A : Around} {k : Nat} {R : Result → Shared → Prop} {h : Heap} {g : Array GenState} {d : Drawn} {t : Nat} {os : OsState} {cls : Value} {x : Addr}
    (hA : AOk A (k + 3)) (S : St w h) (hx : (∃ dx kk l, InH h x 66 dx kk l) ∨ (∃ o, h.get? x = some o ∧ o.cls = .type "function"))
    (q : ∀ h' t', St w h' → Kp [] h h' → R (.ok (.ret (.ref x))) ⟨h', g, d, t', os⟩) :
    codeAny (MM w) A (.call (.ref 501) ⟨[cls, .ref x], []⟩) R ⟨h, g, d, t, os⟩ := by
  have H0 : G w h [] h [] := G.start S
  refine enter (k := k + 2) [("cls", some cls), ("token", some (.ref x))] hA H0 (S.k 501 _ rfl) rfl (codeRec_of S.k (by kernel_rfl)) rfl (BindsTo.of_eq (binds := [("cls", cls), ("token", .ref x)]) (by kernel_rfl)) (by kernel_rfl) ⟨by kernel_rfl, by kernel_rfl, trivial⟩ ?_
  intro env L h₁ t₁ Ev hA₁ H₁ K₁
  dsimp only at Ev
  k_clsL
  refine wpAny_Assert_holds ?_
  k_clsL
  rcases hx with ⟨dx, kk, l, I⟩ | ⟨o, eo, co⟩
  · refine call_type_in (I.kp H₁.kp List.not_mem_nil List.not_mem_nil) ?_
    k_clsL
    refine wpAny_is_ref_self ?_
    k_clsL
    refine ⟨rfl, ?_⟩
    k_clsL
    exact q _ _ H₁.st H₁.kp
  · have e1 := H₁.kp.fn S eo co List.not_mem_nil
    refine call_type_fn ⟨o, e1, co⟩ (by decide) ?_
    k_clsL
    refine is_type_ref ?_
    k_clsL
    refine wpAny_isTrue_value ?_ (by rfl)
    k_clsL
    refine call_callable ⟨o, e1, co⟩ ?_
    k_clsL
    refine ⟨rfl, ?_⟩
    k_clsL
    exact q _ _ H₁.st H₁.kp
end

section -- L5
open PySem PySem.W PySem.Calls PyProof.Rows
set_option maxHeartbeats 0
set_option linter.unusedVariables false
set_option maxRecDepth 100000
section
variable {w : World} {A : Around} {E : Value → Shared → Prop} {h₀ h h' : Heap} {W : List Addr} {D D' T : Dl} {a x C dx : Addr} {P P' : Pr} {name : Str} {k : Nat} {l : List (Str × Value)} {v : Value}
  {g : Array GenState} {d : Drawn} {t : Nat} {os : OsState}
theorem G.one (H : G w h₀ W h D) (hm : (a, P) ∈ D) : G w h [a] h [(a, P)] := by
  refine ⟨H.st, Kp.refl _ _, fun p hp => ?_, fun p hp => ?_, List.nodup_cons.mpr ⟨List.not_mem_nil, List.nodup_nil⟩, H.st.big⟩
  · rw [List.mem_singleton.mp hp]; exact H.own _ hm
  · rw [List.mem_singleton.mp hp]; exact ⟨(H.dyn _ hm).1, .inl (.head _)⟩
theorem G.back1 (H : G w h₀ W h D) (u : Upd a P' D D') (N : G w h [a] h' ((a, P') :: T)) : G w h₀ W h' (T ++ D') := by
  obtain ⟨o, e, n, p⟩ := N.own _ (.head _)
  have Hc := H.call1 N.st N.kp u e n p
  have nd := N.nd
  rw [List.map_cons, List.nodup_cons] at nd
  have fr : ∀ p ∈ T, h.get? p.1 = none := fun p hp => (N.dyn p (.tail _ hp)).2.resolve_left fun q => nd.1 (by rw [← List.mem_singleton.mp q]; exact List.mem_map_of_mem (f := (·.1)) hp)
  have hk := u.keys
  refine ⟨Hc.st, Hc.kp, fun p hp => ?_, fun p hp => ?_, ?_, Hc.big⟩
  · rcases List.mem_append.mp hp with hp | hp
    · exact N.own p (.tail _ hp)
    · exact Hc.own p hp
  · rcases List.mem_append.mp hp with hp | hp
    · exact ⟨(N.dyn p (.tail _ hp)).1, .inr (H.new (fr p hp)).1⟩
    · exact Hc.dyn p hp
  · rw [List.map_append, List.nodup_append]
    refine ⟨nd.2, Hc.nd, fun b hb c hc hbc => ?_⟩
    obtain ⟨p, hp, rfl⟩ := List.mem_map.mp hb
    rw [hk] at hc
    obtain ⟨q, hq, rfl⟩ := List.mem_map.mp hc
    exact (H.new (fr p hp)).2 q hq hbc.symm
theorem t_item {value slice : Expr} {Q : Value → Shared → Prop} {its : Array Value} {k : Int} {tk : Tok} (ht : IsTup h a its) (h0 : 0 ≤ k) (hf : k < 2 ^ 63) (hx : its[k.toNat]? = some v) (q : Q v ⟨h, g, d, t, os⟩)
    (hs : subscripted slice false (.ref a) (.int k tk) = operate [.ref a, .int k tk] (getItem (.ref a) (.int k tk)) := by with_unfolding_all rfl) :
    wpAny (MM w) A (subscriptTail value slice (.ref a) (.int k tk)) Q E ⟨h, g, d, t, os⟩ := by
  have hlt : k.toNat < its.size := by
    rcases Nat.lt_or_ge k.toNat its.size with h | h
    · exact h
    · rw [Array.getElem?_eq_none h] at hx; cases hx
  exact tail_any (T := "tuple") (IsTup.typeIs (s := ⟨h, g, d, t, os⟩) ht) PyProof.Rows.slot_tuple_getitem.lookup (PyProof.Rows.getItem_tuple ht (by omega) hf (seqIndex_of h0 (by omega)) hx q) hs
theorem t_len {Q : Value → Shared → Prop} {its : Array Value} (ht : IsTup h a its) (hf : its.size < 2 ^ 30) (q : ∀ tk t', Q (.int its.size tk) ⟨h, g, d, t', os⟩) : wpAny (MM w) A (call (.builtin "len") [.ref a]) Q E ⟨h, g, d, t, os⟩ :=
  PyProof.Rows.len_tuple (s := ⟨h, g, d, t, os⟩) ht (by omega) (q _ _)
theorem G.apart {b : Addr} {o : Obj} (H : G w h₀ W h D) (e : h₀.get? b = some o) (hb : b ∉ W) : b ∉ D.map (·.1) := fun hm => by
  obtain ⟨p, hp, rfl⟩ := List.mem_map.mp hm
  rcases (H.dyn p hp).2 with h1 | h1
  · exact hb h1
  · rw [e] at h1; cases h1
/-- x.name, of its class -/
theorem h_cls {ex : Bool} {Q : Value → Shared → Prop} (X : (KK w).In h) (I : InH h x C dx k l) (hl : l.lookup name = none)
    (hc : (findIn (KK w) (.ref C) "__getattribute__" == some (some (.builtin "object.__getattribute__")) && findIn (KK w) (.ref C) name == some (some v) && specialIn (KK w) v "__get__" == some none && hasDictIn (KK w) C && handedIn v && !copiedNames.contains name) = true)
    (q : ∀ t', Q v ⟨h, g, d, t', os⟩) : wpAny (MM w) A (getAttr (.ref x) name ex) Q E ⟨h, g, d, t, os⟩ := by
  simp only [Bool.and_eq_true, beq_iff_eq, Bool.not_eq_true'] at hc
  obtain ⟨⟨⟨⟨⟨c1, c2⟩, c3⟩, c4⟩, c5⟩, c6⟩ := hc
  obtain ⟨ex, -, -, od, eD, p⟩ := I
  exact get_value (K := KK w) (ox := instObj C dx) (od := some od) X ⟨ex, rfl, rfl, eD⟩ c1 (findObj_cls c4 c2 c3 c5 c6 (by rw [nsx_look p, hl])) c5 (q _)
end
/-- objects that a call made -/
def NewOk (h h' : Heap) (fp : List Addr) : Prop := ∀ a ∈ fp, 714 ≤ a ∧ (∃ o, h'.get? a = some o) ∧ h.get? a = none
theorem NewOk.fp {h h' : Heap} {fp : List Addr} (x : NewOk h h' fp) : FpOk h h' fp := fun a ha => ⟨(x a ha).1, (x a ha).2.1, .inl (x a ha).2.2⟩
theorem NewOk.back {W : List Addr} {h h₂ h₃ : Heap} {fp : List Addr} (x : NewOk h₂ h₃ fp) (K : Kp W h h₂) : NewOk h h₃ fp := fun a ha => ⟨(x a ha).1, (x a ha).2.1, by
  cases e : h.get? a with
  | none => rfl
  | some o => obtain ⟨o', e'⟩ := K.there a o e; rw [(x a ha).2.2] at e'; cases e'⟩
theorem NewOk.fwd {W : List Addr} {h h₂ h₃ : Heap} {fp : List Addr} (x : NewOk h h₂ fp) (K : Kp W h₂ h₃) : NewOk h h₃ fp := fun a ha =>
  let ⟨h7, ⟨o, e⟩, y⟩ := x a ha; ⟨h7, K.there a o e, y⟩
theorem NewOk.app {h h₂ : Heap} {fp fp' : List Addr} (x : NewOk h h₂ fp) (y : NewOk h h₂ fp') : NewOk h h₂ (fp ++ fp') := fun a ha => (List.mem_append.mp ha).elim (x a) (y a)
theorem NewOk.nil {h h₂ : Heap} : NewOk h h₂ [] := fun _ ha => (nomatch ha)
theorem NewOk.ne {w : World} {h₀ h h' : Heap} {W : List Addr} {D : Dl} {fp : List Addr} (x : NewOk h h' fp) (H : G w h₀ W h D) : ∀ a ∈ fp, a ∉ D.map (·.1) := fun a ha => H.notKey (x a ha).2.2
def ItemK (P : (Addr → Prop) → Heap → Value → Prop) (good : Addr → Prop) (h : Heap) (v : Value) (ps : List (Option Str)) : Prop :=
  ∃ r pl tok, v = .ref r ∧ 714 ≤ r ∧ Sure good h (fun h => IsTup h r #[pl, tok]) ∧ PlainK good h pl ps ∧ P good h tok
/-- a rule as the lexer keeps it -/
def ProcK (P : (Addr → Prop) → Heap → Value → Prop) (good : Addr → Prop) (h : Heap) (v : Value) (ps : List (Option Str)) : Prop :=
  ∃ r bm x tok, v = .ref r ∧ Sure good h (fun h => IsTup h r #[.ref bm, tok, .none] ∧ h.get? bm = some (methodObj (.ref 627) (.ref x))) ∧ PlainK good h (.ref x) ps ∧ P good h tok
structure PKeep {α : Type} (P : α → (Addr → Prop) → Heap → Value → Prop) : Prop where
  keep : ∀ {a good h h' v}, P a good h v → Keeps good h h' → P a good h' v
  weak : ∀ {a good good' h v}, P a good h v → (∀ b, good b → good' b) → P a good' h v
  fits : ∀ {a good h v}, P a good h v → ∃ x, v = .ref x ∧ ((∃ dx kk l, InH h x 66 dx kk l) ∨ ∃ o, h.get? x = some o ∧ o.cls = .type "function")
section
variable {α : Type} {P : α → (Addr → Prop) → Heap → Value → Prop} {a : α} {good good' : Addr → Prop} {h h' : Heap} {v : Value} {ps : List (Option Str)}
theorem ItemK.keep (hP : PKeep P) (x : ItemK (P a) good h v ps) (hk : Keeps good h h') : ItemK (P a) good h' v ps := let ⟨r, pl, tok, e, r7, s, p, q⟩ := x; ⟨r, pl, tok, e, r7, s.keep hk, p.keep hk, hP.keep q hk⟩
theorem ItemK.weak (hP : PKeep P) (x : ItemK (P a) good h v ps) (hg : ∀ b, good b → good' b) : ItemK (P a) good' h v ps := let ⟨r, pl, tok, e, r7, s, p, q⟩ := x; ⟨r, pl, tok, e, r7, s.weak hg, p.weak hg, hP.weak q hg⟩
theorem ProcK.keep (hP : PKeep P) (x : ProcK (P a) good h v ps) (hk : Keeps good h h') : ProcK (P a) good h' v ps := let ⟨r, bm, pl, tok, e, s, p, q⟩ := x; ⟨r, bm, pl, tok, e, s.keep hk, p.keep hk, hP.keep q hk⟩
theorem ProcK.weak (hP : PKeep P) (x : ProcK (P a) good h v ps) (hg : ∀ b, good b → good' b) : ProcK (P a) good' h v ps := let ⟨r, bm, pl, tok, e, s, p, q⟩ := x; ⟨r, bm, pl, tok, e, s.weak hg, p.weak hg, hP.weak q hg⟩
end
end

section -- L6
open PySem PySem.W PySem.Calls PyProof.Rows
set_option maxHeartbeats 0
set_option linter.unusedVariables false
set_option maxRecDepth 100000
theorem p_state {α : Type} {P : α → (Addr → Prop) → Heap → Value → Prop} (hP : PKeep P) {pss : α → List (Option Str)} {w : World} {A : Around} {k : Nat} {R : Result → Shared → Prop} {h : Heap} {g : Array GenState} {d : Drawn} {t : Nat} {os : OsState} {good : Addr → Prop}
    {lx dlx ud dp nl : Addr} {kx : Nat} {lxl kvs ukv : List (Str × Value)} {st : Str} {tk : Tok} {its : List Value} {xs : List α}
    (hA : AOk A (k + 5)) (H : G w h [dp] h [(dp, isDD w kvs)]) (Ix : InH h lx 651 dlx kx lxl) (hlx : lx ≠ dp ∧ dlx ≠ dp) (hln : lxl.lookup (Str.ofString "flags") = none ∧ lxl.lookup (Str.ofString "_process_regex") = none ∧ lxl.lookup (Str.ofString "_process_token") = none)
    (hud : DAt w h ud ukv) (ud7 : 714 ≤ ud) (udp : ud ≠ dp) (hst : st = "root" ∨ st = "s") (hui : valueAt ukv st = some (.ref nl)) (hl : h.IsList nl its.toArray) (nl7 : 714 ≤ nl) (nlp : nl ≠ dp)
    (hnone : valueAt kvs st = none) (hkz : kvs.length ≤ 2) (hz : its.length ≤ 1000) (hgood : ∀ b, good b → 714 ≤ b ∧ b ≠ dp ∧ ∃ o, h.get? b = some o) (hits : AllK (fun v x => ItemK (P x) good h v (pss x)) its xs)
    (q : ∀ tl vs fp h' t', G w h [dp] h' [(dp, isDD w (stored kvs st (.ref tl))), (tl, isPL vs)] → AllK (fun v x => ProcK (P x) (fun b => good b ∨ b ∈ fp) h' v (pss x)) vs xs → NewOk h h' fp → (∀ b ∈ fp, b ∉ [dp, tl]) → R (.ok (.ret (.ref tl))) ⟨h', g, d, t', os⟩) :
    codeAny (MM w) A (.call (.ref 515) ⟨[.ref lx, .ref ud, .ref dp, .str st tk], []⟩) R ⟨h, g, d, t, os⟩ := by
  have S := H.st
  have hrd : ∀ {r its}, IsTup h r its → r ∉ [dp] := fun {r its} ⟨o, e, c, n, hd⟩ q => by
    have q := List.mem_singleton.mp q
    subst q
    obtain ⟨o', e', es, ep, _, hd', _⟩ := H.get (.head _)
    rw [e] at e'; cases e'
    rw [hd] at hd'; cases hd'
  refine enter (k := k + 4) [("cls", some (.ref lx)), ("unprocessed", some (.ref ud)), ("processed", some (.ref dp)), ("state", some (.str st tk)), ("tokens", none), ("rflags", none), ("tdef", none), ("new_state", none), ("rex", none), ("token", none)] hA H (S.k 515 _ rfl) rfl (codeRec_of S.k (by kernel_rfl)) rfl (BindsTo.of_eq (binds := [("cls", .ref lx), ("unprocessed", .ref ud), ("processed", .ref dp), ("state", .str st tk)]) (by kernel_rfl)) (by kernel_rfl) ⟨by kernel_rfl, by kernel_rfl, by kernel_rfl, by kernel_rfl, trivial⟩ ?_
  intro env L h₁ t₁ Ev hA₁ H₁ K₁
  dsimp only at Ev
  k_clsL
  refine wpAny_Assert_holds ?_
  refine wpAny_isTrue_value ?_ (by rfl)
  k_clsL
  refine kia_one (K := KK w) (x := .str st tk) kitx_str H₁.st.k trivial (b := true) (by kernel_rfl) (by simp) fun t₂ => ?_
  k_clsL
  refine ⟨rfl, ?_⟩
  k_clsL
  refine wpAny_Assert_holds ?_
  k_clsL
  have hs0 : (0 : Int) < st.length := by rcases hst with rfl | rfl <;> decide
  refine s_item (x := st) (k := 0) (by omega) hs0 (by rcases hst with rfl | rfl <;> decide) (fun _ _ => ?_) ?hsub
  case hsub => rfl
  k_clsL
  refine PyProof.Rows.ne_str ?_
  k_clsL
  refine ⟨by rcases hst with rfl | rfl <;> decide +kernel, ?_⟩
  k_clsL
  refine wpAny_If ?_
  k_clsL
  refine dd_in (kvs := kvs) (H₁.dd (by tb_rel)) (H₁.at (P := isDD w kvs) (by tb_rel)) fun t₃ => ?_
  rw [hnone]
  k_clsL
  dsimp only [Option.isSome]
  k_clsL
  refine wpAny_Assign_two ?_
  k_clsL
  refine ⟨rfl, new_pl H₁ fun tl h₂ H₂ K₂ nl0 nl1 => ?_⟩
  k_clsL
  rename_i h₃ t₃' H₃
  refine kas_sub ?_
  k_clsL
  refine dd_set (kvs := kvs) H₃ (by tb_rel) (by omega) (by tb_start) fun h₄ t₄ H₄ => ?_
  k_clsL
  have I₄ : InH h₄ lx 651 dlx kx lxl := Ix.kp H₄.kp (by simpa using hlx.1) (by simpa using hlx.2)
  refine Attribute_Name_ ?_
  k_clsL
  refine h_cls (v := .int 8 934) H₄.st.k I₄ hln.1 (by kernel_rfl) fun t₅ => ?_
  k_clsL
  refine wpAny_For ?_
  k_clsL
  rename_i h₆ t₆ H₆
  refine dd_item (hud.kp H₆.kp (by simpa using udp) ud7) hui (fun t₇ => ?_) ?hsub
  case hsub => with_unfolding_all rfl
  have hll : ∀ {h' D'}, G w h [dp] h' D' → h'.IsList nl its.toArray := fun H => H.old hl nl7 (by simpa using nlp)
  refine it_list H₆ (hll H₆) fun I h₇ H₇ K₇ nI nI' => ?_
  refine codeAny_forLoop (fun m s => ∃ (i : Nat) (vs : List Value) (fp : List Addr) (tv nv rv kv : Option Value) (hh : Heap) (tt : Nat), s = ⟨hh, g, d, tt, os⟩ ∧ m = its.length + 1 - i ∧ i ≤ its.length ∧
    G w h [dp] hh [(I, isLI nl i), (tl, isPL vs), (L, fr [("cls", some (.ref lx)), ("unprocessed", some (.ref ud)), ("processed", some (.ref dp)), ("state", some (.str st tk)), ("tokens", some (.ref tl)), ("rflags", some (.int 8 934)), ("tdef", tv), ("new_state", nv), ("rex", rv), ("token", kv)]), (dp, isDD w (stored kvs st (.ref tl)))] ∧
    AllK (fun v x => ProcK (P x) (fun b => good b ∨ b ∈ fp) hh v (pss x)) vs (xs.take i) ∧ NewOk h hh fp ∧ (∀ b ∈ fp, b ∉ [I, tl, L, dp])) ?_ (its.length + 1) ?_
  · intro m s hpat
    obtain ⟨i, vs, fp, tv, nv, rv, kv, hh, tt, es, em, hi1, H, hvs, F, Fn⟩ := hpat
    subst es
    have hxl : its.length = xs.length := hits.1
    have hvl : vs.length ≤ 1000 := by rw [hvs.1, List.length_take]; omega
    rcases Nat.lt_or_ge i its.length with hlt | hge
    · obtain ⟨v, hv, r, pl, tok, rfl, r7, ht, hpl, htok⟩ := hits.2 i (by omega)
      obtain ⟨tx, rfl, _⟩ := hP.fits htok
      obtain ⟨px, dxp, ar, pa, pvs, rfl, hO, har, hpa, hS⟩ := id hpl
      have HR := H.restart
      refine nx_list HR (by tb_rel) (hll H) hv (by tb_start) fun h' H' hs' => ?_
      dsimp only
      k_clsL
      refine wpAny_If ?_
      refine wpAny_isTrue_value ?_ (by rfl)
      k_clsL
      rename_i h₅ t₅ H₅
      have hT : ∀ {h' D'}, G w hh [I, tl, L, dp] h' D' → IsTup h' r #[.ref px, .ref tx] := fun H' => (H.over H').oldT ht.now r7 (hrd ht.now)
      refine isi_tup H₅.st (hT H₅) (b := false) (by kernel_rfl) fun t₆ => ?_
      k_clsL
      refine wpAny_If ?_
      refine wpAny_isTrue_value ?_ (by rfl)
      k_clsL
      refine isi_tup H₅.st (hT H₅) (b := false) (by kernel_rfl) fun t₇ => ?_
      k_clsL
      refine wpAny_If ?_
      refine wpAny_isTrue_value ?_ (by rfl)
      k_clsL
      refine isi_tup H₅.st (hT H₅) (b := false) (by kernel_rfl) fun t₈ => ?_
      k_clsL
      refine wpAny_Assert_holds ?_
      k_clsL
      refine call_type_fn (T := "tuple") (let ⟨o, e, c, _⟩ := hT H₅; ⟨o, e, c⟩) (by decide) ?_
      k_clsL
      refine wpAny_is_self (by rfl) ?_
      k_clsL
      refine ⟨rfl, ?_⟩
      k_clsL
      have HH := H.over H₅
      have IL : ∀ {h' D'}, G w h [dp] h' D' → InH h' lx 651 dlx kx lxl := fun H' => Ix.kp H'.kp (by simpa using hlx.1) (by simpa using hlx.2)
      refine MethodCall_ ?_ (by rfl)
      k_clsL
      refine h_meth (f := 648) H₅.st.k (IL HH) hln.2.1 (by kernel_rfl) ?_
      k_clsL
      refine t_item (v := .ref px) (hT H₅) (by omega) (by omega) rfl ?_ ?hs
      case hs => with_unfolding_all rfl
      k_clsL
      have hk : Keeps good h h₅ := HH.kp.keeps fun b hb => ⟨(hgood b hb).1, by simpa using (hgood b hb).2.1⟩
      refine wpAny_call (p_regex (k := k + 1) hA₁ H₅.st (hS.keep hk).now.1 fun bm h₈ t₉ N₈ => ?_)
      dsimp only
      have H₈ := H₅.take N₈
      dsimp only [List.cons_append, List.nil_append] at H₈
      k_clsL
      rename_i h₉ t₉' H₉
      have HI := H.over H₉
      have hk9 : Keeps good h h₉ := HI.kp.keeps fun b hb => ⟨(hgood b hb).1, by simpa using (hgood b hb).2.1⟩
      refine MethodCall_ ?_ (by rfl)
      k_clsL
      refine h_meth (f := 501) H₉.st.k (IL HI) hln.2.2 (by kernel_rfl) ?_
      k_clsL
      refine t_item (v := .ref tx) (hT H₉) (by omega) (by omega) rfl ?_ ?hs
      case hs => with_unfolding_all rfl
      k_clsL
      refine wpAny_call (p_token (k := k + 1) hA₁ H₉.st (by obtain ⟨tx', e, hf⟩ := hP.fits (hP.keep htok hk9); cases e; exact hf) fun ha ta Sa Ka => ?_)
      dsimp only
      have Ha := H₉.call Sa Ka
      k_clsL
      refine wpAny_If ?_
      k_clsL
      rename_i hb tb Hb
      refine t_len (hT Hb) (by simp) fun _ _ => ?_
      k_clsL
      refine split_bool (fun h5 => ?_) (fun h5 => by simp at h5)
      k_clsL
      refine x_append Ev ?_ rfl (by rfl) rfl rfl
      k_clsL
      rename_i hc tc Hc
      refine ⟨tl, vs, _, _, rfl, rfl, Hc.get (by tb_rel), ?_⟩
      k_clsL
      refine ⟨rfl, new_tupF Hc fun rt hd Hd Kd nr nr' => ?_⟩
      k_clsL
      refine l_appendP Hd (by tb_rel) (by omega) (by tb_start) fun he He => ?_
      refine ⟨rfl, ?_⟩
      k_clsL
      have HF := H.over He
      have hne : ∀ b, good b ∨ b ∈ fp → 714 ≤ b ∧ b ∉ [I, tl, L, dp] := fun b hb => by
        rcases hb with hb | hb
        · obtain ⟨h7, hd, o, e⟩ := hgood b hb
          exact ⟨h7, H.apart e (by simpa using hd)⟩
        · exact ⟨(F b hb).1, Fn b hb⟩
      have k1 : Keeps (fun b => good b ∨ b ∈ fp) hh he := He.kp.keeps hne
      have k2 : Keeps good h he := HF.kp.keeps fun b hb => ⟨(hgood b hb).1, by simpa using (hgood b hb).2.1⟩
      have m1 : IsTup he rt #[.ref bm, .ref tx, .none] := He.tup (by tb_rel)
      have m2 : ∃ o, he.get? bm = some o ∧ isM 627 px o := He.get (by tb_rel)
      have nrt := H.new nr
      have nb := HH.new ((N₈.dyn _ (.head _)).2.resolve_left List.not_mem_nil)
      refine ⟨its.length + 1 - (i + 1), by omega, i + 1, _, fp ++ [rt, bm], _, _, _, _, he, _, rfl, rfl, hlt, HF.sub (.cons _ (.cons _ (List.Sublist.refl _))), ?_, ?_, ?_⟩
      · refine AllK.snoc (hvs.mono fun v x y => (y.keep hP k1).weak hP fun b hb => hb.imp id fun h => List.mem_append_left _ h) (by omega) ⟨rt, bm, px, .ref tx, rfl, ?_, (hpl.keep k2).weak fun b hb => .inl hb, hP.weak (hP.keep htok k2) fun b hb => .inl hb⟩
        refine (tup_sure m1 (.inr (by simp))).and fun h'' hk'' => ?_
        obtain ⟨o, e, p⟩ := m2
        rw [← show o = _ from p]
        exact hk'' _ _ (.inr (by simp)) e
      · refine (F.fwd He.kp).app fun b hb => ?_
        simp only [List.mem_cons, List.not_mem_nil, or_false] at hb
        rcases hb with rfl | rfl
        · exact ⟨HF.at (by tb_rel), let ⟨o, e, _⟩ := m1; ⟨o, e⟩, nrt.1⟩
        · exact ⟨HF.at (a := b) (by tb_rel), let ⟨o, e, _⟩ := m2; ⟨o, e⟩, nb.1⟩
      · intro b hb
        rcases List.mem_append.mp hb with hb | hb
        · exact Fn b hb
        · simp only [List.mem_cons, List.not_mem_nil, or_false] at hb
          rcases hb with rfl | rfl
          · exact H.notKey nr
          · exact HH.notKey ((N₈.dyn _ (.head _)).2.resolve_left List.not_mem_nil)
    · refine nx_list_end hA₁.hd H (by tb_rel) (hll H) (List.getElem?_eq_none (by omega)) .head nI fun h' H' hx => ?_
      dsimp only
      k_clsL
      have hi' : i = xs.length := by omega
      subst hi'
      rw [List.take_length] at hvs
      have k1 : Keeps (fun b => good b ∨ b ∈ fp) hh h' := fun b o hb e => hx b o (fun q => by
        subst q
        rcases hb with hb | hb
        · obtain ⟨h7, hd, o', e'⟩ := hgood b hb
          rw [nI] at e'; cases e'
        · exact Fn b hb (.head _)) e
      refine q tl vs fp h' _ (g_mv1 (H'.sub (.cons_cons _ (.cons _ (List.Sublist.refl _)))) fun x => x) (hvs.mono fun v x y => y.keep hP k1) (fun b hb => ?_) fun b hb q' => ?_
      · exact ⟨(F b hb).1, let ⟨o, e⟩ := (F b hb).2.1; ⟨o, k1 b o (.inr hb) e⟩, (F b hb).2.2⟩
      · simp only [List.mem_cons, List.not_mem_nil, or_false] at q'
        rcases q' with rfl | rfl
        · exact Fn b hb (by simp)
        · exact Fn b hb (by simp)
  · exact ⟨0, [], [], _, _, _, _, h₇, _, rfl, by omega, by omega, H₇, .nil, .nil, fun _ hb => (nomatch hb)⟩
end

section -- L7
open PySem PySem.W PySem.Calls PyProof.Rows
set_option maxHeartbeats 0
set_option linter.unusedVariables false
set_option maxRecDepth 100000
theorem x_expr {w : World} {A : Around} {E : Value → Shared → Prop} {s : Shared} {env : Env} {L : Addr} {ns cl} {e : Expr} {pos : Pos} {Q : Flow → Shared → Prop} (Ev : EnvOk env L ns cl)
    (h : wpAny (MM w) A (eval e env) (fun _ s' => Q .next s') E s) (hs : swapsWith e none pos.line env = pure false) : wpAny (MM w) A (exec (.Expr e pos) env) Q E s := by
  rw [exec_Expr env e pos (inter Ev) hs]
  exact wpAny_bind (wpAny_standAt (wpAny_bind (wpAny_mono h (fun v s' h' => wpAny_dropValue h') fun _ _ x => x)))
theorem dd_nc2 {w : World} {h : Heap} {W : List Addr} {h₀ : Heap} {D : Dl} {a : Addr} {kvs : KV} (H : G w h₀ W h D) (hm : (a, isDD w kvs) ∈ D) {r its} (ht : IsTup h r its) : r ≠ a := fun q => by
  subst q
  obtain ⟨o, e, c, n, hd⟩ := ht
  obtain ⟨o', e', es, ep, _, hd', _⟩ := H.get hm
  rw [e] at e'; cases e'
  rw [hd] at hd'; cases hd'
theorem p_defs {α β : Type} {P : α → (Addr → Prop) → Heap → Value → Prop} (hP : PKeep P) {P2 : β → (Addr → Prop) → Heap → Value → Prop} (hP2 : PKeep P2) {pss : α → List (Option Str)} {pss2 : β → List (Option Str)} {w : World} {A : Around} {k : Nat} {R : Result → Shared → Prop} {h : Heap} {g : Array GenState} {d : Drawn} {t : Nat} {os : OsState} {good : Addr → Prop}
    {lx dlx ud at' n1 n2 : Addr} {kx : Nat} {lxl : KV} {nm : Str} {tk : Tok} {its1 its2 : List Value} {xs1 : List α} {xs2 : List β}
    (hA : AOk A (k + 6)) (H : G w h [at'] h [(at', isDD w [])]) (Ix : InH h lx 651 dlx kx lxl) (hlx : lx ≠ at' ∧ dlx ≠ at') (hln : lxl.lookup (Str.ofString "flags") = none ∧ lxl.lookup (Str.ofString "_process_regex") = none ∧ lxl.lookup (Str.ofString "_process_token") = none)
    (hls : lxl.lookup (Str.ofString "_process_state") = none) (hat : lxl.lookup (Str.ofString "_all_tokens") = some (.ref at'))
    (hud : DAt w h ud [("root", .ref n1), ("s", .ref n2)]) (ud7 : 714 ≤ ud) (udp : ud ≠ at') (hl1 : h.IsList n1 its1.toArray) (n17 : 714 ≤ n1) (n1p : n1 ≠ at') (hl2 : h.IsList n2 its2.toArray) (n27 : 714 ≤ n2) (n2p : n2 ≠ at')
    (hz1 : its1.length ≤ 1000) (hz2 : its2.length ≤ 1000) (hgood : ∀ b, good b → 714 ≤ b ∧ b ≠ at' ∧ ∃ o, h.get? b = some o) (hits1 : AllK (fun v x => ItemK (P x) good h v (pss x)) its1 xs1) (hits2 : AllK (fun v x => ItemK (P2 x) good h v (pss2 x)) its2 xs2)
    (q : ∀ dp t1 t2 vs1 vs2 fp h' t', G w h [at'] h' [(t2, isPL vs2), (t1, isPL vs1), (dp, isDD w [("root", .ref t1), ("s", .ref t2)]), (at', isDD w [(nm, .ref dp)])] → AllK (fun v x => ProcK (P x) (fun b => good b ∨ b ∈ fp) h' v (pss x)) vs1 xs1 → AllK (fun v x => ProcK (P2 x) (fun b => good b ∨ b ∈ fp) h' v (pss2 x)) vs2 xs2 →
      NewOk h h' fp → (∀ b ∈ fp, b ∉ [t2, t1, dp, at']) → R (.ok (.ret (.ref dp))) ⟨h', g, d, t', os⟩) :
    codeAny (MM w) A (.call (.ref 523) ⟨[.ref lx, .str nm tk, .ref ud], []⟩) R ⟨h, g, d, t, os⟩ := by
  have S := H.st
  refine enter (k := k + 5) [("cls", some (.ref lx)), ("name", some (.str nm tk)), ("tokendefs", some (.ref ud)), ("processed", none), ("state", none)] hA H (S.k 523 _ rfl) rfl (codeRec_of S.k (by kernel_rfl)) rfl (binds_peek (binds := [("cls", .ref lx), ("name", .str nm tk), ("tokendefs", .ref ud)]) S.k (fun _ => by kernel_rfl)) (by kernel_rfl) ⟨by kernel_rfl, by kernel_rfl, by kernel_rfl, trivial⟩ ?_
  intro env L h₁ t₁ Ev hA₁ H₁ K₁
  dsimp only at Ev
  have IL : ∀ {h' D'}, G w h [at'] h' D' → InH h' lx 651 dlx kx lxl := fun H' => Ix.kp H'.kp (by simpa using hlx.1) (by simpa using hlx.2)
  have UD : ∀ {h' D'}, G w h [at'] h' D' → DAt w h' ud [("root", .ref n1), ("s", .ref n2)] := fun H' => hud.kp H'.kp (by simpa using udp) ud7
  k_clsL
  refine wpAny_Assign_two ?_
  refine dd_new H₁ fun dp h₂ H₂ K₂ n2' => ?_
  k_clsL
  rename_i h₃ t₃ H₃
  refine kas_sub ?_
  refine Attribute_Name_ ?_
  k_clsL
  refine h_get (v := .ref at') H₃.st.k (IL H₃) hat (by kernel_rfl) rfl fun t₄ => ?_
  k_clsL
  refine dd_set (kvs := []) H₃ (by tb_rel) (by simp) (by tb_start) fun h₅ t₅ H₅ => ?_
  k_clsL
  refine BoolOp_or ?_
  k_clsL
  refine dd_truthy (UD H₅) ud7 (by simp) fun t₆ => ?_
  dsimp only [List.isEmpty, Bool.not_false]
  k_clsL
  refine ift ?_
  k_clsL
  refine wpAny_For ?_
  k_clsL
  rename_i h₇ t₇ H₇
  refine ls_dict hA₁.hd H₇ (UD H₇) ud7 (by simp) fun r ks h₈ t₈ H₈ K₈ hks => ?_
  refine it_list H₈ (H₈.pl (by tb_rel)) fun I h₉ H₉ K₉ nI nI' => ?_
  have ndp : h.get? dp = none := (H₁.new n2').1
  have NE : ∀ {b o}, h.get? b = some o → b ≠ dp := fun {b o} e q => by rw [q, ndp] at e; cases e
  have nelx : lx ≠ dp ∧ dlx ≠ dp := ⟨NE Ix.1, let ⟨_, _, _, od, e, _⟩ := Ix; NE e⟩
  have neud : ud ≠ dp := let ⟨o, _, _, e, _⟩ := hud; NE e
  have nen1 : n1 ≠ dp := let ⟨o, e, _⟩ := hl1; NE e
  have nen2 : n2 ≠ dp := let ⟨o, e, _⟩ := hl2; NE e
  have kg : ∀ {h' D'}, G w h [at'] h' D' → Keeps good h h' := fun H' => H'.kp.keeps fun b hb => ⟨(hgood b hb).1, by simpa using (hgood b hb).2.1⟩
  have hg' : ∀ {h' D'}, G w h [at'] h' D' → ∀ b, good b → 714 ≤ b ∧ b ≠ dp ∧ ∃ o, h'.get? b = some o := fun H' b hb => let ⟨h7, _, o, e⟩ := hgood b hb; ⟨h7, NE e, o, kg H' b o hb e⟩
  obtain ⟨fL, hfL⟩ : ∃ fL : Option Value → Pr, fL = fun sv => fr [("cls", some (.ref lx)), ("name", some (.str nm tk)), ("tokendefs", some (.ref ud)), ("processed", some (.ref dp)), ("state", sv)] := ⟨_, rfl⟩
  refine codeAny_forLoop (fun m s => ∃ (i : Nat) (sv : Option Value) (hh : Heap) (tt : Nat), s = ⟨hh, g, d, tt, os⟩ ∧ m = 3 - i ∧
    ((i = 0 ∧ G w h [at'] hh [(I, isLI r 0), (r, isPL ks), (dp, isDD w []), (L, fL sv), (at', isDD w [(nm, .ref dp)])]) ∨
     (i = 1 ∧ ∃ t1 vs1 fp, G w h [at'] hh [(t1, isPL vs1), (I, isLI r 1), (r, isPL ks), (dp, isDD w ([("root", .ref t1)] : KV)), (L, fL sv), (at', isDD w [(nm, .ref dp)])] ∧
        AllK (fun v x => ProcK (P x) (fun b => good b ∨ b ∈ fp) hh v (pss x)) vs1 xs1 ∧ NewOk h hh fp ∧ (∀ b ∈ fp, b ∉ [t1, I, r, dp, L, at'])) ∨
     (i = 2 ∧ ∃ t1 vs1 t2 vs2 fp, G w h [at'] hh [(t2, isPL vs2), (t1, isPL vs1), (I, isLI r 2), (r, isPL ks), (dp, isDD w ([("root", .ref t1), ("s", .ref t2)] : KV)), (L, fL sv), (at', isDD w [(nm, .ref dp)])] ∧
        AllK (fun v x => ProcK (P x) (fun b => good b ∨ b ∈ fp) hh v (pss x)) vs1 xs1 ∧ AllK (fun v x => ProcK (P2 x) (fun b => good b ∨ b ∈ fp) hh v (pss2 x)) vs2 xs2 ∧ NewOk h hh fp ∧ (∀ b ∈ fp, b ∉ [t2, t1, I, r, dp, L, at'])))) ?_ 3 ?_
  · intro m s hpat
    obtain ⟨i, sv, hh, tt, es, em, hc⟩ := hpat
    subst es
    subst hfL
    rcases hc with ⟨rfl, H⟩ | ⟨rfl, t1, vs1, fp, H, hv1, F, Fn⟩ | ⟨rfl, t1, vs1, t2, vs2, fp, H, hv1, hv2, F, Fn⟩
    · obtain ⟨tv, hv⟩ := Mine.StrsAre.at hks (i := 0) (y := Str.ofString "root") rfl
      refine nx_list H (by tb_rel) (H.pl (by tb_rel)) hv (by tb_start) fun h' H' hs' => ?_
      dsimp only
      k_clsL
      refine x_expr Ev ?_ rfl
      refine MethodCall_ ?_ (by rfl)
      k_clsL
      rename_i ha ta Ha
      refine h_meth (f := 515) Ha.st.k (IL Ha) hls (by kernel_rfl) ?_
      k_clsL
      refine wpAny_call (p_state (k := k) hP hA₁ (Ha.one (a := dp) (by tb_rel)) (IL Ha) nelx hln (UD Ha) ud7 neud (.inl rfl) (by kernel_rfl) (Ha.old hl1 n17 (by simpa using n1p)) n17 nen1 rfl (by simp) hz1 (hg' Ha) (hits1.mono fun v x y => y.keep hP (kg Ha)) fun tl vs fp hb tb Nb av Fb Fnb => ?_)
      dsimp only
      have Hb := Ha.back1 (a := dp) (by tb_start) Nb
      dsimp only [List.cons_append, List.nil_append] at Hb
      k_clsL
      refine ⟨2, by omega, 1, _, hb, _, rfl, rfl, .inr (.inl ⟨rfl, tl, vs, fp, Hb, av, Fb.back Ha.kp, fun b hb' q' => ?_⟩)⟩
      have := Fb.ne Ha b hb'
      have := Fnb b hb'
      simp_all
    · obtain ⟨tv, hv⟩ := Mine.StrsAre.at hks (i := 1) (y := Str.ofString "s") rfl
      have HR := H.restart
      refine nx_list HR (by tb_rel) (HR.pl (by tb_rel)) hv (by tb_start) fun h' H' hs' => ?_
      dsimp only
      k_clsL
      refine x_expr Ev ?_ rfl
      refine MethodCall_ ?_ (by rfl)
      k_clsL
      rename_i ha ta Ha'
      have Ha := H.over Ha'
      have Ka : Keeps (fun b => good b ∨ b ∈ fp) hh ha := Ha'.kp.keeps fun b hb => by
        rcases hb with hb | hb
        · obtain ⟨h7, hd, o, e⟩ := hgood b hb
          exact ⟨h7, H.apart e (by simpa using hd)⟩
        · exact ⟨(F b hb).1, Fn b hb⟩
      refine h_meth (f := 515) Ha.st.k (IL Ha) hls (by kernel_rfl) ?_
      k_clsL
      refine wpAny_call (p_state (k := k) hP2 hA₁ (Ha.one (a := dp) (by tb_rel)) (IL Ha) nelx hln (UD Ha) ud7 neud (.inr rfl) (by kernel_rfl) (Ha.old hl2 n27 (by simpa using n2p)) n27 nen2 (by kernel_rfl) (by simp) hz2 (hg' Ha) (hits2.mono fun v x y => y.keep hP2 (kg Ha)) fun tl vs fp2 hb tb Nb av Fb Fnb => ?_)
      dsimp only
      have Hb := Ha.back1 (a := dp) (by tb_start) Nb
      dsimp only [List.cons_append, List.nil_append] at Hb
      rw [show stored ([("root", .ref t1)] : KV) (Str.ofString "s") (.ref tl) = ([("root", .ref t1), ("s", .ref tl)] : KV) by kernel_rfl] at Hb
      k_clsL
      have kb : Keeps (fun b => good b ∨ b ∈ fp) ha hb := Nb.kp.keeps fun b hb => by
        rcases hb with hb | hb
        · exact ⟨(hgood b hb).1, by simpa using (hg' Ha b hb).2.1⟩
        · exact ⟨(F b hb).1, by have := Fn b hb; simp_all⟩
      refine ⟨1, by omega, 2, _, hb, _, rfl, rfl, .inr (.inr ⟨rfl, t1, vs1, tl, vs, fp ++ fp2, Hb, ?_, ?_, ?_, fun b hb' q' => ?_⟩)⟩
      · exact hv1.mono fun v x y => ((y.keep hP Ka).keep hP kb).weak hP fun b hb => hb.imp id fun h => List.mem_append_left _ h
      · exact av.mono fun v x y => y.weak hP2 fun b hb => hb.imp id fun h => List.mem_append_right _ h
      · exact ((F.fwd Ha'.kp).fwd Nb.kp).app (Fb.back Ha.kp)
      · rcases List.mem_append.mp hb' with hb' | hb'
        · have := Fn b hb'
          have hn : b ≠ tl := fun q => by
            subst q
            obtain ⟨h7, ⟨o, e⟩, -⟩ := F b hb'
            have n := (Nb.dyn (b, isPL vs) (.tail _ (.head _))).2.resolve_left fun q => by simp_all
            rw [Ka b o (.inr hb') e] at n; cases n
          simp_all
        · have := Fb.ne Ha b hb'
          have := Fnb b hb'
          simp_all
    · refine nx_list_end hA₁.hd H (by tb_rel) (H.pl (by tb_rel)) (List.getElem?_eq_none (by rw [hks.length]; simp)) (.tail (.tail .head)) nI fun h' H' hx => ?_
      dsimp only
      k_clsL
      have k1 : Keeps (fun b => good b ∨ b ∈ fp) hh h' := fun b o hb e => hx b o (fun q => by
        subst q
        rcases hb with hb | hb
        · obtain ⟨h7, hd, o', e'⟩ := hgood b hb
          rw [nI] at e'; cases e'
        · exact Fn b hb (.tail _ (.tail _ (.head _)))) e
      refine q dp t1 t2 vs1 vs2 fp h' _ (H'.sub (.cons_cons _ (.cons_cons _ (.cons _ (.cons_cons _ (.cons _ (List.Sublist.refl _))))))) (hv1.mono fun v x y => y.keep hP k1) (hv2.mono fun v x y => y.keep hP2 k1) (fun b hb => ?_) fun b hb q' => ?_
      · exact ⟨(F b hb).1, let ⟨o, e⟩ := (F b hb).2.1; ⟨o, k1 b o (.inr hb) e⟩, (F b hb).2.2⟩
      · have := Fn b hb
        simp_all
  · refine ⟨0, none, _, _, rfl, rfl, .inl ⟨rfl, ?_⟩⟩
    subst hfL
    exact H₉
end

section -- L8
open PySem PySem.W PySem.Calls PyProof.Rows
set_option maxHeartbeats 0
set_option linter.unusedVariables false
set_option maxRecDepth 100000
section
variable {w : World} {A : Around} {E : Value → Shared → Prop} {h₀ h : Heap} {W : List Addr} {D D' : Dl} {a : Addr} {env : Env} {kvs : KV} {k : Str} {v : Value} {tk : Tok} {pos p : Pos}
  {g : Array GenState} {d : Drawn} {t : Nat} {os : OsState}
theorem sub_dict : isSubtype (.type "dict") (.type "dict") = pure true := by rfl
theorem dd_put {Q : Unit → Shared → Prop} (H : G w h₀ W h D) (hm : (a, isDD w []) ∈ D) (u : Upd a (isDD w [(k, v)]) D D') (q : ∀ h', G w h₀ W h' D' → Heap.SameBut a h h' → Q () ⟨h', g, d, t, os⟩) :
    wpAny (MM w) A (dictPut a ((sk w).hash k) (.str k tk) v) Q E ⟨h, g, d, t, os⟩ := by
  obtain ⟨o, eo, es, ep, hc, hd, hk, hp, hn⟩ := H.get hm
  obtain ⟨l⟩ := es
  cases hp
  unfold dictPut
  refine wpAny_bind (wpAny_dictFind_of (knd := sk w) dkey eo hd hk ?_)
  have ef : ((⟨[]⟩ : Array DictEntry).findIdx? fun e => (sk w).is k e.key) = none := by simp
  rw [ef]
  dsimp only
  refine wpAny_updateDictKeys (s := ⟨h, g, d, t, os⟩) (f := fun es => es.push ⟨(sk w).hash k, .str k tk, v⟩) (hz := Nat.zero_le _) eo hd ?_
  refine q _ (H.upd (P := isDD w [(k, v)]) u (Heap.SameBut.update ..) (Heap.get?_update_self _ eo (Obj.isFreed_of_dict (Obj.data_mapDictKeys hd _))) (nc_dict (Obj.data_mapDictKeys hd _)) ⟨_, _, hc.mapDictKeys _, Obj.data_mapDictKeys hd _, hk.push dkey _, ?_, ?_⟩) (Heap.SameBut.update ..)
  · exact .cons dkey rfl .nil
  · simp
theorem slot_dict_iter' : typeLookup (.type "dict") "__iter__" = pure (some (.builtin "dict.__iter__")) := PySem.F.slot_dict_iter.lookup
theorem dd_mergeMap {b : Addr} {Q : Unit → Shared → Prop} (H : G w h₀ W h D) (hm : (b, isDD w []) ∈ D) (x : DAt w h a kvs) (h7 : 714 ≤ a) (hab : a ≠ b) (hk : kvs = [] ∨ ∃ k v, kvs = [(k, v)]) (u : Upd b (isDD w kvs) D D')
    (q : ∀ h', G w h₀ W h' D' → Q () ⟨h', g, d, t, os⟩) : wpAny (MM w) A (mergeMapping b (.ref a) true) Q E ⟨h, g, d, t, os⟩ := by
  have hT := x.mapOf.typeIs (s := ⟨h, g, d, t, os⟩)
  obtain ⟨ob, eb, esb, epb, hcb, hdb, hkb, hpb, hnb⟩ := H.get hm
  obtain ⟨lb⟩ := esb
  cases hpb
  obtain ⟨o, es, ep, eo, hc, hd, hke, hp, hn⟩ := x
  unfold mergeMapping
  refine wpAny_bind (m := isInstance (.ref a) (.type "dict")) (wpAny_isInstance hT sub_dict ?_)
  dsimp only
  simp only [↓reduceIte]
  refine wpAny_bind (wpAny_specialOf hT slot_dict_iter' ?_)
  refine wpAny_bind (wpAny_pure ?_)
  have e0 : ((some (Value.builtin "dict.__iter__") == some (Value.builtin "dict.__iter__"))) = true := by decide
  rw [e0]
  dsimp only
  rw [sysNe h7]
  simp only [Bool.false_eq_true, ↓reduceIte]
  refine wpAny_bind (wpAny_dictEntries eb hdb ?_)
  have e1 : (Array.isEmpty (⟨[]⟩ : Array DictEntry)) = true := rfl
  rw [e1]
  simp only [↓reduceIte]
  refine wpAny_bind (wpAny_dictEntries eo hd ?_)
  rcases hk with rfl | ⟨k, v, rfl⟩
  · obtain ⟨l⟩ := es
    cases hp
    refine wpAny_bind (m := forIn (⟨[]⟩ : Array DictEntry) PUnit.unit _) (wp_eq (m' := pure PUnit.unit) rfl (wpAny_pure ?_))
    refine wpAny_bind (wpAny_dictEntries eo hd ?_)
    refine wpAny_bind (wpAny_dictEpoch eo hd ?_)
    refine wpAny_bind (m := forIn (List.range 0) PUnit.unit _) (wp_eq (m' := pure PUnit.unit) rfl (wpAny_pure (wpAny_pure ?_)))
    exact q h (H.upd (P := isDD w []) u ⟨rfl, fun _ _ => rfl⟩ eb (nc_dict hdb) ⟨_, _, hcb, hdb, hkb, .nil, hnb⟩)
  · obtain ⟨l⟩ := es
    cases hp with
    | cons h1 h2 h3 =>
    rename_i e es
    cases h3
    obtain ⟨hs, key, val⟩ := e
    dsimp only at h1 h2
    subst h2
    obtain ⟨tk, rfl⟩ := Value.isStrOf_shape h1
    obtain ⟨k', hk', eh⟩ := hke ⟨hs, .str k tk, val⟩ (by simp)
    have ek : k' = k := (sk w).inj _ _ _ hk' h1
    subst ek
    dsimp only at eh
    subst eh
    refine wpAny_bind (m := forIn (⟨[_]⟩ : Array DictEntry) PUnit.unit _) (wp_eq (m' := pure PUnit.unit) rfl (wpAny_pure ?_))
    refine wpAny_bind (wpAny_dictEntries eo hd ?_)
    refine wpAny_bind (wpAny_dictEpoch eo hd ?_)
    have er : List.range (⟨[⟨(sk w).hash k', .str k' tk, val⟩]⟩ : Array DictEntry).size = [0] := rfl
    rw [er, List.forIn_cons]
    refine wpAny_bind (wpAny_bind (wpAny_bind (wpAny_dictEntries eo hd ?_)))
    have eg : (⟨[⟨(sk w).hash k', .str k' tk, val⟩]⟩ : Array DictEntry)[0]? = some ⟨(sk w).hash k', .str k' tk, val⟩ := rfl
    rw [eg]
    dsimp only
    refine wpAny_bind (wpAny_holding (wpAny_bind (wpAny_dictFind_of (knd := sk w) dkey eb hdb hkb ?_)))
    have ef : ((⟨[]⟩ : Array DictEntry).findIdx? fun e => (sk w).is k' e.key) = none := by simp
    rw [ef]
    simp only [Option.isSome_none, Bool.false_eq_true, ↓reduceIte]
    refine dd_put H hm u fun h' H' hs' => ?_
    refine wpAny_bind (wpAny_dictEpoch (hs'.2 _ hab ▸ eo) hd ?_)
    simp only [bne_self_eq_false, Bool.false_eq_true, ↓reduceIte]
    refine wpAny_pure ?_
    dsimp only
    rw [List.forIn_nil]
    exact wpAny_pure (wpAny_pure (q h' H'))
theorem dd_merge {f : Value} {x : Sem Value} {Q : Addr → Shared → Prop} (H : G w h₀ W h D)
    (hx : ∀ b h', G w h₀ W h' ((b, isDD w []) :: D) → Kp [] h h' → wpAny (MM w) A x (fun v s₁ => ∃ a h₁ t₁ kvs, v = .ref a ∧ s₁ = ⟨h₁, g, d, t₁, os⟩ ∧ G w h₀ W h₁ ((b, isDD w []) :: D) ∧ DAt w h₁ a kvs ∧ 714 ≤ a ∧ a ≠ b ∧ (kvs = [] ∨ ∃ k v, kvs = [(k, v)]) ∧ (∀ h₂, G w h₀ W h₂ ((b, isDD w kvs) :: D) → Q b ⟨h₂, g, d, t₁, os⟩)) E ⟨h', g, d, t, os⟩) :
    wpAny (MM w) A (mergedKeywords f [(none, x)]) Q E ⟨h, g, d, t, os⟩ := by
  unfold mergedKeywords
  refine wpAny_bind (wpAny_alloc ?_)
  have P : isDD w [] { cls := .type "dict", data := .dict #[] } := by
    obtain ⟨o, e, p⟩ := Heap.dictOf_iff.mp (Heap.DictOf.new (knd := sk w) h)
    rw [Heap.get?_push_size _ rfl] at e; cases e; exact p
  have hx' := hx _ _ (H.push (P := isDD w []) _ rfl (nc_dd P) P) ((Kp.refl [] h).ext fun b o e => Heap.get?_push_of_some _ e)
  refine wpAny_bind (wpAny_holding ?_)
  refine wpAny_bind (m := forIn [(none, x)] [] _) (wp_eq (List.forIn_cons _ _ _ _) ?_)
  refine wpAny_bind (wpAny_bind (m := pure ()) (wpAny_pure ?_))
  refine wpAny_bind (m := x) (wpAny_mono hx' (fun v s₁ y => ?_) fun _ _ x => x)
  obtain ⟨a, h₁, t₁, kvs, rfl, rfl, H₁, hd, h7, hab, hk, q⟩ := y
  refine wpAny_bind (wpAny_onRaise (wpAny_holding (wpAny_tryCatch (wpAny_onRaise (dd_mergeMap H₁ (.head _) hd h7 hab hk .head fun h₂ H₂ => ?_)))))
  refine wpAny_pure (wp_eq (m' := pure []) rfl (wpAny_pure ?_))
  refine wpAny_pure (wpAny_pure (q h₂ H₂))
theorem dd_kwIn {f : Value} {Q : List (Str × Value) → Shared → Prop} (x : DAt w h a kvs) (hk : kvs = [] ∨ ∃ k v, kvs = [(k, v)]) (q : Q kvs ⟨h, g, d, t, os⟩) : wpAny (MM w) A (keywordsIn f a) Q E ⟨h, g, d, t, os⟩ := by
  obtain ⟨o, es, ep, eo, hc, hd, hke, hp, hn⟩ := x
  unfold keywordsIn
  refine wpAny_bind (wpAny_dictEntries eo hd ?_)
  rcases hk with rfl | ⟨k, v, rfl⟩
  · obtain ⟨l⟩ := es
    cases hp
    exact wpAny_bind (m := forIn (⟨[]⟩ : Array DictEntry) _ _) (wp_eq (m' := pure []) rfl (wpAny_pure (wpAny_pure q)))
  · obtain ⟨l⟩ := es
    cases hp with
    | cons h1 h2 h3 =>
    rename_i e es
    cases h3
    obtain ⟨hs, key, val⟩ := e
    dsimp only at h1 h2
    subst h2
    obtain ⟨tk, rfl⟩ := Value.isStrOf_shape h1
    exact wpAny_bind (m := forIn (⟨[_]⟩ : Array DictEntry) _ _) (wp_eq (m' := pure [(k, val)]) rfl (wpAny_pure (wpAny_pure q)))
theorem callWith_st {s : Shared} {f : Value} {first : List Value} {Q : Value → Shared → Prop} {args : List (Bool × Sem Value)} {kws : List (Option Str × Sem Value)} {PP' : Heap → Prop} (hst : (args.any (·.1) || kws.any (·.1.isNone)) = true) (hk : ∀ h, PP' h → ∃ k, (k = Keeper.frame ∨ k = Keeper.machine ∨ k = Keeper.boundFrame) ∧ Looks (MM w) h (keeperOf f) k)
    (hh : wpAny (MM w) A (evalArgs f true args kws) (fun a s₁ => PP' s₁.heap ∧ wpAny (MM w) A (call f (first ++ a.pos) a.kw) Q E s₁) E s) : wpAny (MM w) A (callWith pos f first args kws) Q E s := by
  unfold callWith
  refine wpAny_bind (wpAny_holding (wpAny_mono hh (fun a s₁ h₁ => wpAny_bind (wpAny_standAt ?_)) fun _ _ x => x))
  obtain ⟨k, hk', L⟩ := hk _ h₁.1
  simp only [hst]
  refine wpAny_bind (L.here ?_)
  have tail : ∀ {t : Sem Value}, wpAny (MM w) A t Q E s₁ → wpAny (MM w) A (t >>= fun r => holding [r] point >>= fun _ => pure r) Q E s₁ :=
    fun ht => wpAny_bind (wpAny_mono ht (fun r s₂ hr => wpAny_bind (wpAny_holding (wpAny_point (wpAny_pure hr)))) fun _ _ x => x)
  have marked (mk : Value) : wpAny (MM w) A (callMarked mk f (first ++ a.pos) a.kw) Q E s₁ := by unfold callMarked; exact Calls.wpAny_keep h₁.2
  rcases hk' with rfl | rfl | rfl <;> dsimp only <;> first | exact tail (marked _) | exact tail (wpAny_operating h₁.2)
/-- a call with **d -/
theorem callWith_DD {f : Value} {first : List Value} {e x : Expr} {rest : List Expr} {Q : Value → Shared → Prop} {PP' : Heap → Prop} (hk : ∀ h, PP' h → ∃ k, (k = Keeper.frame ∨ k = Keeper.machine ∨ k = Keeper.boundFrame) ∧ Looks (MM w) h (keeperOf f) k)
    (hh : wpAny (MM w) A (spliced (backTo pos (starEach (e :: rest) env))) (fun vs s₁ => ∃ h₁ t₁ D₁, s₁ = ⟨h₁, g, d, t₁, os⟩ ∧ G w h₀ W h₁ D₁ ∧
      ∀ b h', G w h₀ W h' ((b, isDD w []) :: D₁) → Kp [] h₁ h' → wpAny (MM w) A (eval x env) (fun v s₁ => ∃ a h₂ t₂ kvs, v = .ref a ∧ s₁ = ⟨h₂, g, d, t₂, os⟩ ∧ G w h₀ W h₂ ((b, isDD w []) :: D₁) ∧ DAt w h₂ a kvs ∧ 714 ≤ a ∧ a ≠ b ∧ (kvs = [] ∨ ∃ k v, kvs = [(k, v)]) ∧
        (∀ h₃, G w h₀ W h₃ ((b, isDD w kvs) :: D₁) → PP' h₃ ∧ wpAny (MM w) A (call f (first ++ vs) kvs) Q E ⟨h₃, g, d, t₂, os⟩)) E ⟨h', g, d, t₁, os⟩) E ⟨h, g, d, t, os⟩)
    (he : starEach (e :: rest) env = (false, eval e env) :: starEach rest env) :
    wpAny (MM w) A (callWith pos f first (backTo pos (starEach (e :: rest) env)) (backToKw pos (keywordEach [⟨none, x, p⟩] env))) Q E ⟨h, g, d, t, os⟩ := by
  rw [he] at hh ⊢
  refine callWith_st (by rw [Bool.or_eq_true]; right; rfl) hk ?_
  unfold evalArgs
  show wpAny (MM w) A (spliced ((false, eval e env) :: _) >>= _) _ E _
  refine wpAny_bind (wpAny_mono hh (fun vs s' y => ?_) fun _ _ x => x)
  obtain ⟨h₁, t₁, D₁, rfl, H₁, y⟩ := y
  refine wpAny_holding ?_
  refine wpAny_bind (m := mergedKeywords f [(none, eval x env >>= fun v => standAt pos >>= fun _ => pure v)]) (dd_merge H₁ fun b h' H' K' => wpAny_bind (wpAny_mono (y b h' H' K') (fun v s₁ z => wpAny_bind (wpAny_standAt (wpAny_pure ?_))) fun _ _ x => x))
  obtain ⟨a, h₂, t₂, kvs, rfl, rfl, H₂, hd, h7, hab, hk, q⟩ := z
  refine ⟨a, h₂, t₂, kvs, rfl, rfl, H₂, hd, h7, hab, hk, fun h₃ H₃ => ?_⟩
  refine wpAny_bind (wpAny_pure (wpAny_bind (wpAny_holding (dd_kwIn (H₃.dd (.head _)) hk (wpAny_pure (q h₃ H₃))))))
end
end

section -- L9
open PySem PySem.W PySem.Calls PyProof.Rows
set_option maxHeartbeats 0
set_option linter.unusedVariables false
set_option maxRecDepth 100000
theorem p_linit {w : World} {A : Around} {k : Nat} {R : Result → Shared → Prop} {h₀ h : Heap} {W : List Addr} {D : Dl} {g : Array GenState} {d : Drawn} {t : Nat} {os : OsState} {x dx : Addr}
    (hA : AOk A (k + 3)) (H : G w h₀ W h ((x, isIn 651 dx) :: (dx, nsx 0 []) :: D))
    (q : ∀ od fl h' t', G w h₀ W h' ((x, isIn 651 dx) :: (dx, nsx 5 [("filters", .ref fl), ("ensurenl", .bool true), ("stripall", .bool false), ("stripnl", .bool true), ("options", .ref od)]) :: D) → R (.ok (.ret .none)) ⟨h', g, d, t', os⟩) :
    codeAny (MM w) A (.call (.ref 227) ⟨[.ref x], []⟩) R ⟨h, g, d, t, os⟩ := by
  have S := H.st
  refine enterB (k := k + 2) ["self", "options"] [] hA H (S.k 227 _ rfl) rfl (codeRec_of S.k (by kernel_rfl)) rfl (by kernel_rfl) rfl (fun n => rfl) ?_
  refine wp_eq (m' := alloc { cls := .type "dict", data := .dict #[] } >>= fun D => pure [("self", Value.ref x), ("options", .ref D)]) (by kernel_rfl) (wpAny_bind (wpAny_alloc (wpAny_pure ?_)))
  have P : isDD w [] { cls := .type "dict", data := .dict #[] } := by
    obtain ⟨o, e, p⟩ := Heap.dictOf_iff.mp (Heap.DictOf.new (knd := sk w) h)
    rw [Heap.get?_push_size _ rfl] at e; cases e; exact p
  have H1 := H.push (P := isDD w []) { cls := .type "dict", data := .dict #[] } rfl (nc_dict rfl) P
  refine ⟨_, _, _, [("self", some (.ref x)), ("options", some (.ref h.objs.size)), ("filter_", none)], fun _ => none, rfl, H1, rfl, by kernel_rfl, ⟨by kernel_rfl, by kernel_rfl, trivial⟩, fun _ hp => (nomatch hp), ?_⟩
  intro env L c h₂ t₂ Ev hA₂ H₂ K₂ nc nL
  dsimp only [List.map_nil, List.cons_append, List.nil_append] at Ev H₂
  k_clsL
  refine a_set (C := 651) (dx := dx) (k := 0) (l := []) H₂ (by k_memK) (by k_memK) (by decide) (by kernel_rfl) (.tail (.tail (.tail .head))) fun h₃ t₃ H₃ => ?_
  k_clsL
  refine Call_method2 (by with_unfolding_all rfl) rfl rfl ?_
  k_clsL
  refine dd_get2 (H₃.at (P := isDD w []) (by tb_rel)) ?_ (H₃.dd (kvs := []) (by tb_rel))
  k_clsL
  refine ⟨_, _, _, _, [], rfl, rfl, H₃.dd (by tb_rel), fun t' => ?_⟩
  dsimp only [valueAt, List.find?_nil, Option.map_none, Option.getD_none]
  k_clsL
  refine a_set (C := 651) (dx := dx) (k := 1) (l := [("options", .ref h.objs.size)]) H₃ (by tb_rel) (by tb_rel) (by decide) (by kernel_rfl) (.tail (.tail (.tail .head))) fun h₄ t₄ H₄ => ?_
  k_clsL
  refine Call_method2 (by with_unfolding_all rfl) rfl rfl ?_
  k_clsL
  refine dd_get2 (H₄.at (P := isDD w []) (by tb_rel)) ?_ (H₄.dd (kvs := []) (by tb_rel))
  k_clsL
  refine ⟨_, _, _, _, [], rfl, rfl, H₄.dd (by tb_rel), fun t' => ?_⟩
  dsimp only [valueAt, List.find?_nil, Option.map_none, Option.getD_none]
  k_clsL
  refine a_set (C := 651) (dx := dx) (k := 2) (l := [("stripnl", .bool true), ("options", .ref h.objs.size)]) H₄ (by tb_rel) (by tb_rel) (by decide) (by kernel_rfl) (.tail (.tail (.tail .head))) fun h₅ t₅ H₅ => ?_
  k_clsL
  refine Call_method2 (by with_unfolding_all rfl) rfl rfl ?_
  k_clsL
  refine dd_get2 (H₅.at (P := isDD w []) (by tb_rel)) ?_ (H₅.dd (kvs := []) (by tb_rel))
  k_clsL
  refine ⟨_, _, _, _, [], rfl, rfl, H₅.dd (by tb_rel), fun t' => ?_⟩
  dsimp only [valueAt, List.find?_nil, Option.map_none, Option.getD_none]
  k_clsL
  refine a_set (C := 651) (dx := dx) (k := 3) (l := [("stripall", .bool false), ("stripnl", .bool true), ("options", .ref h.objs.size)]) H₅ (by tb_rel) (by tb_rel) (by decide) (by kernel_rfl) (.tail (.tail (.tail .head))) fun h₆ t₆ H₆ => ?_
  k_clsL
  refine ⟨rfl, new_pl H₆ fun fl h₇ H₇ K₇ nf nf' => ?_⟩
  k_clsL
  refine a_set (C := 651) (dx := dx) (k := 4) (l := [("ensurenl", .bool true), ("stripall", .bool false), ("stripnl", .bool true), ("options", .ref h.objs.size)]) H₇ (by tb_rel) (by tb_rel) (by decide) (by kernel_rfl) (.tail (.tail (.tail (.tail .head)))) fun h₈ t₈ H₈ => ?_
  k_clsL
  refine wpAny_For ?_
  refine Call_method2 (by with_unfolding_all rfl) rfl rfl ?_
  k_clsL
  refine dd_get2 (H₈.at (P := isDD w []) (by tb_rel)) ?_ (H₈.dd (kvs := []) (by tb_rel))
  k_clsL
  refine ⟨rfl, new_tupF H₈ fun r h₉ H₉ K₉ nr nr' => ?_⟩
  refine ⟨_, _, _, _, [], rfl, rfl, H₉.dd (by tb_rel), fun t' => ?_⟩
  dsimp only [valueAt, List.find?_nil, Option.map_none, Option.getD_none]
  refine it_tup (its := []) H₉ (H₉.tup (by tb_rel)) fun I ha Ha Ka nI nI' => ?_
  refine codeAny_forLoop (fun m s => m = 0 ∧ s = ⟨ha, g, d, t', os⟩) ?_ 0 ⟨rfl, rfl⟩
  intro m s hpat
  obtain ⟨em, es⟩ := hpat
  subst es
  refine nx_tup_end (its := []) hA₂.hd Ha (by tb_rel) (Ha.tup (by tb_rel)) rfl .head nI fun h' H' hx => ?_
  dsimp only
  k_clsL
  exact q _ _ _ _ (H'.sub (.cons _ (.cons _ (.cons _ (.cons _ (List.Sublist.refl _))))))
end

section -- L10
open PySem PySem.W PySem.Calls PyProof.Rows
set_option maxHeartbeats 0
set_option linter.unusedVariables false
set_option maxRecDepth 100000
theorem methodCall_DD {M : Model} {A : Around} {E : Value → Shared → Prop} {s : Shared} {env : Env} {o : Expr} {name : Str} {apos pos p : Pos} {args : List Expr} {x : Expr} {Q : Value → Shared → Prop}
    (h : wpAny M A (eval o env) (fun ov s₁ => wpAny M A (getAttr ov name true) (fun f s₂ => wpAny M A (callWith pos f [] (backTo pos (starEach args env)) (backToKw pos (keywordEach [⟨none, x, p⟩] env))) Q E s₂) E s₁) E s)
    (he : eval (.Call (.Attribute o name apos) args [⟨none, x, p⟩] pos) env = (do
      let ov ← eval o env
      standAt apos.atName
      let (f, first) ← holding [ov] (do pure (← getAttr ov name true, []))
      callWith pos f first (backTo pos (starEach args env)) (backToKw pos (keywordEach [⟨none, x, p⟩] env)))) :
    wpAny M A (eval (.Call (.Attribute o name apos) args [⟨none, x, p⟩] pos) env) Q E s := by
  rw [he]
  refine wpAny_bind (wpAny_mono h (fun ov s₁ h₁ => wpAny_bind (wpAny_standAt (wpAny_bind (wpAny_holding (wpAny_bind (wpAny_mono h₁ (fun fx s₂ h₂ => wpAny_pure ?_) fun _ _ x => x)))))) fun _ _ x => x)
  exact h₂
theorem p_gettd {w : World} {A : Around} {k : Nat} {R : Result → Shared → Prop} {h : Heap} {g : Array GenState} {d : Drawn} {t : Nat} {os : OsState} {x dx ta td l1 l2 : Addr} {kx : Nat} {l : KV} {its1 its2 : List Value} {ep : Nat}
    (hA : AOk A (k + 7)) (S : St w h) (I : InH h x 651 dx kx l) (hl : l.lookup (Str.ofString "tables") = some (.ref ta)) (hta : IsTup h ta #[.ref td]) (ta7 : 714 ≤ ta) (htd : DAtE w h td [("root", .ref l1), ("s", .ref l2)] ep) (td7 : 714 ≤ td) (h1 : h.IsList l1 its1.toArray) (l17 : 714 ≤ l1) (h2 : h.IsList l2 its2.toArray) (l27 : 714 ≤ l2)
    (hT1 : TupsAre h its1) (hT2 : TupsAre h its2) (hz1 : its1.length ≤ 1000) (hz2 : its2.length ≤ 1000)
    (q : ∀ tk n1 n2 h' t', G w h [] h' [(tk, isDD w [("root", .ref n1), ("s", .ref n2)]), (n2, isPL its2), (n1, isPL its1)] → R (.ok (.ret (.ref tk))) ⟨h', g, d, t', os⟩) :
    codeAny (MM w) A (.call (.ref 530) ⟨[.ref x], []⟩) R ⟨h, g, d, t, os⟩ := by
  have H0 : G w h [] h [] := G.start S
  refine enter (k := k + 6) [("cls", some (.ref x))] hA H0 (S.k 530 _ rfl) rfl (codeRec_of S.k (by kernel_rfl)) rfl (BindsTo.of_eq (binds := [("cls", .ref x)]) (by kernel_rfl)) (by kernel_rfl) ⟨by kernel_rfl, trivial⟩ ?_
  intro env L h₁ t₁ Ev hA₁ H₁ K₁
  dsimp only at Ev
  k_clsL
  refine Attribute_Name_ ?_
  k_clsL
  refine h_get (v := .ref ta) H₁.st.k (I.kp H₁.kp List.not_mem_nil List.not_mem_nil) hl (by kernel_rfl) rfl fun t' => ?_
  k_clsL
  refine wpAny_call (merged (k := k) hA₁ H₁.st (H₁.oldT hta ta7 List.not_mem_nil) ta7 (htd.kp H₁.kp List.not_mem_nil td7) td7 (H₁.old h1 l17 List.not_mem_nil) l17 (H₁.old h2 l27 List.not_mem_nil) l27 (hT1.kp H₁.kp) (hT2.kp H₁.kp) hz1 hz2 fun tk n1 n2 h₂ t₂ N => ?_)
  dsimp only
  have H₂ := H₁.take N
  dsimp only [List.cons_append, List.nil_append] at H₂
  k_clsL
  exact q tk n1 n2 _ _ (H₂.sub (.cons_cons _ (.cons_cons _ (.cons_cons _ (.cons _ (List.Sublist.refl _))))))
end

section -- L11
open PySem PySem.W PySem.Calls PyProof.Rows
set_option maxHeartbeats 0
set_option linter.unusedVariables false
set_option maxRecDepth 100000
/-- a lexer, made -/
def LexK {α β : Type} (w : World) (P : α → (Addr → Prop) → Heap → Value → Prop) (P2 : β → (Addr → Prop) → Heap → Value → Prop) (pss : α → List (Option Str)) (pss2 : β → List (Option Str)) (good : Addr → Prop) (h : Heap) (x : Addr) (xs1 : List α) (xs2 : List β) : Prop :=
  ∃ dx k l dp t1 t2 vs1 vs2, Sure good h (fun h => InH h x 651 dx k l ∧ DAt w h dp [("root", .ref t1), ("s", .ref t2)] ∧ h.IsList t1 (List.toArray vs1) ∧ h.IsList t2 (List.toArray vs2)) ∧
    l.lookup (Str.ofString "_tokens") = some (.ref dp) ∧ l.lookup (Str.ofString "get_tokens_unprocessed") = none ∧ 714 ≤ dp ∧ 714 ≤ t1 ∧ 714 ≤ t2 ∧
    AllK (fun v a => ProcK (P a) good h v (pss a)) vs1 xs1 ∧ AllK (fun v a => ProcK (P2 a) good h v (pss2 a)) vs2 xs2
theorem mk_lexer {α β : Type} {P : α → (Addr → Prop) → Heap → Value → Prop} (hP : PKeep P) {P2 : β → (Addr → Prop) → Heap → Value → Prop} (hP2 : PKeep P2) {pss : α → List (Option Str)} {pss2 : β → List (Option Str)} {w : World} {A : Around} {k : Nat} {R : Result → Shared → Prop} {h : Heap} {g : Array GenState} {d : Drawn} {t : Nat} {os : OsState} {good : Addr → Prop}
    {td l1 l2 : Addr} {ep : Nat} {its1 its2 : List Value} {xs1 : List α} {xs2 : List β}
    (hA : AOk A (k + 9)) (S : St w h) (htd : DAtE w h td [("root", .ref l1), ("s", .ref l2)] ep) (td7 : 714 ≤ td) (h1 : h.IsList l1 its1.toArray) (l17 : 714 ≤ l1) (h2 : h.IsList l2 its2.toArray) (l27 : 714 ≤ l2)
    (hz1 : its1.length ≤ 1000) (hz2 : its2.length ≤ 1000) (hgood : ∀ b, good b → 714 ≤ b ∧ ∃ o, h.get? b = some o) (hits1 : AllK (fun v x => ItemK (P x) good h v (pss x)) its1 xs1) (hits2 : AllK (fun v x => ItemK (P2 x) good h v (pss2 x)) its2 xs2)
    (q : ∀ x fp h' t', St w h' → Kp [] h h' → LexK w P P2 pss pss2 (fun b => good b ∨ b ∈ fp) h' x xs1 xs2 → NewOk h h' fp → R (.ok (.ret (.ref x))) ⟨h', g, d, t', os⟩) :
    codeAny (MM w) A (.call (.ref 651) ⟨[.ref td], []⟩) R ⟨h, g, d, t, os⟩ := by
  have H0 : G w h [] h [] := G.start S
  have hT1 : TupsAre h its1 := fun i v e => by
    obtain ⟨hl, hi⟩ := List.getElem?_eq_some_iff.mp e
    obtain ⟨u, e', r, pl, tok, rfl, r7, s, _⟩ := hits1.2 i (by rw [← hits1.1]; exact hl)
    rw [e] at e'; cases e'
    exact ⟨r, _, rfl, s.now, r7⟩
  have hT2 : TupsAre h its2 := fun i v e => by
    obtain ⟨hl, hi⟩ := List.getElem?_eq_some_iff.mp e
    obtain ⟨u, e', r, pl, tok, rfl, r7, s, _⟩ := hits2.2 i (by rw [← hits2.1]; exact hl)
    rw [e] at e'; cases e'
    exact ⟨r, _, rfl, s.now, r7⟩
  refine c_make (fI := 550) H0 (by kernel_rfl) fun x dx h₁ H₁ K₁ nx nx' ndx => ?_
  refine enterB (k := k + 7) ["self", "tables", "options"] [] (hA.under (c := _) (Nat.le_of_ble_eq_true rfl) (Nat.le_of_ble_eq_true rfl)) H₁ (H₁.st.k 550 _ rfl) rfl (codeRec_of H₁.st.k (by kernel_rfl)) rfl (by kernel_rfl) rfl (fun n => rfl) ?_
  have P0 : isDD w [] { cls := .type "dict", data := .dict #[] } := by
    obtain ⟨o, e, p⟩ := Heap.dictOf_iff.mp (Heap.DictOf.new (knd := sk w) h)
    rw [Heap.get?_push_size _ rfl] at e; cases e; exact p
  refine wp_eq (m' := newTuple [.ref td] >>= fun tup => alloc { cls := .type "dict", data := .dict #[] } >>= fun D => pure [("self", Value.ref x), ("tables", tup), ("options", .ref D)]) (by kernel_rfl)
    (wpAny_mono (Q := fun binds s₁ => ∃ ta od h₂ t₂, binds = ([("self", Value.ref x), ("tables", .ref ta), ("options", .ref od)] : KV) ∧ s₁ = ⟨h₂, g, d, t₂, os⟩ ∧ G w h [] h₂ [(od, isDD w []), (ta, isT [Value.ref td].toArray), (x, isIn 651 dx), (dx, nsx 0 [])])
      (wpAny_bind (wpAny_newTuple (wpAny_bind (wpAny_alloc (wpAny_pure ⟨_, _, _, _, rfl, rfl, ?_⟩))))) (fun binds s₁ y => ?_) fun _ _ x => x)
  · exact (H₁.push (P := isT [Value.ref td].toArray) { cls := .type "tuple", data := .seq [Value.ref td].toArray } rfl (nc_tup ⟨rfl, 0, rfl⟩) ⟨rfl, 0, rfl⟩).push (P := isDD w []) { cls := .type "dict", data := .dict #[] } rfl (nc_dict rfl) P0
  obtain ⟨ta, od, h₁', t₁', rfl, rfl, H1'⟩ := y
  refine ⟨_, _, _, [("self", some (.ref x)), ("tables", some (.ref ta)), ("options", some (.ref od))], fun _ => none, rfl, H1', rfl, by kernel_rfl, ⟨by kernel_rfl, by kernel_rfl, by kernel_rfl, trivial⟩, fun _ hp => (nomatch hp), ?_⟩
  intro env L c h₂ t₂ Ev hA₂ H₂ K₂ nc nL
  dsimp only [List.map_nil, List.cons_append, List.nil_append] at Ev H₂
  k_clsL
  refine x_expr Ev ?_ rfl
  refine methodCall_DD ?_ rfl
  k_clsL
  refine cls_value (K := KK w) (mc := .type "type") (v := .ref 227) H₂.st.k (by kernel_rfl) (by kernel_rfl) rfl ?_
  refine callWith_DD (h₀ := h) (W := []) (keeps_K (K := KK w) (by kernel_rfl)) ?_ rfl
  k_clsL
  refine ⟨_, _, _, rfl, H₂, fun b h₃ H₃ K₃ => ?_⟩
  k_clsL
  refine ⟨od, h₃, _, [], rfl, rfl, H₃, H₃.dd (by k_memK), H₃.at (a := od) (by k_memK), fun q => by have := H₃.nd; subst q; simp at this, .inl rfl, fun h₄ H₄ => ?_⟩

  refine ⟨H₄.st.k, ?_⟩
  have HX := H₄.perm (List.perm_append_comm (l₁ := [(x, isIn 651 dx), (dx, nsx 0 [])]) (l₂ := [_, _, _, _]))
  dsimp only [List.cons_append, List.nil_append] at HX
  refine wpAny_call (p_linit (k := k + 4) hA₂ HX fun od2 fl h₅ t₅ H₅ => ?_)
  dsimp only [List.cons_append, List.nil_append] at H₅ ⊢
  k_clsL
  refine a_set (C := 651) (dx := dx) (k := 5) (l := [("filters", .ref fl), ("ensurenl", .bool true), ("stripall", .bool false), ("stripnl", .bool true), ("options", .ref od2)]) H₅ (by tb_rel) (by tb_rel) (by decide) (by kernel_rfl) (.tail .head) fun h₆ t₆ H₆ => ?_
  k_clsL
  refine dd_new H₆ fun at' h₇ H₇ K₇ nat => ?_
  k_clsL
  refine a_set (C := 651) (dx := dx) (k := 6) (l := (("tables", .ref ta) :: [("filters", .ref fl), ("ensurenl", .bool true), ("stripall", .bool false), ("stripnl", .bool true), ("options", .ref od2)] : KV)) H₇ (by tb_rel) (by tb_rel) (by decide) (by kernel_rfl) (.tail (.tail .head)) fun h₈ t₈ H₈ => ?_
  k_clsL
  rename_i tk0 t9
  refine a_set (C := 651) (dx := dx) (k := 7) (l := (("_all_tokens", .ref at') :: ("tables", .ref ta) :: [("filters", .ref fl), ("ensurenl", .bool true), ("stripall", .bool false), ("stripnl", .bool true), ("options", .ref od2)] : KV)) H₈ (by tb_rel) (by tb_rel) (by decide) (by kernel_rfl) (.tail (.tail .head)) fun h₉ t₉ H₉ => ?_
  k_clsL
  have I₉ := H₉.inH (x := x) (dx := dx) (by tb_rel) (by tb_rel)
  refine MethodCall_ ?_ (by rfl)
  k_clsL
  refine h_meth (f := 523) H₉.st.k I₉ (by kernel_rfl) (by kernel_rfl) ?_
  k_clsL
  refine MethodCall_ ?_ (by rfl)
  k_clsL
  refine h_meth (f := 530) H₉.st.k I₉ (by kernel_rfl) (by kernel_rfl) ?_
  refine callWith_K0 H₉.st.k (by kernel_rfl) ?_
  refine wpAny_call (p_gettd (k := k) hA₂ H₉.st I₉ (by kernel_rfl) (H₉.tup (a := ta) (by tb_rel)) (H₉.at (a := ta) (by tb_rel)) (htd.kp H₉.kp List.not_mem_nil td7) td7 (H₉.old h1 l17 List.not_mem_nil) l17 (H₉.old h2 l27 List.not_mem_nil) l27 (hT1.kp H₉.kp) (hT2.kp H₉.kp) hz1 hz2 fun tk n1 n2 ha ta' Na => ?_)
  dsimp only
  have Ha := H₉.take Na
  dsimp only [List.cons_append, List.nil_append] at Ha
  have Ia := Ha.inH (x := x) (dx := dx) (by tb_rel) (by tb_rel)
  k_clsL
  have nat0 : h.get? at' = none := (H₆.new nat).1
  have NE : ∀ {b o}, h.get? b = some o → b ≠ at' := fun {b o} e q => by rw [q, nat0] at e; cases e
  have kg : Keeps good h ha := Ha.kp.keeps fun b hb => ⟨(hgood b hb).1, List.not_mem_nil⟩
  have ndA := Ha.nd
  have hxa : x ≠ at' ∧ dx ≠ at' ∧ tk ≠ at' ∧ n1 ≠ at' ∧ n2 ≠ at' := by
    simp only [List.map_cons, List.nodup_cons, List.mem_cons, not_or] at ndA
    refine ⟨?_, ?_, ?_, ?_, ?_⟩ <;> intro q <;> subst q <;> simp_all
  refine wpAny_call (p_defs (k := k + 1) hP hP2 hA₂ (Ha.one (a := at') (by tb_rel)) Ia ⟨hxa.1, hxa.2.1⟩ ⟨by kernel_rfl, by kernel_rfl, by kernel_rfl⟩ (by kernel_rfl) (by kernel_rfl) (Ha.dd (a := tk) (by tb_rel)) (Ha.at (a := tk) (by tb_rel)) hxa.2.2.1
    (Ha.pl (a := n1) (by tb_rel)) (Ha.at (a := n1) (by tb_rel)) hxa.2.2.2.1 (Ha.pl (a := n2) (by tb_rel)) (Ha.at (a := n2) (by tb_rel)) hxa.2.2.2.2 hz1 hz2 (fun b hb => let ⟨h7, o, e⟩ := hgood b hb; ⟨h7, NE e, o, kg b o hb e⟩)
    (hits1.mono fun v x y => y.keep hP kg) (hits2.mono fun v x y => y.keep hP2 kg) fun dp r1 r2 vs1 vs2 fp hb tb Nb a1 a2 Fb Fn => ?_)
  dsimp only
  have Hb := Ha.back1 (a := at') (by tb_start) (Nb.perm (List.perm_append_comm (l₁ := [(at', _)]) (l₂ := [_, _, _])))
  simp only [List.append_eq, List.nil_append, List.cons_append] at Hb
  have HR := Hb.restart
  refine n_local Ev (by tb_rel) Hb (by tb_rel) (by tb_rel) ?_
  k_clsL
  refine a_set (C := 651) (dx := dx) (k := 8) (l := (("_tmpname", .int 0 _) :: ("_all_tokens", .ref at') :: ("tables", .ref ta) :: [("filters", .ref fl), ("ensurenl", .bool true), ("stripall", .bool false), ("stripnl", .bool true), ("options", .ref od2)] : KV)) HR (by tb_rel) (by tb_rel) (by decide) (by kernel_rfl) (.tail (.tail (.tail (.tail (.tail (.tail (.tail (.tail .head)))))))) fun hc tc Hc => ?_
  k_clsL
  refine ⟨rfl, ?_⟩
  have HF := Hb.over Hc
  have hne : ∀ b', good b' ∨ b' ∈ fp → 714 ≤ b' ∧ b' ∉ [r2, r1, dp, tk, n2, n1, at', x, dx, b, L, od, ta] := fun b' hb => by
    rcases hb with hb | hb
    · obtain ⟨h7, o, e⟩ := hgood b' hb
      exact ⟨h7, HF.apart e List.not_mem_nil⟩
    · have y1 := Fb.ne Ha b' hb
      have y2 := Fn b' hb
      refine ⟨(Fb b' hb).1, fun q => ?_⟩
      simp only [List.mem_cons, List.map_cons, List.map_nil, List.not_mem_nil, or_false, not_or] at q y1 y2
      rcases q with q | q | q | q | q | q | q | q | q | q | q | q <;> simp_all
  have kc : Keeps (fun b => good b ∨ b ∈ fp) hb hc := Hc.kp.keeps hne
  have hm : ∀ b, b ∈ [x, dx, dp, r1, r2] → good b ∨ b ∈ fp ++ [x, dx, dp, r1, r2] := fun b hb => .inr (List.mem_append_right _ hb)
  have IF := HF.inH (x := x) (dx := dx) (by tb_rel) (by tb_rel)
  have SF := (inH_sure (good := fun b => good b ∨ b ∈ fp ++ [x, dx, dp, r1, r2]) IF (hm x (by simp)) (hm dx (by simp))).and ((dat_sure (HF.dd (a := dp) (by tb_rel)) (hm dp (by simp))).and ((list_sure (HF.pl (a := r1) (by tb_rel)) (hm r1 (by simp))).and (list_sure (HF.pl (a := r2) (by tb_rel)) (hm r2 (by simp)))))
  refine q x (fp ++ [x, dx, dp, r1, r2]) hc _ HF.st HF.kp ⟨dx, _, _, dp, r1, r2, vs1, vs2, SF, ?_, ?_, HF.at (a := dp) (by tb_rel), HF.at (a := r1) (by tb_rel), HF.at (a := r2) (by tb_rel), ?_, ?_⟩ ?_
  · rfl
  · rfl
  · exact a1.mono fun v a y => (y.keep hP kc).weak hP fun b hb => hb.imp id fun h => List.mem_append_left _ h
  · exact a2.mono fun v a y => (y.keep hP2 kc).weak hP2 fun b hb => hb.imp id fun h => List.mem_append_left _ h
  · refine ((Fb.back Ha.kp).fwd Hc.kp).app fun b hb => ?_
    have gg : ∀ {D : Dl} {b : Addr}, G w h [] hc D → b ∈ D.map (·.1) → 714 ≤ b ∧ (∃ o, hc.get? b = some o) ∧ h.get? b = none := fun {D b} H hm => by
      obtain ⟨p, hp, rfl⟩ := List.mem_map.mp hm
      obtain ⟨o, e, _⟩ := H.own p hp
      exact ⟨(H.dyn p hp).1, ⟨o, e⟩, (H.dyn p hp).2.resolve_left List.not_mem_nil⟩
    refine gg HF ?_
    simp only [List.mem_cons, List.not_mem_nil, or_false] at hb
    rcases hb with rfl | rfl | rfl | rfl | rfl <;> simp
end

section -- GenW
open PySem PySem.W PySem.Calls PyProof.Rows
set_option linter.unusedVariables false
set_option maxRecDepth 100000
/-! trees under a continuation -/
section
variable {α β : Type} {K : α → Sem Fin} {K' : β → Sem Fin} {H : Value → Sem Fin} {gd : Bool → Bool} {lv : List Value → List Value}
theorem wr_bind (m : Sem α) (f : α → Sem β) : (m >>= f).wrap K' H gd lv = m.wrap (fun a => (f a).wrap K' H gd lv) H gd lv := by
  rw [Sem.bind_eq_wrap', Sem.wrap_wrap]; rfl
theorem wr_keep (vs : List Value) (m : Sem α) : (m.keep vs).wrap K H gd lv = m.wrap K H gd (fun l => lv (vs ++ l)) := by
  rw [Sem.keep_eq_wrap, Sem.wrap_wrap]; rfl
theorem wr_holding (vs : List Value) (m : Sem α) : ∃ lv', (PySem.holding vs m).wrap K H gd lv = m.wrap K H gd lv' := by
  unfold PySem.holding
  split
  · exact ⟨lv, rfl⟩
  · exact ⟨_, wr_keep _ _⟩
theorem wr_attempt (m : Sem α) {K : Except Value α → Sem Fin} : m.attempt.wrap K H gd lv = m.wrap (fun a => K (.ok a)) (fun e => K (.error e)) (fun _ => gd true) lv := by
  unfold Sem.attempt
  rw [Sem.tryCatch_eq_wrap, Sem.bind_eq_wrap, Sem.wrap_wrap, Sem.wrap_wrap]; rfl
theorem wr_onRaise (m : Sem α) (h : Value → Sem Unit) : (m.onRaise h).wrap K H gd lv = m.wrap K (fun e => (h e).wrap (fun _ => H e) H gd lv) gd lv := by
  rw [Sem.onRaise_eq_wrap, Sem.wrap_wrap]
  exact Sem.wrap_congr _ _ _ (fun _ => rfl) fun e => by
    rw [Sem.bind_eq_wrap, Sem.wrap_wrap]; rfl
theorem wr_pure (a : α) : (pure a : Sem α).wrap K H gd lv = K a := rfl
end

structure GP where
  w : World
  ι : Type
  It : Heap → Value → ι → Prop
  C : List Addr
  O : Addr → Prop
  m : Nat
  L : Addr
  gi : Nat
  κ : Nat

def imm (o : Obj) : Prop := o.cls = .type "tuple" ∧ ∃ xs n, o.data = .seq xs n

structure GRel (P : GP) (s₀ s : Shared) : Prop where
  keep : ∀ b o, s₀.heap.get? b = some o → (P.O b ∧ b ≠ P.L) ∨ imm o → b ≠ 380 → b ≠ 403 → s.heap.get? b = some o
  there : ∀ b o, s₀.heap.get? b = some o → ∃ o', s.heap.get? b = some o'
  gens : ∀ i, i < P.m → s.gens[i]? = s₀.gens[i]?
  gsz : s₀.gens.size ≤ s.gens.size
  os : s.os = s₀.os
  dr : s.drawn = s₀.drawn
structure CRel (P : GP) (s s' : Shared) : Prop where
  keep : Kp P.C s.heap s'.heap
  st : St P.w s'.heap
  gens : ∀ i, P.m ≤ i → s'.gens[i]? = s.gens[i]?
  gsz : s.gens.size ≤ s'.gens.size
  os : s'.os = s.os
  dr : s'.drawn = s.drawn

/-- room that a generator asks of its consumer -/
structure Room (κ : Nat) (c : Code) (st : List Frame) (d u : Nat) : Prop where
  rm : Rm c st d u
  dp : d + 2 * κ ≤ 900
  un : u + 8 * κ ≤ 9000

def Wk (P : GP) (Φ : Outcome → Shared → Prop) (gs : GenState) (k : GenResult → Sem Fin) (l : List Value) (c : Code) (p : Pos) (st : List Frame) (s : Shared) : Prop := match gs with
  | .fresh c' => GoT (MM P.w) Φ c' (.gen P.gi k l c p :: st) ((MM P.w).den c') s
  | .suspended k₀ _ c₀ _ fs _ => GoT (MM P.w) Φ c₀ (fs ++ .gen P.gi k l c p :: st) (k₀ (.send .none)) s
  | _ => False

def liveG : GenState → Bool
  | .fresh _ => true
  | .suspended .. => true
  | _ => false

/-- what a consumer must take -/
def Take' (P : GP) (G : List P.ι → GenState → Shared → Prop) (its : List P.ι) (s₀ : Shared) (Φ : Outcome → Shared → Prop) (k : GenResult → Sem Fin) (c : Code) (st : List Frame) : Prop := match its with
  | [] => ∀ s', GRel P s₀ s' → St P.w s'.heap → (∀ i, P.m ≤ i → i < s'.gens.size → s'.gens[i]? = some .finished) → GoT (MM P.w) Φ c st (k (.returned .none)) (s'.setGen P.gi .finished)
  | it :: rest => ∀ v s' gs', GRel P s₀ s' → St P.w s'.heap → P.It s'.heap v it → liveG gs' = true → (∀ s'', CRel P s' s'' → G rest gs' s'') → GoT (MM P.w) Φ c st (k (.yielded v)) (s'.setGen P.gi gs')
/-- the generator in state gs hands out its, one by one, and ends -/
def Gives (P : GP) : List P.ι → GenState → Shared → Prop
  | [], gs, s => ∀ Φ k l c p st d u, Room P.κ c st d u → Take' P (fun _ _ _ => True) [] s Φ k c st → Wk P Φ gs k l c p st s
  | it :: rest, gs, s => ∀ Φ k l c p st d u, Room P.κ c st d u →
      (∀ v s' gs', GRel P s s' → St P.w s'.heap → P.It s'.heap v it → liveG gs' = true → (∀ s'', CRel P s' s'' → Gives P rest gs' s'') → GoT (MM P.w) Φ c st (k (.yielded v)) (s'.setGen P.gi gs')) → Wk P Φ gs k l c p st s
abbrev Take (P : GP) (its : List P.ι) (s₀ : Shared) (Φ : Outcome → Shared → Prop) (k : GenResult → Sem Fin) (c : Code) (st : List Frame) : Prop := Take' P (Gives P) its s₀ Φ k c st
theorem gives_iff {P : GP} {its gs s} : Gives P its gs s ↔ ∀ Φ k l c p st d u, Room P.κ c st d u → Take P its s Φ k c st → Wk P Φ gs k l c p st s := by
  cases its <;> exact Iff.rfl

/-- inside a generator: whatever the consumer -/
def Run (P : GP) (its : List P.ι) (s₀ : Shared) (code : Code) (fs : List Frame) (t : Sem Fin) (s : Shared) : Prop :=
  ∀ Φ k l c p st d u, Room P.κ c st d u → Take P its s₀ Φ k c st → GoT (MM P.w) Φ code (fs ++ .gen P.gi k l c p :: st) t s

theorem gives_fresh {P : GP} {its c' s} (q : Run P its s c' [] ((MM P.w).den c') s) : Gives P its (.fresh c') s := gives_iff.mpr fun Φ k l c p st d u hr ht => q Φ k l c p st d u hr ht
theorem gives_susp {P : GP} {its k₀ l₀ c₀ p₀ fs cl s} (q : Run P its s c₀ fs (k₀ (.send .none)) s) : Gives P its (.suspended k₀ l₀ c₀ p₀ fs cl) s := gives_iff.mpr fun Φ k l c p st d u hr ht => q Φ k l c p st d u hr ht

/-- frames of a generator: no handlers, no guards, and so much room used -/
structure Fw (j : Nat) (code : Code) (fs : List Frame) : Prop where
  hd : ∀ f ∈ fs, ∃ k g l c p kp, f = .ret k none g l c p kp
  dp : frameCount (fs.map Frame.where_) + code.weight ≤ 2 * j
  un : unitsOf (fs.map Frame.where_) + code.cUnits ≤ 8 * j
abbrev AK (k : Nat) : Around := AA (900 - 2 * k) (9000 - 8 * k)
theorem rm_gens : ∀ {fs : List Frame} {st : List Frame}, (∀ f ∈ fs, ∃ k g l c p kp, f = .ret k none g l c p kp) → topHandled st = none → topHandled (fs ++ st) = none
  | [], _, _, h => h
  | f :: fs, st, hf, h => by
    obtain ⟨k, g, l, c, p, kp, rfl⟩ := hf f (.head _)
    rw [List.cons_append, topHandled_ret]
    exact rm_gens (fun x hx => hf x (.tail _ hx)) h
theorem past_gens : ∀ {fs : List Frame} {st : List Frame}, (∀ f ∈ fs, ∃ k g l c p kp, f = .ret k none g l c p kp) → topHandled.go true st = none → topHandled.go true (fs ++ st) = none
  | [], _, _, h => h
  | f :: fs, st, hf, h => by
    obtain ⟨k, g, l, c, p, kp, rfl⟩ := hf f (.head _)
    exact past_gens (fs := fs) (fun x hx => hf x (.tail _ hx)) h
theorem split_ret : ∀ {fs : List Frame}, (∀ f ∈ fs, ∃ k g l c p kp, f = .ret k none g l c p kp) → splitAtGen fs = none
  | [], _ => rfl
  | f :: fs, hf => by
    obtain ⟨k, g, l, c, p, kp, rfl⟩ := hf f (.head _)
    rw [splitAtGen_ret, split_ret (fun x hx => hf x (.tail _ hx))]; rfl
theorem Fw.rm {j κ code fs c st d u g k l p} (F : Fw j code fs) (hr : Room κ c st d u) (hj : j ≤ κ) (hk : κ ≤ 450) : Rm code (fs ++ .gen g k l c p :: st) (900 - 2 * (κ - j)) (9000 - 8 * (κ - j)) := by
  refine ⟨rm_gens F.hd hr.rm.hd, past_gens F.hd hr.rm.hd, ?_, ?_⟩
  · rw [List.map_append, frameCount_append]
    show _ + frameCount ((c, p) :: st.map Frame.where_) + _ ≤ _
    rw [frameCount_cons]
    have := F.dp; have := hr.rm.dp; have := hr.dp; omega
  · rw [List.map_append, unitsOf_append]
    show _ + unitsOf ((c, p) :: st.map Frame.where_) + _ ≤ _
    rw [unitsOf_cons]
    have := F.un; have := hr.rm.un; have := hr.un; omega

section
variable {P : GP} {its : List P.ι} {s₀ s : Shared} {code : Code} {fs : List Frame} {j : Nat}
theorem r_wrap {α : Type} {m : Sem α} {K : α → Sem Fin} {H : Value → Sem Fin} {gd lv} (F : Fw j code fs) (hj : j ≤ P.κ) (hk : P.κ ≤ 450)
    (h : wpAny (MM P.w) (AK (P.κ - j)) m (fun a s' => Run P its s₀ code fs (K a) s') (fun x s' => Run P its s₀ code fs (H x) s') s) : Run P its s₀ code fs (m.wrap K H gd lv) s :=
  fun Φ k l c p st d u hr ht => g_wrap (F.rm hr hj hk) (wpAny_mono h (fun _ _ x => x Φ k l c p st d u hr ht) (fun _ _ x => x Φ k l c p st d u hr ht))
theorem r_at {p' : Pos} {k : Unit → Sem Fin} (h : Run P its s₀ code fs (k ()) s) : Run P its s₀ code fs (.at p' k) s := fun Φ k l c p st d u hr ht => g_at (h Φ k l c p st d u hr ht)
theorem r_point {l} {k : Unit → Sem Fin} (h : Run P its s₀ code fs (k ()) s) : Run P its s₀ code fs (.point l k) s := fun Φ k l c p st d u hr ht => g_point (h Φ k l c p st d u hr ht)
theorem r_call {c' h g l} {k : Result → Sem Fin} (q : ∀ p, Run P its s₀ c' (.ret k h g l code p [] :: fs) ((MM P.w).den c') s) : Run P its s₀ code fs (.call c' h g l k) s :=
  fun Φ k l c p st d u hr ht => g_call fun p' => q p' Φ k l c p st d u hr ht
theorem r_ret {k h g l c' p' kp} (r : Result) (q : Run P its s₀ c' fs (k r) s) : Run P its s₀ code (.ret k h g l c' p' kp :: fs) (leafOf r) s :=
  fun Φ k l c p st d u hr ht => g_ret r (q Φ k l c p st d u hr ht)
theorem r_again {c'} (hq : c'.quiet = true) (q : Run P its s₀ c' fs ((MM P.w).den c') s) : Run P its s₀ code fs (.pure (.again c')) s :=
  fun Φ k l c p st d u hr ht => g_again hq (q Φ k l c p st d u hr ht)
theorem r_end (hR : GRel P s₀ s) (hS : St P.w s.heap) (hf : ∀ i, P.m ≤ i → i < s.gens.size → s.gens[i]? = some .finished) {f : Flow} (h0 : f = .ret .none ∨ f = .next) : Run P [] s₀ code [] (.pure (.done f)) s := fun Φ k l c p st d u hr ht => by
  refine g_end (.ok f) ?_
  have e : (End.ret (.ok f)).result = .returned .none := by rcases h0 with rfl | rfl <;> rfl
  rw [e]; exact ht s hR hS hf
theorem r_yield {it : P.ι} {v l k₀} (F : Fw j code fs) (hg : fs.any Frame.guarded = false) (hR : GRel P s₀ s) (hS : St P.w s.heap) (hI : P.It s.heap v it)
    (q : ∀ s'', CRel P s s'' → Run P its s'' code fs (k₀ (.send .none)) s'') : Run P (it :: its) s₀ code fs (.yield v false l k₀) s := fun Φ k l' c p st d u hr ht =>
  g_yield (split_ret F.hd) hg fun p' => ht v s _ hR hS hI rfl fun s'' hc => gives_susp (q s'' hc)
theorem r_yieldC {it : P.ι} {v l k₀ a rest kw o n} (F : Fw j (.builtin "proto.yield_from" ⟨.ref a :: rest, kw⟩) fs) (hg : fs.any Frame.guarded = false) (hR : GRel P s₀ s) (hS : St P.w s.heap) (hI : P.It s.heap v it)
    (ho : s.heap.get? a = some o) (hn : o.genNumber? = some n)
    (q : ∀ s'', CRel P s s'' → Run P its s'' (.builtin "proto.yield_from" ⟨.ref a :: rest, kw⟩) fs (k₀ (.send .none)) s'') : Run P (it :: its) s₀ (.builtin "proto.yield_from" ⟨.ref a :: rest, kw⟩) fs (.yield v true l k₀) s := fun Φ k l' c p st d u hr ht =>
  g_yieldC (split_ret F.hd) hg ho hn fun p' => ht v s _ hR hS hI rfl fun s'' hc => gives_susp (q s'' hc)
end
end

section -- GenN
open PySem PySem.W PySem.Calls PyProof.Rows
set_option linter.unusedVariables false
set_option maxRecDepth 100000
def IsGn (h : Heap) (a : Addr) (g : Nat) : Prop := ∃ o nm qn, h.get? a = some o ∧ o.cls = .type "generator" ∧ o.data = .fields #[.int g 0, nm, qn] ∧ (o.slots = #[] ∨ o.slots = #[some (rawInt 0)])
theorem IsGn.typeIs {s : Shared} {a g} (x : IsGn s.heap a g) : s.TypeIs (.ref a) "generator" := let ⟨o, _, _, ho, hc, _⟩ := x; ⟨o, ho, hc⟩
section
variable {M : Model} {A : Around} {E : Value → Shared → Prop} {s : Shared}
theorem genNumber_any {a : Addr} {g : Nat} {Q : Nat → Shared → Prop} (hg : IsGn s.heap a g) (h : Q g s) : wpAny M A (Builtin.Generator.genNumber (.ref a)) Q E s := by
  obtain ⟨o, nm, qn, ho, _, hd, hsl⟩ := hg
  unfold Builtin.Generator.genNumber
  refine wpAny_bind (wpAny_load ho ?_)
  rcases hsl with hsl | hsl
  · rw [hsl, hd]
    show wpAny M A (pure ((g : Int).toNat)) Q E s
    rw [Int.toNat_natCast]; exact wpAny_pure h
  · rw [hsl, hd]
    show wpAny M A (pure ((g : Int).toNat)) Q E s
    rw [Int.toNat_natCast]; exact wpAny_pure h
end
section
variable {M : Model} {Φ : Outcome → Shared → Prop} {c : Code} {st : List Frame} {s : Shared} {K : Value → Sem Fin} {H : Value → Sem Fin} {gd : Bool → Bool} {lv : List Value → List Value}
theorem g_code {c' : Code} (q : ∀ (k' : Result → Sem Fin) p, (∀ v, k' (.ok (.ret v)) = K v) → (∀ e, k' (.error e) = H e) → GoT M Φ c' (.ret k' none (gd false) (lv []) c p [] :: st) (M.den c') s) : GoT M Φ c st ((runValue c').wrap K H gd lv) s := by
  have e : (runValue c').wrap K H gd lv = Sem.call c' none (gd false) (lv []) fun r => ((match r with | .ok f => (.pure f : Sem Flow) | .error e => .raise e) >>= fun f => match f with | .ret v => (pure v : Sem Value) | _ => unsupported "internal:call-without-return-value").wrap K H gd lv := by
    unfold runValue run
    rfl
  rw [e]
  exact g_call fun p => q _ p (fun _ => rfl) (fun _ => rfl)
end

theorem g_resume {P : GP} {its : List P.ι} {gs : GenState} {Φ : Outcome → Shared → Prop} {c : Code} {st : List Frame} {d u : Nat} {s : Shared} {Kr : GenResult → Sem Fin}
    (hr : Room P.κ c st d u) (hgs : s.gens[P.gi]? = some gs) (hG : Gives P its gs (s.setGen P.gi .running)) (hlv : liveG gs = true) (hQ : Take P its (s.setGen P.gi .running) Φ Kr c st) :
    GoT (MM P.w) Φ c st (resume P.gi (.send .none) >>= Kr) s := by
  have hW := fun p => gives_iff.mp hG Φ Kr [] c p st d u hr hQ
  show GoT _ _ _ _ (.resume P.gi (.send .none) [] fun x => Kr x) s
  cases gs with
  | fresh c' => exact g_fresh hgs fun p => hW p
  | suspended k₀ l₀ c₀ p₀ fs cl => exact g_woken hgs fun p => hW p p₀
  | running => cases hlv
  | finished => cases hlv
def NextQ (P : GP) (its : List P.ι) (s₀ : Shared) (onEnd : Shared → Heap → Addr → Prop) (onItem : List P.ι → Value → Shared → GenState → Prop) (Stop : Heap → Addr → Prop) : Prop := match its with
  | [] => ∀ s' h' e, GRel P s₀ s' → St P.w s'.heap → (∀ i, P.m ≤ i → i < s'.gens.size → s'.gens[i]? = some .finished) → (∀ b o, s'.heap.get? b = some o → h'.get? b = some o) → Stop h' e → onEnd s' h' e
  | it :: rest => ∀ v s' gs', GRel P s₀ s' → St P.w s'.heap → P.It s'.heap v it → liveG gs' = true → (∀ s'', CRel P s' s'' → Gives P rest gs' s'') → onItem rest v s' gs'
def Stop (h : Heap) (e : Addr) : Prop := ∃ o t, h.get? e = some o ∧ o.cls = .type "StopIteration" ∧ o.data = .fields #[t, .none, .none, .none, .bool false, .none]
theorem den_builtin {prog : Program} {w : World} {id : String} {args : Args} {b : Builtin} (hb : entryFor table id = some b) : (model prog w).den (.builtin id args) = b args := by
  show (match entryFor table id with | some b => b args | none => unsupported ((withoutEnding? id "#data").getD id)) = _
  rw [hb]
theorem next_eq {a : Addr} : Builtin.«generator.__next__» ⟨[.ref a], []⟩ = Builtin.Generator.genWake (.ref a) (.send .none) := rfl
theorem callSpecial_eq (self : Value) (name : Str) : callSpecial? self name = (specialOf self name >>= fun o => match o with
    | none => pure none
    | some f => PySem.holding [self] (bindSpecial f self >>= fun x => call x.1 (x.2 ++ []) [] >>= fun v => pure (some v))) := rfl
theorem g_special {P : GP} {its : List P.ι} {gs : GenState} {Φ : Outcome → Shared → Prop} {c : Code} {st : List Frame} {d u : Nat} {K : Option Value → Sem Fin} {H : Value → Sem Fin} {gd lv} {s : Shared} {a : Addr}
    (hr : Room (P.κ + 1) c st d u) (hl : s.heap.NoLimit) (hg : IsGn s.heap a P.gi) (hgs : s.gens[P.gi]? = some gs) (hG : Gives P its gs (s.setGen P.gi .running)) (hlv : liveG gs = true)
    (hQ : NextQ P its (s.setGen P.gi .running) (fun s' h' e => GoT (MM P.w) Φ c st (H (.ref e)) { s'.setGen P.gi .finished with heap := h' }) (fun _ v s' gs' => GoT (MM P.w) Φ c st (K (some v)) (s'.setGen P.gi gs')) Stop) :
    GoT (MM P.w) Φ c st ((callSpecial? (.ref a) "__next__").wrap K H gd lv) s := by
  have hT := hg.typeIs
  rw [callSpecial_eq, wr_bind]
  refine g_wrap hr.rm (wpAny_specialOf hT slot_gen_next.lookup ?_)
  dsimp only
  obtain ⟨lv', e⟩ := wr_holding (K := K) (H := H) (gd := gd) (lv := lv) [Value.ref a] (bindSpecial (.builtin "generator.__next__") (.ref a) >>= fun x => call x.1 (x.2 ++ []) [] >>= fun v => pure (some v))
  rw [e, wr_bind, slot_gen_next.bind, wr_pure, wr_bind]
  dsimp only
  unfold call
  refine g_code fun k' p hk hk' => ?_
  have hr1 : Rm (.call (.builtin "generator.__next__") ⟨[.ref a], []⟩) (.ret k' none (gd false) (lv' []) c p [] :: st) (d + 0) (u + 1) := hr.rm.ret
  show GoT _ _ _ _ (do checkBuiltinCall "generator.__next__" ⟨[.ref a], []⟩; again (.builtin "generator.__next__" ⟨[.ref a], []⟩)) _
  refine g_bind hr1 (slot_gen_next.check _ _ _ _ _ _ _ _ hT (args_gen_next _) ?_)
  refine g_again (plainId_quiet slot_gen_next.plain _) ?_
  have hr2 : Rm (.builtin "generator.__next__" ⟨[.ref a], []⟩) (.ret k' none (gd false) (lv' []) c p [] :: st) (d + 0) (u + 1) := by
    have := hr.rm.ret (c' := .builtin "generator.__next__" ⟨[.ref a], []⟩) (k := k') (g := gd false) (l := lv' []) (p := p) (kp := [])
    rwa [plainId_weight slot_gen_next.plain, plainId_units slot_gen_next.plain] at this
  rw [den_builtin entry_gen_next]
  refine (congrArg (fun t => GoT (MM P.w) Φ _ _ t s) next_eq).mpr ?_
  unfold Builtin.Generator.genWake
  refine g_bind hr2 (wpAny_holding (genNumber_any hg ?_))
  refine g_bind hr2 (wpAny_genState hgs ?_)
  have hroom : (AA (d + 0) (u + 1)).depth < recursionLimit := by have := hr.dp; show d + 0 < 1000; omega
  have hst : gs.status = GenStatus.fresh ∨ gs.status = GenStatus.suspended := by cases gs <;> first | exact .inl rfl | exact .inr rfl | cases hlv
  have hrm : Room P.κ (.builtin "generator.__next__" ⟨[.ref a], []⟩) (.ret k' none (gd false) (lv' []) c p [] :: st) (d + 0) (u + 1) := ⟨hr2, by have := hr.dp; omega, by have := hr.un; omega⟩
  rcases hst with hst | hst <;>
  · rw [hst]
    refine g_bind hr2 (wpAny_roomToWake hl hroom ?_)
    refine g_resume hrm hgs hG hlv ?_
    cases its with
    | nil =>
      intro s' hR hS hf
      show GoT _ _ _ _ (newExc (.type "StopIteration") [] >>= _) _
      simp only [newExc, newTuple]
      refine g_bind hr2 ?_
      refine wpAny_bind (wpAny_newObj_type ?_ (by size_fits))
      refine wpAny_bind (m := firstArgMember _ _) (wpAny_of_eq (a := Value.none) (by first | rfl | (simp only [firstArgMember]; rfl)) ?_)
      refine wpAny_newObj_type ?_ (by size_fits)
      simp only [raiseNew]
      refine g_bind hr2 (wpAny_bind (wpAny_handled ?_))
      show wpAny _ _ (throw _) _ _ _
      refine wpAny_throw ?_
      refine g_ret (.error _) ?_
      rw [hk']
      exact hQ s' _ _ hR hS hf (fun b o hb => Heap.get?_push_of_some _ (Heap.get?_push_of_some _ hb)) ⟨_, _, Heap.get?_push_size _ rfl, rfl, rfl⟩
    | cons it rest =>
      intro v s' gs' hR hS hI hlv' hn
      refine g_ret (.ok (.ret v)) ?_
      rw [hk]
      exact hQ v s' gs' hR hS hI hlv' hn
end

section -- GenX
open PySem PySem.W PySem.Calls PyProof.Rows
set_option linter.unusedVariables false
set_option maxRecDepth 100000
theorem g_next {P : GP} {its : List P.ι} {gs : GenState} {Φ : Outcome → Shared → Prop} {c : Code} {st : List Frame} {d u : Nat} {K : Option Value → Sem Fin} {H : Value → Sem Fin} {gd lv} {s : Shared} {a : Addr}
    (hr : Room (P.κ + 1) c st d u) (hl : s.heap.NoLimit) (hg : IsGn s.heap a P.gi) (hgs : s.gens[P.gi]? = some gs) (hG : Gives P its gs (s.setGen P.gi .running)) (hlv : liveG gs = true)
    (hQ : NextQ P its (s.setGen P.gi .running) (fun s' h' _ => GoT (MM P.w) Φ c st (K none) { s'.setGen P.gi .finished with heap := h' }) (fun _ v s' gs' => GoT (MM P.w) Φ c st (K (some v)) (s'.setGen P.gi gs')) Stop) :
    GoT (MM P.w) Φ c st ((pyNext (.ref a)).wrap K H gd lv) s := by
  unfold pyNext
  rw [wr_bind, wr_attempt]
  refine g_special hr hl hg hgs hG hlv ?_
  cases its with
  | nil =>
    intro s' h' e hR hS hf hk he
    show GoT _ _ _ _ ((isInstance (.ref e) (.type "StopIteration") >>= fun b => if b = true then pure none else throw (.ref e) : Sem (Option Value)).wrap K H gd lv) _
    rw [wr_bind]
    obtain ⟨o, t, e1, e2, e3⟩ := id he
    refine g_wrap hr.rm (wpAny_isInstance (T := "StopIteration") (b := true) ⟨o, e1, e2⟩ isSubtype_stop ?_)
    exact hQ s' h' e hR hS hf hk he
  | cons it rest =>
    intro v s' gs' hR hS hI hlv' hn
    exact hQ v s' gs' hR hS hI hlv' hn

theorem r_next {P P' : GP} {its' : List P'.ι} {its : List P.ι} {gs : GenState} {s₀ s : Shared} {code : Code} {fs : List Frame} {j : Nat} {K : Option Value → Sem Fin} {H : Value → Sem Fin} {gd lv} {a : Addr}
    (hw : P'.w = P.w) (F : Fw j code fs) (hj : P'.κ + 1 + j ≤ P.κ) (hκ : P.κ ≤ 450) (hl : s.heap.NoLimit) (hg : IsGn s.heap a P'.gi) (hgs : s.gens[P'.gi]? = some gs) (hG : Gives P' its' gs (s.setGen P'.gi .running)) (hlv : liveG gs = true)
    (hQ : NextQ P' its' (s.setGen P'.gi .running) (fun s' h' _ => Run P its s₀ code fs (K none) { s'.setGen P'.gi .finished with heap := h' }) (fun _ v s' gs' => Run P its s₀ code fs (K (some v)) (s'.setGen P'.gi gs')) Stop) :
    Run P its s₀ code fs ((pyNext (.ref a)).wrap K H gd lv) s := fun Φ k l c p st d u hr ht => by
  rw [← hw]
  refine g_next (P := P') ⟨F.rm hr (by omega) hκ, by omega, by omega⟩ hl hg hgs hG hlv ?_
  cases its' with
  | nil => intro s' h' e a1 a2 a3 a4 a5; rw [hw]; exact hQ s' h' e a1 a2 a3 a4 a5 Φ k l c p st d u hr ht
  | cons it rest => intro v s' gs' a1 a2 a3 a4 a5; rw [hw]; exact hQ v s' gs' a1 a2 a3 a4 a5 Φ k l c p st d u hr ht
theorem r_special {P P' : GP} {its' : List P'.ι} {its : List P.ι} {gs : GenState} {s₀ s : Shared} {code : Code} {fs : List Frame} {j : Nat} {K : Option Value → Sem Fin} {H : Value → Sem Fin} {gd lv} {a : Addr}
    (hw : P'.w = P.w) (F : Fw j code fs) (hj : P'.κ + 1 + j ≤ P.κ) (hκ : P.κ ≤ 450) (hl : s.heap.NoLimit) (hg : IsGn s.heap a P'.gi) (hgs : s.gens[P'.gi]? = some gs) (hG : Gives P' its' gs (s.setGen P'.gi .running)) (hlv : liveG gs = true)
    (hQ : NextQ P' its' (s.setGen P'.gi .running) (fun s' h' e => Run P its s₀ code fs (H (.ref e)) { s'.setGen P'.gi .finished with heap := h' }) (fun _ v s' gs' => Run P its s₀ code fs (K (some v)) (s'.setGen P'.gi gs')) Stop) :
    Run P its s₀ code fs ((callSpecial? (.ref a) "__next__").wrap K H gd lv) s := fun Φ k l c p st d u hr ht => by
  rw [← hw]
  refine g_special (P := P') ⟨F.rm hr (by omega) hκ, by omega, by omega⟩ hl hg hgs hG hlv ?_
  cases its' with
  | nil => intro s' h' e a1 a2 a3 a4 a5; rw [hw]; exact hQ s' h' e a1 a2 a3 a4 a5 Φ k l c p st d u hr ht
  | cons it rest => intro v s' gs' a1 a2 a3 a4 a5; rw [hw]; exact hQ v s' gs' a1 a2 a3 a4 a5 Φ k l c p st d u hr ht
theorem r_code {P : GP} {its : List P.ι} {s₀ s : Shared} {c : Code} {st : List Frame} {K : Value → Sem Fin} {H : Value → Sem Fin} {gd : Bool → Bool} {lv : List Value → List Value}
    {c' : Code} (q : ∀ (k' : Result → Sem Fin) p, (∀ v, k' (.ok (.ret v)) = K v) → (∀ e, k' (.error e) = H e) → Run P its s₀ c' (.ret k' none (gd false) (lv []) c p [] :: st) ((MM P.w).den c') s) : Run P its s₀ c st ((runValue c').wrap K H gd lv) s :=
  fun Φ k l c₁ p₁ st₁ d u hr ht => g_code fun k' p hk hk' => q k' p hk hk' Φ k l c₁ p₁ st₁ d u hr ht

/-- the session of `yield from` over an inner generator: what stays -/
structure MRel (P P' : GP) (a : Addr) (s s' : Shared) : Prop where
  keep : ∀ b o, s.heap.get? b = some o → P'.O b → b ∉ P.C → b ≠ a → b ≠ P'.L → b ≠ 380 → b ≠ 403 → s'.heap.get? b = some o
  there : ∀ b o, s.heap.get? b = some o → ∃ o', s'.heap.get? b = some o'
  gens : ∀ i, P.m ≤ i → i < P'.m → i ≠ P'.gi → s'.gens[i]? = s.gens[i]?
  gsz : s.gens.size ≤ s'.gens.size
theorem MRel.trans {P P' : GP} {a : Addr} {s s' s'' : Shared} (x : MRel P P' a s s') (y : MRel P P' a s' s'') : MRel P P' a s s'' :=
  ⟨fun b o e h1 h2 h3 h4 h5 h6 => y.keep b o (x.keep b o e h1 h2 h3 h4 h5 h6) h1 h2 h3 h4 h5 h6, fun b o e => let ⟨o', e'⟩ := x.there b o e; y.there b o' e', fun i a b c => (y.gens i a b c).trans (x.gens i a b c), Nat.le_trans x.gsz y.gsz⟩
end

section -- GenY
open PySem PySem.W PySem.Calls PyProof.Rows
set_option linter.unusedVariables false
set_option maxRecDepth 100000
theorem look_close : typeLookup (.type "generator") "close" = pure (some (.builtin "generator.close")) := by rw [typeLookup_type, builtinLookup_eq_fast]; kernel_rfl
theorem entry_yf : entryFor table "proto.yield_from" = some Builtin.«proto.yield_from» := entryFor_of_fast (by kernel_rfl)
theorem plain_yf : plainId "proto.yield_from" = true := by decide +kernel

theorem slept_any {M : Model} {A : Around} {E : Value → Shared → Prop} {s : Shared} {a : Addr} {o : Obj} {vs : Array Value} {n m : Int} {more : Bool} {Q : Unit → Shared → Prop} (ho : s.heap.get? a = some o) (hc : o.cls = .type "generator") (hd : o.data = .fields vs)
    (hs : (o.slots = #[] ∧ n = 0) ∨ o.slots = #[some (rawInt n)]) (hm : (if more then n + 1 else n - 1) = m)
    (h : ∀ h', h'.get? a = some { o with slots := #[some (rawInt m)] } → Heap.SameBut a s.heap h' → Q () { s with heap := h' }) : wpAny M A (Builtin.Generator.sleptOver (.ref a) more) Q E s := by
  obtain ⟨cls, dct, dat, sl⟩ := o
  dsimp only at hc hd hs
  subst hc; subst hd
  have hf : ∀ f : Obj → Obj, f ⟨.type "generator", dct, .fields vs, sl⟩ = ⟨.type "generator", dct, .fields vs, #[some (rawInt m)]⟩ → wpAny M A (updatePart a (some (slotPart 0)) f) Q E s := fun f hf Γ p hΓ => by
    unfold updatePart
    rw [Sem.wp_update]
    refine ⟨by rw [ho]; rfl, ?_⟩
    exact h _ (by have := Heap.get?_update_self f ho (by rw [hf]; rfl); rw [hf] at this; exact this) (Heap.SameBut.update ..)
  unfold Builtin.Generator.sleptOver
  refine wpAny_bind (wpAny_load ho ?_)
  rcases hs with ⟨rfl, rfl⟩ | rfl
  · show wpAny M A (updatePart a (some (slotPart 0)) _) Q E s
    exact hf _ (by rw [← hm]; rfl)
  · show wpAny M A (updatePart a (some (slotPart 0)) _) Q E s
    exact hf _ (by rw [← hm]; rfl)

/-- one generator inside another -/
structure Sub (P P' : GP) (a : Addr) : Prop where
  w : P'.w = P.w
  N : ∀ b, P.O b → P'.O b
  m : P.m ≤ P'.m
  g1 : P.m ≤ P'.gi
  g2 : P'.gi < P'.m
  L' : ¬ P.O P'.L
  a1 : ¬ P.O a
  a2 : P'.O a
  aL : a ≠ P'.L
  aC : a ∈ P'.C
  C : ∀ x ∈ P.C, x ∈ P'.C
  CN : ∀ x ∈ P.C, P.O x
  a7 : 714 ≤ a

theorem GRel.refl (P : GP) (s : Shared) : GRel P s s := ⟨fun _ _ e _ _ _ => e, fun _ o e => ⟨o, e⟩, fun _ _ => rfl, Nat.le_refl _, rfl, rfl⟩
theorem GRel.trans {P : GP} {s s' s'' : Shared} (x : GRel P s s') (y : GRel P s' s'') : GRel P s s'' :=
  ⟨fun b o e h1 h2 h3 => y.keep b o (x.keep b o e h1 h2 h3) h1 h2 h3, fun b o e => let ⟨o', e'⟩ := x.there b o e; y.there b o' e', fun i h => (y.gens i h).trans (x.gens i h), Nat.le_trans x.gsz y.gsz, y.os.trans x.os, y.dr.trans x.dr⟩
theorem gens_set_ne {g : Array GenState} {i j : Nat} {x : GenState} (h : i ≠ j) : (g.setIfInBounds j x)[i]? = g[i]? := by
  rw [Array.getElem?_setIfInBounds]; simp [Ne.symm h]
/-- a segment of the inner one, seen from the outer one -/
theorem GRel.sub {P P' : GP} {a : Addr} (S : Sub P P' a) {s s' : Shared} {x : GenState} (h : GRel P' (s.setGen P'.gi .running) s') : GRel P s (s'.setGen P'.gi x) := by
  refine ⟨fun b o e h1 h2 h3 => h.keep b o e ?_ h2 h3, h.there, fun i hi => ?_, ?_, h.os, h.dr⟩
  · rcases h1 with h1 | h1
    · exact .inl ⟨S.N _ h1.1, fun q => S.L' (q ▸ h1.1)⟩
    · exact .inr h1
  · have := S.g1
    show (s'.gens.setIfInBounds P'.gi x)[i]? = _
    rw [gens_set_ne (by omega), h.gens i (by have := S.m; omega)]
    exact gens_set_ne (by omega)
  · have := h.gsz
    show _ ≤ (s'.gens.setIfInBounds P'.gi x).size
    rw [Array.size_setIfInBounds]
    have e : (s.setGen P'.gi .running).gens.size = s.gens.size := Array.size_setIfInBounds ..
    rw [e] at this; exact this
theorem MRel.sub {P P' : GP} {a : Addr} (S : Sub P P' a) {s s' : Shared} {x : GenState} (h : GRel P' (s.setGen P'.gi .running) s') : MRel P P' a s (s'.setGen P'.gi x) := by
  refine ⟨fun b o e h1 _ _ h4 h5 h6 => h.keep b o e (.inl ⟨h1, h4⟩) h5 h6, h.there, fun i h1 h2 h3 => ?_, ?_⟩
  · show (s'.gens.setIfInBounds P'.gi x)[i]? = _
    rw [gens_set_ne h3, h.gens i h2]
    exact gens_set_ne h3
  · have := h.gsz
    show _ ≤ (s'.gens.setIfInBounds P'.gi x).size
    rw [Array.size_setIfInBounds]
    have e : (s.setGen P'.gi .running).gens.size = s.gens.size := Array.size_setIfInBounds ..
    rw [e] at this; exact this
theorem MRel.con {P P' : GP} {a : Addr} (S : Sub P P' a) {s s' : Shared} (h : CRel P s s') : MRel P P' a s s' :=
  ⟨fun b o e _ h2 _ _ h5 h6 => h.keep.keep b o e h2 h5 h6, h.keep.there, fun i h1 _ _ => h.gens i h1, h.gsz⟩
/-- the object a alone is turned -/
theorem GRel.one {P : GP} {a : Addr} {s : Shared} {h' : Heap} (ha : ∀ b, P.O b → b ≠ P.L → b ≠ a) (hi : ∀ o, s.heap.get? a = some o → ¬ imm o) (hs : Heap.SameBut a s.heap h') (ho : ∃ o, h'.get? a = some o) : GRel P s { s with heap := h' } := by
  refine ⟨fun b o e h1 _ _ => (hs.2 _ (fun q => ?_)).trans e, fun b o e => ?_, fun _ _ => rfl, Nat.le_refl _, rfl, rfl⟩
  · subst q
    rcases h1 with h1 | h1
    · exact ha _ h1.1 h1.2 rfl
    · exact hi _ e h1
  · by_cases hb : b = a
    · subst hb; exact ho
    · exact ⟨o, (hs.2 _ hb).trans e⟩
theorem MRel.one {P P' : GP} {a : Addr} {s : Shared} {h' : Heap} (hs : Heap.SameBut a s.heap h') (ho : ∃ o, h'.get? a = some o) : MRel P P' a s { s with heap := h' } := by
  refine ⟨fun b o e _ _ h3 _ _ _ => (hs.2 _ h3).trans e, fun b o e => ?_, fun _ _ _ _ => rfl, Nat.le_refl _⟩
  by_cases hb : b = a
  · subst hb; exact ho
  · exact ⟨o, (hs.2 _ hb).trans e⟩
theorem Kp.one {a : Addr} {h h' : Heap} (hs : Heap.SameBut a h h') (ho : ∃ o, h'.get? a = some o) : Kp [a] h h' := by
  refine ⟨fun b o e h1 _ _ => (hs.2 _ (fun q => h1 (q ▸ .head _))).trans e, fun b o e => ?_⟩
  by_cases hb : b = a
  · subst hb; exact ho
  · exact ⟨o, (hs.2 _ hb).trans e⟩
theorem isGn_st {w : World} {h h' : Heap} {a : Addr} {g : Nat} (S : St w h) (ha : 714 ≤ a) (hg : IsGn h a g ∨ ∃ o vs, h.get? a = some o ∧ o.cls = .type "generator" ∧ o.data = .fields vs) (hs : Heap.SameBut a h h') : St w h' := by
  have : ∃ o, h.get? a = some o ∧ o.cls = .type "generator" := by
    rcases hg with ⟨o, _, _, e, c, _⟩ | ⟨o, _, e, c, _⟩ <;> exact ⟨o, e, c⟩
  obtain ⟨o, e, c⟩ := this
  exact S.same ha e (fun q => by rw [c] at q; exact absurd (Value.type.inj q) (by decide)) hs
end

section -- GenZ
open PySem PySem.W PySem.Calls PyProof.Rows
set_option linter.unusedVariables false
set_option maxRecDepth 100000
abbrev GP.sub (P : GP) (C' : List Addr) (O' : Addr → Prop) (m' : Nat) (L' : Addr) (gi' κ' : Nat) : GP := { P with C := C', O := O', m := m', L := L', gi := gi', κ := κ' }
abbrev yfC (a : Addr) : Code := .builtin "proto.yield_from" ⟨[.ref a, .bool false, .none], []⟩
theorem holding_none {α : Type} (m : Sem α) : PySem.holding [Value.none] m = m := rfl
theorem endsTheTurn {M : Model} {A : Around} {E : Value → Shared → Prop} {s : Shared} {e : Addr} {o : Obj} {Q : Bool → Shared → Prop} (ho : s.heap.get? e = some o) (hc : o.cls = .type "StopIteration") (q : Q true s) :
    wpAny M A (Builtin.Generator.endsTheTurnAsAValue false (.ref e)) Q E s := by
  have hT : s.TypeIs (.ref e) "StopIteration" := ⟨o, ho, hc⟩
  unfold Builtin.Generator.endsTheTurnAsAValue Builtin.Generator.isStopAndMetaclass
  refine wpAny_bind (wpAny_bind (wpAny_typeOf hT ?_))
  refine wpAny_bind (wpAny_of_eq isSubtype_stop ?_)
  refine wpAny_bind (wpAny_of_eq (a := Value.type "type") rfl ?_)
  exact wpAny_pure (wpAny_pure q)

theorem r_bind {P : GP} {its : List P.ι} {s₀ s : Shared} {code : Code} {fs : List Frame} {j : Nat} {α : Type} {m : Sem α} {K : α → Sem Fin} (F : Fw j code fs) (hj : j ≤ P.κ) (hk : P.κ ≤ 450)
    (h : wpAny (MM P.w) (AK (P.κ - j)) m (fun a s' => Run P its s₀ code fs (K a) s') (fun x s' => Run P its s₀ code fs (.raise x) s') s) : Run P its s₀ code fs (m >>= K) s := by
  rw [Sem.bind_eq_wrap']; exact r_wrap F hj hk h
theorem GRel.ext {P : GP} {s : Shared} {h' : Heap} (hk : ∀ b o, s.heap.get? b = some o → h'.get? b = some o) : GRel P s { s with heap := h' } :=
  ⟨fun b o e _ _ _ => hk b o e, fun b o e => ⟨o, hk b o e⟩, fun _ _ => rfl, Nat.le_refl _, rfl, rfl⟩
theorem MRel.ext {P P' : GP} {a : Addr} {s : Shared} {h' : Heap} (hk : ∀ b o, s.heap.get? b = some o → h'.get? b = some o) : MRel P P' a s { s with heap := h' } :=
  ⟨fun b o e _ _ _ _ _ _ => hk b o e, fun b o e => ⟨o, hk b o e⟩, fun _ _ _ _ => rfl, Nat.le_refl _⟩
theorem gens_set_self {g : Array GenState} {i : Nat} {x : GenState} (h : i < g.size) : (g.setIfInBounds i x)[i]? = some x := by
  rw [Array.getElem?_setIfInBounds]; simp [h]
theorem lt_of_gens {g : Array GenState} {i : Nat} {x : GenState} (h : g[i]? = some x) : i < g.size := by
  rcases Nat.lt_or_ge i g.size with h' | h'
  · exact h'
  · rw [Array.getElem?_eq_none h'] at h; cases h
theorem r_yf {P : GP} {C' : List Addr} {O' : Addr → Prop} {m' L' gi' κ' : Nat} {a : Addr} {j : Nat} {fs : List Frame} {rest : List P.ι} {sB : Shared} (S : Sub P (P.sub C' O' m' L' gi' κ') a) (F : Fw j (yfC a) fs) (hj : κ' + 1 + j ≤ P.κ) (hκ : P.κ ≤ 450)
    (hgd : fs.any Frame.guarded = false) (hIt : ∀ h h' v i, P.It h v i → (∀ b o, h.get? b = some o → ¬ (o.cls = .type "generator" ∧ ∃ vs, o.data = .fields vs) → h'.get? b = some o) → P.It h' v i)
    (hEnd : ∀ s₀ s, GRel P s₀ s → St P.w s.heap → MRel P (P.sub C' O' m' L' gi' κ') a sB s → (∀ i, m' ≤ i → i < s.gens.size → s.gens[i]? = some .finished) → s.gens[gi']? = some .finished → Run P rest s₀ (yfC a) fs (ret .none) s) :
    ∀ (its' : List P.ι) (gs : GenState) (s₀ s : Shared), GRel P s₀ s → St P.w s.heap → MRel P (P.sub C' O' m' L' gi' κ') a sB s → IsGn s.heap a gi' → s.gens[gi']? = some gs → liveG gs = true → Gives (P.sub C' O' m' L' gi' κ') its' gs (s.setGen gi' .running) →
      Run P (its' ++ rest) s₀ (yfC a) fs ((MM P.w).den (yfC a)) s := by
  intro its'
  induction its' with
  | nil =>
    intro gs s₀ s hR hS hM hg hgs hlv hG
    rw [den_builtin entry_yf]
    unfold Builtin.«proto.yield_from»
    simp only [pure_bind, Bool.false_eq_true, if_false, holding_none, beq_self_eq_true, if_true]
    rw [Sem.bind_eq_wrap', wr_attempt, wr_bind]
    refine r_wrap F (by omega) hκ (wpAny_rule ?_)
    rw [wr_bind]
    refine r_special (P' := P.sub C' O' m' L' gi' κ') (its' := []) rfl F hj hκ hS.lim hg hgs hG hlv ?_
    intro s' h' e hR' hS' hf hk he
    obtain ⟨o, t, e1, e2, e3⟩ := he
    have hS'' : St P.w h' := hS'.ext hk
    have hR1 := GRel.sub S (x := .finished) hR'
    have hM1 := MRel.sub S (x := .finished) hR'
    dsimp only
    refine r_bind F (by omega) hκ (endsTheTurn e1 e2 ?_)
    rw [if_pos rfl]
    refine r_bind F (by omega) hκ (wpAny_rule ?_)
    refine r_bind F (by omega) hκ (wpAny_field e1 e3 rfl ?_)
    have hlt : gi' < s'.gens.size := by
      have h1 := lt_of_gens hgs
      have h2 := hR'.gsz
      have e : (s.setGen gi' .running).gens.size = s.gens.size := Array.size_setIfInBounds ..
      exact Nat.lt_of_lt_of_le h1 (e ▸ h2)
    refine hEnd s₀ _ ((hR.trans hR1).trans (GRel.ext hk)) hS'' ((hM.trans hM1).trans (MRel.ext hk)) (fun i h1 h2 => ?_) (gens_set_self hlt)
    have hne : i ≠ gi' := by have := S.g2; dsimp only at this; omega
    show (s'.gens.setIfInBounds gi' .finished)[i]? = _
    rw [gens_set_ne hne]
    exact hf i h1 (by have e : (s'.gens.setIfInBounds gi' GenState.finished).size = s'.gens.size := Array.size_setIfInBounds ..; exact e ▸ h2)
  | cons it its' ih =>
    intro gs s₀ s hR hS hM hg hgs hlv hG
    rw [den_builtin entry_yf]
    unfold Builtin.«proto.yield_from»
    simp only [pure_bind, Bool.false_eq_true, if_false, holding_none, beq_self_eq_true, if_true]
    rw [Sem.bind_eq_wrap', wr_attempt, wr_bind]
    refine r_wrap F (by omega) hκ (wpAny_rule ?_)
    rw [wr_bind]
    refine r_special (P' := P.sub C' O' m' L' gi' κ') (its' := it :: its') rfl F hj hκ hS.lim hg hgs hG hlv ?_
    intro v s' gs' hR' hS' hI hlv' hn
    show Run P (it :: its' ++ rest) s₀ (yfC a) fs (_ >>= _) _
    obtain ⟨o, nm, qn, ho, hc, hd, hsl⟩ := hg
    have a2 : O' a := S.a2
    have aL : a ≠ L' := S.aL
    have a714 : 714 ≤ a := S.a7
    have ho' : s'.heap.get? a = some o := hR'.keep a o ho (.inl ⟨a2, aL⟩) (ne380 a714) (ne403 a714)
    have hT : (s'.setGen gi' gs').TypeIs (.ref a) "generator" := ⟨o, ho', hc⟩
    refine r_bind F (by omega) hκ (wpAny_typeOf hT ?_)
    dsimp only
    rw [look_close, pure_bind]
    have hni : ∀ o, s'.heap.get? a = some o → ¬ imm o := fun o' e' q => by
      rw [ho'] at e'; cases e'; exact absurd (Value.type.inj (hc.symm.trans q.1)) (by decide)
    refine r_bind F (by omega) hκ (slept_any (n := 0) (m := 1) ho' hc hd (by rcases hsl with hsl | hsl; exact .inl ⟨hsl, rfl⟩; exact .inr hsl) rfl fun h₁ e₁ b₁ => ?_)
    have hR1 := GRel.sub S (x := gs') hR'
    have hM1 := MRel.sub S (x := gs') hR'
    have hR2 : GRel P (s'.setGen gi' gs') { s'.setGen gi' gs' with heap := h₁ } := GRel.one (fun b hb _ q => S.a1 (by rw [← q]; exact hb)) hni b₁ ⟨_, e₁⟩
    have hS1 : St P.w h₁ := isGn_st (g := 0) hS' a714 (.inr ⟨o, _, ho', hc, hd⟩) b₁
    have hn1 : ({ o with slots := #[some (rawInt 1)] } : Obj).genNumber? = some gi' := by
      show (match o.cls, o.data with
        | .type "generator", .fields vs | .type "coroutine", .fields vs | .type "async_generator", .fields vs => (match vs.getD 0 .none with | .int g _ => some g.toNat | _ => none)
        | _, _ => none) = _
      rw [hc, hd]; rfl
    have hI1 : P.It h₁ v it := hIt _ _ _ _ hI fun b ob eb hq => (b₁.2 _ (fun q => by subst q; rw [ho'] at eb; cases eb; exact hq ⟨hc, _, hd⟩)).trans eb
    show Run P (it :: (its' ++ rest)) s₀ (yfC a) fs (.yield v true [] fun w => _) _
    refine r_yieldC F hgd ((hR.trans hR1).trans hR2) hS1 hI1 e₁ hn1 fun s₂ hc2 => ?_
    have e₂ : s₂.heap.get? a = some { o with slots := #[some (rawInt 1)] } := hc2.keep.keep a _ e₁ (fun q => S.a1 (S.CN a q)) (ne380 a714) (ne403 a714)
    show Run P (its' ++ rest) s₂ (yfC a) fs (Builtin.Generator.sleptOver (.ref a) false >>= _) s₂
    refine r_bind F (by omega) hκ (slept_any (n := 1) (m := 0) e₂ hc hd (.inr rfl) rfl fun h₃ e₃ b₃ => ?_)
    refine r_bind F (by omega) hκ (wpAny_of_eq (a := Value.none) rfl ?_)
    refine r_again (plainId_quiet plain_yf _) ?_
    have hni3 : ∀ o, s₂.heap.get? a = some o → ¬ imm o := fun o' e' q => by
      rw [e₂] at e'; cases e'; exact absurd (Value.type.inj (hc.symm.trans q.1)) (by decide)
    have hR3 : GRel P s₂ { s₂ with heap := h₃ } := GRel.one (fun b hb _ q => S.a1 (by rw [← q]; exact hb)) hni3 b₃ ⟨_, e₃⟩
    have hS3 : St P.w h₃ := isGn_st (g := 0) hc2.st a714 (.inr ⟨_, _, e₂, hc, hd⟩) b₃
    have hlt : gi' < s'.gens.size := by
      have h1 := lt_of_gens hgs
      have h2 := hR'.gsz
      have e : (s.setGen gi' .running).gens.size = s.gens.size := Array.size_setIfInBounds ..
      exact Nat.lt_of_lt_of_le h1 (e ▸ h2)
    have hg3 : s₂.gens[gi']? = some gs' := (hc2.gens gi' S.g1).trans (gens_set_self hlt)
    refine ih gs' s₂ _ hR3 hS3 ((((hM.trans hM1).trans (MRel.one b₁ ⟨_, e₁⟩)).trans (MRel.con S hc2)).trans (MRel.one b₃ ⟨_, e₃⟩)) ⟨_, nm, qn, e₃, hc, hd, .inr rfl⟩ hg3 hlv' (hn _ ?_)
    refine ⟨?_, hS3, fun i hi => ?_, ?_, hc2.os, hc2.dr⟩
    · exact ((Kp.one b₁ ⟨_, e₁⟩).mono (fun x hx => by rw [List.mem_singleton.mp hx]; exact S.aC)).trans ((hc2.keep.mono S.C).trans ((Kp.one b₃ ⟨_, e₃⟩).mono (fun x hx => by rw [List.mem_singleton.mp hx]; exact S.aC)))
    · have hne : i ≠ gi' := by have h1 : gi' < m' := S.g2; have h2 : m' ≤ i := hi; omega
      show (s₂.gens.setIfInBounds gi' .running)[i]? = _
      rw [gens_set_ne hne, hc2.gens i (Nat.le_trans S.m hi)]
      exact gens_set_ne hne
    · have e : (s₂.gens.setIfInBounds gi' GenState.running).size = s₂.gens.size := Array.size_setIfInBounds ..
      have e' : (s'.gens.setIfInBounds gi' gs').size = s'.gens.size := Array.size_setIfInBounds ..
      have := hc2.gsz
      show s'.gens.size ≤ (s₂.gens.setIfInBounds gi' GenState.running).size
      rw [e, ← e']; exact this
end

section -- GenS
open PySem PySem.W PySem.Calls PyProof.Rows
set_option linter.unusedVariables false
set_option maxRecDepth 100000
/-- a judgement that walks trees under frames -/
structure Jd (w : World) where
  J : Code → List Frame → Sem Fin → Shared → Prop
  Ok : Around → Code → List Frame → Prop
  wrap : ∀ {α : Type} {A c fs} {m : Sem α} {K : α → Sem Fin} {H gd lv s}, Ok A c fs → wpAny (MM w) A m (fun a s' => J c fs (K a) s') (fun x s' => J c fs (H x) s') s → J c fs (m.wrap K H gd lv) s
  call : ∀ {c fs c' h g l} {k : Result → Sem Fin} {s}, (∀ p, J c' (.ret k h g l c p [] :: fs) ((MM w).den c') s) → J c fs (.call c' h g l k) s
  ret : ∀ {c c' fs k h g l p' kp s} (r : Result), J c' fs (k r) s → J c (.ret k h g l c' p' kp :: fs) (leafOf r) s
  again : ∀ {c c' fs s}, c'.quiet = true → J c' fs ((MM w).den c') s → J c fs (.pure (.again c')) s
  «at» : ∀ {c fs p'} {k : Unit → Sem Fin} {s}, J c fs (k ()) s → J c fs (.at p' k) s
  point : ∀ {c fs l} {k : Unit → Sem Fin} {s}, J c fs (k ()) s → J c fs (.point l k) s

def jRun (P : GP) (its : List P.ι) (s₀ : Shared) : Jd P.w where
  J := Run P its s₀
  Ok := fun A c fs => ∃ j, A = AK (P.κ - j) ∧ Fw j c fs ∧ j ≤ P.κ ∧ P.κ ≤ 450
  wrap := fun ⟨j, e, F, hj, hk⟩ h => by subst e; exact r_wrap F hj hk h
  call := r_call
  ret := r_ret
  again := r_again
  «at» := r_at
  point := r_point
def jGo (w : World) (Φ : Outcome → Shared → Prop) : Jd w where
  J := GoT (MM w) Φ
  Ok := fun A c st => ∃ d u, A = AA d u ∧ Rm c st d u
  wrap := fun ⟨d, u, e, hr⟩ h => by subst e; exact g_wrap hr h
  call := g_call
  ret := g_ret
  again := g_again
  «at» := g_at
  point := g_point
theorem Fw.ret {j code fs c' k g l p kp} (F : Fw j code fs) (hw : c'.weight ≤ 2) (hu : c'.cUnits ≤ 8) : Fw (j + 1) c' (.ret k none g l code p kp :: fs) := by
  refine ⟨fun f hf => ?_, ?_, ?_⟩
  · rcases List.mem_cons.mp hf with rfl | hf
    · exact ⟨_, _, _, _, _, _, rfl⟩
    · exact F.hd f hf
  · show frameCount ((code, p) :: fs.map Frame.where_) + _ ≤ _
    rw [frameCount_cons]; have := F.dp; omega
  · show unitsOf ((code, p) :: fs.map Frame.where_) + _ ≤ _
    rw [unitsOf_cons]; have := F.un; omega
theorem Fw.goto {j code fs c'} (F : Fw j code fs) (hw : c'.weight ≤ code.weight) (hu : c'.cUnits ≤ code.cUnits) : Fw j c' fs := ⟨F.hd, by have := F.dp; omega, by have := F.un; omega⟩

section
variable {w : World} {X : Jd w} {A : Around} {c : Code} {fs : List Frame} {s : Shared} {env : Env} {K : Flow → Sem Fin} {H : Value → Sem Fin} {gd : Bool → Bool} {lv : List Value → List Value}
theorem j_bind {α : Type} {m : Sem α} {K : α → Sem Fin} (o : X.Ok A c fs) (h : wpAny (MM w) A m (fun a s' => X.J c fs (K a) s') (fun x s' => X.J c fs (.raise x) s') s) : X.J c fs (m >>= K) s := by
  rw [Sem.bind_eq_wrap']; exact X.wrap o h
/-- the rest of a block behind a statement, under a continuation -/
def kSeq (rest : List Stmt) (env : Env) (K : Flow → Sem Fin) (H : Value → Sem Fin) (gd : Bool → Bool) (lv : List Value → List Value) (f : Flow) : Sem Fin := match f with | .next => (execs rest env).wrap K H gd lv | f => K f
theorem j_cons {st : Stmt} {rest : List Stmt} (h : X.J c fs ((exec st env).wrap (kSeq rest env K H gd lv) H gd lv) s) : X.J c fs ((execs (st :: rest) env).wrap K H gd lv) s := by
  rw [execs_cons_wrap]; exact h
theorem j_nil (h : X.J c fs (K .next) s) : X.J c fs ((execs [] env).wrap K H gd lv) s := h
/-- a calm statement -/
theorem j_calm {st : Stmt} {rest : List Stmt} (o : X.Ok A c fs) (h : wpAny (MM w) A (exec st env) (fun f s' => X.J c fs (kSeq rest env K H gd lv f) s') (fun x s' => X.J c fs (H x) s') s) : X.J c fs ((execs (st :: rest) env).wrap K H gd lv) s :=
  j_cons (X.wrap o h)
theorem j_seq {rest : List Stmt} (h : X.J c fs ((execs rest env).wrap K H gd lv) s) : X.J c fs (kSeq rest env K H gd lv .next) s := h
theorem j_out {rest : List Stmt} {f : Flow} (hf : f ≠ .next) (h : X.J c fs (K f) s) : X.J c fs (kSeq rest env K H gd lv f) s := by
  cases f <;> first | exact absurd rfl hf | exact h
theorem j_If {test : Expr} {body orelse : List Stmt} {pos : Pos} (o : X.Ok A c fs)
    (h : wpAny (MM w) A (isTrue test env (eval test env)) (fun b s' => X.J c fs ((if b = true then execs body env else execs orelse env).wrap K H gd lv) s') (fun x s' => X.J c fs (H x) s') s) :
    X.J c fs ((exec (.If test body orelse pos) env).wrap K H gd lv) s := by
  show X.J c fs (.at pos fun _ => (isTrue test env (eval test env) >>= fun b => if b = true then execs body env else execs orelse env).wrap K H gd lv) s
  rw [wr_bind]
  exact X.at (X.wrap o h)
theorem j_Continue {pos : Pos} (h : X.J c fs (K .cont) s) : X.J c fs ((exec (.Continue pos) env).wrap K H gd lv) s := X.at h
theorem j_Break {pos : Pos} (h : X.J c fs (K .brk) s) : X.J c fs ((exec (.Break pos) env).wrap K H gd lv) s := X.at h
theorem j_While {test : Expr} {body orelse : List Stmt} {pos : Pos}
    (h : ∀ k' p, (∀ f, k' (.ok f) = K f) → X.J (.whileLoop test body orelse env) (.ret k' none (gd false) (lv []) c p [] :: fs) ((MM w).den (.whileLoop test body orelse env)) s) :
    X.J c fs ((exec (.While test body orelse pos) env).wrap K H gd lv) s :=
  X.at (X.call fun p => h _ p fun _ => rfl)
theorem j_For {target iter : Expr} {body orelse : List Stmt} {pos : Pos} (o : X.Ok A c fs)
    (h : wpAny (MM w) A (eval iter env) (fun x s₁ => wpAny (MM w) A (pyIter x) (fun it s₂ =>
      ∀ k' p g l, (∀ f, k' (.ok f) = K f) → g = gd false → X.J (.forLoop target it body orelse env) (.ret k' none g l c p [] :: fs) ((MM w).den (.forLoop target it body orelse env)) s₂) (fun x s' => X.J c fs (H x) s') s₁) (fun x s' => X.J c fs (H x) s') s)
    (hs : ∀ x, foldedSetIterable iter env x = pure x := by intro _; rfl) :
    X.J c fs ((exec (.For target iter body orelse pos) env).wrap K H gd lv) s := by
  rw [exec_For]
  refine X.at ?_
  show X.J c fs ((eval iter env >>= fun x => foldedSetIterable iter env x >>= fun x => standAt iter.pos >>= fun _ => PySem.holding [x] (pyIter x) >>= fun it => runOwn (.forLoop target it body orelse env) env).wrap K H gd lv) s
  rw [wr_bind]
  refine X.wrap o (wpAny_mono h (fun x s₁ h₁ => ?_) fun _ _ x => x)
  rw [hs, pure_bind, wr_bind]
  refine X.at ?_
  show X.J c fs ((PySem.holding [x] (pyIter x) >>= fun it => runOwn (.forLoop target it body orelse env) env).wrap K H gd lv) s₁
  rw [wr_bind]
  refine X.wrap o (wpAny_holding (wpAny_mono h₁ (fun it s₂ h₂ => ?_) fun _ _ x => x))
  unfold runOwn run
  exact X.call fun p => h₂ _ p _ _ (fun _ => rfl) rfl
def kBody (again : Code) (f : Flow) : Sem Fin := match f with
  | .next | .cont => .pure (.again again)
  | .brk => .pure (.done .next)
  | .ret v => .pure (.done (.ret v))
def hLoop (env : Env) (x : Value) : Sem Fin := (do noteFrame x env; theTreesLotGoes x : Sem Unit).wrap (fun _ => .raise x) .raise id id
theorem j_whileTurn {test : Expr} {body orelse : List Stmt} (o : X.Ok A (.whileLoop test body orelse env) fs)
    (h : wpAny (MM w) A (isTrue test env (eval test env)) (fun b s' => if b = true then X.J (.whileLoop test body orelse env) fs ((execs body env).wrap (kBody (.whileLoop test body orelse env)) (hLoop env) id id) s'
      else X.J (.whileLoop test body orelse env) fs ((execs orelse env).wrap (fun f => .pure (.done f)) (hLoop env) id id) s') (fun x s' => X.J (.whileLoop test body orelse env) fs (hLoop env x) s') s) :
    X.J (.whileLoop test body orelse env) fs ((MM w).den (.whileLoop test body orelse env)) s := by
  have e : (MM w).den (.whileLoop test body orelse env) = (isTrue test env (eval test env)).wrap (fun b => if b = true then (execs body env).wrap (kBody (.whileLoop test body orelse env)) (hLoop env) id id else (execs orelse env).wrap (fun f => .pure (.done f)) (hLoop env) id id) (hLoop env) id id := by
    show ((whileTurn test body orelse env).onRaise (fun x => do noteFrame x env; theTreesLotGoes x)) = _
    unfold whileTurn
    rw [Sem.onRaise_eq_wrap, wr_bind]
    refine Sem.wrap_congr _ _ _ (fun b => ?_) (fun e => ?_)
    · cases b
      · show (execs orelse env >>= _).wrap _ _ _ _ = _
        rw [if_neg Bool.false_ne_true, wr_bind]
        exact Sem.wrap_congr _ _ _ (fun f => rfl) fun e => (by rw [Sem.bind_eq_wrap]; rfl)
      · show (execs body env >>= _).wrap _ _ _ _ = _
        rw [if_pos rfl, wr_bind]
        exact Sem.wrap_congr _ _ _ (fun f => by cases f <;> rfl) fun e => (by rw [Sem.bind_eq_wrap]; rfl)
    · rw [Sem.bind_eq_wrap]; rfl
  rw [e]
  exact X.wrap o (wpAny_mono h (fun b s' h' => by cases b <;> exact h') fun _ _ x => x)
theorem j_forTurn {target : Expr} {it : Value} {body orelse : List Stmt} (o : X.Ok A (.forLoop target it body orelse env) fs)
    (h : ∀ (Kn : Option Value → Sem Fin) Hn,
      (∀ s', X.J (.block orelse env) fs ((MM w).den (.block orelse env)) s' → X.J (.forLoop target it body orelse env) fs (Kn none) s') →
      (∀ v s', wpAny (MM w) A (letOwnedTupleGo target it v) (fun _ s₁ => wpAny (MM w) A (assign target env v) (fun _ s₂ =>
          X.J (.forLoop target it body orelse env) fs ((execs body env).wrap (kBody (.forLoop target it body orelse env)) (hLoop env) id id) s₂)
          (fun x s' => X.J (.forLoop target it body orelse env) fs (hLoop env x) s') s₁) (fun x s' => X.J (.forLoop target it body orelse env) fs (hLoop env x) s') s' → X.J (.forLoop target it body orelse env) fs (Kn (some v)) s') →
      X.J (.forLoop target it body orelse env) fs ((pyNext it).wrap Kn Hn id id) s) :
    X.J (.forLoop target it body orelse env) fs ((MM w).den (.forLoop target it body orelse env)) s := by
  show X.J _ fs ((forTurn target it body orelse env).onRaise (fun x => do noteFrame x env; theTreesLotGoes x)) s
  unfold forTurn
  rw [Sem.onRaise_eq_wrap, wr_bind]
  refine X.at ?_
  show X.J _ fs (Sem.wrap _ _ _ _ ((pyNext it).onRaise (fun _ => standAt { target.pos with line := 0 }) >>= _)) s
  rw [wr_bind, wr_onRaise]
  refine h _ _ (fun s' h' => ?_) (fun v s' h' => ?_)
  · exact X.again rfl h'
  · show X.J _ fs ((letOwnedTupleGo target it v >>= fun _ => assign target env v >>= fun _ => execs body env >>= _).wrap _ _ _ _) s'
    rw [wr_bind]
    have eh : ∀ e, ((noteFrame e env >>= fun _ => theTreesLotGoes e).bind fun _ => (.raise e : Sem Fin)) = hLoop env e := fun e => by
      rw [Sem.bind_eq_wrap]; rfl
    refine X.wrap o (wpAny_mono h' (fun _ s₁ h₁ => ?_) fun x s₁ h₁ => by rw [eh]; exact h₁)
    rw [wr_bind]
    refine X.wrap o (wpAny_mono h₁ (fun _ s₂ h₂ => ?_) fun x s₁ h₁ => by rw [eh]; exact h₁)
    rw [wr_bind]
    rw [Sem.wrap_congr (execs body env) _ _ (K' := kBody (.forLoop target it body orelse env)) (H' := hLoop env) (fun f => by cases f <;> rfl) eh]
    exact h₂
theorem j_block {stmts : List Stmt} (h : X.J (.block stmts env) fs ((execs stmts env).wrap (fun f => .pure (.done f)) (hLoop env) id id) s) : X.J (.block stmts env) fs ((MM w).den (.block stmts env)) s := by
  show X.J _ fs ((execs stmts env).onRaise (fun x => do noteFrame x env; theTreesLotGoes x) >>= fun f => pure (Fin.done f)) s
  rw [Sem.bind_eq_wrap', wr_onRaise]
  exact h
theorem j_func {body : List Stmt} (h : X.J (.func body env) fs ((execs body env).wrap (fun f => .pure (.done (.ret (match f with | .ret v => v | _ => .none)))) (fun e => (leaving env e).wrap (fun _ => .raise e) .raise id id) id id) s) :
    X.J (.func body env) fs ((MM w).den (.func body env)) s := by
  show X.J _ fs (.point [] fun _ => ((execs body env).onRaise (leaving env)) >>= _) s
  refine X.point ?_
  rw [Sem.onRaise_eq_wrap, Sem.bind_eq_wrap', Sem.wrap_wrap]
  rw [Sem.wrap_congr (execs body env) _ _ (K' := fun f => .pure (.done (.ret (match f with | .ret v => v | _ => .none))))
    (H' := fun e => (leaving env e).wrap (fun _ => .raise e) .raise id id) (fun f => by cases f <;> rfl)
    (fun e => by rw [Sem.bind_eq_wrap, Sem.wrap_wrap]; rfl)]
  exact h
/-- `yield e` as a statement -/
theorem j_Yield {e : Expr} {ypos pos : Pos} (o : X.Ok A c fs) (h : wpAny (MM w) A (eval e env) (fun v s' => X.J c fs (.yield v (gd false) (lv []) fun r => (match r with | .send x => (pure x : Sem Value) | .throw e => raiseThrown e).wrap (fun x => (dropValue (.Yield (some e) ypos) pos x).wrap K H gd lv) H gd lv) s') (fun x s' => X.J c fs (H x) s') s)
    (hco : env.scope.isCoroutine = false) (hi : interactive env = false) : X.J c fs ((exec (.Expr (.Yield (some e) ypos) pos) env).wrap K H gd lv) s := by
  rw [exec_Expr env _ pos hi rfl]
  show X.J c fs (.at pos fun _ => ((eval e env >>= fun v => (standAt ypos >>= fun _ => yieldOut env v)) >>= fun x => dropValue (.Yield (some e) ypos) pos x).wrap K H gd lv) s
  have hy : ∀ v, yieldOut env v = yieldValue v := fun v => by simp only [yieldOut, hco, Bool.false_eq_true, if_false]
  simp only [hy]
  refine X.at ?_
  rw [wr_bind, wr_bind]
  refine X.wrap o (wpAny_mono h (fun v s' h' => ?_) fun _ _ x => x)
  rw [wr_bind]
  refine X.at ?_
  show X.J c fs ((yieldValue v).wrap _ H gd lv) s'
  unfold yieldValue
  rw [wr_bind]
  exact h'
end
end

section -- M1
open PySem PySem.W PySem.Calls PyProof.Rows
set_option maxHeartbeats 0
set_option linter.unusedVariables false
set_option maxRecDepth 100000
def isGn (n : Nat) : Pr := fun o => ∃ nm qn, o.cls = .type "generator" ∧ o.data = .fields #[.int n 0, nm, qn] ∧ (o.slots = #[] ∨ o.slots = #[some (rawInt 0)])
theorem nc_gn {n : Nat} {o : Obj} (x : isGn n o) : NC o := fun q => by obtain ⟨_, _, c, _⟩ := x; rw [c] at q; exact absurd (Value.type.inj q) (by decide)
theorem isGn_at {h : Heap} {a n : Nat} (x : ∃ o, h.get? a = some o ∧ isGn n o) : IsGn h a n := let ⟨o, e, nm, qn, c, d, s⟩ := x; ⟨o, nm, qn, e, c, d, s⟩
theorem G.gn {w : World} {h₀ h : Heap} {W : List Addr} {D : Dl} {a n : Nat} (H : G w h₀ W h D) (hm : (a, isGn n) ∈ D) : IsGn h a n := isGn_at (H.get hm)
/-- a call of a generator: its frame, the generator -/
theorem enterGen {w : World} {A : Around} {k : Nat} {R : Result → Shared → Prop} {h₀ h : Heap} {W : List Addr} {D : Dl} {g : Array GenState} {d : Drawn} {t : Nat} {os : OsState} {f : Addr} {o : Obj} {fd : FuncData} {body : List Stmt} {args : Args} {binds : List (Str × Value)} (l : Nl)
    (hA : AOk A (k + 1)) (H : G w h₀ W h D) (ho : h.get? f = some o) (hdat : o.data = .func fd) (hcd : h.CodeRec fd.code fd.qualname) (hbody : fd.body = .stmts body)
    (hbind : BindsTo ⟨h, g, d, t, os⟩ fd args binds)
    (hl : (fd.scope.names.all (fun x => x.2 != .cell) && binds.all (fun x => fd.scope.names.lookup x.1 == some .local) && (fd.scope.kind == .function) && !fd.scope.isCoroutine && fd.scope.isGenerator && (fd.globals == mainGlobals) && (fd.builtins == builtinsNs) &&
       decide (fd.scope.names.map (·.1)).Nodup && decide (fd.closure.map (·.1)).Nodup && decide (l.map (·.1)).Nodup) = true)
    (hlv : LocOk binds l)
    (q : ∀ env L a h' t', EnvOk env L fd.scope.names fd.closure → G w h₀ W h' ((a, isGn g.size) :: (L, fr l) :: D) → Kp [] h h' → h.get? L = none → h.get? a = none → R (.ok (.ret (.ref a))) ⟨h', g.push (.fresh (.func body env)), d, t', os⟩) :
    codeAny (MM w) A (.call (.ref f) args) R ⟨h, g, d, t, os⟩ := by
  simp only [Bool.and_eq_true, Bool.not_eq_true', decide_eq_true_eq, beq_iff_eq] at hl
  obtain ⟨⟨⟨⟨⟨⟨⟨⟨⟨h1, h2⟩, h3⟩, h4⟩, h5⟩, h6⟩, h7⟩, h8⟩, h9⟩, h10⟩ := hl
  refine codeAny_call_generator hA.room ho hdat h4 h5 hbody hcd (hbind _ _ _ _ ?_)
  refine wpAny_newFunctionEnv (fun x hx => by simpa using List.all_eq_true.mp h1 x hx) (fun x hx => by simpa using List.all_eq_true.mp h2 x hx) (fun hh hns hsb => ⟨H.st.lim.fresh _ hsb, ?_⟩) h3
  have hk : ∀ b o, h.get? b = some o → hh.get? b = some o := fun b o e => hsb.extBut b o (Nat.ne_of_lt (Heap.lt_size e)) (Heap.get?_push_of_some _ e)
  have ev : EnvOk (callEnv fd h.objs.size f) h.objs.size fd.scope.names fd.closure := envOk_of h3 h6 h7 h8 h9 h4
  obtain ⟨oL, es, ep, e1, e2, e3, e4⟩ := hns
  have n := H.new (get_size h)
  have H' : G w h₀ W hh ((h.objs.size, fr l) :: D) := (H.ext hk).add' e1 (fun _ vs q => by rw [e2] at q; cases q) ⟨h10, es, ep, e2, e3, fun p hp v hv => (e4 _).trans (hlv.at p hp v hv)⟩ H.st.big n.1 n.2
  have n2 : h.get? hh.objs.size = none := by
    cases q : h.get? hh.objs.size with
    | none => rfl
    | some o => have := hk _ _ q; rw [get_size] at this; cases this
  exact q _ _ _ _ _ ev (H'.push (P := isGn g.size) _ rfl (nc_gn (n := g.size) ⟨_, _, rfl, rfl, .inl rfl⟩) ⟨_, _, rfl, rfl, .inl rfl⟩) (((Kp.refl [] h).ext hk).ext fun b o e => Heap.get?_push_of_some _ e) (get_size h) n2
end

section -- M2
open PySem PySem.W PySem.Calls PyProof.Rows
set_option maxHeartbeats 0
set_option linter.unusedVariables false
set_option maxRecDepth 100000
/-- none of these is a tuple -/
def NT : Dl → Prop
  | [] => True
  | p :: r => (∀ o, p.2 o → ¬ imm o) ∧ NT r
theorem NT.all : ∀ {D : Dl}, NT D → ∀ p ∈ D, ∀ o, p.2 o → ¬ imm o
  | [], _, p, hp => nomatch hp
  | q :: r, x, p, hp => by
    rcases List.mem_cons.mp hp with rfl | hp
    · exact x.1
    · exact NT.all x.2 p hp
theorem nt_data {o : Obj} (h : ∀ xs n, o.data ≠ .seq xs n) : ¬ imm o := fun ⟨_, xs, n, e⟩ => h xs n e
theorem nt_fr {l : Nl} : ∀ o, fr l o → ¬ imm o := fun o ⟨_, es, ep, e, _⟩ => nt_data fun xs n q => by rw [e] at q; cases q
theorem nt_li {a i} : ∀ o, isLI a i o → ¬ imm o := fun o x => nt_data fun xs n q => by rw [x.2] at q; cases q
theorem nt_ti {a i} : ∀ o, isTI a i o → ¬ imm o := fun o x => nt_data fun xs n q => by rw [x.2] at q; cases q
theorem nt_gn {n} : ∀ o, isGn n o → ¬ imm o := fun o ⟨_, _, _, e, _⟩ => nt_data fun xs n q => by rw [e] at q; cases q
theorem nt_pl {vs} : ∀ o, isPL vs o → ¬ imm o := fun o x q => by have := x.1; rw [q.1] at this; exact absurd (Value.type.inj this) (by decide)
theorem nt_in {C dx} : ∀ o, isIn C dx o → ¬ imm o := fun o x q => by cases x; exact absurd q.1 (by intro q; cases q)
theorem nt_nsx {k l} : ∀ o, nsx k l o → ¬ imm o := fun o ⟨es, ep, e, _⟩ => nt_data fun xs n q => by rw [e] at q; cases q
theorem nt_dd {w kvs} : ∀ o, isDD w kvs o → ¬ imm o := fun o ⟨es, ep, _, e, _⟩ => nt_data fun xs n q => by rw [e] at q; cases q
theorem nt_en {I i} : ∀ o, isEn I i o → ¬ imm o := fun o x => nt_data fun xs n q => by
  obtain ⟨T, rfl⟩ := x; cases q

structure GOk (P : GP) : Prop where
  LC : P.L ∉ P.C
  CN : ∀ x ∈ P.C, P.O x
  κ : P.κ ≤ 450
/-- in a generator: at resume s₀, now s; D in hand, good kept -/
structure GS (P : GP) (good : Addr → Prop) (s₀ s : Shared) (D : Dl) (F : Nat → Prop) : Prop where
  R : GRel P s₀ s
  g : G P.w s.heap (D.map (·.1)) s.heap D
  own : ∀ p ∈ D, p.1 = P.L ∨ ¬ P.O p.1
  nt : NT D
  L : P.L ∈ D.map (·.1)
  ex : ∀ b, P.O b → ∃ o, s.heap.get? b = some o
  gd : ∀ b, good b → 714 ≤ b ∧ b ∉ P.C ∧ b ∉ D.map (·.1) ∧ ∃ o, s.heap.get? b = some o
  fin : ∀ i, P.m ≤ i → F i → i < s.gens.size → s.gens[i]? = some .finished
  ms : P.m ≤ s.gens.size
section
variable {P : GP} {good : Addr → Prop} {s₀ s : Shared} {D D' T : Dl} {h h' : Heap} {g : Array GenState} {d : Drawn} {t t' : Nat} {os : OsState} {F : Nat → Prop}
theorem GS.st (X : GS P good s₀ s D F) : St P.w s.heap := X.g.st
theorem GS.noC (K : GOk P) (X : GS P good s₀ s D F) : ∀ b ∈ D.map (·.1), b ∉ P.C := fun b hb hc => by
  obtain ⟨p, hp, rfl⟩ := List.mem_map.mp hb
  rcases X.own p hp with h | h
  · exact K.LC (h ▸ hc)
  · exact h (K.CN _ hc)
theorem GS.keeps (X : GS P good s₀ s D F) (N : Kp (D.map (·.1)) s.heap h') : Keeps good s.heap h' := N.keeps fun b hb => ⟨(X.gd b hb).1, (X.gd b hb).2.2.1⟩
theorem GS.calm (K : GOk P) (X : GS P good s₀ ⟨h, g, d, t, os⟩ D F) (N : G P.w h (D.map (·.1)) h' (T ++ D')) (nt : NT D') (hL : P.L ∈ D'.map (·.1)) : GS P (fun b => good b ∨ b ∈ T.map (·.1)) s₀ ⟨h', g, d, t', os⟩ D' F := by
  have ndT := N.nd
  rw [List.map_append, List.nodup_append] at ndT
  have NR := (N.sub (List.sublist_append_right T D')).restart
  have hO : ∀ p ∈ T ++ D', p.1 = P.L ∨ ¬ P.O p.1 := fun p hp => by
    rcases (N.dyn p hp).2 with h1 | h1
    · obtain ⟨q, hq, e⟩ := List.mem_map.mp h1
      rw [← e]; exact X.own q hq
    · refine .inr fun q => ?_
      obtain ⟨o, e⟩ := X.ex _ q
      rw [h1] at e; cases e
  have kk : ∀ b o, h.get? b = some o → (P.O b ∧ b ≠ P.L) ∨ imm o → b ∉ D.map (·.1) := fun b o e hb hm => by
    obtain ⟨p, hp, rfl⟩ := List.mem_map.mp hm
    rcases hb with hb | hb
    · rcases X.own p hp with h1 | h1
      · exact hb.2 h1
      · exact h1 hb.1
    · obtain ⟨o', e', _, hp'⟩ := X.g.own p hp
      have e' : h.get? p.1 = some o' := e'
      rw [e] at e'; cases e'
      exact X.nt.all p hp _ hp' hb
  refine ⟨X.R.trans ⟨fun b o e h1 h2 h3 => N.kp.keep b o e (kk b o e h1) h2 h3, N.kp.there, fun _ _ => rfl, Nat.le_refl _, rfl, rfl⟩, NR, fun p hp => hO p (List.mem_append_right _ hp), nt, hL, fun b hb => ?_, fun b hb => ?_, X.fin, X.ms⟩
  · obtain ⟨o, e⟩ := X.ex b hb
    exact N.kp.there b o e
  · rcases hb with hb | hb
    · obtain ⟨h7, hC, hD, o, e⟩ := X.gd b hb
      have e : h.get? b = some o := e
      have e1 := N.kp.keep b o e hD (ne380 h7) (ne403 h7)
      refine ⟨h7, hC, fun hm => ?_, o, e1⟩
      obtain ⟨p, hp, rfl⟩ := List.mem_map.mp hm
      rcases (N.dyn p (List.mem_append_right _ hp)).2 with h1 | h1
      · exact hD h1
      · rw [e] at h1; cases h1
    · obtain ⟨p, hp, rfl⟩ := List.mem_map.mp hb
      have hp' := List.mem_append_left D' hp
      obtain ⟨o, e, _⟩ := N.own p hp'
      refine ⟨(N.dyn p hp').1, fun hc => ?_, fun hm => ndT.2.2 _ hb _ hm rfl, o, e⟩
      rcases hO p hp' with h1 | h1
      · exact K.LC (h1 ▸ hc)
      · exact h1 (K.CN _ hc)
theorem GS.calm0 (K : GOk P) (X : GS P good s₀ ⟨h, g, d, t, os⟩ D F) (N : G P.w h (D.map (·.1)) h' D') (nt : NT D') (hL : P.L ∈ D'.map (·.1)) : GS P good s₀ ⟨h', g, d, t', os⟩ D' F := by
  have := X.calm (t' := t') K (T := []) (D' := D') N nt hL
  exact ⟨this.R, this.g, this.own, this.nt, this.L, this.ex, fun b hb => this.gd b (.inl hb), this.fin, this.ms⟩
theorem GS.less {good' : Addr → Prop} (X : GS P good s₀ s D F) (hg : ∀ b, good' b → good b) : GS P good' s₀ s D F := ⟨X.R, X.g, X.own, X.nt, X.L, X.ex, fun b hb => X.gd b (hg b hb), X.fin, X.ms⟩
/-- some of what is in hand is held as kept -/
theorem GS.hold (K : GOk P) (X : GS P good s₀ s (T ++ D) F) (hL : P.L ∈ D.map (·.1)) : GS P (fun b => good b ∨ b ∈ T.map (·.1)) s₀ s D F := by
  obtain ⟨h, g, d, t, os⟩ := s
  refine X.calm (T := T) K ?_ ?_ hL
  · exact X.g
  · have h := X.nt
    have : ∀ {T D : Dl}, NT (T ++ D) → NT D := fun {T D} => by
      induction T with
      | nil => exact id
      | cons p T ih => exact fun x => ih x.2
    exact this h
/-- the consumer's turn -/
theorem GS.yielded (K : GOk P) (X : GS P good s₀ s D F) {s'' : Shared} (C : CRel P s s'') : GS P good s'' s'' D F ∧ Keeps good s.heap s''.heap := by
  refine ⟨⟨GRel.refl P s'', ⟨C.st, Kp.refl _ _, fun p hp => ?_, fun p hp => ⟨(X.g.dyn p hp).1, .inl (List.mem_map_of_mem (f := (·.1)) hp)⟩, X.g.nd, C.st.big⟩, X.own, X.nt, X.L, fun b hb => ?_, fun b hb => ?_, fun i h1 hF h2 => ?_, Nat.le_trans X.ms C.gsz⟩, fun b o hb e => ?_⟩
  · obtain ⟨o, e, r⟩ := X.g.own p hp
    have h7 := (X.g.dyn p hp).1
    exact ⟨o, C.keep.keep _ _ e (X.noC K _ (List.mem_map_of_mem (f := (·.1)) hp)) (ne380 h7) (ne403 h7), r⟩
  · obtain ⟨o, e⟩ := X.ex b hb
    exact C.keep.there b o e
  · obtain ⟨h7, hC, hD, o, e⟩ := X.gd b hb
    exact ⟨h7, hC, hD, C.keep.there b o e⟩
  · have e := C.gens i h1
    rw [e]
    refine X.fin i h1 hF ?_
    rw [Array.getElem?_eq_getElem h2] at e
    exact lt_of_gens e.symm
  · obtain ⟨h7, hC, hD, _⟩ := X.gd b hb
    exact C.keep.keep b o e hC (ne380 h7) (ne403 h7)
end
end

section -- M3
open PySem PySem.W PySem.Calls PyProof.Rows
set_option maxHeartbeats 0
set_option linter.unusedVariables false
set_option maxRecDepth 100000
/-- a token type with its names -/
def KindAt (gk : Addr → Prop) (h : Heap) (ty : Addr) (names : List Str) : Prop := ∃ dx k l n vs, ((gk ty ∨ ty < 380) ∧ (gk dx ∨ dx < 380) ∧ (gk n ∨ n < 380)) ∧ h.get? ty = some (instObj 66 dx) ∧ (∃ od, h.get? dx = some od ∧ nsx k l od) ∧ l.lookup (Str.ofString "names") = some (.ref n) ∧ IsTup h n (List.toArray vs) ∧ StrsAre vs names
/-- an item that a lexer tells -/
def ItL (gk : Addr → Prop) (h : Heap) (v : Value) (it : Item) : Prop := ∃ r tp ty tx, v = .ref r ∧ 714 ≤ r ∧ IsTup h r #[.int it.1 tp, .ref ty, .str it.2.2 tx] ∧ KindAt gk h ty it.2.1
def noGn (o : Obj) : Prop := ¬ (o.cls = .type "generator" ∧ ∃ vs, o.data = .fields vs)
theorem KindAt.keep' {gk : Addr → Prop} {h h' : Heap} {ty names} (x : KindAt gk h ty names) (hk : ∀ b o, h.get? b = some o → noGn o → h'.get? b = some o) : KindAt gk h' ty names := by
  obtain ⟨dx, k, l, n, vs, z, e1, ⟨od, e2, p⟩, e3, ⟨o, e4, c, m, dd⟩, e5⟩ := x
  refine ⟨dx, k, l, n, vs, z, hk _ _ e1 (fun q => by cases q.1), ⟨od, hk _ _ e2 fun q => ?_, p⟩, e3, ⟨o, hk _ _ e4 fun q => ?_, c, m, dd⟩, e5⟩
  · obtain ⟨es, ep, hd, _⟩ := p
    obtain ⟨_, vs, hd'⟩ := q
    rw [hd] at hd'; cases hd'
  · rw [c] at q; exact absurd (Value.type.inj q.1) (by decide)
theorem ItL.keep' {gk : Addr → Prop} {h h' : Heap} {v it} (x : ItL gk h v it) (hk : ∀ b o, h.get? b = some o → noGn o → h'.get? b = some o) : ItL gk h' v it := by
  obtain ⟨r, tp, ty, tx, e, r7, ⟨o, e4, c, m, dd⟩, k⟩ := x
  exact ⟨r, tp, ty, tx, e, r7, ⟨o, hk _ _ e4 fun q => by rw [c] at q; exact absurd (Value.type.inj q.1) (by decide), c, m, dd⟩, k.keep' hk⟩
theorem KindAt.keep {gk : Addr → Prop} {h h' : Heap} {ty names} (x : KindAt gk h ty names) (hk : ∀ b o, (gk b ∨ b < 380) → h.get? b = some o → h'.get? b = some o) : KindAt gk h' ty names := by
  obtain ⟨dx, k, l, n, vs, z, e1, ⟨od, e2, p⟩, e3, ⟨o, e4, c, m, dd⟩, e5⟩ := x
  exact ⟨dx, k, l, n, vs, z, hk _ _ z.1 e1, ⟨od, hk _ _ z.2.1 e2, p⟩, e3, ⟨o, hk _ _ z.2.2 e4, c, m, dd⟩, e5⟩
theorem KindAt.kp {gk : Addr → Prop} {W : List Addr} {h h' : Heap} {ty names} (x : KindAt gk h ty names) (K : Kp W h h') (hg : ∀ b, gk b → 714 ≤ b ∧ b ∉ W) (hW : ∀ b ∈ W, 714 ≤ b) : KindAt gk h' ty names := x.keep fun b o hb e => by
  rcases hb with hb | hb
  · exact K.keep b o e (hg b hb).2 (ne380 (hg b hb).1) (ne403 (hg b hb).1)
  · exact K.keep b o e (fun q => absurd (hW b q) (Nat.not_le.mpr (Nat.lt_trans hb (by decide)))) (Nat.ne_of_lt hb) (Nat.ne_of_lt (Nat.lt_trans hb (by decide)))
abbrev Ex (h : Heap) (b : Addr) : Prop := ∃ o, h.get? b = some o
abbrev LP (w : World) (gk : Addr → Prop) (C : List Addr) (O : Addr → Prop) (m : Nat) (L : Addr) (gi κ : Nat) : GP := ⟨w, Item, ItL gk, C, O, m, L, gi, κ⟩
/-- a generator, made at h: what it tells once it is asked, wherever it is asked first -/
def Fresh' (w : World) (gk : Addr → Prop) (κ : Nat) (h : Heap) (Lf : Addr) (need : Addr → Prop) (code : Code) (its : List Item) : Prop :=
  ∀ C gi κ' (s : Shared), κ ≤ κ' → κ' ≤ 450 → St w s.heap → gi < s.gens.size → (∀ b o, h.get? b = some o → b ∉ C → b ≠ 380 → b ≠ 403 → s.heap.get? b = some o) → (∀ b, need b → b ∉ C) → Lf ∉ C → (∀ b ∈ C, Ex s.heap b) →
    Gives (LP w gk C (Ex s.heap) s.gens.size Lf gi κ') its (.fresh code) s
section
variable {w : World} {X : Jd w} {A : Around} {c : Code} {fs : List Frame} {s : Shared} {env : Env} {K : Flow → Sem Fin} {H : Value → Sem Fin} {gd : Bool → Bool} {lv : List Value → List Value}
theorem j_code {c' : Code} {K : Value → Sem Fin} (q : ∀ (k' : Result → Sem Fin) p, (∀ v, k' (.ok (.ret v)) = K v) → (∀ e, k' (.error e) = H e) → X.J c' (.ret k' none (gd false) (lv []) c p [] :: fs) ((MM w).den c') s) : X.J c fs ((runValue c').wrap K H gd lv) s := by
  have e : (runValue c').wrap K H gd lv = Sem.call c' none (gd false) (lv []) fun r => ((match r with | .ok f => (.pure f : Sem Flow) | .error e => .raise e) >>= fun f => match f with | .ret v => (pure v : Sem Value) | _ => unsupported "internal:call-without-return-value").wrap K H gd lv := by
    unfold runValue run
    rfl
  rw [e]
  exact X.call fun p => q _ p (fun _ => rfl) (fun _ => rfl)
theorem gn_iter {E : Value → Shared → Prop} {a g : Nat} {Q : Value → Shared → Prop} (hg : IsGn s.heap a g) (h : Q (.ref a) s) : wpAny (MM w) A (pyIter (.ref a)) Q E s := by
  refine wpAny_pyIter_slot hg.typeIs slot_gen_iter (wpAny_call_entry slot_gen_iter hg.typeIs entry_gen_iter ?_ (args_gen_iter _))
  show wpAny _ _ (ret (.ref a)) _ _ s
  exact wpAny_pure ⟨_, rfl, "generator", _, hg.typeIs, slot_gen_next.lookup, h⟩
/-- `yield from e` as a statement -/
theorem j_YieldFrom {e : Expr} {ypos pos : Pos} (o : X.Ok A c fs)
    (h : wpAny (MM w) A (eval e env) (fun v s' => ∃ a g, v = .ref a ∧ IsGn s'.heap a g ∧ ∀ (k' : Result → Sem Fin) p, k' (.ok (.ret .none)) = K .next → X.J (yfC a) (.ret k' none (gd false) (lv []) c p [] :: fs) ((MM w).den (yfC a)) s') (fun x s' => X.J c fs (H x) s') s)
    (hi : interactive env = false) : X.J c fs ((exec (.Expr (.YieldFrom e ypos) pos) env).wrap K H gd lv) s := by
  rw [exec_Expr env _ pos hi rfl]
  show X.J c fs (.at pos fun _ => ((eval e env >>= fun v => (standAt ypos >>= fun _ => yieldFrom env v)) >>= fun x => dropValue (.YieldFrom e ypos) pos x).wrap K H gd lv) s
  refine X.at ?_
  rw [wr_bind, wr_bind]
  refine X.wrap o (wpAny_mono h (fun v s' h' => ?_) fun _ _ x => x)
  obtain ⟨a, g, rfl, hg, h'⟩ := h'
  rw [wr_bind]
  refine X.at ?_
  show X.J c fs ((yieldFrom env (.ref a)).wrap _ H gd lv) s'
  unfold yieldFrom
  rw [wr_bind]
  refine X.wrap o (wpAny_typeOf hg.typeIs ?_)
  rw [if_neg (by decide), wr_bind]
  refine X.wrap o (wpAny_holding (gn_iter hg ?_))
  exact j_code fun k' p hk hk' => h' k' p (by rw [hk]; rfl)
end
/-- the start of a generator -/
theorem GS.start {w : World} {gk : Addr → Prop} {κ gi : Nat} {C : List Addr} {s : Shared} {Lf : Addr} {need : Addr → Prop} {l : Nl} (hS : St w s.heap) (hL : ∃ o, s.heap.get? Lf = some o ∧ fr l o) (L7 : 714 ≤ Lf) (hn : ∀ b, need b → 714 ≤ b ∧ b ∉ C ∧ b ≠ Lf ∧ Ex s.heap b) (hκ : κ ≤ 450) (hC : Lf ∉ C) (hCN : ∀ b ∈ C, Ex s.heap b) {F : Nat → Prop} :
    GOk (LP w gk C (Ex s.heap) s.gens.size Lf gi κ) ∧ GS (LP w gk C (Ex s.heap) s.gens.size Lf gi κ) need s s [(Lf, fr l)] F := by
  refine ⟨⟨hC, hCN, hκ⟩, ⟨GRel.refl _ s, ⟨hS, Kp.refl _ _, fun p hp => ?_, fun p hp => ?_, List.nodup_cons.mpr ⟨List.not_mem_nil, List.nodup_nil⟩, hS.big⟩, fun p hp => ?_, ⟨nt_fr, trivial⟩, .head _, fun b hb => hb, fun b hb => ?_, fun i h1 _ h2 => absurd h2 (Nat.not_lt.mpr h1), Nat.le_refl _⟩⟩
  · rw [List.mem_singleton.mp hp]
    obtain ⟨o, e, f⟩ := hL
    exact ⟨o, e, (by obtain ⟨_, es, ep, ed, _⟩ := f; exact nc_dict ed), f⟩
  · rw [List.mem_singleton.mp hp]; exact ⟨L7, .inl (.head _)⟩
  · rw [List.mem_singleton.mp hp]; exact .inl rfl
  · obtain ⟨h7, hc, hl, he⟩ := hn b hb
    exact ⟨h7, hc, fun q => hl (List.mem_singleton.mp q), he⟩
/-- what a consumer, and its own consumer, do between two items -/
structure BRel (P : GP) (C' : List Addr) (s s' : Shared) : Prop where
  keep : Kp C' s.heap s'.heap
  gens : ∀ i, P.m ≤ i → s'.gens[i]? = s.gens[i]?
  gsz : s.gens.size ≤ s'.gens.size
  os : s'.os = s.os
  dr : s'.drawn = s.drawn
theorem BRel.trans {P : GP} {C' s s' s''} (x : BRel P C' s s') (y : BRel P C' s' s'') : BRel P C' s s'' := ⟨x.keep.trans y.keep, fun i h => (y.gens i h).trans (x.gens i h), Nat.le_trans x.gsz y.gsz, y.os.trans x.os, y.dr.trans x.dr⟩
theorem BRel.con {P : GP} {C' s s'} (hC : ∀ x ∈ P.C, x ∈ C') (y : CRel P s s') : BRel P C' s s' := ⟨y.keep.mono hC, y.gens, y.gsz, y.os, y.dr⟩
theorem BRel.calm {P : GP} {C' : List Addr} {K : List Addr} {h h' g d t t' os} (hC : ∀ x ∈ K, x ∈ C') (y : Kp K h h') : BRel P C' ⟨h, g, d, t, os⟩ ⟨h', g, d, t', os⟩ := ⟨y.mono hC, fun _ _ => rfl, Nat.le_refl _, rfl, rfl⟩
end

section -- M4
open PySem PySem.W PySem.Calls PyProof.Rows
set_option maxHeartbeats 0
set_option linter.unusedVariables false
set_option maxRecDepth 100000
theorem setGen_size {s : Shared} {i : Nat} {x : GenState} : (s.setGen i x).gens.size = s.gens.size := Array.size_setIfInBounds ..
theorem setGen_ne {s : Shared} {i j : Nat} {x : GenState} (h : i ≠ j) : (s.setGen j x).gens[i]? = s.gens[i]? := gens_set_ne h
theorem setGen_self {s : Shared} {i : Nat} {x : GenState} (h : i < s.gens.size) : (s.setGen i x).gens[i]? = some x := gens_set_self h
theorem GRel.push {P : GP} {h : Heap} {g : Array GenState} {d : Drawn} {t : Nat} {os : OsState} {x : GenState} (hm : P.m ≤ g.size) : GRel P ⟨h, g, d, t, os⟩ ⟨h, g.push x, d, t, os⟩ :=
  ⟨fun _ _ e _ _ _ => e, fun _ o e => ⟨o, e⟩, fun i hi => by
    show (g.push x)[i]? = g[i]?
    have : i < g.size := Nat.lt_of_lt_of_le hi hm
    rw [Array.getElem?_push]; simp [Nat.ne_of_lt this], by show g.size ≤ (g.push x).size; rw [Array.size_push]; omega, rfl, rfl⟩
theorem MRel.refl {P P' : GP} {a : Addr} {s : Shared} : MRel P P' a s s := ⟨fun _ _ e _ _ _ _ _ _ => e, fun _ o e => ⟨o, e⟩, fun _ _ _ _ => rfl, Nat.le_refl _⟩
section
variable {w : World} {C C' : List Addr} {O : Addr → Prop} {m L gi κ κ₁ : Nat} {gk good need : Addr → Prop} {s₀ s : Shared} {D D' T : Dl} {h h' : Heap} {g : Array GenState} {d : Drawn} {t t' : Nat} {os : OsState} {a Lf : Addr} {lf : Nl} {j : Nat} {fs : List Frame} {cd : Code} {its its' rest : List Item}
/-- what is at hand once an inner generator is made -/
structure Made (w : World) (gk : Addr → Prop) (C : List Addr) (O : Addr → Prop) (m L gi κ : Nat) (good : Addr → Prop) (s₀ : Shared) (D' : Dl) (h' : Heap) (g : Array GenState) (d : Drawn) (t' : Nat) (os : OsState) (a Lf : Addr) (cd : Code) (κ₁ : Nat) (its' : List Item) : Prop where
  K : GOk (LP w gk C O m L gi κ)
  X : GS (LP w gk C O m L gi κ) good s₀ ⟨h', g.push (.fresh cd), d, t', os⟩ D' (· < g.size)
  gn : IsGn h' a g.size
  S : ∀ C', (∀ x ∈ C', x = a ∨ x ∈ C ∨ x ∈ D'.map (·.1)) → (∀ x ∈ C, x ∈ C') → a ∈ C' → Sub (LP w gk C O m L gi κ) ((LP w gk C O m L gi κ).sub C' (Ex h') (g.size + 1) Lf g.size κ₁) a
  G : ∀ C', (∀ x ∈ C', x = a ∨ x ∈ C ∨ x ∈ D'.map (·.1)) → Gives ((LP w gk C O m L gi κ).sub C' (Ex h') (g.size + 1) Lf g.size κ₁) its' (.fresh cd) (Shared.setGen ⟨h', g.push (.fresh cd), d, t', os⟩ g.size .running)
  ne : ∀ b, good b ∨ b ∈ D'.map (·.1) → Ex h' b ∧ b ≠ Lf
  ga : ∀ b, good b ∨ b ∈ D'.map (·.1) → b ≠ a
theorem made (K : GOk (LP w gk C O m L gi κ)) (X : GS (LP w gk C O m L gi κ) good s₀ ⟨h, g, d, t, os⟩ D (fun _ => True)) (N : G w h (D.map (·.1)) h' ((a, isGn g.size) :: (Lf, fr lf) :: (T ++ D'))) (nt : NT D') (hL : L ∈ D'.map (·.1))
    (ha : h.get? a = none) (hLf : h.get? Lf = none) (fresh : Fresh' w gk κ₁ h' Lf need cd its') (hneed : ∀ b, need b → good b ∨ b ∈ T.map (·.1)) (hκ : κ₁ ≤ κ) :
    Made w gk C O m L gi κ (fun b => good b ∨ b ∈ T.map (·.1)) s₀ D' h' g d t' os a Lf cd κ₁ its' := by
  have X1 := X.calm (t' := t') (T := (a, isGn g.size) :: (Lf, fr lf) :: T) K N nt hL
  have nd := N.nd
  simp only [List.map_cons, List.map_append, List.nodup_cons, List.mem_cons, List.mem_append, not_or] at nd
  obtain ⟨⟨na1, na2, na3⟩, ⟨nl1, nl2⟩, nd⟩ := nd
  have oa : ¬ O a := fun q => by obtain ⟨o, e⟩ := X.ex a q; have e : h.get? a = some o := e; rw [ha] at e; cases e
  have ol : ¬ O Lf := fun q => by obtain ⟨o, e⟩ := X.ex Lf q; have e : h.get? Lf = some o := e; rw [hLf] at e; cases e
  have ga := X1.gd a (.inr (.head _))
  have gl := X1.gd Lf (.inr (.tail _ (.head _)))
  have hgood : ∀ b, good b ∨ b ∈ T.map (·.1) → b ≠ a ∧ b ≠ Lf := fun b hb => by
    rcases hb with hb | hb
    · obtain ⟨_, _, _, o, e⟩ := X.gd b hb
      have e : h.get? b = some o := e
      exact ⟨fun q => (by rw [q, ha] at e; cases e), fun q => (by rw [q, hLf] at e; cases e)⟩
    · exact ⟨fun q => na2 (q ▸ hb), fun q => nl1 (q ▸ hb)⟩
  have hms : m ≤ g.size := X.ms
  have ex1 : ∀ b, O b → Ex h' b := X1.ex
  have hD : ∀ b ∈ D'.map (·.1), Ex h' b := fun b hb => by
    obtain ⟨p, hp, rfl⟩ := List.mem_map.mp hb
    obtain ⟨o, e, _⟩ := X1.g.own p hp
    exact ⟨o, e⟩
  refine ⟨K, ⟨X1.R.trans (GRel.push hms), X1.g, X1.own, nt, hL, ex1, fun b hb => X1.gd b (hb.imp id fun h => .tail _ (.tail _ h)), fun i h1 h2 h3 => ?_, ?_⟩, N.gn (.head _), fun C' hC' hC ha' => ?_, fun C' hC' => ?_, fun b hb => ?_, fun b hb => hb.elim (fun hb => (hgood b hb).1) fun hb q => na3 (q ▸ hb)⟩
  · have h2 : i < g.size := h2
    show (g.push (.fresh cd))[i]? = _
    rw [Array.getElem?_push, if_neg (Nat.ne_of_lt h2)]
    exact X.fin i h1 trivial h2
  · show m ≤ (g.push (.fresh cd)).size
    rw [Array.size_push]; omega
  · exact ⟨rfl, ex1, Nat.le_succ_of_le hms, hms, Nat.lt_succ_self _, ol, oa, ga.2.2.2, fun q => na1 q, ha', hC, K.CN, ga.1⟩
  · have e : (Shared.setGen ⟨h', g.push (.fresh cd), d, t', os⟩ g.size .running).gens.size = g.size + 1 := by rw [setGen_size]; exact Array.size_push _
    have z := fresh C' g.size κ₁ (Shared.setGen ⟨h', g.push (.fresh cd), d, t', os⟩ g.size .running) (Nat.le_refl _) (Nat.le_trans hκ K.κ) N.st (by rw [e]; exact Nat.lt_succ_self _) (fun b o eb _ _ _ => eb) (fun b hb hc => ?_) (fun hc => ?_) (fun b hb => ?_)
    · rw [e] at z; exact z
    · rcases hC' b hc with q | q | q
      · exact (hgood b (hneed b hb)).1 q
      · exact (X1.gd b ((hneed b hb).imp id fun h => .tail _ (.tail _ h))).2.1 q
      · exact (X1.gd b ((hneed b hb).imp id fun h => .tail _ (.tail _ h))).2.2.1 q
    · rcases hC' Lf hc with q | q | q
      · exact na1 q.symm
      · exact gl.2.1 q
      · exact gl.2.2.1 q
    · rcases hC' b hb with q | q | q
      · exact q ▸ ga.2.2.2
      · exact ex1 b (K.CN b q)
      · exact hD b q
  · rcases hb with hb | hb
    · exact ⟨(X1.gd b (hb.imp id fun h => .tail _ (.tail _ h))).2.2.2, (hgood b hb).2⟩
    · exact ⟨hD b hb, fun q => nl2 (q ▸ hb)⟩
/-- objects kept: the state stays known -/
theorem GS.after {P : GP} {F F' : Nat → Prop} (X : GS P good s₀ s D F) {s' s₁ : Shared} (hR : GRel P s₁ s') (hS : St P.w s'.heap) (hk : ∀ b o, s.heap.get? b = some o → good b ∨ b ∈ D.map (·.1) → 714 ≤ b → s'.heap.get? b = some o) (ht : ∀ b o, s.heap.get? b = some o → Ex s'.heap b)
    (hf : ∀ i, P.m ≤ i → F' i → i < s'.gens.size → s'.gens[i]? = some .finished) (hm : P.m ≤ s'.gens.size) : GS P good s₁ s' D F' ∧ Keeps good s.heap s'.heap := by
  refine ⟨⟨hR, ⟨hS, Kp.refl _ _, fun p hp => ?_, fun p hp => ⟨(X.g.dyn p hp).1, .inl (List.mem_map_of_mem (f := (·.1)) hp)⟩, X.g.nd, hS.big⟩, X.own, X.nt, X.L, fun b hb => ?_, fun b hb => ?_, hf, hm⟩, fun b o hb e => hk b o e (.inl hb) (X.gd b hb).1⟩
  · obtain ⟨o, e, r⟩ := X.g.own p hp
    exact ⟨o, hk _ _ e (.inr (List.mem_map_of_mem (f := (·.1)) hp)) (X.g.dyn p hp).1, r⟩
  · obtain ⟨o, e⟩ := X.ex b hb
    exact ht b o e
  · obtain ⟨h7, hC, hD, o, e⟩ := X.gd b hb
    exact ⟨h7, hC, hD, ht b o e⟩
end
end

section -- M5
open PySem PySem.W PySem.Calls PyProof.Rows
set_option maxHeartbeats 0
set_option linter.unusedVariables false
set_option maxRecDepth 100000
section
variable {w : World} {C : List Addr} {O : Addr → Prop} {m L gi κ κ₁ : Nat} {gk good : Addr → Prop} {s₀ : Shared} {D' : Dl} {h' : Heap} {g : Array GenState} {d : Drawn} {t' : Nat} {os : OsState} {a Lf : Addr} {j : Nat} {fs : List Frame} {cd : Code} {its' rest : List Item}
theorem yf_go (M : Made w gk C O m L gi κ good s₀ D' h' g d t' os a Lf cd κ₁ its') (F : Fw j (yfC a) fs) (hj : κ₁ + 1 + j ≤ κ) (hgd : fs.any Frame.guarded = false)
    (hEnd : ∀ s₁ s', GS (LP w gk C O m L gi κ) good s₁ s' D' (fun _ => True) → Keeps good h' s'.heap → Run (LP w gk C O m L gi κ) rest s₁ (yfC a) fs (ret .none) s') :
    Run (LP w gk C O m L gi κ) (its' ++ rest) s₀ (yfC a) fs ((MM w).den (yfC a)) ⟨h', g.push (.fresh cd), d, t', os⟩ := by
  have hC' : ∀ x ∈ a :: C, x = a ∨ x ∈ C ∨ x ∈ D'.map (·.1) := fun x hx => (List.mem_cons.mp hx).imp id .inl
  have S := M.S (a :: C) hC' (fun x hx => .tail _ hx) (.head _)
  refine r_yf S F hj M.K.κ hgd (fun h h' v i x hk => x.keep' hk) (fun s₁ s hR hS hM hf hfin => ?_) its' (.fresh cd) s₀ _ M.X.R M.X.st MRel.refl M.gn (by show (g.push (.fresh cd))[g.size]? = _; simp) rfl (M.G (a :: C) hC')
  have hnC : ∀ b, good b ∨ b ∈ D'.map (·.1) → b ∉ C := fun b hb => by
    rcases hb with hb | hb
    · exact (M.X.gd b hb).2.1
    · exact M.X.noC M.K b hb
  have ff : ∀ i, m ≤ i → True → i < s.gens.size → s.gens[i]? = some .finished := fun i h1 _ h2 => by
    rcases Nat.lt_trichotomy i g.size with h | h | h
    · have e := hM.gens i h1 (Nat.lt_succ_of_lt h) (Nat.ne_of_lt h)
      rw [e]
      exact M.X.fin i h1 h (by show i < (g.push (.fresh cd)).size; rw [Array.size_push]; omega)
    · rw [h]; exact hfin
    · exact hf i h h2
  obtain ⟨Y, kp⟩ := M.X.after (F' := fun _ => True) hR hS (fun b o e hb h7 => hM.keep b o e (M.ne b hb).1 (hnC b hb) (M.ga b hb) (M.ne b hb).2 (ne380 h7) (ne403 h7)) (fun b o e => hM.there b o e) ff (Nat.le_trans M.X.ms hM.gsz)
  exact hEnd s₁ s Y kp
theorem isGn_keep {good : Addr → Prop} {h h' : Heap} {a n : Nat} (x : IsGn h a n) (ga : good a) (k : Keeps good h h') : IsGn h' a n := let ⟨o, nm, qn, e, r⟩ := x; ⟨o, nm, qn, k a o ga e, r⟩
/-- a `for` over an inner generator -/
theorem for_go {δ : Type} {Dv : δ → Dl} {Kd : List Addr} {target : Expr} {body : List Stmt} {env : Env} {out : Item → List Item} {x₀ : δ}
    (hKd : ∀ x, (Dv x).map (·.1) = Kd) (M : Made w gk C O m L gi κ good s₀ (Dv x₀) h' g d t' os a Lf cd κ₁ its')
    (F : Fw j (.forLoop target (.ref a) body [] env) fs) (hj : κ₁ + 1 + j ≤ κ)
    (hB : ∀ (x : δ) (it : Item) v s₁ s rest', GS (LP w gk C O m L gi κ) (fun b => good b ∨ b = a) s₁ s (Dv x) (· < g.size) → Keeps (fun b => good b ∨ b = a) h' s.heap → IsGn s.heap a g.size → ItL gk s.heap v it →
      (∀ (x' : δ) s₂ s', GS (LP w gk C O m L gi κ) (fun b => good b ∨ b = a) s₂ s' (Dv x') (· < g.size) → BRel (LP w gk C O m L gi κ) (a :: (C ++ Kd)) s s' → Keeps (fun b => good b ∨ b = a) s.heap s'.heap → Run (LP w gk C O m L gi κ) rest' s₂ (.forLoop target (.ref a) body [] env) fs (.pure (.again (.forLoop target (.ref a) body [] env))) s') →
      wpAny (MM w) (AK (κ - j)) (letOwnedTupleGo target (.ref a) v) (fun _ s' => wpAny (MM w) (AK (κ - j)) (assign target env v) (fun _ s'' =>
          Run (LP w gk C O m L gi κ) (out it ++ rest') s₁ (.forLoop target (.ref a) body [] env) fs ((execs body env).wrap (kBody (.forLoop target (.ref a) body [] env)) (hLoop env) id id) s'')
          (fun x s' => Run (LP w gk C O m L gi κ) (out it ++ rest') s₁ (.forLoop target (.ref a) body [] env) fs (hLoop env x) s') s') (fun x s' => Run (LP w gk C O m L gi κ) (out it ++ rest') s₁ (.forLoop target (.ref a) body [] env) fs (hLoop env x) s') s)
    (hEnd : ∀ x s₁ s, GS (LP w gk C O m L gi κ) (fun b => good b ∨ b = a) s₁ s (Dv x) (fun _ => True) → Keeps (fun b => good b ∨ b = a) h' s.heap → Run (LP w gk C O m L gi κ) rest s₁ (.block [] env) fs ((MM w).den (.block [] env)) s) :
    Run (LP w gk C O m L gi κ) (its'.flatMap out ++ rest) s₀ (.forLoop target (.ref a) body [] env) fs ((MM w).den (.forLoop target (.ref a) body [] env)) ⟨h', g.push (.fresh cd), d, t', os⟩ := by
  have hC' : ∀ x ∈ a :: (C ++ Kd), x = a ∨ x ∈ C ∨ x ∈ (Dv x₀).map (·.1) := fun x hx => by
    rw [hKd]; exact (List.mem_cons.mp hx).imp id fun h => List.mem_append.mp h
  have S := M.S (a :: (C ++ Kd)) hC' (fun x hx => .tail _ (List.mem_append_left _ hx)) (.head _)
  have aD : a ∉ Kd := fun q => M.ga a (.inr (by rw [hKd]; exact q)) rfl
  have X0 : GS (LP w gk C O m L gi κ) (fun b => good b ∨ b = a) s₀ ⟨h', g.push (.fresh cd), d, t', os⟩ (Dv x₀) (· < g.size) := by
    refine ⟨M.X.R, M.X.g, M.X.own, M.X.nt, M.X.L, M.X.ex, fun b hb => ?_, M.X.fin, M.X.ms⟩
    rcases hb with hb | rfl
    · exact M.X.gd b hb
    · exact ⟨S.a7, fun q => S.a1 (M.K.CN _ q), by rw [hKd]; exact aD, S.a2⟩
  have hne : ∀ b, (good b ∨ b = a) ∨ b ∈ Kd → Ex h' b ∧ b ≠ Lf := fun b hb => by
    rcases hb with (hb | rfl) | hb
    · exact M.ne b (.inl hb)
    · exact ⟨S.a2, S.aL⟩
    · exact M.ne b (.inr (by rw [hKd]; exact hb))
  suffices H : ∀ (its' : List Item) (gs : GenState) (x : δ) (s₀ s : Shared), GS (LP w gk C O m L gi κ) (fun b => good b ∨ b = a) s₀ s (Dv x) (· < g.size) → Keeps (fun b => good b ∨ b = a) h' s.heap → s.gens[g.size]? = some gs → liveG gs = true →
      Gives ((LP w gk C O m L gi κ).sub (a :: (C ++ Kd)) (Ex h') (g.size + 1) Lf g.size κ₁) its' gs (s.setGen g.size .running) →
      Run (LP w gk C O m L gi κ) (its'.flatMap out ++ rest) s₀ (.forLoop target (.ref a) body [] env) fs ((MM w).den (.forLoop target (.ref a) body [] env)) s from
    H its' (.fresh cd) x₀ s₀ _ X0 (fun _ _ _ e => e) (by show (g.push (.fresh cd))[g.size]? = _; simp) rfl (M.G _ hC')
  intro its'
  induction its' with
  | nil =>
    intro gs x s₀ s X hk hgs hlv hG
    have hg := isGn_keep M.gn (.inr rfl) hk
    have hlt := lt_of_gens hgs
    refine j_forTurn (X := jRun (LP w gk C O m L gi κ) _ s₀) ⟨j, rfl, F, show j ≤ κ by omega, M.K.κ⟩ fun Kn Hn hn hs => ?_
    refine r_next (P' := (LP w gk C O m L gi κ).sub (a :: (C ++ Kd)) (Ex h') (g.size + 1) Lf g.size κ₁) (its' := []) rfl F hj M.K.κ X.st.lim hg hgs hG hlv ?_
    intro s' h'' e hR hS hf hx he
    refine hn _ ?_
    have ff : ∀ i, m ≤ i → True → i < ({ s'.setGen g.size .finished with heap := h'' } : Shared).gens.size → ({ s'.setGen g.size .finished with heap := h'' } : Shared).gens[i]? = some .finished := fun i h1 _ h2 => by
      have h2 : i < (s'.setGen g.size .finished).gens.size := h2
      rw [setGen_size] at h2
      show (s'.setGen g.size .finished).gens[i]? = _
      have hsz : g.size < s'.gens.size := Nat.lt_of_lt_of_le hlt (by have := hR.gsz; rw [setGen_size] at this; exact this)
      rcases Nat.lt_trichotomy i g.size with h | h | h
      · rw [setGen_ne (Nat.ne_of_lt h), hR.gens i (Nat.lt_succ_of_lt h), setGen_ne (Nat.ne_of_lt h)]
        exact X.fin i h1 h (Nat.lt_trans h hlt)
      · rw [h]; exact setGen_self hsz
      · rw [setGen_ne (Nat.ne_of_gt h)]; exact hf i h h2
    obtain ⟨Y, kp⟩ := X.after (F' := fun _ => True) (s' := { s'.setGen g.size .finished with heap := h'' }) (((X.R.trans (GRel.sub S (x := .finished) hR))).trans (GRel.ext hx)) (hS.ext hx)
      (fun b o e hb h7 => hx b o (hR.keep b o e (.inl (by rw [hKd] at hb; exact hne b hb)) (ne380 h7) (ne403 h7))) (fun b o e => let ⟨o', e'⟩ := hR.there b o e; ⟨o', hx _ _ e'⟩) ff (Nat.le_trans X.ms (by
        show s.gens.size ≤ (s'.setGen g.size .finished).gens.size
        rw [setGen_size]; have := hR.gsz; rw [setGen_size] at this; exact this))
    exact hEnd x s₀ _ Y fun b o hb e => kp b o hb (hk b o hb e)
  | cons it its'' ih =>
    intro gs x s₀ s X hk hgs hlv hG
    have hg := isGn_keep M.gn (.inr rfl) hk
    have hlt := lt_of_gens hgs
    rw [List.flatMap_cons, List.append_assoc]
    refine j_forTurn (X := jRun (LP w gk C O m L gi κ) _ s₀) ⟨j, rfl, F, show j ≤ κ by omega, M.K.κ⟩ fun Kn Hn hn hs => ?_
    refine r_next (P' := (LP w gk C O m L gi κ).sub (a :: (C ++ Kd)) (Ex h') (g.size + 1) Lf g.size κ₁) (its' := it :: its'') rfl F hj M.K.κ X.st.lim hg hgs hG hlv ?_
    intro v s' gs' hR hS hI hlv' hnx
    have hsz : g.size < s'.gens.size := Nat.lt_of_lt_of_le hlt (by have := hR.gsz; rw [setGen_size] at this; exact this)
    have ff : ∀ i, m ≤ i → i < g.size → i < (s'.setGen g.size gs').gens.size → (s'.setGen g.size gs').gens[i]? = some .finished := fun i h1 h h2 => by
      rw [setGen_ne (Nat.ne_of_lt h), hR.gens i (Nat.lt_succ_of_lt h), setGen_ne (Nat.ne_of_lt h)]
      exact X.fin i h1 h (Nat.lt_trans h hlt)
    obtain ⟨Y, kp⟩ := X.after (F' := fun i => i < g.size) (s' := s'.setGen g.size gs') (X.R.trans (GRel.sub S (x := gs') hR)) hS
      (fun b o e hb h7 => hR.keep b o e (.inl (by rw [hKd] at hb; exact hne b hb)) (ne380 h7) (ne403 h7)) (fun b o e => hR.there b o e) ff (Nat.le_trans X.ms (by
        rw [setGen_size]; have := hR.gsz; rw [setGen_size] at this; exact this))
    have hk2 : Keeps (fun b => good b ∨ b = a) h' (s'.setGen g.size gs').heap := fun b o hb e => kp b o hb (hk b o hb e)
    refine hs v _ (hB x it v s₀ (s'.setGen g.size gs') (its''.flatMap out ++ rest) Y hk2 (isGn_keep M.gn (.inr rfl) hk2) hI fun x' s₂ s₃ Z B kz => ?_)
    refine r_again rfl ?_
    have e3 : s₃.gens[g.size]? = some gs' := by rw [B.gens g.size S.g1]; exact setGen_self hsz
    refine ih gs' x' s₂ s₃ Z (fun b o hb e => kz b o hb (hk2 b o hb e)) e3 hlv' (hnx _ ⟨B.keep, Z.st, fun i hi => ?_, ?_, B.os, B.dr⟩)
    · have hi : g.size + 1 ≤ i := hi
      have hne' : i ≠ g.size := by omega
      rw [setGen_ne hne', B.gens i (Nat.le_trans S.m hi), setGen_ne hne']
    · rw [setGen_size]; have := B.gsz; rw [setGen_size] at this; exact this
end
end

section -- M6
open PySem PySem.W PySem.Calls PyProof.Rows
set_option maxHeartbeats 0
set_option linter.unusedVariables false
set_option maxRecDepth 100000
/-- what stands for a rule of the first state, of the second -/
def RootP (w : World) (ps : List Piece) (good : Addr → Prop) (h : Heap) (v : Value) : Prop := CbK w good h v (ps.map (·.2)) ∨ (∃ x, ps = [(some x, 4)] ∧ UsK w good h v (stackOf 4))
def TermP (x : Str) (good : Addr → Prop) (h : Heap) (v : Value) : Prop := TypeK good h v "Comment"
abbrev LexR (w : World) (good : Addr → Prop) (h : Heap) (lx : Addr) (rules : List (List Piece)) (terms : List Str) : Prop := LexK w (RootP w) TermP (fun ps => ps.map (·.1)) (fun x => [some x]) good h lx rules terms
theorem RootP.pk {w : World} : PKeep (RootP w) := ⟨fun x hk => x.imp (fun y => y.keep hk) fun ⟨a, e, y⟩ => ⟨a, e, y.keep hk⟩, fun x hk => x.imp (fun y => y.weak hk) fun ⟨a, e, y⟩ => ⟨a, e, y.weak hk⟩, fun x => by
  rcases x with ⟨f, td, ca, at', acts, e, _, s, _⟩ | ⟨_, _, f, td, cg, dg, st, stv, e, _, _, s⟩
  · obtain ⟨p, b, s, c', _, ⟨o, eo, _, _, _, rfl⟩, _⟩ := s.now.1
    exact ⟨f, e, .inr ⟨_, eo, rfl⟩⟩
  · obtain ⟨p, b, s, c', _, ⟨o, eo, _, _, _, rfl⟩, _⟩ := s.now.1
    exact ⟨f, e, .inr ⟨_, eo, rfl⟩⟩⟩
theorem TermP.pk : PKeep TermP := ⟨fun x hk => TypeK.keep x hk, fun x hk => TypeK.weak x hk, fun x => by
  obtain ⟨ty, dx, n, tk, e, _, s⟩ := x
  exact ⟨ty, e, .inl ⟨_, _, _, s.now.1⟩⟩⟩
theorem LexK.keep {α β : Type} {w : World} {P : α → (Addr → Prop) → Heap → Value → Prop} {P2 : β → (Addr → Prop) → Heap → Value → Prop} {pss pss2} {good : Addr → Prop} {h h' : Heap} {x : Addr} {xs1 xs2} (hP : PKeep P) (hP2 : PKeep P2) (X : LexK w P P2 pss pss2 good h x xs1 xs2) (hk : Keeps good h h') : LexK w P P2 pss pss2 good h' x xs1 xs2 :=
  let ⟨dx, k, l, dp, t1, t2, vs1, vs2, s, a, b, c, d, e, f, g⟩ := X; ⟨dx, k, l, dp, t1, t2, vs1, vs2, s.keep hk, a, b, c, d, e, f.mono fun _ _ y => y.keep hP hk, g.mono fun _ _ y => y.keep hP2 hk⟩
theorem LexK.weak {α β : Type} {w : World} {P : α → (Addr → Prop) → Heap → Value → Prop} {P2 : β → (Addr → Prop) → Heap → Value → Prop} {pss pss2} {good good' : Addr → Prop} {h : Heap} {x : Addr} {xs1 xs2} (hP : PKeep P) (hP2 : PKeep P2) (X : LexK w P P2 pss pss2 good h x xs1 xs2) (hg : ∀ a, good a → good' a) : LexK w P P2 pss pss2 good' h x xs1 xs2 :=
  let ⟨dx, k, l, dp, t1, t2, vs1, vs2, s, a, b, c, d, e, f, g⟩ := X; ⟨dx, k, l, dp, t1, t2, vs1, vs2, s.weak hg, a, b, c, d, e, f.mono fun _ _ y => y.weak hP hg, g.mono fun _ _ y => y.weak hP2 hg⟩
/-- a match at a place, of a text -/
def MatchAt (h : Heap) (m : Addr) (p : Int) (x : Str) : Prop := (∃ dm tp tx, InH h m 374 dm 2 [("_start", .int p tp), ("_text", .str x tx)]) ∨
  (∃ dm pa tp vs ps, InH h m 603 dm 2 [("pieces", .ref pa), ("place", .int p tp)] ∧ h.IsList pa (List.toArray vs) ∧ 714 ≤ pa ∧ OptsAre vs ps ∧ joined ps = x ∧ ps.length ≤ 100 ∧ ∀ q ∈ ps, ∀ y, q = some y → y.length ≤ 200)
section
variable {w : World} {A : Around} {E : Value → Shared → Prop} {h₀ h : Heap} {W : List Addr} {D : Dl} {m : Addr} {p : Int} {x : Str} {k : Nat} {pl : Sem Bool} {pos : Pos} {env : Env} {Q : Value → Shared → Prop}
  {g : Array GenState} {d : Drawn} {t : Nat} {os : OsState}
/-- m.start() -/
theorem mt_start (hA : AOk A (k + 3)) (S : St w h) (M : MatchAt h m p x) (q : ∀ h' t' tk, St w h' → Kp [] h h' → Q (.int p tk) ⟨h', g, d, t', os⟩) :
    wpAny (MM w) A (getMethod (.ref m) "start" pl) (fun fx s₂ => wpAny (MM w) A (callWith pos fx.1 fx.2 (backTo pos (starEach [] env)) []) Q E s₂) E ⟨h, g, d, t, os⟩ := by
  rcases M with ⟨dm, tp, tx, I⟩ | ⟨dm, pa, tp, vs, ps, I, hl, h7, hO, hj, hz, hb⟩
  · refine h_meth (f := 341) S.k I (by kernel_rfl) (by kernel_rfl) ?_
    refine callWith_K0 S.k (by kernel_rfl) (wpAny_call (ps_start hA S I rfl fun h' t' S' K' => ?_))
    exact q _ _ _ S' K'
  · refine h_meth (f := 586) S.k I (by kernel_rfl) (by kernel_rfl) ?_
    refine callWith_K0 S.k (by kernel_rfl) (wpAny_call (pm_start (n := 0) (tn := 996) hA S I hl h7 hO hz hb (.inl ⟨rfl, rfl, rfl⟩) fun h' t' tk S' K' => ?_))
    have : p + ((wl (ps.take (0 - 1)) : Nat) : Int) = p := by simp [wl]
    dsimp only
    rw [this]
    exact q _ _ _ S' K'
/-- m.group() -/
theorem mt_group (hA : AOk A (k + 3)) (S : St w h) (M : MatchAt h m p x) (q : ∀ h' t' tk, St w h' → Kp [] h h' → Q (.str x tk) ⟨h', g, d, t', os⟩) :
    wpAny (MM w) A (getMethod (.ref m) "group" pl) (fun fx s₂ => wpAny (MM w) A (callWith pos fx.1 fx.2 (backTo pos (starEach [] env)) []) Q E s₂) E ⟨h, g, d, t, os⟩ := by
  rcases M with ⟨dm, tp, tx, I⟩ | ⟨dm, pa, tp, vs, ps, I, hl, h7, hO, hj, hz, hb⟩
  · refine h_meth (f := 357) S.k I (by kernel_rfl) (by kernel_rfl) ?_
    refine callWith_K0 S.k (by kernel_rfl) (wpAny_call (ps_group hA S I rfl fun h' t' S' K' => ?_))
    exact q _ _ _ S' K'
  · refine h_meth (f := 600) S.k I (by kernel_rfl) (by kernel_rfl) ?_
    refine callWith_K0 S.k (by kernel_rfl) (wpAny_call (pm_group0 hA S I hl h7 hO hb hz fun h' t' tk S' K' => ?_))
    rw [hj]
    exact q _ _ _ S' K'
end
/-- a call of the lexer's generator -/
def LexSpec (w : World) (rules : List (List Piece)) (terms : List Str) (n κ : Nat) : Prop :=
  ∀ {A : Around} {k : Nat} {R : Result → Shared → Prop} {h : Heap} {g : Array GenState} {d : Drawn} {t : Nat} {os : OsState} {good : Addr → Prop} {lx : Addr} {x : Str} {tx : Tok} {kw : List (Str × Value)} {root : Bool} {its : List Item} {gk : Addr → Prop},
    AOk A (k + 1) → St w h → (∀ b, gk b → good b) → LexR w gk h lx rules terms → (∀ b, good b → 714 ≤ b ∧ Ex h b) → x.length ≤ 100 → mc rules terms n root x 0 = some its →
    ((kw = [] ∧ root = true) ∨ (∃ st stv stack, kw = [(Str.ofString "stack", .ref st)] ∧ Sure good h (fun h => IsTup h st (List.toArray stv)) ∧ StrsAre stv stack ∧ root = false ∧ (stack = stackOf 4 ∨ stack = stackOf 5))) →
    (∀ a Lf cd lf h' t', G w h [] h' [(a, isGn g.size), (Lf, fr lf)] → Fresh' w gk κ h' Lf good cd its → R (.ok (.ret (.ref a))) ⟨h', g.push (.fresh cd), d, t', os⟩) →
    codeAny (MM w) A (.call (.ref 559) ⟨[.ref lx, .str x tx], kw⟩) R ⟨h, g, d, t, os⟩
end

section -- M7
open PySem PySem.W PySem.Calls PyProof.Rows
set_option maxHeartbeats 0
set_option linter.unusedVariables false
set_option maxRecDepth 100000
theorem fw_func {body : List Stmt} {env : Env} : Fw 1 (.func body env) [] := ⟨fun _ hf => (nomatch hf), Nat.le_of_ble_eq_true rfl, Nat.le_of_ble_eq_true rfl⟩
theorem r_func {P : GP} {its : List P.ι} {s₀ s : Shared} {body : List Stmt} {env : Env} (h : ∀ c K H, Fw 1 c [] → K .next = .pure (.done (.ret .none)) → (jRun P its s₀).J c [] ((execs body env).wrap K H id id) s) : Run P its s₀ (.func body env) [] ((MM P.w).den (.func body env)) s :=
  j_func (X := jRun P its s₀) (h _ _ _ fw_func rfl)
theorem ak_ok {κ j k : Nat} (h1 : 8 * k + j ≤ κ) (h2 : κ ≤ 450) : AOk (AK (κ - j)) k := ⟨rfl, by show 900 - 2 * (κ - j) + 8 * k ≤ 900; omega, by show 9000 - 8 * (κ - j) + 64 * k ≤ 9000; omega⟩
theorem shift_flat {p : Int} : ∀ {its : List Item}, shift p its = its.flatMap (fun it => [(p + it.1, it.2)]) ++ []
  | [] => rfl
  | i :: r => by
    have := shift_flat (p := p) (its := r)
    rw [List.append_nil] at this ⊢
    rw [List.flatMap_cons, ← this]; rfl
theorem fw_for {j c fs k g l p kp tg it b o e} (F : Fw j c fs) : Fw (j + 1) (.forLoop tg it b o e) (.ret k none g l c p kp :: fs) := F.ret (Nat.le_of_ble_eq_true rfl) (Nat.le_of_ble_eq_true rfl)
theorem fw_while {j c fs k g l p kp tg b o e} (F : Fw j c fs) : Fw (j + 1) (.whileLoop tg b o e) (.ret k none g l c p kp :: fs) := F.ret (Nat.le_of_ble_eq_true rfl) (Nat.le_of_ble_eq_true rfl)
theorem fw_yf {j c fs k g l p kp a} (F : Fw j c fs) : Fw (j + 1) (yfC a) (.ret k none g l c p kp :: fs) := F.ret (Nat.le_of_ble_eq_true rfl) (Nat.le_of_ble_eq_true rfl)
theorem own_gn {w : World} {A : Around} {E : Value → Shared → Prop} {s : Shared} {elts : List Expr} {kk : Nat} {pos : Pos} {a n : Nat} {v : Value} {Q : Unit → Shared → Prop} (hg : IsGn s.heap a n) (q : Q () s) : wpAny (MM w) A (letOwnedTupleGo (.Tuple elts kk pos) (.ref a) v) Q E s := by
  obtain ⟨o, nm, qn, ho, hc, hd, _⟩ := hg
  unfold letOwnedTupleGo
  cases v with
  | ref b =>
    refine wpAny_bind (wpAny_load ho ?_)
    rw [hc, hd]
    refine wp_eq (m' := pure ()) ?_ (wpAny_pure q)
    show (if (["enumerate", "zip", "dict_itemiterator", "dict_reverseitemiterator", "odict_iterator", "itertools.zip_longest", "itertools.pairwise"].contains "generator" && _) = true then _ else _) = _
    rw [show (["enumerate", "zip", "dict_itemiterator", "dict_reverseitemiterator", "odict_iterator", "itertools.zip_longest", "itertools.pairwise"].contains "generator") = false by decide]
    rfl
  | _ => exact wpAny_pure q
def Act2 (lx m : Addr) (args : Args) : Prop := args = ⟨[.ref lx, .ref m], []⟩ ∨ args = ⟨[.ref lx, .ref m, .none], []⟩
theorem us_call {w : World} {rules : List (List Piece)} {terms : List Str} {n κ : Nat} (hlex : LexSpec w rules terms n κ) (hκ : 90 ≤ κ)
    {A : Around} {k : Nat} {R : Result → Shared → Prop} {h : Heap} {g : Array GenState} {d : Drawn} {t : Nat} {os : OsState} {gk good : Addr → Prop} {lx m : Addr} {p : Int} {x : Str} {deed : Int} {its : List Item} {v : Value} {args : Args}
    (hA : AOk A (k + 1)) (S : St w h) (hv : UsK w good h v (stackOf deed)) (hd : deed = 4 ∨ deed = 5) (gkg : ∀ b, gk b → good b) (LX : LexR w gk h lx rules terms) (hM : Sure good h (fun h => MatchAt h m p x)) (hg : ∀ b, good b → 714 ≤ b ∧ Ex h b) (hx : x.length ≤ 100) (hmc : mc rules terms n false x 0 = some its) (ha : Act2 lx m args)
    (q : ∀ f a Lf cd lf h' t', v = .ref f → G w h [] h' [(a, isGn g.size), (Lf, fr lf)] → Fresh' w gk (κ + 3) h' Lf good cd (shift p its) → R (.ok (.ret (.ref a))) ⟨h', g.push (.fresh cd), d, t', os⟩) :
    ∀ f, v = .ref f → codeAny (MM w) A (.call (.ref f) args) R ⟨h, g, d, t, os⟩ := by
  intro f hf
  obtain ⟨f', td, cg, dg, st, stv, e, hst, ⟨f7, td7, dg7, st7⟩, SU⟩ := hv
  rw [hf] at e; cases e
  obtain ⟨pU, bU, sU, c', hi, ⟨o, eo, doc, pm, ct, rfl⟩, hcd, htd⟩ := SU.now.1
  have ee : innerU? (KK w) = some (_, _, _) := rfl
  rw [hi] at ee
  cases ee
  obtain ⟨otd, etd, ctd, ntd, dtd⟩ := htd
  have H0 : G w h [] h [] := G.start S
  refine enterGen (k := k) [("lexer", some (.ref lx)), ("match", some (.ref m)), ("ctx", some .none), ("lx", none), ("s", none), ("i", none), ("t", none), ("v", none)] (binds := [("lexer", .ref lx), ("match", .ref m), ("ctx", .none)]) hA H0 eo rfl hcd.rec' rfl ?_ (by kernel_rfl) ⟨by kernel_rfl, by kernel_rfl, by kernel_rfl, trivial⟩ ?_
  · rcases ha with rfl | rfl
    · exact BindsTo.of_defaults (T := td) rfl etd dtd rfl (by kernel_rfl)
    · exact BindsTo.of_defaults (T := td) rfl etd dtd rfl (by kernel_rfl)
  intro env L a h₁ t₁ Ev H₁ K₁ nL na
  refine q f a L _ _ _ _ hf H₁ ?_
  intro C gi κ' s hκ' hκ2 hS hgi hk hn hL hC
  refine gives_fresh ?_
  have L7 : 714 ≤ L := H₁.at (a := L) (by tb_rel)
  obtain ⟨oL, eL, fL⟩ := H₁.get (a := L) (by tb_rel)
  have hgs : ∀ b, good b → 714 ≤ b ∧ b ∉ C ∧ b ≠ L ∧ Ex s.heap b := fun b hb => by
    obtain ⟨h7, o, e⟩ := hg b hb
    refine ⟨h7, hn b hb, fun q => (by rw [q, nL] at e; cases e), o, hk b o (K₁.keep b o e List.not_mem_nil (ne380 h7) (ne403 h7)) (hn b hb) (ne380 h7) (ne403 h7)⟩
  have kp0 : Keeps good h s.heap := fun b o hb e => by
    have h7 := (hg b hb).1
    exact hk b o (K₁.keep b o e List.not_mem_nil (ne380 h7) (ne403 h7)) (hn b hb) (ne380 h7) (ne403 h7)
  obtain ⟨K, X⟩ := GS.start (gk := gk) (gi := gi) (F := fun _ => True) hS ⟨oL, hk _ _ eL hL (ne380 L7) (ne403 L7), fL⟩ L7 hgs hκ2 hL hC
  replace SU := SU.keep kp0
  replace LX := LexK.keep RootP.pk TermP.pk LX fun b o hb e => kp0 b o (gkg b hb) e
  replace hM := hM.keep kp0
  clear hk H₁ K₁ H0 hcd etd eo
  obtain ⟨h0, g0, d0, t0, os0⟩ := s
  dsimp only at *
  have hA1 : AOk (AK (κ' - 1)) 10 := ak_ok (by omega) hκ2
  refine r_func fun cF KF HF F1 hKF => ?_
  refine j_calm (A := AK (κ' - 1)) ⟨1, rfl, F1, by show 1 ≤ κ'; omega, hκ2⟩ ?_
  have H := X.g
  dsimp only [List.map_cons, List.map_nil] at H
  k_clsL
  rename_i h2 t2 H2
  refine j_seq (j_calm (A := AK (κ' - 1)) ⟨1, rfl, F1, by show 1 ≤ κ'; omega, hκ2⟩ ?_)
  k_clsL
  refine MethodCall_ ?_ (by rfl)
  k_clsL
  have kg : ∀ {h' D'}, G w h0 [L] h' D' → Keeps good h0 h' := fun N => X.keeps N.kp
  refine mt_start (k := 7) hA1 H2.st (hM.keep (kg H2)).now fun h3 t3 tk3 S3 K3 => ?_
  have H3 := H2.call S3 K3
  k_clsL
  rename_i h4 t4 H4
  refine j_seq (j_cons (j_For (A := AK (κ' - 1)) ⟨1, rfl, F1, by show 1 ≤ κ'; omega, hκ2⟩ ?_))
  refine methodCall_DD ?_ rfl
  k_clsL
  obtain ⟨dlx, kx, lxl, dp, t1, t2, vs1, vs2, sLX, htok, hgtu, _⟩ := id LX
  refine h_bound (f := 559) H4 (sLX.keep fun b o hb e => kg H4 b o (gkg b hb) e).now.1 hgtu (by kernel_rfl) fun r h5 t5 H5 K5 nr nr' => ?_
  refine callWith_DD (h₀ := h0) (W := [L]) (keeps_M (K := KK w) (q := r) (f := 559) (self := .ref lx) (by kernel_rfl)) ?_ rfl
  refine i_cons ?_ rfl
  refine MethodCall_ ?_ (by rfl)
  k_clsL
  refine mt_group (k := 7) hA1 H5.st (hM.keep (kg H5)).now fun h6 t6 tk6 S6 K6 => ?_
  have H6 := H5.call S6 K6
  k_clsL
  refine ⟨_, _, _, rfl, H6, fun b h7 H7 K7 => ?_⟩
  have SU7 := (SU.keep (kg H7)).now
  have Ev' : EnvOk env L _ [("gt_kwargs", cg)] := Ev
  refine n_free Ev' (by tb_rel) (by tb_rel) SU7.2.1 ?_
  have hdgb : dg ≠ b := fun q => by
    subst q
    obtain ⟨o1, e1, es1, ep1, _, d1, _, p1, _⟩ := H7.get (a := dg) (by tb_rel)
    obtain ⟨o2, es2, ep2, e2, _, d2, _, p2, _⟩ := SU7.2.2.1
    rw [e1] at e2; cases e2
    rw [d1] at d2; cases d2
    generalize es1.toList = ll at p1 p2
    cases p1
    cases p2
  refine ⟨dg, h7, _, [("stack", .ref st)], rfl, rfl, H7, SU7.2.2.1, dg7, hdgb, .inr ⟨_, _, rfl⟩, fun h8 H8 => ?_⟩
  obtain ⟨or, er, pr⟩ := H8.get (a := r) (by tb_rel)
  have pr : or = methodObj (.ref 559) (.ref lx) := pr
  subst pr
  refine ⟨⟨er, H8.st.k⟩, ?_⟩
  refine wpAny_call (method_call er ?_)
  have hgd : ∀ b, good b → 714 ≤ b ∧ Ex h8 b := fun b hb => by
    obtain ⟨h7', _, _, o, e⟩ := hgs b hb
    exact ⟨h7', o, kg H8 b o hb e⟩
  refine hlex (k := 9) hA1 H8.st gkg (LexK.keep RootP.pk TermP.pk LX fun b o hb e => kg H8 b o (gkg b hb) e) hgd hx hmc (.inr ⟨st, stv, _, rfl, fun h' hh => (SU.keep (kg H8) h' hh).2.2.2, hst, rfl, ?_⟩) fun a2 Lf2 cd2 lf2 h9 t9 N9 fr9 => ?_
  · rcases hd with rfl | rfl
    · exact .inl rfl
    · exact .inr rfl
  dsimp only
  have H9 := H8.take N9
  dsimp only [List.cons_append, List.nil_append] at H9
  refine gn_iter (N9.gn (by tb_rel)) ?_
  intro kF2 p2 g2 l2 hk2 hg2
  obtain ⟨Dv, hDv⟩ : ∃ Dv : Option Value × Option Value × Option Value → Dl, Dv = fun y => [(L, fr [("lexer", some (.ref lx)), ("match", some (.ref m)), ("ctx", some .none), ("lx", some (.ref lx)), ("s", some (.int p tk3)), ("i", y.1), ("t", y.2.1), ("v", y.2.2)])] := ⟨_, rfl⟩
  have n9 : ∀ {c : Addr} {P : Pr}, (c, P) ∈ [(a2, isGn g0.size), (Lf2, fr lf2)] → h0.get? c = none := fun hm => (H8.new ((N9.dyn _ hm).2.resolve_left List.not_mem_nil)).1
  have M := made (t' := t9) (κ₁ := κ) (T := [(b, isDD w [("stack", .ref st)]), (r, isM 559 lx)]) (D' := Dv (none, none, none)) K X (by rw [hDv]; exact H9) (by rw [hDv]; exact ⟨nt_fr, trivial⟩) (by rw [hDv]; exact .head _) (n9 (.head _)) (n9 (.tail _ (.head _))) fr9 (fun b hb => .inl hb) (by omega)
  rw [shift_flat]
  refine for_go (Dv := Dv) (Kd := [L]) (rest := []) (fun _ => by rw [hDv]; rfl) M (fw_for F1) (by omega) (fun y it v s₁ s rest' Y hky hgn hI cont => ?_) (fun y s₁ s Y hky => ?_)
  · subst hDv
    obtain ⟨h, g, d, t, os⟩ := s
    have HY := Y.g
    dsimp only [List.map_cons, List.map_nil] at HY hgn hky
    refine own_gn hgn ?_
    obtain ⟨r', tp, ty, txx, rfl, r7, hr, hkd⟩ := hI
    have hA2 : AOk (AK (κ' - 2)) 10 := ak_ok (by omega) hκ2
    refine a_tup3 hA2.hd HY hr fun ha Ha => ?_
    k_clsL
    refine j_cons (X := jRun (LP w gk C (Ex h0) g0.size L gi κ') _ _) (j_Yield (A := AK (κ' - 2)) ⟨2, rfl, fw_for F1, by show 2 ≤ κ'; omega, hκ2⟩ ?_ Ev.co (inter Ev))
    k_clsL
    refine ⟨rfl, new_tupF (by assumption) fun rt hb Hb Kb _ _ => ?_⟩
    have Y2 := fun tt => Y.calm (t' := tt) (T := [(rt, isT _)]) (D' := [(L, fr _)]) K Hb ⟨nt_fr, trivial⟩ (.head _)
    have gkL : ∀ b, gk b → 714 ≤ b ∧ b ∉ [L] := fun b hb => let z := Y.gd b (.inl (.inl (gkg b hb))); ⟨z.1, z.2.2.1⟩
    have hkb := hkd.kp Hb.kp gkL (fun b hb => by rw [List.mem_singleton.mp hb]; exact L7)
    subst hg2
    refine r_yield (it := (p + it.1, it.2)) (its := rest') (fw_for F1) rfl (Y2 _).R (Y2 0).st ⟨rt, _, ty, txx, rfl, Hb.at (a := rt) (by tb_rel), (by have := Hb.tup (a := rt) (by tb_rel); rw [Int.add_comm] at this; exact this), hkb⟩ fun s'' hc => ?_
    obtain ⟨Y3, kz⟩ := (Y2 _).yielded K hc
    refine cont (some (.int it.1 tp), some (.ref ty), some (.str it.2.2 txx)) s'' s'' (Y3.less fun b hb => .inl hb) ((BRel.calm (K := [L]) (fun x hx => ?_) Hb.kp).trans (BRel.con (fun x hx => ?_) hc)) (fun b o hb e => kz b o (.inl hb) (Y.keeps Hb.kp b o hb e))
    · exact .tail _ (List.mem_append_right _ hx)
    · exact .tail _ (List.mem_append_left _ hx)
  · subst hDv
    obtain ⟨h, g, d, t, os⟩ := s
    have HY := Y.g
    dsimp only [List.map_cons, List.map_nil] at HY hky
    refine j_block (X := jRun (LP w gk C (Ex h0) g0.size L gi κ') _ _) (j_nil ?_)
    refine (jRun (LP w gk C (Ex h0) g0.size L gi κ') _ _).ret (.ok .next) ?_
    rw [hk2]
    refine j_seq (j_cons (j_If (A := AK (κ' - 1)) ⟨1, rfl, F1, by show 1 ≤ κ'; omega, hκ2⟩ ?_))
    refine wpAny_isTrue_value ?_ (by rfl)
    k_clsL
    refine PyProof.Rows.truthy_none ?_
    refine j_nil (env := env) (j_seq (j_nil ?_))
    rw [hKF]
    exact r_end Y.R Y.st (fun i h1 h2 => Y.fin i h1 trivial h2) (.inl rfl)
end

section -- N0
open PySem PySem.W PySem.Calls PyProof.Rows PySem.SeqAt
set_option linter.unusedVariables false
set_option maxRecDepth 100000
theorem all_tt (n : Nat) : (List.range n).all (fun _ => true) = true := by simp
theorem tup_is {h : Heap} {a : Addr} {vs : Array Value} (x : IsTup h a vs) : h.IsTuple a vs := x
mutual
theorem eq_same {g g' : Addr → Prop} : ∀ (d : PyData) (A : Around) (s : Shared) (a b : Value), Rep g s.heap d a → Rep g' s.heap d b → A.units + d.depth < cLine → EqAt A s a b true
  | .none, A, s, _, _, ra, rb, _ => by rw [Rep] at ra rb; subst ra; subst rb; exact EqAt.same _
  | .bool x, A, s, _, _, ra, rb, _ => by rw [Rep] at ra rb; subst ra; subst rb; exact EqAt.same _
  | .int x, A, s, _, _, ra, rb, _ => by
    rw [Rep] at ra rb
    obtain ⟨t, rfl⟩ := ra
    obtain ⟨u, rfl⟩ := rb
    have := EqAt.int_int (A := A) (s := s) x t x u; simpa using this
  | .str x, A, s, _, _, ra, rb, _ => by
    rw [Rep] at ra rb
    obtain ⟨t, rfl⟩ := ra
    obtain ⟨u, rfl⟩ := rb
    have := EqAt.str_str (A := A) (s := s) x t x u; simpa using this
  | .list xs, A, s, _, _, ra, rb, hu => by
    rw [Rep] at ra rb
    obtain ⟨l, vs, rfl, _, hl, ra⟩ := ra
    obtain ⟨l', vs', rfl, _, hl', rb⟩ := rb
    have hu : A.units + (PyData.depthAll xs + 1) < cLine := hu
    by_cases hll : l = l'
    · subst hll; exact EqAt.same _
    · have := EqAt.of_refs hll (RcAt.lists (e := fun _ => true) hl hl' (by rw [List.size_toArray, List.size_toArray, ra.len, rb.len]) (Nat.lt_of_le_of_lt (Nat.le_add_right _ _) hu) fun j j1 j2 => by
        have := eq_sames xs A.in1 s vs vs' ra rb (by show A.units + 1 + PyData.depthAll xs < cLine; omega) j (by simpa using j1) (by simpa using j2)
        simpa using this)
      rwa [all_tt] at this
  | .tuple xs, A, s, _, _, ra, rb, hu => by
    rw [Rep] at ra rb
    obtain ⟨l, vs, rfl, _, hl, ra⟩ := ra
    obtain ⟨l', vs', rfl, _, hl', rb⟩ := rb
    have hu : A.units + (PyData.depthAll xs + 1) < cLine := hu
    by_cases hll : l = l'
    · subst hll; exact EqAt.same _
    · have e : vs.toArray.size = vs'.toArray.size := by rw [List.size_toArray, List.size_toArray, ra.len, rb.len]
      have := EqAt.of_refs hll (RcAt.tuples (e := fun _ => true) (tup_is hl) (tup_is hl') (Nat.lt_of_le_of_lt (Nat.le_add_right _ _) hu) fun j j1 j2 => by
        have := eq_sames xs A.in1 s vs vs' ra rb (by show A.units + 1 + PyData.depthAll xs < cLine; omega) j (by simpa using j1) (by simpa using j2)
        simpa using this)
      rw [all_tt, e, beq_self_eq_true] at this
      exact this
  | .dict _, _, _, _, _, ra, _, _ => by rw [Rep] at ra; exact ra.elim
theorem eq_sames {g g' : Addr → Prop} : ∀ (xs : List PyData) (A : Around) (s : Shared) (vs ws : List Value), Reps g s.heap xs vs → Reps g' s.heap xs ws → A.units + PyData.depthAll xs < cLine →
    ∀ j (h1 : j < vs.length) (h2 : j < ws.length), EqAt A s vs[j] ws[j] true
  | [], _, _, _, _, ra, _, _, j, h1, _ => by rw [Reps] at ra; subst ra; exact absurd h1 (Nat.not_lt_zero _)
  | x :: xs, A, s, _, _, ra, rb, hu, j, h1, h2 => by
    rw [Reps] at ra rb
    obtain ⟨v, r, rfl, x1, xr⟩ := ra
    obtain ⟨v', r', rfl, y1, yr⟩ := rb
    have hu : A.units + max x.depth (PyData.depthAll xs) < cLine := hu
    cases j with
    | zero => exact eq_same x A s _ _ x1 y1 (by omega)
    | succ j => exact eq_sames xs A s _ _ xr yr (by omega) j (Nat.lt_of_succ_lt_succ h1) (Nat.lt_of_succ_lt_succ h2)
end
/-- the same list twice: != says no -/
theorem ne_same {w : World} {A : Around} {E : Value → Shared → Prop} {s : Shared} {a b : Value} {xs : List PyData} {g g' : Addr → Prop} {Q : Value → Shared → Prop} (ra : Rep g s.heap (.list xs) a) (rb : Rep g' s.heap (.list xs) b) (hu : A.units + (PyData.depthAll xs + 1) < cLine) (q : Q (.bool false) s) :
    wpAny (MM w) A (compareOp .NotEq a b) Q E s := by
  rw [Rep] at ra rb
  obtain ⟨l, vs, rfl, _, hl, ra⟩ := ra
  obtain ⟨l', vs', rfl, _, hl', rb⟩ := rb
  have z := RcNeAt.lists (A := A) (e := fun _ => true) hl hl' (by rw [List.size_toArray, List.size_toArray, ra.len, rb.len]) (Nat.lt_of_le_of_lt (Nat.le_add_right _ _) hu) fun j j1 j2 => by
        have := eq_sames xs A.in1 s vs vs' ra rb (by show A.units + 1 + PyData.depthAll xs < cLine; omega) j (by simpa using j1) (by simpa using j2)
        simpa using this
  rw [all_tt] at z
  exact z PP w E Q q
end

section -- N1
open PySem PySem.W PySem.Calls PyProof.Rows
set_option linter.unusedVariables false
set_option maxRecDepth 100000
section
variable {w : World} {X : Jd w} {A : Around} {c : Code} {fs : List Frame} {s : Shared} {env : Env}
/-- a turn of a list comprehension -/
theorem j_compTurn {elt target iter : Expr} {scope : Scope} {pos : Pos} {it acc : Value} (o : X.Ok A (.compLoop (.ListComp elt [⟨target, iter, [], 0⟩] scope pos) 0 it acc env) fs)
    (h : ∀ (Kn : Option Value → Sem Fin) Hn,
      (∀ s', X.J (.compLoop (.ListComp elt [⟨target, iter, [], 0⟩] scope pos) 0 it acc env) fs (.pure (.done .next)) s' → X.J (.compLoop (.ListComp elt [⟨target, iter, [], 0⟩] scope pos) 0 it acc env) fs (Kn none) s') →
      (∀ v s', wpAny (MM w) A (letOwnedTupleGo target it v) (fun _ s₁ => wpAny (MM w) A (assign target env v) (fun _ s₂ => wpAny (MM w) A (eval elt env) (fun x s₃ => wpAny (MM w) A (call (.builtin "list.append") [acc, x]) (fun _ s₄ =>
          X.J (.compLoop (.ListComp elt [⟨target, iter, [], 0⟩] scope pos) 0 it acc env) fs (.pure (.again (.compLoop (.ListComp elt [⟨target, iter, [], 0⟩] scope pos) 0 it acc env))) s₄)
          (fun x s' => X.J (.compLoop (.ListComp elt [⟨target, iter, [], 0⟩] scope pos) 0 it acc env) fs (hLoop env x) s') s₃)
          (fun x s' => X.J (.compLoop (.ListComp elt [⟨target, iter, [], 0⟩] scope pos) 0 it acc env) fs (hLoop env x) s') s₂)
          (fun x s' => X.J (.compLoop (.ListComp elt [⟨target, iter, [], 0⟩] scope pos) 0 it acc env) fs (hLoop env x) s') s₁)
          (fun x s' => X.J (.compLoop (.ListComp elt [⟨target, iter, [], 0⟩] scope pos) 0 it acc env) fs (hLoop env x) s') s' →
        X.J (.compLoop (.ListComp elt [⟨target, iter, [], 0⟩] scope pos) 0 it acc env) fs (Kn (some v)) s') →
      X.J (.compLoop (.ListComp elt [⟨target, iter, [], 0⟩] scope pos) 0 it acc env) fs ((pyNext it).wrap Kn Hn id id) s) :
    X.J (.compLoop (.ListComp elt [⟨target, iter, [], 0⟩] scope pos) 0 it acc env) fs ((MM w).den (.compLoop (.ListComp elt [⟨target, iter, [], 0⟩] scope pos) 0 it acc env)) s := by
  show X.J _ fs ((compTurn (.ListComp elt [⟨target, iter, [], 0⟩] scope pos) 0 it acc env).onRaise (fun x => do noteFrame x env; theTreesLotGoes x)) s
  rw [Sem.onRaise_eq_wrap, compTurn_list1, wr_bind]
  refine X.at ?_
  show X.J _ fs (Sem.wrap _ _ _ _ (pyNext it >>= _)) s
  rw [wr_bind]
  have eh : ∀ e, ((noteFrame e env >>= fun _ => theTreesLotGoes e).bind fun _ => (.raise e : Sem Fin)) = hLoop env e := fun e => by
      rw [Sem.bind_eq_wrap]; rfl
  refine h _ _ (fun s' h' => h') (fun v s' h' => ?_)
  show X.J _ fs ((letOwnedTupleGo target it v >>= fun _ => assign target env v >>= fun _ => (eval elt env >>= fun x => call (.builtin "list.append") [acc, x] >>= fun _ => (pure () : Sem Unit)) >>= fun _ => again (.compLoop (.ListComp elt [⟨target, iter, [], 0⟩] scope pos) 0 it acc env)).wrap _ _ _ _) s'
  rw [wr_bind]
  refine X.wrap o (wpAny_mono h' (fun _ s₁ h₁ => ?_) fun x s₁ h₁ => by rw [eh]; exact h₁)
  rw [wr_bind]
  refine X.wrap o (wpAny_mono h₁ (fun _ s₂ h₂ => ?_) fun x s₁ h₁ => by rw [eh]; exact h₁)
  rw [wr_bind, wr_bind]
  refine X.wrap o (wpAny_mono h₂ (fun _ s₃ h₃ => ?_) fun x s₁ h₁ => by rw [eh]; exact h₁)
  rw [wr_bind]
  exact X.wrap o (wpAny_mono h₃ (fun _ s₄ h₄ => h₄) fun x s₁ h₁ => by rw [eh]; exact h₁)
theorem j_compStart {elt target iter : Expr} {scope : Scope} {pos : Pos} {it acc : Value} (o : X.Ok A (.compStart (.ListComp elt [⟨target, iter, [], 0⟩] scope pos) 0 it acc env) fs)
    (h0 : X.J (.compLoop (.ListComp elt [⟨target, iter, [], 0⟩] scope pos) 0 it acc env) fs ((MM w).den (.compLoop (.ListComp elt [⟨target, iter, [], 0⟩] scope pos) 0 it acc env)) s)
    (h : ∀ E, wpAny (MM w) A (pyIter it) (fun it' s' => X.J (.compLoop (.ListComp elt [⟨target, iter, [], 0⟩] scope pos) 0 it' acc env) fs ((MM w).den (.compLoop (.ListComp elt [⟨target, iter, [], 0⟩] scope pos) 0 it' acc env)) s') E s) :
    X.J (.compStart (.ListComp elt [⟨target, iter, [], 0⟩] scope pos) 0 it acc env) fs ((MM w).den (.compStart (.ListComp elt [⟨target, iter, [], 0⟩] scope pos) 0 it acc env)) s := by
  show X.J _ fs ((compStart (.ListComp elt [⟨target, iter, [], 0⟩] scope pos) 0 it acc env).onRaise (fun x => do noteFrame x env; standAt theWindowsPlace)) s
  rw [Sem.onRaise_eq_wrap]
  refine X.wrap o ?_
  unfold compStart
  show wpAny _ _ (ask >>= _) _ _ s
  refine wpAny_bind (wpAny_askSetting (wpAny_ite ?_))
  split
  · first
      | exact wpAny_bind (wpAny_pure (wpAny_pure (X.again rfl h0)))
      | exact wpAny_pure (X.again rfl h0)
  · first
      | exact wpAny_bind (wpAny_rule (wpAny_bind (wpAny_standAt (wpAny_bind (wpAny_mono (h _) (fun it' s' h' => wpAny_pure (X.again rfl h')) fun _ _ x => x)))))
      | (refine wpAny_bind (wpAny_rule ?_); show wpAny _ _ (standAt iter.pos >>= _) _ _ s; exact wpAny_bind (wpAny_standAt (wpAny_bind (wpAny_mono (h _) (fun it' s' h' => wpAny_pure (X.again rfl h')) fun _ _ x => x))))
end
section
variable {w : World} {X : Jd w} {A : Around} {c : Code} {fs : List Frame} {s : Shared} {env : Env} {K : Flow → Sem Fin} {H : Value → Sem Fin} {gd : Bool → Bool} {lv : List Value → List Value}
theorem j_run {c' : Code} {K : Flow → Sem Fin} (q : ∀ (k' : Result → Sem Fin) p g l, (∀ f, k' (.ok f) = K f) → X.J c' (.ret k' none g l c p [] :: fs) ((MM w).den c') s) : X.J c fs ((run c').wrap K H gd lv) s := by
  unfold run
  exact X.call fun p => q _ p _ _ (fun _ => rfl)
theorem j_holding {α : Type} {K : α → Sem Fin} {vs : List Value} {m : Sem α} (h : ∀ lv', X.J c fs (m.wrap K H gd lv') s) : X.J c fs ((PySem.holding vs m).wrap K H gd lv) s := by
  obtain ⟨lv1, e1⟩ := wr_holding (K := K) (H := H) (gd := gd) (lv := lv) vs m
  rw [e1]; exact h _
theorem j_bindW {α β : Type} {m : Sem α} {f : α → Sem β} {K : β → Sem Fin} (o : X.Ok A c fs) (h : wpAny (MM w) A m (fun a s' => X.J c fs ((f a).wrap K H gd lv) s') (fun x s' => X.J c fs (H x) s') s) : X.J c fs ((m >>= f).wrap K H gd lv) s := by
  rw [wr_bind]; exact X.wrap o h
/-- y = [elt for target in iter], stored while the names of the comprehension still stand -/
theorem j_comp {elt target iter : Expr} {scope : Scope} {pos spos py : Pos} {y : Str} {cl : List (Str × Addr)} (o : X.Ok A c fs)
    (hsw : swapsWith (.ListComp elt [⟨target, iter, [], 0⟩] scope pos) (some (.Name y py)) spos.line env = pure true) (hs : ∀ x, foldedSetIterable iter env x = pure x) (hclos : closureFor scope env = pure cl)
    (hkind : scope.kind = .function) (hnames : ∀ x ∈ scope.names, x.2 = .local → scope.names.lookup x.1 = some .local)
    (h : wpAny (MM w) A (eval iter env) (fun x s₁ => wpAny (MM w) A (pyIter x) (fun it s₂ => wpAny (MM w) A (newList []) (fun acc s₃ =>
      wpAny (MM w) A (newFunctionEnv scope env.globals cl [] env.qual none .none (some env)) (fun cenv s₄ =>
        ∀ k' p g l, (∀ f s', wpAny (MM w) A (assign (.Name y py) env acc) (fun _ s'' => ∃ m, s''.heap.Ns cenv.locals m ∧ ∀ h', Heap.SameBut cenv.locals s''.heap h' → X.J c fs (K .next) { s'' with heap := h' }) (fun x s' => X.J c fs (H x) s') s' → X.J c fs (k' (.ok f)) s') →
          X.J (.compStart (.ListComp elt [⟨target, iter, [], 0⟩] scope pos) 0 it acc { cenv with scope := relabel scope env }) (.ret k' none g l c p [] :: fs) ((MM w).den (.compStart (.ListComp elt [⟨target, iter, [], 0⟩] scope pos) 0 it acc { cenv with scope := relabel scope env })) s₄)
        (fun x s' => X.J c fs (H x) s') s₃) (fun x s' => X.J c fs (H x) s') s₂) (fun x s' => X.J c fs (H x) s') s₁) (fun x s' => X.J c fs (H x) s') s) :
    X.J c fs ((exec (.Assign [.Name y py] (.ListComp elt [⟨target, iter, [], 0⟩] scope pos) spos) env).wrap K H gd lv) s := by
  rw [exec_Assign_Name_used _ _ _ _ hsw, wr_bind]
  refine X.at ?_
  show X.J c fs ((evalThenUse (.ListComp elt [⟨target, iter, [], 0⟩] scope pos) env (assign (.Name y py) env) >>= fun _ => (pure .next : Sem Flow)).wrap K H gd lv) s
  rw [wr_bind]
  show X.J c fs ((comprehension (.ListComp elt [⟨target, iter, [], 0⟩] scope pos) scope env _ (newList []) false (eval iter env) (some (assign (.Name y py) env)) >>= fun _ => (pure () : Sem Unit)).wrap _ H gd lv) s
  rw [wr_bind]
  unfold comprehension
  rw [hclos]
  rw [wr_bind]
  refine X.wrap o (wpAny_mono h (fun x s₁ h₁ => ?_) fun _ _ x => x)
  rw [wr_bind]
  refine X.at ?_
  show X.J c fs ((foldedSetIterable iter env x >>= _).wrap _ H gd lv) s₁
  rw [hs, pure_bind, wr_bind]
  show X.J c fs ((PySem.holding [x] (pyIter x)).wrap _ H gd lv) s₁
  refine j_holding fun lv1 => X.wrap o (wpAny_mono h₁ (fun it s₂ h₂ => ?_) fun _ _ x => x)
  show X.J c fs ((standAt pos >>= fun _ => newList [] >>= _).wrap _ H gd lv) s₂
  rw [wr_bind]
  refine X.at ?_
  show X.J c fs ((newList [] >>= _).wrap _ H gd lv) s₂
  refine j_bindW o (wpAny_mono h₂ (fun acc s₃ h₃ => ?_) fun _ _ x => x)
  rw [pure_bind]
  refine j_bindW o (wpAny_mono h₃ (fun cenv s₄ h₄ => ?_) fun _ _ x => x)
  dsimp only
  refine j_holding fun lv2 => ?_
  rw [wr_bind, wr_attempt]
  refine j_holding fun lv3 => j_run fun k' p g l hk => ?_
  refine h₄ k' p g l fun f s' hf => ?_
  rw [hk]
  have hv' : ∀ x ∈ (scope.names.filter fun x => (x.2 == .local || x.2 == .cell) && x.1 != (".0" : Str)).reverse.drop 1 ++ (scope.names.filter fun x => (x.2 == .local || x.2 == .cell) && x.1 != (".0" : Str)).reverse.take 1,
      x.2 = .local → Env.kindOf { cenv with scope := relabel scope env } x.1 = some .local := fun x hx hl => by
    have hm : x ∈ (scope.names.filter fun x => (x.2 == .local || x.2 == .cell) && x.1 != (".0" : Str)).reverse := by
      rcases List.mem_append.mp hx with h1 | h1
      · exact List.mem_of_mem_drop h1
      · exact List.mem_of_mem_take h1
    exact lookup_relabel_local (hnames x (List.mem_filter.mp (List.mem_reverse.mp hm)).1 hl)
  show X.J c fs ((rule _ >>= fun _ => PySem.holding _ (assign (.Name y py) env acc) >>= fun _ => comprehension.letGo _ _ _ >>= fun _ => (pure .none : Sem Value)).wrap _ H gd lv2) s'
  refine j_bindW o (wpAny_rule ?_)
  rw [wr_bind]
  refine j_holding fun lv4 => X.wrap o (wpAny_mono hf (fun _ s'' hr' => ?_) fun _ _ x => x)
  obtain ⟨m, hn, hr'⟩ := hr'
  refine j_bindW o (wpAny_comp_letGo (cenv := { cenv with scope := relabel scope env }) hkind _ s'' m hv' hn fun h' m' _ hs' => ?_)
  exact hr' h' hs'
end
end

section -- N4
open PySem PySem.W PySem.Calls PyProof.Rows
set_option maxHeartbeats 0
set_option linter.unusedVariables false
set_option maxRecDepth 100000
/-- no code table -/
def NR (a : Addr) : Prop := a ≠ 380 ∧ a ≠ 403
section
variable {w : World} {h₀ h h' : Heap} {W : List Addr} {D D1 D1' D2 : Dl}
/-- a part of what is in hand goes its way alone -/
theorem G.partR (H : G w h₀ W h (D1 ++ D2)) : G w h (D1.map (·.1)) h D1 := by
  have nd := H.nd
  rw [List.map_append, List.nodup_append] at nd
  exact ⟨H.st, Kp.refl _ _, fun p hp => H.own p (List.mem_append_left _ hp), fun p hp => ⟨(H.dyn p (List.mem_append_left _ hp)).1, .inl (List.mem_map_of_mem (f := (·.1)) hp)⟩, nd.1, H.st.big⟩
theorem G.overR (H : G w h₀ W h (D1 ++ D2)) (N : G w h (D1.map (·.1)) h' D1') : G w h₀ W h' (D1' ++ D2) := by
  have nd := H.nd
  rw [List.map_append, List.nodup_append] at nd
  have ne : ∀ b, b ∈ D1.map (·.1) → b ∈ W ∨ h₀.get? b = none := fun b hb => by
    obtain ⟨p, hp, rfl⟩ := List.mem_map.mp hb
    exact (H.dyn p (List.mem_append_left _ hp)).2
  refine ⟨N.st, ⟨fun b o e x y z => N.kp.keep _ _ (H.kp.keep b o e x y z) (fun q => ?_) y z, fun b o e => let ⟨o', e'⟩ := H.kp.there b o e; N.kp.there b o' e'⟩, fun p hp => ?_, fun p hp => ?_, ?_, H.big⟩
  · rcases ne b q with q | q
    · exact x q
    · rw [e] at q; cases q
  · rcases List.mem_append.mp hp with hp | hp
    · exact N.own p hp
    · obtain ⟨o, e, r⟩ := H.own p (List.mem_append_right _ hp)
      have h7 := (H.dyn p (List.mem_append_right _ hp)).1
      exact ⟨o, N.kp.keep _ _ e (fun q => nd.2.2 _ q _ (List.mem_map_of_mem (f := (·.1)) hp) rfl) (ne380 h7) (ne403 h7), r⟩
  · rcases List.mem_append.mp hp with hp | hp
    · refine ⟨(N.dyn p hp).1, ?_⟩
      rcases (N.dyn p hp).2 with q | q
      · exact ne _ q
      · exact .inr (H.new q).1
    · exact H.dyn p (List.mem_append_right _ hp)
  · rw [List.map_append, List.nodup_append]
    refine ⟨N.nd, nd.2.1, fun a ha b hb hab => ?_⟩
    obtain ⟨p, hp, rfl⟩ := List.mem_map.mp ha
    obtain ⟨q, hq, rfl⟩ := List.mem_map.mp hb
    rcases (N.dyn p hp).2 with z | z
    · exact nd.2.2 _ z _ (List.mem_map_of_mem (f := (·.1)) hq) hab
    · exact (H.new z).2 q (List.mem_append_right _ hq) hab.symm
theorem G.immNe (H : G w h₀ W h D) (nt : NT D) {n : Addr} {o : Obj} (e : h.get? n = some o) (hi : imm o) : n ∉ D.map (·.1) := fun hm => by
  obtain ⟨p, hp, rfl⟩ := List.mem_map.mp hm
  obtain ⟨o', e', _, r⟩ := H.own p hp
  have e' : h.get? p.1 = some o' := e'
  rw [e] at e'; cases e'
  exact nt.all p hp _ r hi
end
theorem imm_tup {h : Heap} {a : Addr} {vs : Array Value} (x : IsTup h a vs) : ∃ o, h.get? a = some o ∧ imm o := let ⟨o, e, c, n, d⟩ := x; ⟨o, e, c, vs, n, d⟩
mutual
theorem Rep.imm {g : Addr → Prop} {h h' : Heap} (hk : ∀ a o, g a → imm o → h.get? a = some o → h'.get? a = some o) : ∀ (d : PyData) (v : Value), noL d = true → Rep g h d v → Rep g h' d v
  | .none, _, _, x => by rw [Rep] at x ⊢; exact x
  | .bool _, _, _, x => by rw [Rep] at x ⊢; exact x
  | .int _, _, _, x => by rw [Rep] at x ⊢; exact x
  | .str _, _, _, x => by rw [Rep] at x ⊢; exact x
  | .list _, _, hn, _ => by rw [noL] at hn; cases hn
  | .tuple l, _, hn, x => by
    rw [noL] at hn
    rw [Rep] at x ⊢
    obtain ⟨a, vs, e, ga, ⟨o, ho, c, n, dd⟩, y⟩ := x; exact ⟨a, vs, e, ga, ⟨o, hk a o ga ⟨c, _, n, dd⟩ ho, c, n, dd⟩, Reps.imm hk l vs hn y⟩
  | .dict _, _, _, x => by rw [Rep] at x; exact x.elim
theorem Reps.imm {g : Addr → Prop} {h h' : Heap} (hk : ∀ a o, g a → imm o → h.get? a = some o → h'.get? a = some o) : ∀ (ds : List PyData) (vs : List Value), noLs ds = true → Reps g h ds vs → Reps g h' ds vs
  | [], _, _, x => by rw [Reps] at x ⊢; exact x
  | d :: ds, _, hn, x => by
    rw [noLs, Bool.and_eq_true] at hn
    rw [Reps] at x ⊢; obtain ⟨v, r, e, y, z⟩ := x; exact ⟨v, r, e, Rep.imm hk d v hn.1 y, Reps.imm hk ds r hn.2 z⟩
end
theorem reps_of_strs {g : Addr → Prop} {h : Heap} : ∀ {vs : List Value} {ys : List Str}, StrsAre vs ys → Reps g h (strsD ys) vs := by
  intro vs ys x
  induction x with
  | nil => exact reps_nil
  | cons _ _ _ ih => exact reps_cons rep_str ih
/-- x.name of an object that stands anywhere -/
theorem k_get {w : World} {A : Around} {E : Value → Shared → Prop} {h : Heap} {x dx C : Addr} {name : Str} {v : Value} {l : List (Str × Value)} {k : Nat} {g : Array GenState} {d : Drawn} {t : Nat} {os : OsState} {ex : Bool} {Q : Value → Shared → Prop}
    (X : (KK w).In h) (e1 : h.get? x = some (instObj C dx)) (e2 : ∃ od, h.get? dx = some od ∧ nsx k l od) (hl : l.lookup name = some v)
    (hc : (findIn (KK w) (.ref C) "__getattribute__" == some (some (.builtin "object.__getattribute__")) && findIn (KK w) (.ref C) name == some none && (clsIn (KK w) C).any (·.hasDict)) = true) (hv : handedIn v = true)
    (q : ∀ t', Q v ⟨h, g, d, t', os⟩) : wpAny (MM w) A (getAttr (.ref x) name ex) Q E ⟨h, g, d, t, os⟩ := by
  simp only [Bool.and_eq_true, beq_iff_eq] at hc
  obtain ⟨⟨c1, c2⟩, c3⟩ := hc
  obtain ⟨od, eD, p⟩ := e2
  obtain ⟨cd, hcd, hd'⟩ := any_some c3
  refine get_value (K := KK w) (v := v) (ox := instObj C dx) (od := some od) X ⟨e1, rfl, rfl, eD⟩ c1 ?_ hv (q _)
  unfold findObj PySem.W.ownOf
  rw [hcd, c2]
  dsimp only [Option.bind_some]
  have e1 : (if cd.hasDict = true then lookIn name od else some none) = some (some v) := by rw [if_pos hd', nsx_look p, hl]
  rw [e1]
  rfl
abbrev TF (p k w : Option Value) : Nl := [("place", p), ("kind", k), ("word", w)]
/-- a turn of [(place, kind.names, word) for place, kind, word in ..] -/
theorem told_turn {w : World} {A : Around} {E : Value → Shared → Prop} {k : Nat} {h₀ h : Heap} {D : Dl} {C acc a gi : Addr} {gk : Addr → Prop} {vs : List Value} {it : Item} {v : Value} {lp lk lw : Option Value} {env : Env} {g : Array GenState} {d : Drawn} {t : Nat} {os : OsState}
    {p1 p2 p3 p4 q1 q2 q3 q4 q5 : Pos} {kk kk' : Nat} {Q : Shared → Prop}
    (hA : AOk A (k + 1)) (Ev : EnvOk env C [(".0", .local), ("place", .local), ("kind", .local), ("word", .local)] []) (H : G w h₀ [] h ((C, fr (TF lp lk lw)) :: (acc, isPL vs) :: D)) (hg : IsGn h a gi) (hI : ItL gk h v it) (hgk : ∀ b, gk b → 714 ≤ b ∧ b ∉ [C, acc]) (hz : vs.length ≤ 10000)
    (q : ∀ h' t' lp' lk' lw' v', G w h₀ [] h' ((C, fr (TF lp' lk' lw')) :: (acc, isPL (vs ++ [v'])) :: D) → Kp [C, acc] h h' → Rep NR h' (itemD it) v' → Q ⟨h', g, d, t', os⟩) :
    wpAny (MM w) A (letOwnedTupleGo (.Tuple [.Name "place" p1, .Name "kind" p2, .Name "word" p3] kk p4) (.ref a) v) (fun _ s₁ => wpAny (MM w) A (assign (.Tuple [.Name "place" p1, .Name "kind" p2, .Name "word" p3] kk p4) env v) (fun _ s₂ =>
      wpAny (MM w) A (eval (.Tuple [.Name "place" q1, .Attribute (.Name "kind" q2) "names" q3, .Name "word" q4] kk' q5) env) (fun x s₃ => wpAny (MM w) A (call (.builtin "list.append") [.ref acc, x]) (fun _ s₄ => Q s₄) E s₃) E s₂) E s₁) E ⟨h, g, d, t, os⟩ := by
  refine own_gn hg ?_
  obtain ⟨r, tp, ty, tx, rfl, r7, hr, dx, kn, l, n, ns, ⟨z1, z2, z3⟩, e1, e2, e3, e4, e5⟩ := hI
  have HP := G.partR (D1 := [(C, fr (TF lp lk lw)), (acc, isPL vs)]) (D2 := D) H
  have nz : ∀ b, (gk b ∨ b < 380) → b ∉ [C, acc] ∧ NR b := fun b hb => by
    rcases hb with hb | hb
    · exact ⟨(hgk b hb).2, ne380 (hgk b hb).1, ne403 (hgk b hb).1⟩
    · refine ⟨fun q => ?_, Nat.ne_of_lt hb, Nat.ne_of_lt (Nat.lt_trans hb (by decide))⟩
      have h7 : ∀ p ∈ [(C, fr (TF lp lk lw)), (acc, isPL vs)], b ≠ p.1 := fun p hp q => by
        have := (HP.dyn p hp).1
        rw [← q] at this
        exact absurd hb (Nat.not_lt.mpr (Nat.le_trans (by decide) this))
      simp only [List.mem_cons, List.not_mem_nil, or_false] at q
      rcases q with q | q
      · exact h7 _ (.head _) q
      · exact h7 _ (.tail _ (.head _)) q
  have kz : ∀ {h' D'} b o, G w h [C, acc] h' D' → (gk b ∨ b < 380) → h.get? b = some o → h'.get? b = some o := fun {h' D'} b o N hb e => N.kp.keep b o e (nz b hb).1 (nz b hb).2.1 (nz b hb).2.2
  refine a_tup3 hA.hd HP hr fun ha Ha => ?_
  k_clsL
  refine Attribute_Name_ ?_ (by rfl)
  k_clsL
  rename_i h1 t1 N
  obtain ⟨od, eod, pod⟩ := e2
  refine k_get N.st.k (kz _ _ N z1 e1) ⟨od, kz _ _ N z2 eod, pod⟩ e3 (by kernel_rfl) rfl fun t2 => ?_
  k_clsL
  refine ⟨rfl, new_tupF N fun r' h2 H2 K2 nr0 nr => ?_⟩
  refine l_appendP H2 (by tb_rel) (by omega) (by tb_start) fun h3 H3 => ?_
  have H3' := H3.sub (List.sublist_cons_self _ _)
  have r7' : 714 ≤ r' := (H3.dyn _ (.head _)).1
  refine q _ _ _ _ _ _ (G.overR (D2 := D) H H3') H3.kp (rep_tup ⟨ne380 r7', ne403 r7'⟩ (H3.tup (a := r') (by tb_rel)) ?_)
  obtain ⟨on, en, rn⟩ := e4
  refine reps_cons rep_int (reps_cons (rep_tup (nz n z3).2 ⟨on, kz n on H3 z3 en, rn⟩ (reps_of_strs e5)) (reps_cons rep_str reps_nil))
end

section -- N5
open PySem PySem.W PySem.Calls PyProof.Rows
set_option maxHeartbeats 0
set_option linter.unusedVariables false
set_option maxRecDepth 100000
theorem Room.ok {κ : Nat} {c : Code} {st : List Frame} {d u : Nat} {w : World} {Φ : Outcome → Shared → Prop} (hr : Room κ c st d u) : (jGo w Φ).Ok (AA d u) c st := ⟨d, u, rfl, hr.rm⟩
/-- a segment of a generator, seen by who asks -/
theorem G.seg {w : World} {h₀ h h' h₃ : Heap} {D : Dl} {Lf : Addr} (H : G w h₀ [] h D) (S : St w h') (hL0 : h₀.get? Lf = none) (hLD : ∀ b ∈ D.map (·.1), b ≠ Lf) (he : ∀ b ∈ D.map (·.1), Ex h₃ b) (h03 : ∀ b, Ex h₀ b → Ex h₃ b)
    (hk : ∀ b o, h.get? b = some o → Ex h₃ b → b ≠ Lf → b ≠ 380 → b ≠ 403 → h'.get? b = some o) (ht : ∀ b o, h.get? b = some o → ∃ o', h'.get? b = some o') : G w h₀ [] h' D := by
  refine ⟨S, ⟨fun b o e x y z => hk b o (H.kp.keep b o e x y z) (h03 b ⟨o, e⟩) (fun q => by rw [q, hL0] at e; cases e) y z, fun b o e => let ⟨o', e'⟩ := H.kp.there b o e; ht b o' e'⟩, fun p hp => ?_, H.dyn, H.nd, H.big⟩
  obtain ⟨o, e, r⟩ := H.own p hp
  have h7 := (H.dyn p hp).1
  exact ⟨o, hk _ _ e (he _ (List.mem_map_of_mem (f := (·.1)) hp)) (hLD _ (List.mem_map_of_mem (f := (·.1)) hp)) (ne380 h7) (ne403 h7), r⟩
theorem bare_of {g g' : Array GenState} (hb : AllBare g) (h : ∀ i, i < g'.size → (i < g.size ∧ g'[i]? = g[i]?) ∨ g'[i]? = some .finished) : AllBare g' := fun y hy => by
  obtain ⟨i, hi, rfl⟩ := Array.mem_iff_getElem.mp hy
  rcases h i hi with ⟨hl, e⟩ | e
  · rw [Array.getElem?_eq_getElem hi, Array.getElem?_eq_getElem hl] at e
    injection e with e
    rw [e]
    exact hb _ (Array.getElem_mem hl)
  · rw [Array.getElem?_eq_getElem hi] at e
    injection e with e
    rw [e]; rfl
/-- what the comprehension over a generator keeps: all but its frame, its list, the generator's frame -/
abbrev Keeps3 (C acc Lf : Addr) (h h' : Heap) : Prop := ∀ b o, h.get? b = some o → b ≠ Lf → b ∉ [C, acc] → b ≠ 380 → b ≠ 403 → h'.get? b = some o
theorem noL_strs : ∀ l : List Str, noLs (strsD l) = true
  | [] => by simp [noLs]
  | x :: r => by
    show noLs (.str x :: strsD r) = true
    rw [noLs, noL_strs r]; simp [noL]
theorem noL_items : ∀ l : List Item, noLs (itemsD l) = true
  | [] => by simp [noLs]
  | i :: r => by
    show noLs (itemD i :: itemsD r) = true
    have := noL_strs i.2.1
    rw [noLs, noL_items r]; simp [noL, noLs, this]
theorem comp_go {w : World} {Φ : Outcome → Shared → Prop} {κ : Nat} {iter : Expr} {scope : Scope} {pos : Pos} {env : Env} {C acc a Lf : Addr} {h₀ h₃ : Heap} {D : Dl} {gk : Addr → Prop} {st : List Frame} {dd u : Nat}
    {g : Array GenState} {d : Drawn} {t : Nat} {os : OsState} {cd : Code} {its : List Item} {p1 p2 p3 p4 q1 q2 q3 q4 q5 : Pos} {kk kk' : Nat}
    (hr : Room (κ + 1) (.compLoop (.ListComp (.Tuple [.Name "place" q1, .Attribute (.Name "kind" q2) "names" q3, .Name "word" q4] kk' q5) [⟨.Tuple [.Name "place" p1, .Name "kind" p2, .Name "word" p3] kk p4, iter, [], 0⟩] scope pos) 0 (.ref a) (.ref acc) env) st dd u)
    (hA : AOk (AA dd u) 1) (Ev : EnvOk env C [(".0", .local), ("place", .local), ("kind", .local), ("word", .local)] [])
    (H₃ : G w h₀ [] h₃ ((C, fr (TF none none none)) :: (acc, isPL []) :: D)) (hL0 : h₀.get? Lf = none) (hLD : ∀ b ∈ C :: acc :: D.map (·.1), b ≠ Lf) (hgk : ∀ b, gk b → 714 ≤ b ∧ b ∉ [C, acc])
    (hg : IsGn h₃ a g.size) (ha7 : 714 ≤ a) (ha : a ≠ Lf ∧ a ∉ [C, acc]) (hG : Gives (LP w gk [C, acc] (Ex h₃) (g.size + 1) Lf g.size κ) its (.fresh cd) (Shared.setGen ⟨h₃, g.push (.fresh cd), d, t, os⟩ g.size .running))
    (hz : its.length ≤ 100) (hb : AllBare g)
    (fin : ∀ h' g' t' lp lk lw vs, G w h₀ [] h' ((C, fr (TF lp lk lw)) :: (acc, isPL vs) :: D) → Reps NR h' (itemsD its) vs → Keeps3 C acc Lf h₃ h' → (∀ b, Ex h₃ b → Ex h' b) → AllBare g' →
      GoT (MM w) Φ (.compLoop (.ListComp (.Tuple [.Name "place" q1, .Attribute (.Name "kind" q2) "names" q3, .Name "word" q4] kk' q5) [⟨.Tuple [.Name "place" p1, .Name "kind" p2, .Name "word" p3] kk p4, iter, [], 0⟩] scope pos) 0 (.ref a) (.ref acc) env) st (.pure (.done .next)) ⟨h', g', d, t', os⟩) :
    GoT (MM w) Φ (.compLoop (.ListComp (.Tuple [.Name "place" q1, .Attribute (.Name "kind" q2) "names" q3, .Name "word" q4] kk' q5) [⟨.Tuple [.Name "place" p1, .Name "kind" p2, .Name "word" p3] kk p4, iter, [], 0⟩] scope pos) 0 (.ref a) (.ref acc) env) st
      ((MM w).den (.compLoop (.ListComp (.Tuple [.Name "place" q1, .Attribute (.Name "kind" q2) "names" q3, .Name "word" q4] kk' q5) [⟨.Tuple [.Name "place" p1, .Name "kind" p2, .Name "word" p3] kk p4, iter, [], 0⟩] scope pos) 0 (.ref a) (.ref acc) env)) ⟨h₃, g.push (.fresh cd), d, t, os⟩ := by
  have hE : ∀ b ∈ C :: acc :: D.map (·.1), Ex h₃ b := fun b hb => by
    obtain ⟨p, hp, rfl⟩ := List.mem_map.mp (show b ∈ ((C, fr (TF none none none)) :: (acc, isPL []) :: D).map (·.1) from hb)
    obtain ⟨o, e, _⟩ := H₃.own p hp
    exact ⟨o, e⟩
  have h03 : ∀ b, Ex h₀ b → Ex h₃ b := fun b ⟨o, e⟩ => H₃.kp.there b o e
  suffices HH : ∀ (its2 done : List Item) (gs : GenState) (s : Shared) lp lk lw vs, its = done ++ its2 → G w h₀ [] s.heap ((C, fr (TF lp lk lw)) :: (acc, isPL vs) :: D) → Reps NR s.heap (itemsD done) vs → Keeps3 C acc Lf h₃ s.heap → (∀ b, Ex h₃ b → Ex s.heap b) →
      s.gens[g.size]? = some gs → liveG gs = true → (∀ i, i < g.size → s.gens[i]? = g[i]?) → s.drawn = d → s.os = os →
      Gives (LP w gk [C, acc] (Ex h₃) (g.size + 1) Lf g.size κ) its2 gs (s.setGen g.size .running) →
      GoT (MM w) Φ (.compLoop (.ListComp (.Tuple [.Name "place" q1, .Attribute (.Name "kind" q2) "names" q3, .Name "word" q4] kk' q5) [⟨.Tuple [.Name "place" p1, .Name "kind" p2, .Name "word" p3] kk p4, iter, [], 0⟩] scope pos) 0 (.ref a) (.ref acc) env) st
        ((MM w).den (.compLoop (.ListComp (.Tuple [.Name "place" q1, .Attribute (.Name "kind" q2) "names" q3, .Name "word" q4] kk' q5) [⟨.Tuple [.Name "place" p1, .Name "kind" p2, .Name "word" p3] kk p4, iter, [], 0⟩] scope pos) 0 (.ref a) (.ref acc) env)) s from
    HH its [] (.fresh cd) _ none none none [] rfl H₃ reps_nil (fun _ _ e _ _ _ _ => e) (fun _ e => e) (by show (g.push (.fresh cd))[g.size]? = _; simp) rfl (fun i hi => by show (g.push (.fresh cd))[i]? = _; rw [Array.getElem?_push]; simp [Nat.ne_of_lt hi]) rfl rfl hG
  intro its2
  induction its2 with
  | nil =>
    intro done gs s lp lk lw vs hd H hrep hk ht hgs hlv hold hdr hos hG
    have hgn : IsGn s.heap a g.size := let ⟨o, nm, qn, e, r⟩ := hg; ⟨o, nm, qn, hk a o e ha.1 ha.2 (ne380 ha7) (ne403 ha7), r⟩
    have hlt := lt_of_gens hgs
    refine j_compTurn (X := jGo w Φ) hr.ok fun Kn Hn hn hs => ?_
    refine g_next (P := LP w gk [C, acc] (Ex h₃) (g.size + 1) Lf g.size κ) (its := []) hr H.st.lim hgn hgs hG hlv ?_
    intro s' h'' e hR hS hf hx he
    refine hn _ ?_
    have hdr' := hR.dr.trans hdr
    have hos' := hR.os.trans hos
    have hgsz := hR.gsz
    rw [setGen_size] at hgsz
    obtain ⟨h1, g1, d1, t1, o1⟩ := s'
    dsimp only at hdr' hos' hgsz hx hf hS
    subst hdr'
    subst hos'
    have kk : ∀ b o, s.heap.get? b = some o → (Ex h₃ b ∧ b ≠ Lf) ∨ imm o → b ≠ 380 → b ≠ 403 → h''.get? b = some o := fun b o e h1 h2 h3 => hx b o (hR.keep b o e h1 h2 h3)
    have tt : ∀ b o, s.heap.get? b = some o → ∃ o', h''.get? b = some o' := fun b o e => let ⟨o', e'⟩ := hR.there b o e; ⟨o', hx _ _ e'⟩
    refine fin h'' (g1.setIfInBounds g.size .finished) t1 lp lk lw vs (H.seg (hS.ext hx) hL0 hLD hE h03 (fun b o e h1 h2 h3 h4 => kk b o e (.inl ⟨h1, h2⟩) h3 h4) tt) ?_ (fun b o e h1 h2 h3 h4 => kk b o (hk b o e h1 h2 h3 h4) (.inl ⟨⟨o, e⟩, h1⟩) h3 h4) (fun b hb => let ⟨o, e⟩ := ht b hb; tt b o e) ?_
    · rw [hd, List.append_nil]
      exact Reps.imm (fun b o gb hi e => kk b o e (.inr hi) gb.1 gb.2) _ _ (noL_items done) hrep
    · refine bare_of hb fun i hi => ?_
      rw [Array.size_setIfInBounds] at hi
      rcases Nat.lt_trichotomy i g.size with h | h | h
      · refine .inl ⟨h, ?_⟩
        rw [gens_set_ne (Nat.ne_of_lt h), ← hold i h, ← setGen_ne (s := s) (x := .running) (Nat.ne_of_lt h)]
        exact hR.gens i (Nat.lt_succ_of_lt h)
      · right; rw [h]; exact gens_set_self (Nat.lt_of_lt_of_le hlt hgsz)
      · right; rw [gens_set_ne (Nat.ne_of_gt h)]; exact hf i h hi
  | cons it its2 ih =>
    intro done gs s lp lk lw vs hd H hrep hk ht hgs hlv hold hdr hos hG
    have hgn : IsGn s.heap a g.size := let ⟨o, nm, qn, e, r⟩ := hg; ⟨o, nm, qn, hk a o e ha.1 ha.2 (ne380 ha7) (ne403 ha7), r⟩
    have hlt := lt_of_gens hgs
    refine j_compTurn (X := jGo w Φ) hr.ok fun Kn Hn hn hs => ?_
    refine g_next (P := LP w gk [C, acc] (Ex h₃) (g.size + 1) Lf g.size κ) (its := it :: its2) hr H.st.lim hgn hgs hG hlv ?_
    intro v s' gs' hR hS hI hlv' hnx
    refine hs v _ ?_
    have hdr' := hR.dr.trans hdr
    have hos' := hR.os.trans hos
    have hgsz := hR.gsz
    rw [setGen_size] at hgsz
    have kk : ∀ b o, s.heap.get? b = some o → (Ex h₃ b ∧ b ≠ Lf) ∨ imm o → b ≠ 380 → b ≠ 403 → s'.heap.get? b = some o := hR.keep
    have tt : ∀ b o, s.heap.get? b = some o → ∃ o', s'.heap.get? b = some o' := hR.there
    have H' := H.seg hS hL0 hLD hE h03 (fun b o e h1 h2 h3 h4 => kk b o e (.inl ⟨h1, h2⟩) h3 h4) tt
    have hk' : Keeps3 C acc Lf h₃ s'.heap := fun b o e h1 h2 h3 h4 => kk b o (hk b o e h1 h2 h3 h4) (.inl ⟨⟨o, e⟩, h1⟩) h3 h4
    have hgn' : IsGn s'.heap a g.size := let ⟨o, nm, qn, e, r⟩ := hg; ⟨o, nm, qn, hk' a o e ha.1 ha.2 (ne380 ha7) (ne403 ha7), r⟩
    have hrep' : Reps NR s'.heap (itemsD done) vs := Reps.imm (fun b o gb hi e => kk b o e (.inr hi) gb.1 gb.2) _ _ (noL_items done) hrep
    have hlen : vs.length ≤ 10000 := by
      have e1 := hrep.len
      rw [List.length_map] at e1
      have e2 := congrArg List.length hd
      rw [List.length_append] at e2
      omega
    have hsz : g.size < s'.gens.size := Nat.lt_of_lt_of_le hlt hgsz
    refine told_turn (h := s'.heap) (g := (s'.setGen g.size gs').gens) (d := s'.drawn) (t := s'.toks) (os := s'.os) hA Ev H' hgn' hI hgk hlen fun h2 t2 lp' lk' lw' v' H2 K2 R2 => ?_
    refine g_again rfl ?_
    have nt : NT ((C, fr (TF lp lk lw)) :: (acc, isPL vs) :: []) := ⟨nt_fr, nt_pl, trivial⟩
    have HN : G w s'.heap [C, acc] s'.heap [(C, fr (TF lp lk lw)), (acc, isPL vs)] := G.partR (D1 := [(C, fr (TF lp lk lw)), (acc, isPL vs)]) (D2 := D) H'
    refine ih (done ++ [it]) gs' ⟨h2, (s'.setGen g.size gs').gens, s'.drawn, t2, s'.os⟩ lp' lk' lw' (vs ++ [v']) (by rw [hd, List.append_assoc]; rfl) H2 ?_ (fun b o e h1 h3 h4 h5 => K2.keep b o (hk' b o e h1 h3 h4 h5) h3 h4 h5) (fun b hb => let ⟨o, e⟩ := ht b hb; let ⟨o', e'⟩ := tt b o e; K2.there b o' e') ?_ hlv' (fun i hi => ?_) hdr' hos' (hnx _ ?_)
    · rw [show itemsD (done ++ [it]) = itemsD done ++ itemsD [it] from List.map_append ..]
      exact reps_app (Reps.imm (fun b o gb hi e => K2.keep b o e (HN.immNe nt e hi) gb.1 gb.2) _ _ (noL_items done) hrep') (reps_cons R2 reps_nil)
    · exact gens_set_self hsz
    · show (s'.setGen g.size gs').gens[i]? = _
      rw [setGen_ne (Nat.ne_of_lt hi), hR.gens i (Nat.lt_succ_of_lt hi), setGen_ne (Nat.ne_of_lt hi)]
      exact hold i hi
    · refine ⟨K2, H2.st, fun i hi => ?_, ?_, rfl, rfl⟩
      · have hi : g.size + 1 ≤ i := hi
        have hne' : i ≠ g.size := by omega
        rw [setGen_ne hne']
        exact setGen_ne hne'
      · rw [setGen_size]
        exact Nat.le_of_eq setGen_size.symm
end

section -- N3
open PySem PySem.W PySem.Calls PyProof.Rows
set_option linter.unusedVariables false
set_option maxRecDepth 100000
theorem pick_fits {rules : List (List Piece)} {terms : List Str} (hr : ∀ r ∈ rules, 1 ≤ wlen r) (ht : ∀ x ∈ terms, 1 ≤ x.length) {root : Bool} {text : Str} {place : Int} (h0 : 0 ≤ place) (h1 : place ≤ text.length) {ps : List Piece} (e : pick rules terms root text place = some ps) :
    place + wlen ps ≤ text.length ∧ 1 ≤ wlen ps ∧ (ps ∈ rules ∨ ∀ pc ∈ ps, ¬ 3 < pc.2) := by
  unfold pick at e
  split at e
  · unfold pickR at e
    have h2 := List.find?_some e
    have h3 := List.mem_of_find?_eq_some e
    have h4 := hits_len h0 h1 h2
    rw [whole_len] at h4
    exact ⟨h4, hr _ h3, .inl h3⟩
  · unfold pickT at e
    cases e2 : terms.find? fun x => hits text place x with
    | none => rw [e2] at e; cases e
    | some x =>
      rw [e2] at e; cases e
      have h2 := List.find?_some e2
      have h3 := List.mem_of_find?_eq_some e2
      have h4 := hits_len h0 h1 h2
      have h5 : wlen [((some x, 2) : Piece)] = x.length := by simp [wlen, pw]
      rw [h5]
      exact ⟨h4, ht _ h3, .inr fun pc hpc => by rw [List.mem_singleton.mp hpc]; show ¬ (3 : Int) < 2; decide⟩
/-- fuel enough, where what is read again is short -/
theorem mc_some1 {rules : List (List Piece)} {terms : List Str} (b : Nat) (hr : ∀ r ∈ rules, 1 ≤ wlen r) (ht : ∀ x ∈ terms, 1 ≤ x.length) (hb : ∀ r ∈ rules, ∀ pc ∈ r, ∀ x, pc.1 = some x → x.length ≤ b) :
    ∀ (n : Nat) (root : Bool) (text : Str) (place : Int), 0 ≤ place → place ≤ text.length → (text.length - place.toNat) + 2 * b < n → ∃ r, mc rules terms n root text place = some r
  | 0, _, _, _, _, _, h => absurd h (Nat.not_lt_zero _)
  | n + 1, root, text, place, h0, h1, h => by
    rw [mc]
    split
    · rename_i hlt
      cases e : pick rules terms root text place with
      | none =>
        obtain ⟨r, hr'⟩ := mc_some1 b hr ht hb n (root || Txt.item text place == NL) text (place + 1) (by omega) (by omega) (by omega)
        exact ⟨_, by dsimp only; rw [hr']; rfl⟩
      | some ps =>
        dsimp only
        obtain ⟨hw1, hw2, hw3⟩ := pick_fits hr ht h0 h1 e
        obtain ⟨q, hq⟩ := mc_some1 b hr ht hb n root text (place + wlen ps) (by omega) hw1 (by omega)
        obtain ⟨a, ha⟩ := pcs_some (f := fun x => mc rules terms n false x 0) (ps := ps) (p := place) fun pc hpc x hx h3 => by
          rcases hw3 with hw3 | hw3
          · have := hb ps hw3 pc hpc x hx
            exact mc_some hr ht n false x 0 (by omega) (by omega) (by simp; omega)
          · exact absurd h3 (hw3 pc hpc)
        exact ⟨_, by rw [ha]; dsimp only [Option.bind]; rw [hq]; rfl⟩
    · exact ⟨_, rfl⟩
theorem wlen_one {x : Str} {i : Int} : wlen [((some x, i) : Piece)] = x.length := by simp [wlen, pw]
/-- the text itself the one rule: behind its start no rule fits -/
theorem mc_some2 {x : Str} {terms : List Str} (hx : 1 ≤ x.length) (ht : ∀ x ∈ terms, 1 ≤ x.length) :
    ∀ (n : Nat) (root : Bool) (place : Int), 0 ≤ place → place ≤ x.length → (root = true → 1 ≤ place) → (x.length - place.toNat) < n → ∃ r, mc [[(some x, 4)]] terms n root x place = some r
  | 0, _, _, _, _, _, h => absurd h (Nat.not_lt_zero _)
  | n + 1, root, place, h0, h1, hr, h => by
    rw [mc]
    split
    · rename_i hlt
      cases e : pick [[(some x, 4)]] terms root x place with
      | none =>
        obtain ⟨r, hr'⟩ := mc_some2 hx ht n (root || Txt.item x place == NL) (place + 1) (by omega) (by omega) (fun _ => by omega) (by omega)
        exact ⟨_, by dsimp only; rw [hr']; rfl⟩
      | some ps =>
        dsimp only
        obtain ⟨hw1, hw2, hw3⟩ := pick_fits (fun r hr => by rw [List.mem_singleton.mp hr, wlen_one]; exact hx) ht h0 h1 e
        have hw3 : ∀ pc ∈ ps, ¬ 3 < pc.2 := by
          cases root with
          | true =>
            have hp := hr rfl
            unfold pick pickR at e
            rw [if_pos rfl] at e
            rw [List.mem_singleton.mp (List.mem_of_find?_eq_some e), wlen_one] at hw1
            omega
          | false =>
            rcases hw3 with hw3 | hw3
            · unfold pick pickT at e
              rw [if_neg Bool.false_ne_true] at e
              cases e2 : terms.find? fun y => hits x place y with
              | none => rw [e2] at e; cases e
              | some y =>
                rw [e2] at e; cases e
                exact fun pc hpc => by rw [List.mem_singleton.mp hpc]; show ¬ (3 : Int) < 2; decide
            · exact hw3
        obtain ⟨q, hq⟩ := mc_some2 hx ht n root (place + wlen ps) (by omega) hw1 (fun h => by have := hr h; omega) (by omega)
        obtain ⟨a, ha⟩ := pcs_some (f := fun y => mc [[(some x, 4)]] terms n false y 0) (ps := ps) (p := place) fun pc hpc x hx h3 => absurd h3 (hw3 pc hpc)
        exact ⟨_, by rw [ha]; dsimp only [Option.bind]; rw [hq]; rfl⟩
    · exact ⟨_, rfl⟩
theorem mc_some3 {x : Str} {terms : List Str} (hx : 1 ≤ x.length) (ht : ∀ x ∈ terms, 1 ≤ x.length) {n : Nat} (hn : x.length + 1 < n) : ∃ r, mc [[(some x, 4)]] terms n true x 0 = some r := by
  cases n with
  | zero => exact absurd hn (Nat.not_lt_zero _)
  | succ n =>
    rw [mc]
    split
    · rename_i hlt
      cases e : pick [[(some x, 4)]] terms true x 0 with
      | none =>
        obtain ⟨r, hr'⟩ := mc_some2 hx ht n (true || Txt.item x 0 == NL) (0 + 1) (by omega) (by omega) (fun _ => by omega) (by omega)
        exact ⟨_, by dsimp only; rw [hr']; rfl⟩
      | some ps =>
        dsimp only
        obtain ⟨hw1, hw2, hw3⟩ := pick_fits (fun r hr => by rw [List.mem_singleton.mp hr, wlen_one]; exact hx) ht (Int.le_refl 0) (by omega) e
        obtain ⟨q, hq⟩ := mc_some2 hx ht n true (0 + wlen ps) (by omega) hw1 (fun h => by omega) (by omega)
        obtain ⟨a, ha⟩ := pcs_some (f := fun y => mc [[(some x, 4)]] terms n false y 0) (ps := ps) (p := 0) fun pc hpc y hy h3 => by
          rcases hw3 with hw3 | hw3
          · rw [List.mem_singleton.mp hw3] at hpc
            rw [List.mem_singleton.mp hpc] at hy
            cases hy
            exact mc_some2 hx ht n false 0 (by omega) (by omega) (fun h => by cases h) (by omega)
          · exact absurd h3 (hw3 pc hpc)
        exact ⟨_, by rw [ha]; dsimp only [Option.bind]; rw [hq]; rfl⟩
    · exact ⟨_, rfl⟩
end

section -- N6
open PySem PySem.W PySem.Calls PyProof.Rows
set_option maxHeartbeats 0
set_option linter.unusedVariables false
set_option maxRecDepth 100000
/-- the statements of the loop of law -/
def lawSt? (K : Frag) (i : Nat) : Option Stmt := match K.lookup 713 with
  | some ⟨_, _, .func fd, _⟩ => (match fd.body with
    | .stmts [_, .For _ _ b _ _, _] => b[i]?
    | _ => none)
  | _ => none
abbrev NSL : List (Str × NameKind) := [("script", .local), ("state", .cell), ("turn", .local), ("text", .local), ("rules", .local), ("terms", .local), ("comment", .cell), ("tokens", .local), ("lexer", .local), ("told", .local), ("other", .local),
  ("_law_state", .globalImplicit), ("range", .globalImplicit), ("_law_text", .globalImplicit), ("_law_next", .globalImplicit), ("_law_words", .globalImplicit), ("_TokenType", .globalImplicit), ("PlainLexer", .globalImplicit), ("_law_machine", .globalImplicit), ("Plain", .globalImplicit), ("using", .globalImplicit), ("this", .globalImplicit)]
/-- the names of law -/
structure LV where
  sc : Value
  tu : Option Value := none
  tx : Option Value := none
  ru : Option Value := none
  te : Option Value := none
  tk : Option Value := none
  lx : Option Value := none
  to : Option Value := none
  ot : Option Value := none
abbrev LFr (sc tu tx ru te tk lx to ot : Option Value) : Nl := [("script", sc), ("turn", tu), ("text", tx), ("rules", ru), ("terms", te), ("tokens", tk), ("lexer", lx), ("told", to), ("other", ot)]
mutual
theorem Rep.ex {g : Addr → Prop} {h : Heap} : ∀ (d : PyData) (v : Value), Rep g h d v → Rep (fun b => g b ∧ Ex h b) h d v
  | .none, _, x => by rw [Rep] at x ⊢; exact x
  | .bool _, _, x => by rw [Rep] at x ⊢; exact x
  | .int _, _, x => by rw [Rep] at x ⊢; exact x
  | .str _, _, x => by rw [Rep] at x ⊢; exact x
  | .list l, _, x => by
    rw [Rep] at x ⊢
    obtain ⟨a, vs, e, ga, ⟨o, ho, r⟩, y⟩ := x; exact ⟨a, vs, e, ⟨ga, o, ho⟩, ⟨o, ho, r⟩, Reps.ex l vs y⟩
  | .tuple l, _, x => by
    rw [Rep] at x ⊢
    obtain ⟨a, vs, e, ga, ⟨o, ho, r⟩, y⟩ := x; exact ⟨a, vs, e, ⟨ga, o, ho⟩, ⟨o, ho, r⟩, Reps.ex l vs y⟩
  | .dict _, _, x => by rw [Rep] at x; exact x.elim
theorem Reps.ex {g : Addr → Prop} {h : Heap} : ∀ (ds : List PyData) (vs : List Value), Reps g h ds vs → Reps (fun b => g b ∧ Ex h b) h ds vs
  | [], _, x => by rw [Reps] at x ⊢; exact x
  | d :: ds, _, x => by rw [Reps] at x ⊢; obtain ⟨v, r, e, y, z⟩ := x; exact ⟨v, r, e, Rep.ex d v y, Reps.ex ds r z⟩
end
/-- there, and not in hand -/
def NH (K : List Addr) (h : Heap) (b : Addr) : Prop := 714 ≤ b ∧ b ∉ K ∧ Ex h b
theorem NH.kp {K K' : List Addr} {h h' : Heap} (kp : Kp K h h') {b : Addr} (x : NH K' h b) : NH K' h' b := ⟨x.1, x.2.1, let ⟨o, e⟩ := x.2.2; kp.there b o e⟩
theorem NH.keeps {K : List Addr} {h h' : Heap} (kp : Kp K h h') : Keeps (NH K h) h h' := kp.keeps fun b hb => ⟨hb.1, hb.2.1⟩
theorem Reps.nh {K : List Addr} {h h' : Heap} {ds vs} (x : Reps (NH K h) h ds vs) (kp : Kp K h h') : Reps (NH K h') h' ds vs := Reps.keep (fun _ y => y.kp kp) (fun a o y e => NH.keeps kp a o y e) ds vs x
theorem Rep.nh {K : List Addr} {h h' : Heap} {d v} (x : Rep (NH K h) h d v) (kp : Kp K h h') : Rep (NH K h') h' d v := Rep.keep (fun _ y => y.kp kp) (fun a o y e => NH.keeps kp a o y e) d v x
/-- what a call made -/
theorem Rep.made {w : World} {h₀ h h' : Heap} {W : List Addr} {D : Dl} {d v} (x : Rep (Fresh h) h' d v) (H : G w h₀ W h D) : Rep (NH (D.map (·.1)) h') h' d v := (Rep.ex d v x).weak fun b hb => ⟨hb.1.2, H.notKey hb.1.1, hb.2⟩
theorem nx_rangeE {w : World} {A : Around} {E : Value → Shared → Prop} {h₀ h : Heap} {W : List Addr} {D D' : Dl} {I : Addr} {g : Array GenState} {d : Drawn} {t : Nat} {os : OsState} {Q : Option Value → Shared → Prop} {k left : Int} (hA : A.handled = none) (H : G w h₀ W h D) (hm : (I, isRI k left) ∈ D) (hl : left ≤ 0) (u : Del I D D') (hn : h₀.get? I = none) (q : ∀ h', G w h₀ W h' D' → Heap.ExtBut I h h' → Q none ⟨h', g, d, t, os⟩) :
    wpAny (MM w) A (pyNext (.ref I)) Q E ⟨h, g, d, t, os⟩ := by
  obtain ⟨o, e, rfl⟩ := H.get hm
  exact wpAny_pyNext_range_end hA e hl fun h' hs => q h' (H.del u hs hn) hs
/-- all that law's loop has at hand -/
abbrev LD (L cS cC aS aN : Addr) (sc tu tx ru te tk lx to ot cm : Option Value) (n : Nat) : Dl := [(L, fr (LFr sc tu tx ru te tk lx to ot)), (cS, isC (some (.ref aS))), (cC, isC cm), (aS, sS aN n), (aN, sN)]
abbrev CLs (cS cC : Addr) : List (Str × Addr) := [("comment", cC), ("state", cS)]
/-- what _law_pieces promises of a rule -/
def RuleOk (r : List Piece) : Prop := PiecesOk r ∧ ∃ x j, r.head? = some (some x, j) ∧ 1 ≤ x.length
section
variable {w : World} {A : Around} {E : Value → Shared → Prop} {k : Nat} {h₀ h : Heap} {env : Env} {L cS cC aS aN : Addr} {sc tu tx ru te tk lx to ot cm : Option Value} {n : Nat} {g : Array GenState} {d : Drawn} {t : Nat} {os : OsState} {st : Stmt} {Q : Flow → Shared → Prop}
theorem s_text (hst : lawSt? (KK w) 0 = some st) (hA : AOk A (k + 4)) (Ev : EnvOk env L NSL (CLs cS cC)) (X : G w h₀ [] h (LD L cS cC aS aN sc tu tx ru te tk lx to ot cm n)) (hne : aN ≠ aS) (hn : n + 40 < 1000)
    (q : ∀ h' t' x ty, x.length ≤ 10 → G w h₀ [] h' (LD L cS cC aS aN sc tu (some (.str x ty)) ru te tk lx to ot cm (n + 11)) → Kp [L, cS, cC, aS, aN] h h' → Q .next ⟨h', g, d, t', os⟩) :
    wpAny (MM w) A (exec st env) Q E ⟨h, g, d, t, os⟩ := by
  have e : lawSt? (KK w) 0 = some _ := rfl
  rw [hst] at e
  cases e
  have H := X.restart
  k_clsL
  refine c_next (k := k + 3) hA hne (H.at (a := aN) (by tb_rel)) (H.get (a := aN) (by tb_rel)) H (by tb_rel) (by omega) (by omega) (by tb_start) fun h₁ t₁ c tc c0 c1 H₁ K₁ => ?_
  k_clsL
  refine wpAny_call (law_text (k := k + 2) hA hne H₁.st (H₁.get (a := aS) (by tb_rel)) (H₁.at (a := aS) (by tb_rel)) (H₁.get (a := aN) (by tb_rel)) (H₁.at (a := aN) (by tb_rel)) (by omega) (by omega) (by omega) (by decide +kernel) (by decide +kernel) fun h₂ t₂ x ty hl P => ?_)
  dsimp only
  refine g_post1 H₁ P (by tb_start) fun H₂ => ?_
  refine g_weak H₂ (P' := sS aN (n + 11)) (by tb_rel) (fun o x => sS.mono x (by omega)) (by tb_start) fun H₃ => ?_
  k_clsL
  rename_i h₄ t₄ H₄
  exact q _ _ x ty (by omega) (X.over H₄) H₄.kp
theorem s_rules (hst : lawSt? (KK w) 1 = some st) (hA : AOk A (k + 4)) (Ev : EnvOk env L NSL (CLs cS cC)) (X : G w h₀ [] h (LD L cS cC aS aN sc tu tx ru te tk lx to ot cm n)) (hne : aN ≠ aS) (hn : n + 120 < 1000)
    (q : ∀ h' t' v rs, rs.length ≤ 4 → (∀ r ∈ rs, RuleOk r) → G w h₀ [] h' (LD L cS cC aS aN sc tu tx (some v) te tk lx to ot cm (n + 65)) → Kp [L, cS, cC, aS, aN] h h' → Rep (NH [L, cS, cC, aS, aN] h') h' (.list (rulesD rs)) v → Q .next ⟨h', g, d, t', os⟩) :
    wpAny (MM w) A (exec st env) Q E ⟨h, g, d, t, os⟩ := by
  have e : lawSt? (KK w) 1 = some _ := rfl
  rw [hst] at e
  cases e
  have H := X.restart
  refine g_compS (h₀ := h) (W := [L, cS, cC, aS, aN]) [("one", none)] (cl := [("state", cS)]) Ev (by tb_rel) (clos_of Ev (by kernel_rfl) (by kernel_rfl)) (by kernel_rfl) ?_
  k_clsL
  refine c_next (k := k + 3) hA hne (H.at (a := aN) (by tb_rel)) (H.get (a := aN) (by tb_rel)) H (by tb_rel) (by omega) (by omega) (by tb_start) fun h₁ t₁ c tc c0 c1 H₁ K₁ => ?_
  k_clsL
  refine it_range H₁ c0 (by omega) fun I h₂ t₂ H₂ K₂ nI => ?_
  refine ⟨_, _, _, rfl, H₂, ?_⟩
  intro cenv C acc h₃ t₃ Ec H₃ K₃ nC nacc nacc2 nC2
  refine ⟨?_, self_range H₃ (by tb_rel) ⟨rfl, rfl⟩⟩
  have Ec' : EnvOk cenv C [(".0", .local), ("one", .local), ("_law_pieces", .globalImplicit), ("state", .cell)] [("state", cS)] := Ec
  clear Ec
  refine kcp_loop (fun m s => ∃ (i : Int) (rs : List (List Piece)) (vs : List Value) (lo : Option Value) (hh : Heap) (tt : Nat), s = ⟨hh, g, d, tt, os⟩ ∧ m = (c - i).toNat + 1 ∧ 0 ≤ i ∧ i ≤ c ∧
    G w h [L, cS, cC, aS, aN] hh ([(C, fr [("one", lo)]), (acc, isPL vs), (I, isRI i (c - i)), (L, fr (LFr sc tu tx ru te tk lx to ot)), (cS, isC (some (.ref aS))), (cC, isC cm), (aS, sS aN (n + 1 + 16 * i.toNat)), (aN, sN)]) ∧
    Reps (NH [C, acc, I, L, cS, cC, aS, aN] hh) hh (rulesD rs) vs ∧ rs.length = i.toNat ∧ (∀ r ∈ rs, RuleOk r)) ?_ (c.toNat + 1) ?_
  · intro m s hpat
    obtain ⟨i, rs, vs, lo, hh, tt, e, em, i0, i1, H, hr, hl, hy⟩ := hpat
    subst e
    have hvl : vs.length = rs.length := by have := hr.len; simpa using this
    by_cases hi : i < c
    · have HR := H.restart
      refine nx_range HR (by tb_rel) (by omega) (by tb_start) fun h₅ t₅ tk₅ H₅ => ?_
      dsimp only
      refine wpAny_of_eq (a := ()) rfl ?_
      k_clsL
      rename_i h₆ t₆ H₆
      refine wpAny_call (law_pieces (k := k + 1) hA hne H₆.st (H₆.get (a := aS) (by tb_rel)) (H₆.at (a := aS) (by tb_rel)) (H₆.get (a := aN) (by tb_rel)) (H₆.at (a := aN) (by tb_rel)) (by omega) fun h₇ t₇ v₇ ps hps hhd P₇ R₇ => ?_)
      dsimp only
      refine g_post1 H₆ P₇ (by tb_start) fun H₇ => ?_
      have HS := H₇.restart
      have R₇' := Rep.made R₇ H₆
      refine l_appendP HS (by tb_rel) (by omega) (by tb_start) fun h₈ H₈ => ?_
      have H₉ := H₇.over H₈
      refine g_weak H₉ (P' := sS aN (n + 1 + 16 * (i + 1).toNat)) (by tb_rel) (fun o x => sS.mono x (by omega)) (by tb_start) fun Ha => ?_
      have e1 : c - (i + 1) = c - i - 1 := by omega
      refine ⟨(c - (i + 1)).toNat + 1, by omega, i + 1, rs ++ [ps], _, _, h₈, _, rfl, rfl, by omega, by omega, by rw [e1]; exact H.over Ha, ?_, by rw [List.length_append, hl, List.length_singleton]; omega, fun r hr' => ?_⟩
      · rw [show rulesD (rs ++ [ps]) = rulesD rs ++ rulesD [ps] from List.map_append ..]
        exact reps_app (hr.nh H₉.kp) (reps_cons (R₇'.nh H₈.kp) reps_nil)
      · rcases List.mem_append.mp hr' with h1 | h1
        · exact hy r h1
        · rw [List.mem_singleton.mp h1]; exact ⟨hps, hhd⟩
    · refine nx_rangeE hA.hd H (by tb_rel) (by omega) (Del.tail (Del.tail Del.head)) nI fun h₅ H₅ hx => ?_
      dsimp only
      refine g_weak H₅ (P' := sS aN (n + 65)) (by tb_rel) (fun o x => sS.mono x (by omega)) (by tb_start) fun H₆ => ?_
      refine ⟨rfl, h₅, _, _, _, _, _, _, rfl, H₆, by tb_rel, by tb_start, by tb_start, fun h₇ t₇ H₇ hk => ?_⟩
      have nd := H₇.nd
      rw [List.map_cons, List.nodup_cons] at nd
      obtain ⟨oa, ea, pa⟩ := H₇.get (a := acc) (by tb_rel)
      refine q h₇ t₇ (.ref acc) rs (by omega) hy ((X.over H₇).sub (List.sublist_cons_self _ _)) H₇.kp (rep_list ⟨H₇.at (a := acc) (by tb_rel), nd.1, oa, ea⟩ ⟨oa, ea, pa.l⟩ ?_)
      have kk : ∀ b o, NH [C, acc, I, L, cS, cC, aS, aN] hh b → hh.get? b = some o → h₇.get? b = some o := fun b o hb e => by
        have hn := hb.2.1
        simp only [List.mem_cons, List.not_mem_nil, or_false, not_or] at hn
        exact hk b o hn.1 hn.2.2.2.1 (hx b o hn.2.2.1 e)
      refine Reps.keep (fun b hb => ⟨hb.1, fun q => hb.2.1 (.tail _ (.tail _ (.tail _ q))), let ⟨o, e⟩ := hb.2.2; ⟨o, kk b o hb e⟩⟩) (fun b o hb e => kk b o hb e) _ _ hr
  · have e1 : c - 0 = c := by omega
    exact ⟨0, [], _, _, _, _, rfl, by omega, by omega, by omega, by rw [e1]; exact H₃, reps_nil, rfl, fun _ hy => (nomatch hy)⟩
end
end

section -- N7
open PySem PySem.W PySem.Calls PyProof.Rows
set_option maxHeartbeats 0
set_option linter.unusedVariables false
set_option maxRecDepth 100000
theorem NH.to {K K' : List Addr} {h h' : Heap} (hk : ∀ b o, NH K h b → h.get? b = some o → h'.get? b = some o) (hs : ∀ b ∈ K', b ∈ K) {b : Addr} (x : NH K h b) : NH K' h' b := ⟨x.1, fun q => x.2.1 (hs b q), let ⟨o, e⟩ := x.2.2; ⟨o, hk b o x e⟩⟩
theorem NH.of_fp {w : World} {h₀ h h' : Heap} {W : List Addr} {D : Dl} {fp : List Addr} (F : FpOk h h' fp) (H : G w h₀ W h D) {b : Addr} (hb : b ∈ fp) : NH (D.map (·.1)) h' b := ⟨(F b hb).1, (F.ne H b hb).2, (F b hb).2.1⟩
theorem NH.of_d {w : World} {h₀ h : Heap} {W : List Addr} {D : Dl} (H : G w h₀ W h D) {b : Addr} {K : List Addr} (hb : b ∈ D.map (·.1)) (hn : b ∉ K) : NH K h b := by
  obtain ⟨p, hp, rfl⟩ := List.mem_map.mp hb
  obtain ⟨o, e, _⟩ := H.own p hp
  exact ⟨(H.dyn p hp).1, hn, o, e⟩
/-- what is sure of a tuple: the tuple is one of the good -/
theorem Sure.tup_good {good : Addr → Prop} {h : Heap} {r : Addr} {its : Array Value} (x : Sure good h (fun h => IsTup h r its)) : good r := by
  refine Classical.byContradiction fun hn => ?_
  obtain ⟨o, e, c, n, dd⟩ := x.now
  have hs := Heap.SameBut.update (h := h) (a := r) (fun _ => { cls := .none, data := .plain })
  obtain ⟨o', e', c', _⟩ := x (h.update r fun _ => { cls := .none, data := .plain }) fun a o ga e => (hs.2 a (fun q => hn (q ▸ ga))).trans e
  rw [Heap.get?_update_self _ e rfl] at e'
  cases e'
  cases c'
section
variable {w : World} {K K' : List Addr} {h h' : Heap} {v : Value}
theorem TypeK.to {kind} (x : TypeK (NH K h) h v kind) (hk : ∀ b o, NH K h b → h.get? b = some o → h'.get? b = some o) (hs : ∀ b ∈ K', b ∈ K) : TypeK (NH K' h') h' v kind := (x.keep hk).weak fun b hb => hb.to hk hs
theorem ItemK.to {α : Type} {P : α → (Addr → Prop) → Heap → Value → Prop} {a : α} {ps} (hP : PKeep P) (x : ItemK (P a) (NH K h) h v ps) (hk : ∀ b o, NH K h b → h.get? b = some o → h'.get? b = some o) (hs : ∀ b ∈ K', b ∈ K) : ItemK (P a) (NH K' h') h' v ps :=
  ItemK.weak hP (ItemK.keep hP x hk) fun b hb => hb.to hk hs
theorem TypeK.nh {kind} (x : TypeK (NH K h) h v kind) (kp : Kp K h h') : TypeK (NH K h') h' v kind := x.to (fun b o hb e => NH.keeps kp b o hb e) fun _ h => h
theorem ItemK.nh {α : Type} {P : α → (Addr → Prop) → Heap → Value → Prop} {a : α} {ps} (hP : PKeep P) (x : ItemK (P a) (NH K h) h v ps) (kp : Kp K h h') : ItemK (P a) (NH K h') h' v ps := x.to hP (fun b o hb e => NH.keeps kp b o hb e) fun _ h => h
theorem RuleK.item {good : Addr → Prop} (hg : ∀ b, good b → 714 ≤ b) {ps} (x : RuleK w good h v ps) : ItemK (RootP w ps) good h v (ps.map (·.1)) := by
  obtain ⟨r, pl, cb, rfl, s, p, c⟩ := x
  exact ⟨r, pl, cb, rfl, hg r s.tup_good, s, p, .inl c⟩
end
section
variable {w : World} {A : Around} {E : Value → Shared → Prop} {k : Nat} {h₀ h : Heap} {env : Env} {L cS cC aS aN : Addr} {sc tu tx ru te tk lx to ot cm : Option Value} {n : Nat} {g : Array GenState} {d : Drawn} {t : Nat} {os : OsState} {st : Stmt} {Q : Flow → Shared → Prop}
theorem s_words (hst : lawSt? (KK w) 2 = some st) (hA : AOk A (k + 4)) (Ev : EnvOk env L NSL (CLs cS cC)) (X : G w h₀ [] h (LD L cS cC aS aN sc tu tx ru te tk lx to ot cm n)) (hne : aN ≠ aS) (hn : n + 120 < 1000)
    (q : ∀ h' t' v ys, ys.length ≤ 2 → (∀ y ∈ ys, 1 ≤ y.length ∧ y.length ≤ 2) → G w h₀ [] h' (LD L cS cC aS aN sc tu tx ru (some v) tk lx to ot cm (n + 7)) → Kp [L, cS, cC, aS, aN] h h' → Rep (NH [L, cS, cC, aS, aN] h') h' (.list (strsD ys)) v → Q .next ⟨h', g, d, t', os⟩) :
    wpAny (MM w) A (exec st env) Q E ⟨h, g, d, t, os⟩ := by
  have e : lawSt? (KK w) 2 = some _ := rfl
  rw [hst] at e
  cases e
  have H := X.restart
  k_clsL
  refine wpAny_call (law_words (k := k + 1) hA hne H.st (H.get (a := aS) (by tb_rel)) (H.at (a := aS) (by tb_rel)) (H.get (a := aN) (by tb_rel)) (H.at (a := aN) (by tb_rel)) (by omega) fun h₁ t₁ v ys hy hl P R => ?_)
  dsimp only
  refine g_post1 H P (by tb_start) fun H₁ => ?_
  have R' := Rep.made R H
  have HS := H₁.restart
  k_clsL
  rename_i h₂ t₂ H₂
  exact q _ _ v ys hl hy (X.over (H₁.over H₂)) (H₁.over H₂).kp (R'.nh H₂.kp)
theorem s_comment (hst : lawSt? (KK w) 3 = some st) (hA : AOk A (k + 4)) (Ev : EnvOk env L NSL (CLs cS cC)) (X : G w h₀ [] h (LD L cS cC aS aN sc tu tx ru te tk lx to ot cm n))
    (q : ∀ h' t' v, G w h₀ [] h' (LD L cS cC aS aN sc tu tx ru te tk lx to ot (some v) n) → Kp [L, cS, cC, aS, aN] h h' → TypeK (NH [L, cS, cC, aS, aN] h') h' v "Comment" → Q .next ⟨h', g, d, t', os⟩) :
    wpAny (MM w) A (exec st env) Q E ⟨h, g, d, t, os⟩ := by
  have e : lawSt? (KK w) 3 = some _ := rfl
  rw [hst] at e
  cases e
  have H := X.restart
  k_clsL
  refine wpAny_call (mk_typeK (k := k + 1) hA H.st fun x fp h₁ t₁ S₁ K₁ T F => ?_)
  dsimp only
  have H₁ := H.call S₁ K₁
  have T' := T.weak (good' := NH [L, cS, cC, aS, aN] h₁) fun b hb => NH.of_fp F H hb
  have HS := H₁.restart
  k_clsL
  refine c_store Ev (by tb_rel) (by tb_rel) HS (by tb_rel) (by tb_start) fun h₂ H₂ => ?_
  k_clsL
  exact q _ _ _ (X.over (H₁.over H₂)) (H₁.over H₂).kp (T'.nh H₂.kp)
end
end

section -- N8
open PySem PySem.W PySem.Calls PyProof.Rows
set_option maxHeartbeats 0
set_option linter.unusedVariables false
set_option maxRecDepth 100000
theorem NH.add {W K K' : List Addr} {h h' : Heap} (kp : Kp W h h') {b : Addr} (x : NH K h b) (hn : b ∉ K') : NH (K' ++ K) h' b := ⟨x.1, fun q => (List.mem_append.mp q).elim hn x.2.1, let ⟨o, e⟩ := x.2.2; kp.there b o e⟩
theorem mk_item {w : World} {h₀ h : Heap} {W : List Addr} {D : Dl} {P : (Addr → Prop) → Heap → Value → Prop} {r x dx ar a : Addr} {tok v : Value} {po : Option Str}
    (N : G w h₀ W h ((r, isT [.ref x, tok].toArray) :: (x, isIn 630 dx) :: (dx, nsx 1 [("rows", .ref ar)]) :: (ar, isPL [.ref a]) :: (a, isPL [v]) :: D)) (hO : optV po v) (hP : P (NH (D.map (·.1)) h) h tok) :
    ItemK P (NH (D.map (·.1)) h) h (.ref r) [po] := by
  have nd := N.nd
  simp only [List.map_cons, List.nodup_cons, List.mem_cons, not_or] at nd
  obtain ⟨⟨_, _, _, _, n1⟩, ⟨_, _, _, n2⟩, ⟨_, _, n3⟩, ⟨_, n4⟩, n5, _⟩ := nd
  have m : ∀ b, b ∈ [r, x, dx, ar, a] → b ∉ D.map (·.1) → NH (D.map (·.1)) h b := fun b hb hn => NH.of_d N (by
    simp only [List.map_cons, List.mem_cons, List.not_mem_nil, or_false] at hb ⊢
    rcases hb with h | h | h | h | h <;> simp [h]) hn
  refine ⟨r, .ref x, tok, rfl, N.at (a := r) (by tb_rel), tup_sure (N.tup (a := r) (by tb_rel)) (m r (by simp) n1), ⟨x, dx, ar, a, [v], rfl, ⟨rfl, fun i hi => ?_⟩, N.at (a := ar) (by tb_rel), N.at (a := a) (by tb_rel), ?_⟩, hP⟩
  · obtain rfl : i = 0 := by simpa using hi
    exact ⟨v, rfl, hO⟩
  · exact (inH_sure (N.inH (x := x) (dx := dx) (by tb_rel) (by tb_rel)) (m x (by simp) n2) (m dx (by simp) n3)).and ((list_sure (N.pl (a := ar) (by tb_rel)) (m ar (by simp) n4)).and (list_sure (N.pl (a := a) (by tb_rel)) (m a (by simp) n5)))
section
variable {w : World} {A : Around} {E : Value → Shared → Prop} {k : Nat} {h₀ h : Heap} {W : List Addr} {D : Dl} {env : Env} {L cS cC : Addr} {g : Array GenState} {d : Drawn} {t : Nat} {os : OsState} {Q : Value → Shared → Prop} {vs : List Value} {aT : Addr}
/-- [(Plain([[word]]), comment) for word in terms] -/
theorem c_terms {p1 p2 p3 p4 p5 p6 p7 p8 p9 pa : Pos} {ts : List Str} {cv : Value} (hA : AOk A (k + 4)) (Ev : EnvOk env L NSL (CLs cS cC)) (H : G w h₀ W h D) (hc : (cC, isC (some cv)) ∈ D)
    (hT : TypeK (NH (D.map (·.1)) h) h cv "Comment") (hl : h.IsList aT vs.toArray) (nT : NH (D.map (·.1)) h aT) (hts : StrsAre vs ts) (hz : ts.length ≤ 10)
    (hv : wpAny (MM w) A (eval (.Name "terms" p9) env) (fun v s => v = .ref aT ∧ s = ⟨h, g, d, t, os⟩) E ⟨h, g, d, t, os⟩)
    (q : ∀ acc h' t' ys, G w h₀ W h' ((acc, isPL ys) :: D) → Kp (D.map (·.1)) h h' → h.get? acc = none → AllK (fun v x => ItemK (TermP x) (NH (acc :: D.map (·.1)) h') h' v [some x]) ys ts → Q (.ref acc) ⟨h', g, d, t', os⟩) :
    wpAny (MM w) A (eval (.ListComp (.Tuple [.Call (.Name "Plain" p1) [.List [.List [.Name "word" p2] p3] p4] [] p5, .Name "comment" p6] 0 p7) [⟨.Name "word" p8, .Name "terms" p9, [], 0⟩]
      { kind := .function, names := [(".0", .local), ("word", .local), ("Plain", .globalImplicit), ("comment", .free)], isGenerator := false, isCoroutine := false, more := [] } pa) env) Q E ⟨h, g, d, t, os⟩ := by
  have HB := H.restart
  refine g_compX (h₀ := h) (W := D.map (·.1)) [("word", none)] (cl := [("comment", cC)]) Ev (clos_of Ev (by kernel_rfl) rfl) (by kernel_rfl) ?_
  refine wpAny_mono hv (fun v s₁ hq => ?_) fun _ _ x => x
  obtain ⟨rfl, rfl⟩ := hq
  refine it_list HB hl fun I h₁ H₁ K₁ nI nI' => ?_
  refine ⟨_, _, _, rfl, H₁, ?_⟩
  intro cenv C acc h₂ t₂ Ec H₂ K₂ nC nacc nacc2 nC2
  refine ⟨?_, self_list H₂ (by tb_rel) ⟨rfl, rfl⟩⟩
  have Ec' : EnvOk cenv C [(".0", .local), ("word", .local), ("Plain", .globalImplicit), ("comment", .cell)] [("comment", cC)] := Ec
  clear Ec
  have hvl : vs.length = ts.length := hts.length
  refine kcp_loop (fun m s => ∃ (i : Nat) (ys : List Value) (lw : Option Value) (hh : Heap) (tt : Nat), s = ⟨hh, g, d, tt, os⟩ ∧ m = ts.length + 1 - i ∧ i ≤ ts.length ∧
    G w h (D.map (·.1)) hh ((C, fr [("word", lw)]) :: (acc, isPL ys) :: (I, isLI aT i) :: D) ∧ TypeK (NH (C :: acc :: I :: D.map (·.1)) hh) hh cv "Comment" ∧ AllK (fun v x => ItemK (TermP x) (NH (C :: acc :: I :: D.map (·.1)) hh) hh v [some x]) ys (ts.take i)) ?_ (ts.length + 1) ?_
  · intro m s hpat
    obtain ⟨i, ys, lw, hh, tt, e, em, hi1, Hh, hT, hy⟩ := hpat
    subst e
    have hyl : ys.length ≤ 10 := by rw [hy.1, List.length_take]; omega
    have hlh : hh.IsList aT vs.toArray := Hh.kp.list hl nT.2.1 nT.1
    rcases Nat.lt_or_ge i ts.length with hlt | hge
    · obtain ⟨tv, hv⟩ := StrsAre.at hts (i := i) (List.getElem?_eq_getElem hlt)
      have HR := Hh.restart
      refine nx_list HR (by tb_rel) hlh hv (by tb_start) fun h₃ H₃ hs₃ => ?_
      dsimp only
      refine wpAny_of_eq (a := ()) rfl ?_
      k_clsL
      rename_i h₄ t₄ H₄
      refine ⟨rfl, new_pl H₄ fun a h₅ H₅ K₅ _ _ => ?_⟩
      k_clsL
      refine ⟨rfl, new_pl H₅ fun ar h₆ H₆ K₆ _ _ => ?_⟩
      k_clsL
      refine wpAny_call (mk_plain (k := k + 1) hA H₆.st fun x dx h₇ t₇ N₇ => ?_)
      dsimp only
      have H₇ := H₆.take N₇
      dsimp only [List.cons_append, List.nil_append] at H₇
      refine i_cons ?_ rfl
      refine n_cell Ec' (by tb_rel) (by tb_rel) ((Hh.over H₇).get (.tail _ (.tail _ (.tail _ (.tail _ (.tail _ (.tail _ (.tail _ hc)))))))) ?_
      k_clsL
      refine ⟨rfl, new_tupF H₇ fun r h₈ H₈ K₈ _ _ => ?_⟩
      refine l_appendP H₈ (by tb_rel) (by omega) (by tb_start) fun h₉ H₉ => ?_
      obtain ⟨tyv, dxc, nc, tkc, rfl, zz⟩ := id hT
      have T₉ := hT.nh H₉.kp
      have J := mk_item (P := TermP ts[i]) (po := some ts[i]) H₉ ⟨_, rfl⟩ T₉
      have Hn := H₉.sub (((((List.sublist_cons_self _ _).trans (List.sublist_cons_self _ _)).trans (List.sublist_cons_self _ _)).trans (List.sublist_cons_self _ _)).trans (List.sublist_cons_self _ _))
      exact ⟨ts.length + 1 - (i + 1), by omega, i + 1, _, _, h₉, _, rfl, rfl, hlt, Hh.over Hn, T₉, AllK.snoc (hy.mono fun v x y => y.nh TermP.pk H₉.kp) hlt J⟩
    · refine nx_list_end hA.hd Hh (by tb_rel) hlh (List.getElem?_eq_none (by omega)) (Del.tail (Del.tail Del.head)) nI fun h₃ H₃ hx => ?_
      dsimp only
      refine ⟨rfl, h₃, _, _, _, rfl, H₃, fun h₄ H₄ hx4 => ?_⟩
      have hi' : i = ts.length := by omega
      rw [hi', List.take_length] at hy
      refine q acc h₄ _ ys (H.over H₄) H₄.kp nacc (hy.mono fun v x y => y.to TermP.pk (fun b o hb e => ?_) fun b hb => ?_)
      · have hn := hb.2.1
        simp only [List.mem_cons, not_or] at hn
        exact hx4 b o hn.1 (hx b o hn.2.2.1 e)
      · rcases List.mem_cons.mp hb with rfl | hb
        · exact .tail _ (.head _)
        · exact .tail _ (.tail _ (.tail _ hb))
  · refine ⟨0, [], none, h₂, _, rfl, by omega, Nat.zero_le _, H₂, (hT.keep ((K₁.trans K₂).keeps fun b hb => ⟨hb.1, List.not_mem_nil⟩)).weak fun b hb => NH.add (K' := [C, acc, I]) (K₁.trans K₂) hb (fun q => ?_), AllK.nil⟩
    obtain ⟨o, e⟩ := hb.2.2
    simp only [List.mem_cons, List.not_mem_nil, or_false] at q
    rcases q with rfl | rfl | rfl
    · rw [nC] at e; cases e
    · rw [nacc] at e; cases e
    · rw [nI] at e; cases e
/-- [_law_rule(rule) for rule in rules] -/
theorem c_rules {p1 p2 p3 p4 p5 p6 : Pos} {rs : List (List Piece)} (hA : AOk A (k + 7)) (Ev : EnvOk env L NSL (CLs cS cC)) (H : G w h₀ W h D)
    (hl : h.IsList aT vs.toArray) (nT : NH (D.map (·.1)) h aT) (hrs : Reps (NH (D.map (·.1)) h) h (rulesD rs) vs) (hR : ∀ r ∈ rs, RuleOk r) (hz : rs.length ≤ 10)
    (hv : wpAny (MM w) A (eval (.Name "rules" p5) env) (fun v s => v = .ref aT ∧ s = ⟨h, g, d, t, os⟩) E ⟨h, g, d, t, os⟩)
    (q : ∀ acc h' t' ys, G w h₀ W h' ((acc, isPL ys) :: D) → Kp (D.map (·.1)) h h' → h.get? acc = none → AllK (fun v r => ItemK (RootP w r) (NH (acc :: D.map (·.1)) h') h' v (r.map (·.1))) ys rs → Q (.ref acc) ⟨h', g, d, t', os⟩) :
    wpAny (MM w) A (eval (.ListComp (.Call (.Name "_law_rule" p1) [.Name "rule" p2] [] p3) [⟨.Name "rule" p4, .Name "rules" p5, [], 0⟩]
      { kind := .function, names := [(".0", .local), ("rule", .local), ("_law_rule", .globalImplicit)], isGenerator := false, isCoroutine := false, more := [] } p6) env) Q E ⟨h, g, d, t, os⟩ := by
  have HB := H.restart
  refine g_compX (h₀ := h) (W := D.map (·.1)) [("rule", none)] Ev (clos_none (by kernel_rfl)) (by kernel_rfl) ?_
  refine wpAny_mono hv (fun v s₁ hq => ?_) fun _ _ x => x
  obtain ⟨rfl, rfl⟩ := hq
  refine it_list HB hl fun I h₁ H₁ K₁ nI nI' => ?_
  refine ⟨_, _, _, rfl, H₁, ?_⟩
  intro cenv C acc h₂ t₂ Ec H₂ K₂ nC nacc nacc2 nC2
  refine ⟨?_, self_list H₂ (by tb_rel) ⟨rfl, rfl⟩⟩
  have Ec' : EnvOk cenv C [(".0", .local), ("rule", .local), ("_law_rule", .globalImplicit)] [] := Ec
  clear Ec
  have hvl : vs.length = rs.length := by have := hrs.len; simpa using this
  refine kcp_loop (fun m s => ∃ (i : Nat) (ys : List Value) (lw : Option Value) (hh : Heap) (tt : Nat), s = ⟨hh, g, d, tt, os⟩ ∧ m = rs.length + 1 - i ∧ i ≤ rs.length ∧
    G w h (D.map (·.1)) hh ((C, fr [("rule", lw)]) :: (acc, isPL ys) :: (I, isLI aT i) :: D) ∧ AllK (fun v r => ItemK (RootP w r) (NH (C :: acc :: I :: D.map (·.1)) hh) hh v (r.map (·.1))) ys (rs.take i)) ?_ (rs.length + 1) ?_
  · intro m s hpat
    obtain ⟨i, ys, lw, hh, tt, e, em, hi1, Hh, hy⟩ := hpat
    subst e
    have hyl : ys.length ≤ 10 := by rw [hy.1, List.length_take]; omega
    have hlh : hh.IsList aT vs.toArray := Hh.kp.list hl nT.2.1 nT.1
    rcases Nat.lt_or_ge i rs.length with hlt | hge
    · obtain ⟨rv, hv, hr⟩ := hrs.get (i := i) (d := .list (piecesD rs[i])) (by simp [rulesD, hlt])
      obtain ⟨⟨hl3, hsm⟩, _⟩ := hR rs[i] (List.getElem_mem hlt)
      have HR := Hh.restart
      refine nx_list HR (by tb_rel) hlh hv (by tb_start) fun h₃ H₃ hs₃ => ?_
      dsimp only
      refine wpAny_of_eq (a := ()) rfl ?_
      k_clsL
      rename_i h₄ t₄ H₄
      refine wpAny_call (law_rule (k := k + 1) hA H₄.st (hr.nh (Hh.over H₄).kp) (fun a ha => ha.1) hl3 (fun p hp => ⟨(hsm p hp).1, (hsm p hp).2.1⟩) fun v' fp h₅ t₅ S₅ K₅ R₅ F₅ => ?_)
      have H₅ := H₄.call S₅ K₅
      have HS := H₅.restart
      have J : ItemK (RootP w rs[i]) (NH (C :: acc :: I :: D.map (·.1)) h₅) h₅ v' (rs[i].map (·.1)) := RuleK.item (fun b hb => hb.1) (R₅.weak fun b hb => NH.of_fp F₅ H₄ hb)
      dsimp only
      refine l_appendP HS (by tb_rel) (by omega) (by tb_start) fun h₆ H₆ => ?_
      have H₇ := H₅.over H₆
      exact ⟨rs.length + 1 - (i + 1), by omega, i + 1, _, _, h₆, _, rfl, rfl, hlt, Hh.over H₇, AllK.snoc (hy.mono fun v x y => y.nh RootP.pk H₇.kp) hlt (J.nh RootP.pk H₆.kp)⟩
    · refine nx_list_end hA.hd Hh (by tb_rel) hlh (List.getElem?_eq_none (by omega)) (Del.tail (Del.tail Del.head)) nI fun h₃ H₃ hx => ?_
      dsimp only
      refine ⟨rfl, h₃, _, _, _, rfl, H₃, fun h₄ H₄ hx4 => ?_⟩
      have hi' : i = rs.length := by omega
      rw [hi', List.take_length] at hy
      refine q acc h₄ _ ys (H.over H₄) H₄.kp nacc (hy.mono fun v x y => y.to RootP.pk (fun b o hb e => ?_) fun b hb => ?_)
      · have hn := hb.2.1
        simp only [List.mem_cons, not_or] at hn
        exact hx4 b o hn.1 (hx b o hn.2.2.1 e)
      · rcases List.mem_cons.mp hb with rfl | hb
        · exact .tail _ (.head _)
        · exact .tail _ (.tail _ (.tail _ hb))
  · exact ⟨0, [], none, h₂, _, rfl, by omega, Nat.zero_le _, H₂, AllK.nil⟩
/-- a dict written out, its keys texts -/
theorem dd_disp {keys : List (Option Expr)} {values : List Expr} {pos : Pos} {env : Env} (H : G w h₀ W h D) (hall : (keys.all (·.isSome) && keys.length == values.length && !keys.isEmpty && Nat.ble keys.length 15) = true)
    (q : ∀ r h', G w h₀ W h' ((r, isDD w []) :: D) → Kp [] h h' → h.get? r = none → wpAny (MM w) A (evalPairs (pairTrees keys values env pos)) (fun vs s₁ => ∃ kvs D' D'' h₁ t₁, Carries (sk w) vs kvs ∧ s₁ = ⟨h₁, g, d, t₁, os⟩ ∧ G w h₀ W h₁ D' ∧ (r, isDD w []) ∈ D' ∧ Upd r (isDD w (PySem.merged [] kvs)) D' D'' ∧
      ∀ h₂ t₂, G w h₀ W h₂ D'' → Heap.SameBut r h₁ h₂ → Q (.ref r) ⟨h₂, g, d, t₂, os⟩) E ⟨h', g, d, t, os⟩) :
    wpAny (MM w) A (eval (.Dict keys values pos) env) Q E ⟨h, g, d, t, os⟩ := by
  simp only [Bool.and_eq_true, beq_iff_eq, Bool.not_eq_true'] at hall
  obtain ⟨⟨⟨h1, h2⟩, h3⟩, h4⟩ := hall
  refine wpAny_Dict_walk (knd := sk w) h1 h2 (fun q => by rw [q] at h3; cases h3) (Nat.le_of_ble_eq_true h4) ?_
  have P : isDD w [] { cls := .type "dict", data := .dict #[] } := by
    obtain ⟨o, e, p⟩ := Heap.dictOf_iff.mp (Heap.DictOf.new (knd := sk w) h)
    rw [Heap.get?_push_size _ rfl] at e; cases e; exact p
  refine wpAny_mono (q _ _ (H.push (P := isDD w []) _ rfl (nc_dd P) P) ((Kp.refl [] h).ext fun b o e => Heap.get?_push_of_some _ e) (get_size h)) (fun vs s₁ x => ?_) fun _ _ x => x
  obtain ⟨kvs, D', D'', h₁, t₁, c, rfl, H₁, hm, u, q⟩ := x
  refine ⟨kvs, c, H₁.dd hm, fun h' hd hs => ?_⟩
  obtain ⟨o, e, p⟩ := Heap.dictOf_iff.mp hd
  exact q _ _ (H₁.upd (P := isDD w (PySem.merged [] kvs)) u hs e (nc_dd p) p) hs
end
end

section -- N9
open PySem PySem.W PySem.Calls PyProof.Rows
set_option maxHeartbeats 0
set_option linter.unusedVariables false
set_option maxRecDepth 100000
/-- the tokens of a lexer -/
def Toks (w : World) (K : List Addr) (h : Heap) (td : Addr) (rs : List (List Piece)) (ts : List Str) : Prop := NH K h td ∧ ∃ l1 l2 ep ys1 ys2, DAtE w h td [("root", .ref l1), ("s", .ref l2)] ep ∧ NH K h l1 ∧ NH K h l2 ∧ h.IsList l1 (List.toArray ys1) ∧ h.IsList l2 (List.toArray ys2) ∧
  AllK (fun v r => ItemK (RootP w r) (NH K h) h v (r.map (·.1))) ys1 rs ∧ AllK (fun v x => ItemK (TermP x) (NH K h) h v [some x]) ys2 ts
/-- what stands under a restart: all that is not in hand -/
theorem NH.near {w : World} {h₀ h h' : Heap} {W : List Addr} {D : Dl} {b : Addr} (H : G w h₀ W h' D) (n : h₀.get? b = none) : ∀ c o, h₀.get? c = some o → c ≠ b := fun c o e q => by rw [q, n] at e; cases e
theorem strs_of_reps {g : Addr → Prop} {h : Heap} : ∀ {ys : List Str} {vs : List Value}, Reps g h (strsD ys) vs → StrsAre vs ys
  | [], _, x => by rw [strsD, List.map_nil, Reps] at x; subst x; exact .nil
  | y :: r, _, x => by
    rw [strsD, List.map_cons, Reps] at x
    obtain ⟨v, vs, rfl, x1, x2⟩ := x
    rw [Rep] at x1
    obtain ⟨tk, rfl⟩ := x1
    exact .cons _ _ (strs_of_reps x2)
section
variable {w : World} {A : Around} {E : Value → Shared → Prop} {k : Nat} {h₀ h : Heap} {env : Env} {L cS cC aS aN : Addr} {sc tu tx ru te tk lx to ot cm : Option Value} {n : Nat} {g : Array GenState} {d : Drawn} {t : Nat} {os : OsState} {st : Stmt} {Q : Flow → Shared → Prop}
theorem s_tokens {rv tv cv : Value} {rs : List (List Piece)} {ts : List Str} (hst : lawSt? (KK w) 4 = some st) (hA : AOk A (k + 7)) (Ev : EnvOk env L NSL (CLs cS cC)) (X : G w h₀ [] h (LD L cS cC aS aN sc tu tx (some rv) (some tv) tk lx to ot (some cv) n))
    (hr : Rep (NH [L, cS, cC, aS, aN] h) h (.list (rulesD rs)) rv) (ht : Rep (NH [L, cS, cC, aS, aN] h) h (.list (strsD ts)) tv) (hc : TypeK (NH [L, cS, cC, aS, aN] h) h cv "Comment") (hR : ∀ r ∈ rs, RuleOk r) (hz1 : rs.length ≤ 4) (hz2 : ts.length ≤ 2)
    (q : ∀ h' t' td, G w h₀ [] h' (LD L cS cC aS aN sc tu tx (some rv) (some tv) (some (.ref td)) lx to ot (some cv) n) → Kp [L, cS, cC, aS, aN] h h' → Toks w [L, cS, cC, aS, aN] h' td rs ts → Q .next ⟨h', g, d, t', os⟩) :
    wpAny (MM w) A (exec st env) Q E ⟨h, g, d, t, os⟩ := by
  have e : lawSt? (KK w) 4 = some _ := rfl
  rw [hst] at e
  cases e
  obtain ⟨aR, vR, rfl, gR, lR, rR⟩ := Rep.listE hr
  obtain ⟨aT, vT, rfl, gT, lT, rT⟩ := Rep.listE ht
  have H := X.restart
  k_clsL
  refine dd_disp H (by kernel_rfl) fun dr h₁ H₁ K₁ ndr => ?_
  refine pairTrees_cons_walk ?_
  k_clsL
  have n1 : ∀ b, NH [L, cS, cC, aS, aN] h b → NH ([dr] ++ [L, cS, cC, aS, aN]) h₁ b := fun b hb => NH.add K₁ hb fun q => by
    obtain ⟨o, e⟩ := hb.2.2
    rw [List.mem_singleton.mp q, ndr] at e; cases e
  have k1 : ∀ b o, NH [L, cS, cC, aS, aN] h b → h.get? b = some o → h₁.get? b = some o := fun b o hb e => NH.keeps (K₁.mono fun _ h => nomatch h) b o hb e
  refine c_rules (k := k) hA Ev H₁ (K₁.list lR List.not_mem_nil gR.1) (n1 _ gR) (Reps.keep n1 k1 _ _ rR) hR (by omega) ?_ fun l1 h₂ t₂ ys1 H₂ K₂ nl1 a1 => ?_
  · k_clsL
    exact ⟨rfl, rfl⟩
  have n2 : ∀ b, NH [L, cS, cC, aS, aN] h b → NH ([l1] ++ ([dr] ++ [L, cS, cC, aS, aN])) h₂ b := fun b hb => NH.add K₂ (n1 b hb) fun q => by
    obtain ⟨o, e⟩ := (n1 b hb).2.2
    rw [List.mem_singleton.mp q, nl1] at e; cases e
  have k2 : ∀ b o, NH [L, cS, cC, aS, aN] h b → h.get? b = some o → h₂.get? b = some o := fun b o hb e => NH.keeps K₂ b o (n1 b hb) (k1 b o hb e)
  refine pairTrees_cons_walk ?_
  k_clsL
  refine c_terms (k := k + 3) hA Ev H₂ (by tb_rel) ((hc.keep k2).weak n2) (let ⟨o, e, r⟩ := lT; ⟨o, k2 _ _ gT e, r⟩) (n2 _ gT) (strs_of_reps rT) (by omega) ?_ fun l2 h₃ t₃ ys2 H₃ K₃ nl2 a2 => ?_
  · k_clsL
    exact ⟨rfl, rfl⟩
  refine pairTrees_nil_walk ?_
  have hdr : dr ∉ [L, cS, cC, aS, aN] := H.notKey ndr
  have hl1 : l1 ∉ dr :: [L, cS, cC, aS, aN] := H₁.notKey nl1
  have hl2 : l2 ∉ l1 :: dr :: [L, cS, cC, aS, aN] := H₂.notKey nl2
  refine ⟨[("root", .ref l1), ("s", .ref l2)], _, _, _, _, ⟨dkey, rfl, dkey, rfl, trivial⟩, rfl, H₃, by tb_rel, by tb_start, fun h₄ t₄ H₄ hs => ?_⟩
  have HR := H₄.restart
  k_clsL
  rename_i h₅ t₅ H₅
  have em : PySem.merged [] ([("root", Value.ref l1), ("s", Value.ref l2)] : KV) = ([("root", Value.ref l1), ("s", Value.ref l2)] : KV) := by rfl
  rw [em] at H₅ HR H₄
  have kk : ∀ b o, NH (l2 :: l1 :: dr :: [L, cS, cC, aS, aN]) h₃ b → h₃.get? b = some o → h₅.get? b = some o := fun b o hb e =>
    H₅.kp.keep b o ((hs.2 b fun q => hb.2.1 (q ▸ .tail _ (.tail _ (.head _)))).trans e) hb.2.1 (ne380 hb.1) (ne403 hb.1)
  have kk0 : ∀ b, b ∈ [L, cS, cC, aS, aN] → b ∈ l2 :: l1 :: dr :: [L, cS, cC, aS, aN] := fun b hb => .tail _ (.tail _ (.tail _ hb))
  have F := H₄.over H₅
  have XF := (X.over F).sub (((List.sublist_cons_self _ _).trans (List.sublist_cons_self _ _)).trans (List.sublist_cons_self _ _))
  obtain ⟨od, es, ep, e1, e2⟩ := F.dd (a := dr) (by tb_rel)
  refine q h₅ t₅ dr XF F.kp ⟨NH.of_d F (by simp) hdr, l1, l2, ep, ys1, ys2, ⟨od, es, e1, e2⟩, NH.of_d F (by simp) (fun q => hl1 (.tail _ q)), NH.of_d F (by simp) (fun q => hl2 (.tail _ (.tail _ q))), F.pl (by tb_rel), F.pl (by tb_rel), ?_, ?_⟩
  · refine a1.mono fun v r x => ItemK.to RootP.pk (ItemK.weak RootP.pk (ItemK.keep RootP.pk x fun b o hb e => NH.keeps K₃ b o hb e) fun b hb => NH.add (K' := [l2]) K₃ hb fun q => ?_) kk kk0
    obtain ⟨o, e⟩ := hb.2.2
    rw [List.mem_singleton.mp q, nl2] at e; cases e
  · exact a2.mono fun v r x => ItemK.to TermP.pk x kk kk0
theorem s_lexer {td : Addr} {rs : List (List Piece)} {ts : List Str} (hst : lawSt? (KK w) 5 = some st) (hA : AOk A (k + 9)) (Ev : EnvOk env L NSL (CLs cS cC)) (X : G w h₀ [] h (LD L cS cC aS aN sc tu tx ru te (some (.ref td)) lx to ot cm n))
    (T : Toks w [L, cS, cC, aS, aN] h td rs ts) (hz1 : rs.length ≤ 4) (hz2 : ts.length ≤ 2)
    (q : ∀ h' t' x, G w h₀ [] h' (LD L cS cC aS aN sc tu tx ru te (some (.ref td)) (some (.ref x)) to ot cm n) → Kp [L, cS, cC, aS, aN] h h' → LexR w (NH [L, cS, cC, aS, aN] h') h' x rs ts → Q .next ⟨h', g, d, t', os⟩) :
    wpAny (MM w) A (exec st env) Q E ⟨h, g, d, t, os⟩ := by
  have e : lawSt? (KK w) 5 = some _ := rfl
  rw [hst] at e
  cases e
  obtain ⟨ntd, l1, l2, ep, ys1, ys2, dt, n1, n2, i1, i2, a1, a2⟩ := T
  have H := X.restart
  k_clsL
  refine wpAny_call (mk_lexer (k := k) RootP.pk TermP.pk hA H.st dt ntd.1 i1 n1.1 i2 n2.1 (by rw [a1.1]; omega) (by rw [a2.1]; omega) (fun b hb => ⟨hb.1, hb.2.2⟩) a1 a2 fun x fp h₁ t₁ S₁ K₁ LX F => ?_)
  dsimp only
  have H₁ := H.call S₁ K₁
  have LX' : LexR w (NH [L, cS, cC, aS, aN] h₁) h₁ x rs ts := LexK.weak RootP.pk TermP.pk LX fun b hb => by
    rcases hb with hb | hb
    · exact NH.kp (K := []) K₁ hb
    · exact ⟨(F b hb).1, F.ne H b hb, (F b hb).2.1⟩
  have HR := H₁.restart
  k_clsL
  rename_i h₂ t₂ H₂
  exact q h₂ t₂ x (X.over (H₁.over H₂)) (H₁.over H₂).kp (LexK.weak RootP.pk TermP.pk (LexK.keep RootP.pk TermP.pk LX' fun b o hb e => NH.keeps H₂.kp b o hb e) fun b hb => hb.kp H₂.kp)
end
end

section -- N10
open PySem PySem.W PySem.Calls PyProof.Rows
set_option maxHeartbeats 0
set_option linter.unusedVariables false
set_option maxRecDepth 100000
theorem ex_keeps {K : List Addr} {h h' : Heap} (kp : Kp K h h') {b : Addr} (x : Ex h b) : Ex h' b := let ⟨o, e⟩ := x; kp.there b o e
theorem j_compStart_gn {w : World} {X : Jd w} {A : Around} {fs : List Frame} {s : Shared} {env : Env} {elt target iter : Expr} {scope : Scope} {pos : Pos} {a n : Nat} {acc : Value} (o : X.Ok A (.compStart (.ListComp elt [⟨target, iter, [], 0⟩] scope pos) 0 (.ref a) acc env) fs) (hg : IsGn s.heap a n)
    (h0 : X.J (.compLoop (.ListComp elt [⟨target, iter, [], 0⟩] scope pos) 0 (.ref a) acc env) fs ((MM w).den (.compLoop (.ListComp elt [⟨target, iter, [], 0⟩] scope pos) 0 (.ref a) acc env)) s) :
    X.J (.compStart (.ListComp elt [⟨target, iter, [], 0⟩] scope pos) 0 (.ref a) acc env) fs ((MM w).den (.compStart (.ListComp elt [⟨target, iter, [], 0⟩] scope pos) 0 (.ref a) acc env)) s :=
  j_compStart o h0 fun E => gn_iter hg h0
/-- told = [(place, kind.names, word) for place, kind, word in lexer.get_tokens_unprocessed(..)] -/
theorem told_go {w : World} {Φ : Outcome → Shared → Prop} {κ : Nat} {iter : Expr} {pos spos py : Pos} {env : Env} {L cS cC aS aN : Addr} {sc tu tx ru te tk lx to ot cm : Option Value} {n : Nat} {h₀ h : Heap} {gk good : Addr → Prop} {c : Code} {st : List Frame} {dd u : Nat}
    {g : Array GenState} {d : Drawn} {t : Nat} {os : OsState} {its : List Item} {p1 p2 p3 p4 q1 q2 q3 q4 q5 : Pos} {kk kk' : Nat} {K : Flow → Sem Fin} {H : Value → Sem Fin} {gdf lv}
    (hr : Rm c st dd u) (hdd : dd + 2 + 2 * (κ + 1) ≤ 900) (huu : u + 8 + 8 * (κ + 1) ≤ 9000) (hκ : κ ≤ 440) (hκ0 : 30 ≤ κ)
    (Ev : EnvOk env L NSL (CLs cS cC)) (X : G w h₀ [] h (LD L cS cC aS aN sc tu tx ru te tk lx to ot cm n)) (hz : its.length ≤ 100) (hb : AllBare g)
    (hl : (py.line == pos.line && pos.line == spos.line) = true) (hs : ∀ x, foldedSetIterable iter env x = pure x)
    (hgk : ∀ b, gk b → 714 ≤ b ∧ Ex h b) (hgood : ∀ b, good b → Ex h b)
    (hit : ∀ (Q' : Value → Shared → Prop) E, (∀ a Lf cd lf h₁ t₁, G w h₀ [] h₁ ((a, isGn g.size) :: (Lf, fr lf) :: LD L cS cC aS aN sc tu tx ru te tk lx to ot cm n) → Kp [L, cS, cC, aS, aN] h h₁ → h.get? a = none → h.get? Lf = none → Fresh' w gk κ h₁ Lf good cd its → Q' (.ref a) ⟨h₁, g.push (.fresh cd), d, t₁, os⟩) →
      wpAny (MM w) (AA dd u) (eval iter env) Q' E ⟨h, g, d, t, os⟩)
    (fin : ∀ h' g' t' acc, G w h₀ [] h' (LD L cS cC aS aN sc tu tx ru te tk lx (some (.ref acc)) ot cm n) → Kp [L, cS, cC, aS, aN] h h' → Rep NR h' (.list (itemsD its)) (.ref acc) → AllBare g' → GoT (MM w) Φ c st (K .next) ⟨h', g', d, t', os⟩) :
    GoT (MM w) Φ c st ((exec (.Assign [.Name "told" py] (.ListComp (.Tuple [.Name "place" q1, .Attribute (.Name "kind" q2) "names" q3, .Name "word" q4] kk' q5) [⟨.Tuple [.Name "place" p1, .Name "kind" p2, .Name "word" p3] kk p4, iter, [], 0⟩]
      { kind := .function, names := [(".0", .local), ("place", .local), ("kind", .local), ("word", .local)], isGenerator := false, isCoroutine := false, more := [] } pos) spos) env).wrap K H gdf lv) ⟨h, g, d, t, os⟩ := by
  simp only [Bool.and_eq_true, beq_iff_eq] at hl
  obtain ⟨hl1, hl2⟩ := hl
  have hA : AOk (AA (dd + 2) (u + 8)) 1 := ⟨rfl, by show dd + 2 + 8 * 1 ≤ 900; omega, by show u + 8 + 64 * 1 ≤ 9000; omega⟩
  refine j_comp (X := jGo w Φ) (cl := []) ⟨dd, u, rfl, hr⟩ ?_ hs (clos_none (by kernel_rfl)) rfl (by decide +kernel) ?_
  · show (pure (env.blockKind == .function && env.kindOf "told" == some .local && py.line == pos.line && !(([(".0", .local), ("place", .local), ("kind", .local), ("word", .local)] : List (Str × NameKind)).any fun (n, k) => n == "told" && (k == .local || k == .cell))) : Sem Bool) = pure true
    have e1 : env.blockKind = .function := by unfold Env.blockKind; rw [Ev.kd]; rfl
    rw [e1, Ev.kind (x := "told") (k := .local) (by decide +kernel), hl1]
    have : (([(".0", .local), ("place", .local), ("kind", .local), ("word", .local)] : List (Str × NameKind)).any fun (n, k) => n == "told" && (k == .local || k == .cell)) = false := by decide +kernel
    rw [this]; simp
  refine hit _ _ fun a Lf cd lf h₁ t₁ H₁ K₁ na nL fr' => ?_
  refine gn_iter (H₁.gn (by k_memK)) ?_
  refine wpAny_newObj_type (wpAny_newFunctionEnv (by decide +kernel) (by intro y hy; simp at hy) (fun h₂ hns hsb => ?_) rfl)
  dsimp only at hns hsb ⊢
  have Ha : G w h₀ [] (h₁.push { cls := .type "list", dict := none, data := .seq ([] : List Value).toArray }) ((h₁.objs.size, isPL []) :: (a, isGn g.size) :: (Lf, fr lf) :: LD L cS cC aS aN sc tu tx ru te tk lx to ot cm n) := H₁.push (P := isPL []) _ rfl (nc_list (its := #[]) ⟨rfl, 0, rfl⟩) ⟨rfl, rfl, rfl, 0, rfl⟩
  have hne : ∀ o : Obj, h₁.get? (h₁.push o).objs.size = none := fun o => by
    rw [Heap.size_push]; exact Heap.get?_none_of_le (Nat.le_succ _)
  have hne := hne { cls := .type "list", dict := none, data := .seq ([] : List Value).toArray }
  have nacc := get_size h₁
  generalize hH2 : h₁.push { cls := .type "list", dict := none, data := .seq ([] : List Value).toArray } = H2 at hns hsb Ha hne ⊢
  obtain ⟨oC, es, ep, e1, e2, e3, e4⟩ := hns
  have nC := Ha.new (get_size H2)
  have old : ∀ b o, H2.get? b = some o → h₂.get? b = some o := fun b o e => hsb.extBut b o (Nat.ne_of_lt (Heap.lt_size e)) (Heap.get?_push_of_some _ e)
  have Hb : G w h₀ [] h₂ ((H2.objs.size, fr (TF none none none)) :: (h₁.objs.size, isPL []) :: (a, isGn g.size) :: (Lf, fr lf) :: LD L cS cC aS aN sc tu tx ru te tk lx to ot cm n) :=
    (Ha.ext old).add' e1 (fun _ vs q => by rw [e2] at q; cases q) (fr_none (by decide +kernel) (by decide +kernel) e2 e3) Ha.st.big nC.1 nC.2
  have K12 : ∀ b o, h₁.get? b = some o → h₂.get? b = some o := fun b o e => old b o (hH2 ▸ Heap.get?_push_of_some _ e)
  generalize H2.objs.size = C at *
  generalize h₁.objs.size = acc at *
  intro k' p gfl l hk'
  have Ec : EnvOk (compEnvC { kind := .function, names := [(".0", .local), ("place", .local), ("kind", .local), ("word", .local)], isGenerator := false, isCoroutine := false, more := [] } [] C env) C [(".0", .local), ("place", .local), ("kind", .local), ("word", .local)] [] :=
    ⟨rfl, rfl, by rw [show (compEnvC { kind := .function, names := [(".0", .local), ("place", .local), ("kind", .local), ("word", .local)], isGenerator := false, isCoroutine := false, more := [] } [] C env).scope = relabel _ env from rfl, relabel_rl Ev]; rfl, by decide +kernel, rfl, List.nodup_nil, Ev.gl, Ev.bl, rfl⟩
  obtain ⟨nC1, nd1⟩ := List.nodup_cons.mp (show (C :: acc :: a :: Lf :: [L, cS, cC, aS, aN]).Nodup from Hb.nd)
  obtain ⟨nA1, nd2⟩ := List.nodup_cons.mp nd1
  obtain ⟨na1, nd3⟩ := List.nodup_cons.mp nd2
  obtain ⟨nL1, _⟩ := List.nodup_cons.mp nd3
  have gna : IsGn h₂ a g.size := Hb.gn (.tail _ (.tail _ (.head _)))
  have hL0 : h₀.get? Lf = none := Hb.fresh (.tail _ (.tail _ (.tail _ (.head _))))
  have ha7 : 714 ≤ a := (Hb.dyn _ (.tail _ (.tail _ (.head _)))).1
  have H3 := Hb.sub (.cons_cons _ (.cons_cons _ (.cons _ (.cons _ (List.Sublist.refl _)))))
  have ne1 : ∀ b, Ex h₁ b → b ∉ [C, acc] := fun b ⟨o, e⟩ q => by
    simp only [List.mem_cons, List.not_mem_nil, or_false] at q
    rcases q with rfl | rfl
    · rw [hne] at e; cases e
    · rw [nacc] at e; cases e
  have rmC : ∀ cc : Code, cc.weight ≤ 2 → cc.cUnits ≤ 8 → Rm cc (.ret k' none gfl l c p [] :: st) (dd + 2) (u + 8) := fun cc hw hu => (hr.ret (c' := cc)).mono (by omega) (by omega)
  have hG : Gives (LP w gk [C, acc] (Ex h₂) (g.size + 1) Lf g.size κ) its (.fresh cd) (Shared.setGen ⟨h₂, g.push (.fresh cd), d, t₁ + ([] : List (Str × Value)).length, os⟩ g.size .running) := by
    have e : (Shared.setGen ⟨h₂, g.push (.fresh cd), d, t₁ + ([] : List (Str × Value)).length, os⟩ g.size .running).gens.size = g.size + 1 := by rw [setGen_size]; exact Array.size_push _
    have z := fr' [C, acc] g.size κ (Shared.setGen ⟨h₂, g.push (.fresh cd), d, t₁ + ([] : List (Str × Value)).length, os⟩ g.size .running) (Nat.le_refl _) (by omega) Hb.st (by rw [e]; exact Nat.lt_succ_self _) (fun b o eb _ _ _ => K12 b o eb)
      (fun b hb => ne1 b (ex_keeps K₁ (hgood b hb))) (fun q => by
        simp only [List.mem_cons, List.not_mem_nil, or_false] at q
        rcases q with rfl | rfl
        · exact nC1 (by simp)
        · exact nA1 (by simp)) (fun b hb => by
        simp only [List.mem_cons, List.not_mem_nil, or_false] at hb
        rcases hb with rfl | rfl
        · exact ⟨_, e1⟩
        · obtain ⟨o, e, _⟩ := Hb.own _ (.tail _ (.head _)); exact ⟨o, e⟩)
    rw [e] at z; exact z
  refine j_compStart_gn (A := AA (dd + 2) (u + 8)) ⟨dd + 2, u + 8, rfl, rmC _ (Nat.le_of_ble_eq_true rfl) (Nat.le_of_ble_eq_true rfl)⟩ gna ?_
  refine comp_go (κ := κ) ⟨rmC _ (Nat.le_of_ble_eq_true rfl) (Nat.le_of_ble_eq_true rfl), by omega, by omega⟩ hA Ec H3 hL0 (fun b hb q => ?_) (fun b hb => ⟨(hgk b hb).1, ne1 b (ex_keeps K₁ (hgk b hb).2)⟩) gna ha7 ⟨fun q => na1 (by simp [q]), fun q => ?_⟩ hG hz hb fun h' g' t' lp lk lw vs H' R' K3 E3 B' => ?_
  · subst q
    rcases List.mem_cons.mp hb with rfl | hb
    · exact nC1 (by simp)
    rcases List.mem_cons.mp hb with rfl | hb
    · exact nA1 (by simp)
    · exact nL1 hb
  · simp only [List.mem_cons, List.not_mem_nil, or_false] at q
    rcases q with rfl | rfl
    · exact nC1 (by simp)
    · exact nA1 (by simp)
  refine g_ret (.ok .next) ?_
  refine hk' .next _ ?_
  obtain ⟨m, hm, _, hml⟩ := H'.ns (.tail _ (.tail _ (.head _)))
  refine wpAny_assign_Name (wpAny_storeName_local (Ev.kind (x := "told") (k := .local) (by decide +kernel)) (m := m) (by rw [Ev.loc]; exact hm) (fun h₃ hn₃ hs₃ => ?_) (by rw [Ev.kd]; rfl))
  rw [Ev.loc] at hn₃ hs₃
  have H4 := H'.store (.tail _ (.tail _ (.head _))) hml hn₃ hs₃ (.tail (.tail (.tail (.tail (.tail (.tail (.tail .head))))))) (.tail (.tail .head))
  obtain ⟨mC, hmC, _⟩ := H4.ns (List.mem_cons_self ..)
  refine ⟨mC, hmC, fun h₅ hs₅ => ?_⟩
  have H5 := H4.del Del.head hs₅.extBut nC.1
  have nLC := H'.nd
  have kk : ∀ b o, b ≠ L → b ≠ C → h'.get? b = some o → h₅.get? b = some o := fun b o b1 b2 e => hs₅.extBut b o b2 ((hs₃.2 b b1).trans e)
  have neh : ∀ {b o}, h.get? b = some o → b ≠ Lf ∧ b ∉ [C, acc] := fun {b o} e => ⟨fun q => (by rw [q, nL] at e; cases e), ne1 b (ex_keeps K₁ ⟨o, e⟩)⟩
  refine fin h₅ g' _ acc (H5.sub (List.sublist_cons_self _ _)) ⟨fun b o e b1 b2 b3 => ?_, fun b o e => ?_⟩ ?_ B'
  · obtain ⟨z1, z2⟩ := neh e
    exact kk b o (fun q => b1 (q ▸ .head _)) (fun q => z2 (q ▸ .head _)) (K3 b o (K12 b o (K₁.keep b o e b1 b2 b3)) z1 z2 b2 b3)
  · obtain ⟨z1, z2⟩ := neh e
    by_cases hL : b = L
    · obtain ⟨oL, eL, _⟩ := H5.own _ (.tail _ (.head _))
      exact ⟨oL, by rw [hL]; exact eL⟩
    · obtain ⟨o1, e1⟩ := K₁.there b o e
      obtain ⟨o2, e2⟩ := E3 b ⟨o1, K12 b o1 e1⟩
      exact ⟨o2, kk b o2 hL (fun q => z2 (q ▸ .head _)) e2⟩
  · have hacc := (H5.dyn _ (.head _)).1
    refine rep_list ⟨ne380 hacc, ne403 hacc⟩ (H5.pl (.head _)) (Reps.imm (fun b o gb hi e => ?_) _ _ (noL_items its) R')
    have i1 := (H'.sub (D' := [(C, fr (TF lp lk lw))]) (.cons_cons _ (List.nil_sublist _))).immNe ⟨nt_fr, trivial⟩ e hi
    have i2 := (H'.sub (D' := [(L, fr (LFr sc tu tx ru te tk lx to ot))]) (.cons _ (.cons _ (.cons_cons _ (List.nil_sublist _))))).immNe ⟨nt_fr, trivial⟩ e hi
    exact kk b o (fun q => i2 (by rw [q]; exact .head _)) (fun q => i1 (by rw [q]; exact .head _)) e
end

section -- M8
open PySem PySem.W PySem.Calls PyProof.Rows
set_option maxHeartbeats 0
set_option linter.unusedVariables false
set_option maxRecDepth 100000
def isFld (c : String) : Pr := fun o => o.cls = .type c ∧ ∃ vs, o.data = .fields vs
theorem nt_fld {c : String} : ∀ o, isFld c o → ¬ imm o := fun o ⟨_, vs, e⟩ => nt_data fun xs n q => by rw [e] at q; cases q
section
variable {w : World} {A : Around} {E : Value → Shared → Prop} {h₀ h : Heap} {W : List Addr} {D D' : Dl} {a e I T : Addr} {v : Value}
  {g : Array GenState} {d : Drawn} {t : Nat} {os : OsState} {its : List Value} {i : Nat}
theorem nx_listU {Q : Option Value → Shared → Prop} (hh : A.handled = none) (H : G w h₀ W h D) (hm : (I, isLI a i) ∈ D) (hl : h.IsList a its.toArray) (hx : its[i]? = none) (u : Upd I (isFld "list_iterator") D D') (q : ∀ h', G w h₀ W h' D' → Q none ⟨h', g, d, t, os⟩) :
    wpAny (MM w) A (pyNext (.ref I)) Q E ⟨h, g, d, t, os⟩ := by
  obtain ⟨o, ho, hc, hd⟩ := H.get hm
  have hit : (⟨h, g, d, t, os⟩ : Shared).heap.IsListIter I a i := ⟨o, ho, hc, hd⟩
  obtain ⟨ol, hol, _, nl, hdl⟩ := hl
  unfold pyNext
  refine wpAny_bind (wpAny_attempt (wpAny_callSpecial?_slot (name := Str.ofString "__next__") hit.typeIs slot_listiter_next
    (wpAny_call_entry slot_listiter_next hit.typeIs entry_listiter_next ?_ (args_listiter_next _))))
  show wpAny _ _ (field (.ref I) 0 >>= _) _ _ _
  refine wpAny_bind (wpAny_field ho hd (x := .ref a) rfl ?_)
  show wpAny _ _ (if (Value.ref a == Value.none) = true then _ else _) _ _ _
  rw [if_neg (show ¬ ((Value.ref a == Value.none) = true) from Bool.false_ne_true)]
  show wpAny _ _ (field (.ref I) 1 >>= _) _ _ _
  refine wpAny_bind (wpAny_field ho hd (x := .int i 0) rfl ?_)
  show wpAny _ _ (seqItems? (.ref a) >>= _) _ _ _
  refine wpAny_bind (wpAny_seqItems hol hdl ?_)
  have hx' : its.toArray[i]? = none := by rw [List.getElem?_toArray]; exact hx
  simp only [Int.toNat_natCast, hx']
  refine wpAny_bind (wpAny_rule (wpAny_bind (wpAny_setField ho hd (by simp) ?_)))
  show wpAny _ _ (newExc (.type "StopIteration") [] >>= _) _ _ _
  refine wpAny_bind ?_
  simp only [newExc, newTuple]
  refine wpAny_bind (wpAny_newObj_type ?_ (by size_fits))
  refine wpAny_bind (m := firstArgMember _ _) (wpAny_of_eq (a := Value.none) (by first | rfl | (simp only [firstArgMember]; rfl)) ?_)
  refine wpAny_newObj_type ?_ (by size_fits)
  simp only [raiseNew]
  refine wpAny_bind (wpAny_handled ?_)
  rw [show A.in1.handled = none from hh]
  refine wpAny_bind (wpAny_pure (wpAny_throw ?_))
  refine wpAny_bind (wpAny_isInstance (T := "StopIteration") (b := true) ⟨_, Heap.get?_push_size _ rfl, rfl⟩ isSubtype_stop ?_)
  have F : isFld "list_iterator" (Obj.mapFields (·.set! 0 .none) o) := ⟨(Obj.cls_mapFields ..).trans hc, _, Obj.data_mapFields hd _⟩
  have H1 := H.upd (P := isFld "list_iterator") u (Heap.SameBut.update ..) (Heap.get?_update_self _ ho (Obj.isFreed_of_fields (Obj.data_mapFields hd _))) (nc_of F.1 (by decide)) F
  exact wpAny_pure (q _ ((H1.ext fun b o e => Heap.get?_push_of_some _ e).ext fun b o e => Heap.get?_push_of_some _ e))
theorem nextT_end {Q : Value → Shared → Prop} (hh : A.handled = none) (H : G w h₀ W h D) (hm : (I, isTI a i) ∈ D) (hl : IsTup h a its.toArray) (hx : its[i]? = none) (u : Upd I (isFld "tuple_iterator") D D')
    (q : ∀ h' e, G w h₀ W h' D' → (∃ o, h'.get? e = some o ∧ o.cls = .type "StopIteration") → E (.ref e) ⟨h', g, d, t, os⟩) : wpAny (MM w) A (Builtin.SmallTypes.nextOf (.ref I)) Q E ⟨h, g, d, t, os⟩ := by
  obtain ⟨o, ho, hc, hd⟩ := H.get hm
  have hit : (⟨h, g, d, t, os⟩ : Shared).heap.IsTupleIter I a i := ⟨o, ho, hc, hd⟩
  obtain ⟨ol, hol, _, nl, hdl⟩ := hl
  have hx' : its.toArray[i]? = none := by rw [List.getElem?_toArray]; exact hx
  unfold Builtin.SmallTypes.nextOf
  refine wpAny_bind (wpAny_callSpecial?_slot (name := Str.ofString "__next__") hit.typeIs F.slot_tuple_iterator_next
    (wpAny_call_entry F.slot_tuple_iterator_next hit.typeIs F.entry_tuple_iterator_next ?_ (F.args_tuple_iterator_next_1 _)))
  show wpAny _ _ (field (.ref I) 0 >>= _) _ _ _
  refine wpAny_bind (wpAny_field ho hd (x := .ref a) rfl ?_)
  show wpAny _ _ (if (Value.ref a == Value.none) = true then _ else _) _ _ _
  rw [if_neg (show ¬ ((Value.ref a == Value.none) = true) from Bool.false_ne_true)]
  show wpAny _ _ (field (.ref I) 1 >>= _) _ _ _
  refine wpAny_bind (wpAny_field ho hd (x := .int i 0) rfl ?_)
  show wpAny _ _ (seqItems? (.ref a) >>= _) _ _ _
  refine wpAny_bind (wpAny_seqItems hol hdl ?_)
  simp only [Int.toNat_natCast, hx']
  refine wpAny_bind (wpAny_rule (wpAny_bind (wpAny_setField ho hd (by simp) ?_)))
  show wpAny _ _ (newExc (.type "StopIteration") [] >>= _) _ _ _
  refine wpAny_bind ?_
  simp only [newExc, newTuple]
  refine wpAny_bind (wpAny_newObj_type ?_ (by size_fits))
  refine wpAny_bind (m := firstArgMember _ _) (wpAny_of_eq (a := Value.none) (by first | rfl | (simp only [firstArgMember]; rfl)) ?_)
  refine wpAny_newObj_type ?_ (by size_fits)
  simp only [raiseNew]
  refine wpAny_bind (wpAny_handled ?_)
  first | rw [show A.in1.handled = none from hh] | rw [hh]
  refine wpAny_bind (wpAny_pure (wpAny_throw ?_))
  have F : isFld "tuple_iterator" (Obj.mapFields (·.set! 0 .none) o) := ⟨(Obj.cls_mapFields ..).trans hc, _, Obj.data_mapFields hd _⟩
  have H1 := H.upd (P := isFld "tuple_iterator") u (Heap.SameBut.update ..) (Heap.get?_update_self _ ho (Obj.isFreed_of_fields (Obj.data_mapFields hd _))) (nc_of F.1 (by decide)) F
  exact q _ _ ((H1.ext fun b o e => Heap.get?_push_of_some _ e).ext fun b o e => Heap.get?_push_of_some _ e) ⟨_, Heap.get?_push_size _ rfl, rfl⟩
theorem nx_enTU {Q : Option Value → Shared → Prop} (hh : A.handled = none) (H : G w h₀ W h D) (m1 : (e, isEn I i) ∈ D) (m2 : (I, isTI a i) ∈ D) (hl : IsTup h a its.toArray) (hx : its[i]? = none) (u : Upd I (isFld "tuple_iterator") D D') (q : ∀ h', G w h₀ W h' D' → Q none ⟨h', g, d, t, os⟩) :
    wpAny (MM w) A (pyNext (.ref e)) Q E ⟨h, g, d, t, os⟩ := by
  obtain ⟨o, he, old, rfl⟩ := H.get m1
  have hT : (⟨h, g, d, t, os⟩ : Shared).TypeIs (.ref e) "enumerate" := ⟨_, he, rfl⟩
  unfold pyNext
  refine wpAny_bind (wpAny_attempt (wpAny_callSpecial?_slot (name := Str.ofString "__next__") hT F.slot_enumerate_next
    (wpAny_call_entry F.slot_enumerate_next hT F.entry_enumerate_next ?_ (F.args_enumerate_next_1 _))))
  show wpAny _ _ (field (.ref e) 2 >>= _) _ _ _
  refine wpAny_bind (wpAny_field he rfl (x := .ref I) rfl ?_)
  refine wpAny_bind (nextT_end (A := A.in1) hh H m2 hl hx u fun h' x H' hx' => ?_)
  obtain ⟨o, ho, hc⟩ := hx'
  refine wpAny_bind (wpAny_isInstance (T := "StopIteration") (b := true) ⟨o, ho, hc⟩ isSubtype_stop ?_)
  exact wpAny_pure (q _ H')
end
end

section -- M9
open PySem PySem.W PySem.Calls PyProof.Rows
set_option maxHeartbeats 0
set_option linter.unusedVariables false
set_option maxRecDepth 100000
theorem keeps_dyn {M : Model} {f : Addr} (h : Heap) (x : ∃ o fd, h.get? f = some o ∧ o.data = .func fd) : ∃ k, (k = Keeper.frame ∨ k = Keeper.machine ∨ k = Keeper.boundFrame) ∧ Looks M h (keeperOf (.ref f)) k := by
  obtain ⟨o, fd, e, d⟩ := x
  refine ⟨.frame, .inl rfl, (Looks.ld (part := none) e).andThen ?_⟩
  rw [d]
  exact .now
theorem c_dyn {w : World} {A : Around} {E : Value → Shared → Prop} {s : Shared} {env : Env} {pos : Pos} {f : Addr} {first : List Value} {e : Expr} {rest : List Expr} {Q : Value → Shared → Prop}
    (h : wpAny (MM w) A (spliced (backTo pos (starEach (e :: rest) env))) (fun vs s₁ => (∃ o fd, s₁.heap.get? f = some o ∧ o.data = .func fd) ∧ wpAny (MM w) A (call (.ref f) (first ++ vs)) Q E s₁) E s)
    (he : starEach (e :: rest) env = (false, eval e env) :: starEach rest env) (hplain : (backTo pos (starEach rest env)).any (·.1) = false) :
    wpAny (MM w) A (callWith pos (.ref f) first (backTo pos (starEach (e :: rest) env)) []) Q E s := by
  rw [he] at h ⊢
  exact callWith_of (P := fun h => ∃ o fd, h.get? f = some o ∧ o.data = .func fd) (by show ((false || (backTo pos (starEach rest env)).any (·.1)) || false) = false; rw [hplain]; rfl) keeps_dyn (Calls.evalArgs_plain h)
theorem G.exk {w : World} {h₀ h : Heap} {W : List Addr} {D : Dl} {b : Addr} (H : G w h₀ W h D) (hm : b ∈ D.map (·.1)) : 714 ≤ b ∧ Ex h b := by
  obtain ⟨p, hp, rfl⟩ := List.mem_map.mp hm
  obtain ⟨o, e, _⟩ := H.own p hp
  exact ⟨(H.dyn p hp).1, o, e⟩
theorem GS.tupNe {P : GP} {good : Addr → Prop} {s₀ s : Shared} {D : Dl} {F : Nat → Prop} (X : GS P good s₀ s D F) {r : Addr} {its : Array Value} (h : IsTup s.heap r its) : r ∉ D.map (·.1) := fun hm => by
  obtain ⟨p, hp, rfl⟩ := List.mem_map.mp hm
  obtain ⟨o, e, c, n, d⟩ := h
  obtain ⟨o', e', _, hp'⟩ := X.g.own p hp
  rw [e] at e'; cases e'
  exact X.nt.all p hp _ hp' ⟨c, its, n, d⟩
theorem GS.item {w : World} {gk good : Addr → Prop} {C : List Addr} {O : Addr → Prop} {m L gi κ : Nat} {s₀ s : Shared} {D : Dl} {F : Nat → Prop} (X : GS (LP w gk C O m L gi κ) good s₀ s D F) (gkg : ∀ b, gk b → good b) {h' : Heap} (N : Kp (D.map (·.1)) s.heap h') {v : Value} {it : Item} (x : ItL gk s.heap v it) : ItL gk h' v it := by
  obtain ⟨r, tp, ty, tx, e, r7, ht, hk⟩ := x
  have hne := X.tupNe ht
  obtain ⟨o, eo, rr⟩ := ht
  refine ⟨r, tp, ty, tx, e, r7, ⟨o, N.keep _ _ eo hne (ne380 r7) (ne403 r7), rr⟩, hk.kp N (fun b hb => ⟨(X.gd b (gkg b hb)).1, (X.gd b (gkg b hb)).2.2.1⟩) fun b hb => ?_⟩
  obtain ⟨p, hp, rfl⟩ := List.mem_map.mp hb
  exact (X.g.dyn p hp).1
theorem flat_id {its : List Item} : its = its.flatMap (fun it => [it]) := by
  induction its with
  | nil => rfl
  | cons i r ih => rw [List.flatMap_cons, ← ih]; rfl
theorem for_ind {P : GP} {code : Code} {fs : List Frame} {t : Sem Fin} {s₀ s : Shared} {its : List P.ι} (Inv : Nat → List P.ι → Shared → Shared → Prop) (n : Nat) (hI : Inv n its s₀ s)
    (step : ∀ m, (∀ m' its s₀ s, m' < m → Inv m' its s₀ s → Run P its s₀ code fs t s) → ∀ its s₀ s, Inv m its s₀ s → Run P its s₀ code fs t s) : Run P its s₀ code fs t s := by
  have : ∀ n its s₀ s, Inv n its s₀ s → Run P its s₀ code fs t s := fun n => by
    induction n using Nat.strongRecOn with
    | ind n ih => exact step n fun m' its s₀ s hm hI => ih m' hm its s₀ s hI
  exact this n its s₀ s hI
/-- a match of a row of pieces, at a place -/
def MatchP (h : Heap) (m : Addr) (place : Int) (ps : List Piece) : Prop := ∃ dm pa tp vs, InH h m 603 dm 2 [("pieces", .ref pa), ("place", .int place tp)] ∧ h.IsList pa (List.toArray vs) ∧ 714 ≤ pa ∧ OptsAre vs (ps.map (·.1))
abbrev mcf (rules : List (List Piece)) (terms : List Str) (n : Nat) : Str → Option (List Item) := fun x => mc rules terms n false x 0
theorem cb_call {w : World} {rules : List (List Piece)} {terms : List Str} {n κ : Nat} (hlex : LexSpec w rules terms n κ) (hκ : 90 ≤ κ)
    {A : Around} {k : Nat} {R : Result → Shared → Prop} {h : Heap} {g : Array GenState} {d : Drawn} {t : Nat} {os : OsState} {gk good : Addr → Prop} {lx m : Addr} {place : Int} {ps : List Piece} {its : List Item} {v : Value} {args : Args}
    (hA : AOk A (k + 1)) (S : St w h) (hv : CbK w gk h v (ps.map (·.2))) (gkg : ∀ b, gk b → good b) (LX : LexR w gk h lx rules terms) (hM : Sure good h (fun h => MatchP h m place ps)) (hg : ∀ b, good b → 714 ≤ b ∧ Ex h b)
    (hl : ps.length ≤ 3) (hz : ∀ p ∈ ps, ∀ x, p.1 = some x → x.length ≤ 100) (hd : ∀ p ∈ ps, 0 ≤ p.2 ∧ p.2 ≤ 5) (hmc : pcs (mcf rules terms n) ps place = some its) (ha : Act2 lx m args)
    (q : ∀ f a Lf cd lf h' t', v = .ref f → G w h [] h' [(a, isGn g.size), (Lf, fr lf)] → Fresh' w gk (κ + 7) h' Lf good cd its → R (.ok (.ret (.ref a))) ⟨h', g.push (.fresh cd), d, t', os⟩) :
    ∀ f, v = .ref f → codeAny (MM w) A (.call (.ref f) args) R ⟨h, g, d, t, os⟩ := by
  intro f hf
  obtain ⟨f', td, ca, at', acts, e, ⟨f7, td7⟩, SU, hal, hacts⟩ := hv
  rw [hf] at e; cases e
  obtain ⟨pU, bU, sU, c', hi, ⟨o, eo, doc, pm, ct, rfl⟩, hcd, htd⟩ := SU.now.1
  have ee : innerB? (KK w) = some (_, _, _) := rfl
  rw [hi] at ee
  cases ee
  obtain ⟨otd, etd, ctd, ntd, dtd⟩ := htd
  have H0 : G w h [] h [] := G.start S
  refine enterGen (k := k) [("lexer", some (.ref lx)), ("match", some (.ref m)), ("ctx", some .none), ("i", none), ("action", none), ("data", none), ("item", none)] (binds := [("lexer", .ref lx), ("match", .ref m), ("ctx", .none)]) hA H0 eo rfl hcd.rec' rfl ?_ (by kernel_rfl) ⟨by kernel_rfl, by kernel_rfl, by kernel_rfl, trivial⟩ ?_
  · rcases ha with rfl | rfl
    · exact BindsTo.of_defaults (T := td) rfl etd dtd rfl (by kernel_rfl)
    · exact BindsTo.of_defaults (T := td) rfl etd dtd rfl (by kernel_rfl)
  intro env L a h₁ t₁ Ev H₁ K₁ nL na
  refine q f a L _ _ _ _ hf H₁ ?_
  intro C gi κ' s hκ' hκ2 hS hgi hk hn hL hC
  refine gives_fresh ?_
  have L7 : 714 ≤ L := H₁.at (a := L) (by tb_rel)
  obtain ⟨oL, eL, fL⟩ := H₁.get (a := L) (by tb_rel)
  have hgs : ∀ b, good b → 714 ≤ b ∧ b ∉ C ∧ b ≠ L ∧ Ex s.heap b := fun b hb => by
    obtain ⟨h7, o, e⟩ := hg b hb
    refine ⟨h7, hn b hb, fun q => (by rw [q, nL] at e; cases e), o, hk b o (K₁.keep b o e List.not_mem_nil (ne380 h7) (ne403 h7)) (hn b hb) (ne380 h7) (ne403 h7)⟩
  have kp0 : Keeps good h s.heap := fun b o hb e => by
    have h7 := (hg b hb).1
    exact hk b o (K₁.keep b o e List.not_mem_nil (ne380 h7) (ne403 h7)) (hn b hb) (ne380 h7) (ne403 h7)
  have kpk : Keeps gk h s.heap := fun b o hb e => kp0 b o (gkg b hb) e
  obtain ⟨K, X⟩ := GS.start (gk := gk) (gi := gi) (F := fun _ => True) hS ⟨oL, hk _ _ eL hL (ne380 L7) (ne403 L7), fL⟩ L7 hgs hκ2 hL hC
  replace SU := SU.keep kpk
  replace LX := LexK.keep RootP.pk TermP.pk LX kpk
  replace hM := hM.keep kp0
  have hacts' : ∀ i (hi : i < (ps.map (·.2)).length), ∃ v, acts[i]? = some v ∧ ActK w gk s.heap v (ps.map (·.2))[i] := fun i hi => let ⟨v, e, y⟩ := hacts i hi; ⟨v, e, y.keep kpk⟩
  clear hk H₁ K₁ H0 hcd etd eo kp0 kpk hacts
  obtain ⟨h0, g0, d0, t0, os0⟩ := s
  dsimp only at *
  have hA1 : AOk (AK (κ' - 1)) 10 := ak_ok (by omega) hκ2
  have hA2 : AOk (AK (κ' - 2)) 10 := ak_ok (by omega) hκ2
  have kg : ∀ {W : List Addr} {h' : Heap}, W = [L] → Kp W h0 h' → Keeps good h0 h' := fun e N => X.keeps (by rw [e] at N; exact N)
  refine r_func fun cF KF HF F1 hKF => ?_
  refine j_cons (j_For (A := AK (κ' - 1)) ⟨1, rfl, F1, by show 1 ≤ κ'; omega, hκ2⟩ ?_)
  have H := X.g
  dsimp only [List.map_cons, List.map_nil] at H
  k_clsL
  have Ev' : EnvOk env L _ [("args", ca)] := Ev
  refine n_free Ev' (by tb_rel) (by tb_rel) SU.now.2.1 ?_
  k_clsL
  refine en_tup (its := acts) H SU.now.2.2 fun e I h1 H1 K1 ne nI hne => ?_
  intro kF2 p2 g2 l2 hk2 hg2
  subst hg2
  obtain ⟨Dv, hDv⟩ : ∃ Dv : Nat → Option Value × Option Value × Option Value × Option Value → Dl, Dv = fun i y => [(e, isEn I i), (I, isTI at' i), (L, fr [("lexer", some (.ref lx)), ("match", some (.ref m)), ("ctx", some .none), ("i", y.1), ("action", y.2.1), ("data", y.2.2.1), ("item", y.2.2.2)])] := ⟨_, rfl⟩
  have hea : e ≠ at' := fun q => by
    subst q
    obtain ⟨o1, e1, old, p1⟩ := H1.get (a := e) (P := isEn I 0) (by tb_rel)
    obtain ⟨o2, e2, c2, _⟩ := (SU.keep (fun b o hb eb => kg rfl H1.kp b o (gkg b hb) eb)).now.2.2
    rw [e1] at e2; cases e2
    subst p1; exact absurd (Value.type.inj c2) (by decide)
  have hIa : at' ≠ I := fun q => by
    subst q
    obtain ⟨o1, e1, p1⟩ := H1.get (a := at') (P := isTI at' 0) (by tb_rel)
    obtain ⟨o2, e2, c2, _⟩ := (SU.keep (fun b o hb eb => kg rfl H1.kp b o (gkg b hb) eb)).now.2.2
    rw [e1] at e2; cases e2
    rw [p1.1] at c2; exact absurd (Value.type.inj c2) (by decide)
  refine for_ind (P := LP w gk C (Ex h0) g0.size L gi κ') (fun mm itsI s₀ s => ∃ i y, mm = ps.length - i ∧ i ≤ ps.length ∧ GS (LP w gk C (Ex h0) g0.size L gi κ') good s₀ s (Dv i y) (fun _ => True) ∧ Keeps good h0 s.heap ∧ pcs (mcf rules terms n) (ps.drop i) (place + wl ((ps.map (·.1)).take i)) = some itsI) ps.length
    ⟨0, (none, none, none, none), rfl, Nat.zero_le _, ?_, X.keeps H1.kp, by simpa [wl] using hmc⟩ fun mm IH itsI s₀ s hI => ?_
  · subst hDv
    exact X.calm0 K H1 ⟨nt_en, nt_ti, nt_fr, trivial⟩ (.tail _ (.tail _ (.head _)))
  obtain ⟨i, y, em, hi1, Y, hky, hpc⟩ := hI
  obtain ⟨h, g, d, t, os⟩ := s
  subst hDv
  have HY := Y.g
  dsimp only [List.map_cons, List.map_nil] at HY hky
  refine j_forTurn (X := jRun (LP w gk C (Ex h0) g0.size L gi κ') _ _) (A := AK (κ' - 2)) ⟨2, rfl, fw_for F1, by show 2 ≤ κ'; omega, hκ2⟩ fun Kn Hn hn hs => ?_
  rcases Nat.lt_or_ge i ps.length with hlt | hge
  · have hlt' : i < (ps.map (·.2)).length := by rw [List.length_map]; exact hlt
    obtain ⟨va, eva, hact⟩ := hacts' i hlt'
    rw [List.getElem_map] at hact
    rw [List.drop_eq_getElem_cons hlt, pcs] at hpc
    obtain ⟨own1, e1, hpc⟩ := Option.bind_eq_some_iff.mp hpc
    obtain ⟨itsR, e2, e3⟩ := Option.map_eq_some_iff.mp hpc
    subst e3
    have hplace : place + wl ((ps.map (·.1)).take i) + (pw ps[i]).length = place + wl ((ps.map (·.1)).take (i + 1)) := by
      rw [wl_take_succ (by rw [List.length_map]; exact hlt), List.getElem_map]
      unfold pw
      push_cast
      omega
    refine (jRun (LP w gk C (Ex h0) g0.size L gi κ') _ _).wrap (A := AK (κ' - 2)) ⟨2, rfl, fw_for F1, by show 2 ≤ κ'; omega, hκ2⟩ ?_
    refine nx_enT (its := acts) (i := i) hA2.hd HY (by tb_rel) (by tb_rel) hne hea hIa (SU.keep fun b o hb eb => hky b o (gkg b hb) eb).now.2.2 eva (fun T => by tb_start) (fun T => by tb_start) fun T tk h' t' H' nT => ?_
    refine hs _ _ ?_
    refine own_en H' (by tb_rel) (by tb_start) fun h3 H3 => ?_
    refine a_tup2 hA2.hd H3 (H3.tup (by tb_rel)) fun h4 H4 => ?_
    k_clsL
    rename_i h5 t5 H5
    have Y5 := fun tt => Y.calm (t' := tt) (T := [(T, isT _)]) (D' := [(e, isEn I (i + 1)), (I, isTI at' (i + 1)), (L, fr _)]) K H5 ⟨nt_en, nt_ti, nt_fr, trivial⟩ (.tail _ (.tail _ (.head _)))
    have k5 := Y.keeps H5.kp
    have next1 := fun (s₀' s' : Shared) (y' : Option Value × Option Value × Option Value × Option Value) (G' : GS (LP w gk C (Ex h0) g0.size L gi κ') good s₀' s' [(e, isEn I (i + 1)), (I, isTI at' (i + 1)), (L, fr [("lexer", some (.ref lx)), ("match", some (.ref m)), ("ctx", some .none), ("i", y'.1), ("action", y'.2.1), ("data", y'.2.2.1), ("item", y'.2.2.2)])] (fun _ => True)) (kk : Keeps good h0 s'.heap) =>
      IH (ps.length - (i + 1)) itsR s₀' s' (by omega) ⟨i + 1, y', rfl, hlt, G', kk, by rw [← hplace]; exact e2⟩
    have hk5 : Keeps good h0 h5 := fun b o hb eb => k5 b o hb (hky b o hb eb)
    refine j_cons (j_If (A := AK (κ' - 2)) ⟨2, rfl, fw_for F1, by show 2 ≤ κ'; omega, hκ2⟩ ?_)
    k_clsL
    rcases hact with ⟨hd3, hty⟩ | ⟨hd3, rfl⟩ | ⟨hd3, hus⟩
    · obtain ⟨ty, dty, nty, tkk, rfl, ⟨gty, gdx, gnn⟩, sT⟩ := hty
      have Z := (Y5 t5).less (good' := good) fun b hb => .inl hb
      have HZ := Z.g
      dsimp only [List.map_cons, List.map_nil] at HZ
      have kz : ∀ {h' D'}, G w h5 [e, I, L] h' D' → Keeps good h0 h' := fun N b o hb eb => Z.keeps N.kp b o hb (hk5 b o hb eb)
      have kzk : ∀ {h' D'}, G w h5 [e, I, L] h' D' → Keeps gk h0 h' := fun N b o hb eb => kz N b o (gkg b hb) eb
      rw [v_ref_none, if_neg (by decide)]
      refine j_cons (j_If (A := AK (κ' - 2)) ⟨2, rfl, fw_for F1, by show 2 ≤ κ'; omega, hκ2⟩ ?_)
      k_clsL
      refine call_type_in (sT.keep (kzk HZ)).now.1 ?_
      k_clsL
      refine wpAny_is_ref_self ?_
      k_clsL
      rw [if_pos rfl]
      refine j_calm (A := AK (κ' - 2)) ⟨2, rfl, fw_for F1, by show 2 ≤ κ'; omega, hκ2⟩ ?_
      k_clsL
      refine MethodCall_ ?_ (by rfl)
      k_clsL
      obtain ⟨dm, pa, tp, vs, IM, hpa, pa7, hO⟩ := (hM.keep (kz HZ)).now
      obtain ⟨u, evu, hu⟩ := hO.2 i (by rw [List.length_map]; exact hlt)
      rw [List.getElem_map] at hu
      refine h_meth (f := 600) HZ.st.k IM (by kernel_rfl) (by kernel_rfl) ?_
      k_clsL
      refine wpAny_call (pm_groupI (k := 7) (ps := ps.map (·.1)) hA2 HZ.st IM hpa pa7 evu (by omega) fun h6 t6 S6 K6 => ?_)
      have H6 := HZ.call S6 K6
      dsimp only
      k_clsL
      rename_i h7 t7 H7
      have Z7 := fun tt => Z.calm0 (t' := tt) K H7 ⟨nt_en, nt_ti, nt_fr, trivial⟩ (.tail _ (.tail _ (.head _)))
      refine j_seq (j_cons (j_If (A := AK (κ' - 2)) ⟨2, rfl, fw_for F1, by show 2 ≤ κ'; omega, hκ2⟩ ?_))
      refine wpAny_isTrue_value ?_ (by rfl)
      k_clsL
      unfold own at e1
      cases hp : ps[i].1 with
      | none =>
        rw [hp] at e1 hu
        obtain rfl : u = .none := hu
        obtain rfl := Option.some.inj e1
        refine PyProof.Rows.truthy_none ?_
        rw [if_neg (by decide)]
        refine j_nil (env := env) ?_
        exact r_again rfl (next1 _ _ (some (.int i tk), some (.ref ty), some .none, y.2.2.2) (Z7 _) (kz H7))
      | some x =>
        rw [hp] at e1 hu
        obtain ⟨tx, rfl⟩ := hu
        dsimp only at e1
        rw [if_pos hd3] at e1
        have hx100 := hz ps[i] (List.getElem_mem hlt) x hp
        refine P.truthy_str (by omega) ?_
        by_cases hx0 : x.length = 0
        · rw [if_pos hx0] at e1
          obtain rfl := Option.some.inj e1
          have : (((x.length : Nat) : Int) != 0) = false := by simp [hx0]
          rw [this, if_neg (by decide)]
          refine j_nil (env := env) ?_
          exact r_again rfl (next1 _ _ (some (.int i tk), some (.ref ty), some (.str x tx), y.2.2.2) (Z7 _) (kz H7))
        · rw [if_neg hx0] at e1
          obtain rfl := Option.some.inj e1
          have : (((x.length : Nat) : Int) != 0) = true := by simp [hx0]
          rw [this, if_pos rfl]
          refine j_cons (j_Yield (A := AK (κ' - 2)) ⟨2, rfl, fw_for F1, by show 2 ≤ κ'; omega, hκ2⟩ ?_ Ev.co (inter Ev))
          k_clsL
          refine MethodCall_ ?_ (by rfl)
          k_clsL
          obtain ⟨dm', pa', tp', vs', IM', hpa', pa7', hO'⟩ := (hM.keep (kz H7)).now
          refine h_meth (f := 586) H7.st.k IM' (by kernel_rfl) (by kernel_rfl) ?_
          k_clsL
          refine wpAny_call (pm_start (k := 7) (n := i + 1) hA2 H7.st IM' hpa' pa7' hO' (by rw [List.length_map]; omega) (fun p hp y hy => ?_) (.inr ⟨rfl, i, x, rfl, ?_⟩) fun h8 t8 tk8 S8 K8 => ?_)
          · obtain ⟨p', hp', rfl⟩ := List.mem_map.mp hp
            exact Nat.le_trans (hz p' hp' y hy) (by decide)
          · rw [List.getElem?_map, List.getElem?_eq_getElem hlt, Option.map_some, hp]
          have H8 := H7.call S8 K8
          dsimp only
          k_clsL
          refine ⟨rfl, new_tupF H8 fun rt hb Hb Kb _ _ => ?_⟩
          have Zb := fun tt => Z.calm (t' := tt) (T := [(rt, isT _)]) (D' := [(e, isEn I (i + 1)), (I, isTI at' (i + 1)), (L, fr _)]) K Hb ⟨nt_en, nt_ti, nt_fr, trivial⟩ (.tail _ (.tail _ (.head _)))
          have sT' := (sT.keep (kzk Hb)).now
          show Run (LP w gk C (Ex h0) g0.size L gi κ') (_ :: itsR) s₀ _ _ _ _
          refine r_yield (it := (place + ((wl ((ps.map (·.1)).take i) : Nat) : Int), [kinds.getD ps[i].2.toNat E0], x)) (its := itsR) (fw_for F1) ?hg (Zb _).R Hb.st ⟨rt, tk8, ty, tx, rfl, Hb.at (a := rt) (by k_memK), Hb.tup (by k_memK), dty, 1, _, nty, _, ⟨.inl gty, .inl gdx, .inl gnn⟩, sT'.1.1, sT'.1.2.2.2, rfl, sT'.2, .cons _ _ .nil⟩ fun s'' hc => ?_
          case hg => rfl
          obtain ⟨Z3, kz3⟩ := (Zb _).yielded K hc
          exact r_again rfl (next1 _ s'' (some (.int i tk), some (.ref ty), some (.str x tx), y.2.2.2) (Z3.less fun b hb => .inl hb) (fun b o hb eb => kz3 b o (.inl hb) (kz Hb b o hb eb)))
    · rw [v_none_none, if_pos rfl]
      refine j_cons (j_Continue ?_)
      have : own1 = [] := by
        have hn : ¬ (ps[i].2 < 3) := by omega
        have hn' : ¬ (3 < ps[i].2) := by omega
        unfold own at e1
        cases hp : ps[i].1 with
        | none => rw [hp] at e1; exact (Option.some.inj e1).symm
        | some x => rw [hp] at e1; dsimp only at e1; rw [if_neg hn, if_neg hn'] at e1; exact (Option.some.inj e1).symm
      subst this
      exact r_again rfl (next1 _ _ (some (.int i tk), some .none, y.2.2.1, y.2.2.2) ((Y5 _).less fun b hb => .inl hb) hk5)
    · obtain ⟨fu, tdu, cgu, dgu, stu, stvu, rfl, hstu, _, sU⟩ := id hus
      have hd45 : ps[i].2 = 4 ∨ ps[i].2 = 5 := by have := (hd ps[i] (List.getElem_mem hlt)).2; omega
      have Z := (Y5 t5).less (good' := good) fun b hb => .inl hb
      have HZ := Z.g
      dsimp only [List.map_cons, List.map_nil] at HZ
      have kz : ∀ {h' D'}, G w h5 [e, I, L] h' D' → Keeps good h0 h' := fun N b o hb eb => Z.keeps N.kp b o hb (hk5 b o hb eb)
      have kzk : ∀ {h' D'}, G w h5 [e, I, L] h' D' → Keeps gk h0 h' := fun N b o hb eb => kz N b o (gkg b hb) eb
      have fnAt : ∀ {h' D'}, G w h5 [e, I, L] h' D' → ∃ o fd, h'.get? fu = some o ∧ o.cls = .type "function" ∧ o.data = .func fd := fun N => by
        obtain ⟨p, b, s, c', _, ⟨o, eo, _, _, _, rfl⟩, _⟩ := (sU.keep (kzk N)).now.1
        exact ⟨_, _, eo, rfl, rfl⟩
      rw [v_ref_none, if_neg (by decide)]
      refine j_cons (j_If (A := AK (κ' - 2)) ⟨2, rfl, fw_for F1, by show 2 ≤ κ'; omega, hκ2⟩ ?_)
      k_clsL
      refine call_type_fn (let ⟨o, _, e, c, _⟩ := fnAt HZ; ⟨o, e, c⟩) (by decide) ?_
      k_clsL
      refine is_type_ref ?_
      k_clsL
      rw [if_neg (by decide)]
      refine j_calm (A := AK (κ' - 2)) ⟨2, rfl, fw_for F1, by show 2 ≤ κ'; omega, hκ2⟩ ?_
      k_clsL
      refine MethodCall_ ?_ (by rfl)
      k_clsL
      obtain ⟨dm, pa, tp, vs, IM, hpa, pa7, hO⟩ := (hM.keep (kz HZ)).now
      obtain ⟨u, evu, hu⟩ := hO.2 i (by rw [List.length_map]; exact hlt)
      rw [List.getElem_map] at hu
      refine h_meth (f := 600) HZ.st.k IM (by kernel_rfl) (by kernel_rfl) ?_
      k_clsL
      refine wpAny_call (pm_groupI (k := 7) (ps := ps.map (·.1)) hA2 HZ.st IM hpa pa7 evu (by omega) fun h6 t6 S6 K6 => ?_)
      have H6 := HZ.call S6 K6
      dsimp only
      k_clsL
      rename_i h7 t7 H7
      have Z7 := fun tt => Z.calm0 (t' := tt) K H7 ⟨nt_en, nt_ti, nt_fr, trivial⟩ (.tail _ (.tail _ (.head _)))
      refine j_seq (j_cons (j_If (A := AK (κ' - 2)) ⟨2, rfl, fw_for F1, by show 2 ≤ κ'; omega, hκ2⟩ ?_))
      k_clsL
      unfold own at e1
      cases hp : ps[i].1 with
      | none =>
        rw [hp] at e1 hu
        obtain rfl : u = .none := hu
        obtain rfl := Option.some.inj e1
        rw [v_none_none]
        rw [if_neg (by decide)]
        refine j_nil (env := env) ?_
        exact r_again rfl (next1 _ _ (some (.int i tk), some (.ref fu), some .none, y.2.2.2) (Z7 _) (kz H7))
      | some x =>
        rw [hp] at e1 hu
        obtain ⟨tx, rfl⟩ := hu
        dsimp only at e1
        rw [if_neg (by omega), if_pos hd3] at e1
        obtain ⟨itsx, hmx, rfl⟩ := Option.map_eq_some_iff.mp e1
        have hx100 := hz ps[i] (List.getElem_mem hlt) x hp
        rw [v_str_none, if_pos (by decide)]
        refine j_cons (j_If (A := AK (κ' - 2)) ⟨2, rfl, fw_for F1, by show 2 ≤ κ'; omega, hκ2⟩ ?_)
        refine wpAny_isTrue_value ?_ (by rfl)
        k_clsL
        refine PyProof.Rows.truthy_none ?_
        rw [if_neg (by decide)]
        refine j_nil (env := env) (j_seq (j_cons (j_For (A := AK (κ' - 2)) ⟨2, rfl, fw_for F1, by show 2 ≤ κ'; omega, hκ2⟩ ?_)))
        k_clsL
        refine c_dyn ?_ rfl rfl
        refine i_cons ?_ rfl
        k_clsL
        refine MethodCall_ ?_ (by rfl)
        k_clsL
        obtain ⟨dm', pa', tp', vs', IM', hpa', pa7', hO'⟩ := (hM.keep (kz H7)).now
        refine h_meth (f := 586) H7.st.k IM' (by kernel_rfl) (by kernel_rfl) ?_
        k_clsL
        refine wpAny_call (pm_start (k := 7) (n := i + 1) hA2 H7.st IM' hpa' pa7' hO' (by rw [List.length_map]; omega) (fun p hp y hy => ?_) (.inr ⟨rfl, i, x, rfl, ?_⟩) fun h8 t8 tk8 S8 K8 => ?_)
        · obtain ⟨p', hp', rfl⟩ := List.mem_map.mp hp
          exact Nat.le_trans (hz p' hp' y hy) (by decide)
        · rw [List.getElem?_map, List.getElem?_eq_getElem hlt, Option.map_some, hp]
        have H8 := H7.call S8 K8
        dsimp only
        k_clsL
        refine wpAny_call (mk_pseudo (k := 7) hA2 H8.st fun pmo dmo h9 t9 N9 => ?_)
        dsimp only
        have H9 := H8.take N9
        dsimp only [List.cons_append, List.nil_append] at H9
        k_clsL
        refine ⟨(let ⟨o, fd, e, _, d⟩ := fnAt H9; ⟨o, fd, e, d⟩), ?_⟩
        have hgood' : ∀ b, (good b ∨ b ∈ [pmo, dmo]) → 714 ≤ b ∧ Ex h9 b := fun b hb => by
          rcases hb with hb | hb
          · obtain ⟨h7', _, _, o, eo⟩ := hgs b hb
            exact ⟨h7', o, kz H9 b o hb eo⟩
          · simp only [List.mem_cons, List.not_mem_nil, or_false] at hb
            rcases hb with rfl | rfl
            · exact H9.exk (by simp)
            · exact H9.exk (by simp)
        have hMt : Sure (fun b => good b ∨ b ∈ [pmo, dmo]) h9 (fun h => MatchAt h pmo (place + ((wl ((ps.map (·.1)).take i) : Nat) : Int)) x) :=
          (inH_sure (good := fun b => good b ∨ b ∈ [pmo, dmo]) (H9.inH (x := pmo) (dx := dmo) (by k_memK) (by k_memK)) (.inr (by simp)) (.inr (by simp))).mono fun h' I' => .inl ⟨_, _, _, I'⟩
        refine wpAny_call (us_call hlex hκ (k := 9) (deed := ps[i].2) hA2 H9.st ((hus.keep (kzk H9)).weak (good' := fun b => good b ∨ b ∈ [pmo, dmo]) fun b hb => .inl (gkg b hb)) hd45 (fun b hb => .inl (gkg b hb)) (LexK.keep RootP.pk TermP.pk LX (kzk H9)) hMt hgood' hx100 hmx (.inr rfl) (fun fu' a2 Lf2 cd2 lf2 hb tb ef Nb frb => ?_) fu rfl)
        dsimp only
        have Hb := H9.take Nb
        dsimp only [List.cons_append, List.nil_append] at Hb
        refine gn_iter (Nb.gn (by tb_rel)) ?_
        intro kF3 p3 g3 l3 hk3 hg3
        subst hg3
        have n9 : ∀ {c : Addr} {P : Pr}, (c, P) ∈ [(a2, isGn g.size), (Lf2, fr lf2)] → h5.get? c = none := fun hm => (H9.new ((Nb.dyn _ hm).2.resolve_left List.not_mem_nil)).1
        obtain ⟨Dw, hDw⟩ : ∃ Dw : Option Value → Dl, Dw = fun z => [(e, isEn I (i + 1)), (I, isTI at' (i + 1)), (L, fr [("lexer", some (.ref lx)), ("match", some (.ref m)), ("ctx", some .none), ("i", some (.int i tk)), ("action", some (.ref fu)), ("data", some (.str x tx)), ("item", z)])] := ⟨_, rfl⟩
        have M := made (t' := tb) (κ₁ := κ + 3) (T := [(pmo, isIn 374 dmo), (dmo, nsx 2 _)]) (D' := Dw y.2.2.2) K Z (by rw [hDw]; exact Hb) (by rw [hDw]; exact ⟨nt_en, nt_ti, nt_fr, trivial⟩) (by rw [hDw]; exact .tail _ (.tail _ (.head _))) (n9 (.head _)) (n9 (.tail _ (.head _))) frb (fun b hb => hb) (by omega)
        have M := M
        rw [flat_id (its := shift _ itsx)]
        refine for_go (Dv := Dw) (Kd := [e, I, L]) (rest := itsR) (fun _ => by rw [hDw]; rfl) M (fw_for (fw_for F1)) (by omega) (fun z it v s₁ s rest' Y' hky' hgn hI cont => ?_) (fun z s₁ s Y' hky' => ?_)
        · subst hDw
          obtain ⟨hq, gq, dq, tq, osq⟩ := s
          have HY' := Y'.g
          dsimp only [List.map_cons, List.map_nil] at HY' hgn hky'
          have hA3 : AOk (AK (κ' - 3)) 10 := ak_ok (by omega) hκ2
          obtain ⟨r', tp', ty', txx, rfl, r7, hr, hkd⟩ := id hI
          refine wpAny_of_eq (a := ()) rfl ?_
          k_clsL
          rename_i hq2 tq2 Hq2
          have hI2 := Y'.item (fun b hb => .inl (.inl (gkg b hb))) Hq2.kp hI
          obtain ⟨r2, tp2, ty2, tx2, er2, r72, hr2, hkd2⟩ := id hI2
          cases er2
          have Y2 := fun tt => Y'.calm0 (t' := tt) K Hq2 ⟨nt_en, nt_ti, nt_fr, trivial⟩ (.tail _ (.tail _ (.head _)))
          refine j_cons (X := jRun (LP w gk C (Ex h0) g0.size L gi κ') _ _) (j_If (A := AK (κ' - 3)) ⟨3, rfl, fw_for (fw_for F1), by show 3 ≤ κ'; omega, hκ2⟩ ?_)
          refine wpAny_isTrue_value ?_ (by rfl)
          k_clsL
          refine PyProof.Rows.truthy_tuple (s := ⟨hq2, gq, dq, tq2, osq⟩) hr2 (by simp) ?_
          rw [if_pos (by rfl)]
          refine j_cons (j_Yield (A := AK (κ' - 3)) ⟨3, rfl, fw_for (fw_for F1), by show 3 ≤ κ'; omega, hκ2⟩ ?_ Ev.co (inter Ev))
          k_clsL
          show Run (LP w gk C (Ex h0) g0.size L gi κ') (_ :: rest') s₁ _ _ _ _
          refine r_yield (it := it) (its := rest') (fw_for (fw_for F1)) ?hg (Y2 _).R Hq2.st hI2 fun s'' hc => ?_
          case hg => rfl
          obtain ⟨Y3, kz3⟩ := (Y2 _).yielded K hc
          refine cont (some (.ref r')) s'' s'' Y3 ((BRel.calm (K := [e, I, L]) (fun x hx => ?_) Hq2.kp).trans (BRel.con (fun x hx => ?_) hc)) (fun b o hb eb => kz3 b o hb (Y'.keeps Hq2.kp b o hb eb))
          · exact .tail _ (List.mem_append_right _ hx)
          · exact .tail _ (List.mem_append_left _ hx)
        · subst hDw
          obtain ⟨hq, gq, dq, tq, osq⟩ := s
          refine j_block (X := jRun (LP w gk C (Ex h0) g0.size L gi κ') _ _) (j_nil ?_)
          refine (jRun (LP w gk C (Ex h0) g0.size L gi κ') _ _).ret (.ok .next) ?_
          rw [hk3]
          exact r_again rfl (next1 s₁ _ (some (.int i tk), some (.ref fu), some (.str x tx), z) (Y'.less fun b hb => .inl (.inl hb)) (fun b o hb eb => hky' b o (.inl (.inl hb)) (kz Hb b o hb eb)))
  · have hie : i = acts.length := by rw [hal, List.length_map]; omega
    refine (jRun (LP w gk C (Ex h0) g0.size L gi κ') _ _).wrap (A := AK (κ' - 2)) ⟨2, rfl, fw_for F1, by show 2 ≤ κ'; omega, hκ2⟩ ?_
    refine nx_enTU (its := acts) (i := i) hA2.hd HY (by tb_rel) (by tb_rel) (SU.keep fun b o hb eb => hky b o (gkg b hb) eb).now.2.2 (by rw [hie]; simp) (by tb_start) fun h' H' => ?_
    refine hn _ ?_
    have hd0 : ps.drop i = [] := List.drop_eq_nil_of_le hge
    rw [hd0, pcs] at hpc
    cases hpc
    have Y6 := fun tt => Y.calm0 (t' := tt) K H' ⟨nt_en, nt_fld, nt_fr, trivial⟩ (.tail _ (.tail _ (.head _)))
    refine j_block (X := jRun (LP w gk C (Ex h0) g0.size L gi κ') _ _) (j_nil ?_)
    refine (jRun (LP w gk C (Ex h0) g0.size L gi κ') _ _).ret (.ok .next) ?_
    rw [hk2]
    refine j_seq (j_cons (j_If (A := AK (κ' - 1)) ⟨1, rfl, F1, by show 1 ≤ κ'; omega, hκ2⟩ ?_))
    refine wpAny_isTrue_value ?_ (by rfl)
    k_clsL
    refine PyProof.Rows.truthy_none ?_
    refine j_nil (env := env) (j_seq (j_nil ?_))
    rw [hKF]
    exact r_end (Y6 t).R (Y6 t).st (fun i h1 h2 => (Y6 t).fin i h1 trivial h2) (.inl rfl)
end

section -- M10
open PySem PySem.W PySem.Calls PyProof.Rows
set_option maxHeartbeats 0
set_option linter.unusedVariables false
set_option maxRecDepth 100000
theorem c_meth {w : World} {A : Around} {E : Value → Shared → Prop} {s : Shared} {env : Env} {pos : Pos} {f bm : Addr} {self : Value} {first : List Value} {e : Expr} {rest : List Expr} {Q : Value → Shared → Prop} (hf : fnIn (KK w) f = true)
    (h : wpAny (MM w) A (spliced (backTo pos (starEach (e :: rest) env))) (fun vs s₁ => MethP (KK w) bm f self s₁.heap ∧ wpAny (MM w) A (call (.ref bm) (first ++ vs)) Q E s₁) E s)
    (he : starEach (e :: rest) env = (false, eval e env) :: starEach rest env) (hplain : (backTo pos (starEach rest env)).any (·.1) = false) :
    wpAny (MM w) A (callWith pos (.ref bm) first (backTo pos (starEach (e :: rest) env)) []) Q E s := by
  rw [he] at h ⊢
  exact callWith_of (P := MethP (KK w) bm f self) (by show ((false || (backTo pos (starEach rest env)).any (·.1)) || false) = false; rw [hplain]; rfl) (keeps_M hf) (Calls.evalArgs_plain h)
theorem fw_block {j c fs k g l p kp b e} (F : Fw j c fs) : Fw (j + 1) (.block b e) (.ret k none g l c p kp :: fs) := F.ret (Nat.le_of_ble_eq_true rfl) (Nat.le_of_ble_eq_true rfl)
theorem j_seq2 {P : GP} {a b : List P.ι} {s₀ s : Shared} {c : Code} {fs : List Frame} {st : Stmt} {rest : List Stmt} {env : Env} {K : Flow → Sem Fin} {H : Value → Sem Fin} {gd lv} (Mid : Shared → Shared → Prop)
    (tail : ∀ s₁ s', Mid s₁ s' → (jRun P b s₁).J c fs ((execs rest env).wrap K H gd lv) s')
    (head : ∀ K1 : Flow → Sem Fin, (∀ s₁ s', Mid s₁ s' → Run P b s₁ c fs (K1 .next) s') → (jRun P (a ++ b) s₀).J c fs ((exec st env).wrap K1 H gd lv) s) : (jRun P (a ++ b) s₀).J c fs ((execs (st :: rest) env).wrap K H gd lv) s :=
  j_cons (head _ fun s₁ s' hm => j_seq (tail s₁ s' hm))
theorem truthy_in {w : World} {A : Around} {E : Value → Shared → Prop} {h : Heap} {g : Array GenState} {d : Drawn} {t : Nat} {os : OsState} {x C dx : Addr} {k : Nat} {l : KV} {Q : Bool → Shared → Prop} (X : (KK w).In h) (I : InH h x C dx k l)
    (hc : (findIn (KK w) (.ref C) "__bool__" == some none && findIn (KK w) (.ref C) "__len__" == some none) = true) (q : ∀ t', Q true ⟨h, g, d, t', os⟩) : wpAny (MM w) A (truthy (.ref x)) Q E ⟨h, g, d, t, os⟩ := by
  simp only [Bool.and_eq_true, beq_iff_eq] at hc
  obtain ⟨c1, c2⟩ := hc
  obtain ⟨ex, -, -, od, eD, p⟩ := I
  have hI : InstAt h x (instObj C dx) C (some od) := ⟨ex, rfl, rfl, eD⟩
  unfold truthy
  refine wpAny_bind (m := callSpecial? (.ref x) (Str.ofString "__bool__")) (wpAny_bind (wpAny_bind (hI.type.here ((looks_findIn X c1).here (wpAny_pure ?_)))))
  refine wpAny_bind (wpAny_bind (hI.type.here ((looks_findIn X c2).here ?_)))
  exact wpAny_pure (q _)
theorem joined_whole {ps : List Piece} : joined (ps.map (·.1)) = wholeS ps := by
  unfold joined wholeS
  rw [List.map_map]; rfl
/-- what stands for a rule that may be chosen -/
def CandP (w : World) (ps : List Piece) (good : Addr → Prop) (h : Heap) (v : Value) : Prop := RootP w ps good h v ∨ ∃ x, ps = [(some x, 2)] ∧ TermP x good h v
def cands (rules : List (List Piece)) (terms : List Str) (root : Bool) : List (List Piece) := if root then rules else terms.map fun x => [(some x, 2)]
theorem whole_one {x : Str} {i : Int} : wholeS [((some x, i) : Piece)] = x := by
  unfold wholeS
  show Txt.join E0 [x] = x
  rfl
theorem pick_cands {rules terms root text place} : pick rules terms root text place = (cands rules terms root).find? fun r => hits text place (wholeS r) := by
  unfold pick cands pickR pickT
  cases root
  · rw [if_neg (by decide), if_neg (by decide), List.find?_map]
    have : (fun r => hits text place (wholeS r)) ∘ (fun x => [((some x, 2) : Piece)]) = fun x => hits text place x := by
      funext x
      show hits text place (wholeS [((some x, 2) : Piece)]) = _
      rw [whole_one]
    rw [this]
  · rfl
structure Bnd (rules : List (List Piece)) (terms : List Str) : Prop where
  r : ∀ ps ∈ rules, ps.length ≤ 3 ∧ (∀ p ∈ ps, ∀ x, p.1 = some x → x.length ≤ 100) ∧ (∀ p ∈ ps, 0 ≤ p.2 ∧ p.2 ≤ 5) ∧ 1 ≤ wlen ps
  t : ∀ x ∈ terms, 1 ≤ x.length ∧ x.length ≤ 100
  rn : rules.length ≤ 1000
  tn : terms.length ≤ 1000
theorem Bnd.c {rules terms} (B : Bnd rules terms) {root : Bool} : (∀ ps ∈ cands rules terms root, ps.length ≤ 3 ∧ (∀ p ∈ ps, ∀ x, p.1 = some x → x.length ≤ 100) ∧ (∀ p ∈ ps, 0 ≤ p.2 ∧ p.2 ≤ 5) ∧ 1 ≤ wlen ps) := fun ps hps => by
  unfold cands at hps
  cases root
  · rw [if_neg (by decide)] at hps
    obtain ⟨x, hx, rfl⟩ := List.mem_map.mp hps
    refine ⟨by simp, fun p hp y hy => ?_, fun p hp => ?_, (B.t x hx).1⟩
    · rw [List.mem_singleton.mp hp] at hy; cases hy; exact (B.t x hx).2
    · rw [List.mem_singleton.mp hp]; show (0 : Int) ≤ 2 ∧ (2 : Int) ≤ 5; decide
  · exact B.r ps hps
theorem AllK.map {α β : Type} {P : Value → α → Prop} {Q : Value → β → Prop} {f : α → β} {vs : List Value} {xs : List α} (x : AllK P vs xs) (h : ∀ v a, P v a → Q v (f a)) : AllK Q vs (xs.map f) := by
  refine ⟨by rw [List.length_map]; exact x.1, fun j hj => ?_⟩
  rw [List.length_map] at hj
  obtain ⟨v, e, p⟩ := x.2 j hj
  exact ⟨v, e, by rw [List.getElem_map]; exact h _ _ p⟩
theorem cand_list {w : World} {gk : Addr → Prop} {h : Heap} {rules : List (List Piece)} {terms : List Str} {t1 t2 : Addr} {vs1 vs2 : List Value} (s1 : Sure gk h (fun h => h.IsList t1 (List.toArray vs1))) (s2 : Sure gk h (fun h => h.IsList t2 (List.toArray vs2)))
    (hv1 : AllK (fun v a => ProcK (RootP w a) gk h v (a.map (·.1))) vs1 rules) (hv2 : AllK (fun v x => ProcK (TermP x) gk h v [some x]) vs2 terms) (root : Bool) :
    ∃ vs, Sure gk h (fun h => h.IsList (if root then t1 else t2) (List.toArray vs)) ∧ AllK (fun v ps => ProcK (CandP w ps) gk h v (ps.map (·.1))) vs (cands rules terms root) := by
  cases root
  · refine ⟨vs2, s2, hv2.map (f := fun x => [((some x, 2) : Piece)]) fun v x y => ?_⟩
    obtain ⟨r, bm, x', tok, e, s, p, q⟩ := y
    exact ⟨r, bm, x', tok, e, s, p, .inr ⟨x, rfl, q⟩⟩
  · refine ⟨vs1, s1, ?_⟩
    show AllK _ vs1 rules
    exact hv1.mono fun v ps y => by
      obtain ⟨r, bm, x', tok, e, s, p, q⟩ := y
      exact ⟨r, bm, x', tok, e, s, p, .inl q⟩
theorem strs_last {vs : List Value} {ys : List Str} {y : Str} (h : StrsAre vs ys) (hy : ys.getLast? = some y) : ∃ t, vs.getLast? = some (.str y t) := by
  rw [List.getLast?_eq_getElem?] at hy ⊢
  rw [h.length]
  exact Mine.StrsAre.at h hy
def stName (root : Bool) : Str := if root then Str.ofString "root" else Str.ofString "s"
theorem one_find {hs : Int} {tk : Tok} {u : Value} {k y : Str} : nsFind (⟨[⟨hs, .str k tk, u⟩]⟩ : Array DictEntry) y = [(k, u)].lookup y := by
  unfold nsFind findBy
  simp only [List.lookup_cons, List.lookup_nil]
  by_cases h : y = k
  · subst h
    simp [Value.isStr]
  · have h1 : (y == k) = false := by simpa using h
    have h2 : (k == y) = false := by simpa using fun q => h q.symm
    rw [h1]
    simp [Value.isStr, h2]
    try exact fun q => h q.symm
/-- a static dict with the one name -/
def oneName (K : Frag) (dx : Addr) (v : Value) : Bool := match K.lookup dx with
  | some ⟨_, _, .dict es _, _⟩ => (match es.toList with
    | [⟨_, .str k _, u⟩] => k == Str.ofString "names" && u == v
    | _ => false)
  | _ => false
theorem one_name {w : World} {h : Heap} {dx : Addr} {v : Value} (S : St w h) (e : oneName (KK w) dx v = true) : ∃ od, h.get? dx = some od ∧ nsx 1 [(Str.ofString "names", v)] od := by
  unfold oneName at e
  split at e
  · rename_i c dd es n sl hl
    refine ⟨_, S.k dx _ hl, es, n, rfl, ?_⟩
    obtain ⟨l⟩ := es
    split at e
    · rename_i hs k tk u hes
      simp only [Bool.and_eq_true, beq_iff_eq] at e
      obtain ⟨rfl, rfl⟩ := e
      have hes : l = [⟨hs, .str (Str.ofString "names") tk, u⟩] := hes
      subst hes
      refine ⟨fun e he => ?_, Nat.le_refl _, fun y => ?_⟩
      · have : e = ⟨hs, .str (Str.ofString "names") tk, u⟩ := by simpa using he
        subst this; exact ⟨_, _, rfl⟩
      · exact one_find
    · cases e
  · cases e
theorem kind_ws {w : World} {gk : Addr → Prop} {h : Heap} (S : St w h) : KindAt gk h 72 [Str.ofString "Text", Str.ofString "Whitespace"] :=
  ⟨71, 1, [(Str.ofString "names", .ref 73)], 73, [.str "Text" 255, .str "Whitespace" 256], ⟨.inr (by decide), .inr (by decide), .inr (by decide)⟩, S.k 72 _ rfl, one_name S (by kernel_rfl), rfl, ⟨_, S.k 73 _ rfl, rfl, 0, rfl⟩, .cons _ _ (.cons _ _ .nil)⟩
theorem kind_err {w : World} {gk : Addr → Prop} {h : Heap} (S : St w h) : KindAt gk h 76 [Str.ofString "Error"] :=
  ⟨75, 1, [(Str.ofString "names", .ref 77)], 77, [.str "Error" 262], ⟨.inr (by decide), .inr (by decide), .inr (by decide)⟩, S.k 76 _ rfl, one_name S (by kernel_rfl), rfl, ⟨_, S.k 77 _ rfl, rfl, 0, rfl⟩, .cons _ _ .nil⟩
theorem lex_step {w : World} {rules : List (List Piece)} {terms : List Str} (B : Bnd rules terms) (n : Nat) (hlexs : ∀ m, m < n → LexSpec w rules terms m (90 + 12 * m)) : LexSpec w rules terms n (90 + 12 * n) := by
  intro A k R h g d t os good lx x tx kw root its gk hA S gkg LX hg hx hmc hkw q
  obtain ⟨sta, stv, stack, hkw1, hstk, hstr, hlast, hstl⟩ : ∃ sta stv stack, ((kw = [] ∧ sta = 551) ∨ kw = [(Str.ofString "stack", .ref sta)]) ∧ (∀ h', St w h' → Keeps good h h' → IsTup h' sta (List.toArray stv)) ∧ StrsAre stv stack ∧ stack.getLast? = some (stName root) ∧ stv.length ≤ 3 := by
    rcases hkw with ⟨rfl, rfl⟩ | ⟨st, stv, stack, rfl, hs, hstr, rfl, hst⟩
    · exact ⟨551, [.str "root" 946], [Str.ofString "root"], .inl ⟨rfl, rfl⟩, fun h' S' _ => ⟨_, S'.k 551 _ rfl, rfl, 0, rfl⟩, .cons _ _ .nil, rfl, by simp⟩
    · refine ⟨st, stv, stack, .inr rfl, fun h' S' hk => hs h' hk, hstr, ?_, ?_⟩
      · rcases hst with rfl | rfl <;> rfl
      · rw [hstr.length]; rcases hst with rfl | rfl <;> decide
  clear hkw
  have H0 : G w h [] h [] := G.start S
  refine enterGen (k := k) [("self", some (.ref lx)), ("text", some (.str x tx)), ("stack", some (.ref sta)), ("pos", none), ("tokendefs", none), ("statestack", none), ("statetokens", none), ("rexmatch", none), ("action", none), ("new_state", none), ("m", none), ("state", none)]
    (binds := [("self", .ref lx), ("text", .str x tx), ("stack", .ref sta)]) hA H0 (S.k 559 _ rfl) rfl (codeRec_of S.k (by kernel_rfl)) rfl ?_ (by kernel_rfl) ⟨by kernel_rfl, by kernel_rfl, by kernel_rfl, trivial⟩ ?_
  · rcases hkw1 with ⟨rfl, rfl⟩ | rfl
    · exact binds_peek S.k (fun _ => by kernel_rfl)
    · exact binds_peek S.k (fun _ => by kernel_rfl)
  intro env L a h₁ t₁ Ev H₁ K₁ nL na
  refine q a L _ _ _ _ H₁ ?_
  intro C gi κ' s hκ' hκ2 hS hgi hk hn hL hC
  refine gives_fresh ?_
  have L7 : 714 ≤ L := H₁.at (a := L) (by tb_rel)
  obtain ⟨oL, eL, fL⟩ := H₁.get (a := L) (by tb_rel)
  have hgs : ∀ b, good b → 714 ≤ b ∧ b ∉ C ∧ b ≠ L ∧ Ex s.heap b := fun b hb => by
    obtain ⟨h7, o, e⟩ := hg b hb
    refine ⟨h7, hn b hb, fun q => (by rw [q, nL] at e; cases e), o, hk b o (K₁.keep b o e List.not_mem_nil (ne380 h7) (ne403 h7)) (hn b hb) (ne380 h7) (ne403 h7)⟩
  have kp0 : Keeps good h s.heap := fun b o hb e => by
    have h7 := (hg b hb).1
    exact hk b o (K₁.keep b o e List.not_mem_nil (ne380 h7) (ne403 h7)) (hn b hb) (ne380 h7) (ne403 h7)
  have kpk : Keeps gk h s.heap := fun b o hb e => kp0 b o (gkg b hb) e
  obtain ⟨K, X⟩ := GS.start (gk := gk) (gi := gi) (F := fun _ => True) hS ⟨oL, hk _ _ eL hL (ne380 L7) (ne403 L7), fL⟩ L7 hgs hκ2 hL hC
  replace LX := LexK.keep RootP.pk TermP.pk LX kpk
  have hstk' : ∀ h', St w h' → Keeps good s.heap h' → IsTup h' sta (List.toArray stv) := fun h' S' hk => hstk h' S' fun b o hb e => hk b o hb (kp0 b o hb e)
  clear hk H₁ K₁ H0 kp0 kpk hstk hkw1
  obtain ⟨h0, g0, d0, t0, os0⟩ := s
  dsimp only at *
  have hA1 : AOk (AK (κ' - 1)) 10 := ak_ok (by omega) hκ2
  have hA2 : AOk (AK (κ' - 2)) 10 := ak_ok (by omega) hκ2
  have hA3 : AOk (AK (κ' - 3)) 10 := ak_ok (by omega) hκ2
  obtain ⟨dlx, kx, lxl, dp, t1, t2, vs1, vs2, sLX, htok, hgtu, dp7, t17, t27, hv1, hv2⟩ := id LX
  refine r_func fun cF KF HF F1 hKF => ?_
  refine j_calm (A := AK (κ' - 1)) ⟨1, rfl, F1, by show 1 ≤ κ'; omega, hκ2⟩ ?_
  have H := X.g
  dsimp only [List.map_cons, List.map_nil] at H
  have kg : ∀ {h' D'}, G w h0 [L] h' D' → Keeps good h0 h' := fun N => X.keeps N.kp
  have kgk : ∀ {h' D'}, G w h0 [L] h' D' → Keeps gk h0 h' := fun N b o hb eb => kg N b o (gkg b hb) eb
  k_clsL
  rename_i h2 t2' H2
  refine j_seq (j_calm (A := AK (κ' - 1)) ⟨1, rfl, F1, by show 1 ≤ κ'; omega, hκ2⟩ ?_)
  refine wpAny_Assign_Name ?_ rfl
  refine Attribute_Name_ ?_
  k_clsL
  refine h_get (v := .ref dp) H2.st.k (sLX.keep (kgk H2)).now.1 htok (by kernel_rfl) rfl fun t3 => ?_
  k_clsL
  rename_i h3 t3' H3
  refine j_seq (j_calm (A := AK (κ' - 1)) ⟨1, rfl, F1, by show 1 ≤ κ'; omega, hκ2⟩ ?_)
  k_clsL
  refine ls_tup H3 (hstk' _ H3.st (kg H3)) (by omega) fun ss h4 H4 K4 nss => ?_
  k_clsL
  rename_i h5 t5 H5
  refine j_seq (j_calm (A := AK (κ' - 1)) ⟨1, rfl, F1, by show 1 ≤ κ'; omega, hκ2⟩ ?_)
  k_clsL
  obtain ⟨tks, htks⟩ := strs_last hstr hlast
  obtain ⟨hln, hli⟩ := last_neg htks
  refine sub_list_neg (H5.pl (a := ss) (by tb_rel)) (by omega) hln (by omega) hli ?_ ?hs1
  case hs1 => with_unfolding_all rfl
  refine dd_item (sLX.keep (kgk H5)).now.2.1 (v := .ref (if root then t1 else t2)) (by cases root <;> kernel_rfl) (fun t6 => ?_) ?hs2
  case hs2 => with_unfolding_all rfl
  k_clsL
  rename_i h6 t6' H6
  refine j_seq (j_cons (j_While fun kW pW hkW => ?_))
  have Z6 := X.calm0 (t' := t6') K (D' := [(L, fr _)]) (H6.sub (List.sublist_cons_self _ _)) ⟨nt_fr, trivial⟩ (.head _)
  have k6 := kg H6
  clear H H2 H3 H4 H5 H6 K4
  refine for_ind (P := LP w gk C (Ex h0) g0.size L gi κ') (fun mm itsI s₀ s => ∃ (place : Int) (rt : Bool) (ptk : Tok) (ssv y1 y2 y3 y4 : Option Value), mm ≤ n ∧ (0 ≤ place ∧ place ≤ x.length) ∧ mc rules terms mm rt x place = some itsI ∧ Keeps good h0 s.heap ∧
    GS (LP w gk C (Ex h0) g0.size L gi κ') good s₀ s [(L, fr [("self", some (.ref lx)), ("text", some (.str x tx)), ("stack", some (.ref sta)), ("pos", some (.int place ptk)), ("tokendefs", some (.ref dp)), ("statestack", ssv), ("statetokens", some (.ref (if rt then t1 else t2))), ("rexmatch", y1), ("action", y2), ("new_state", y3), ("m", y4), ("state", none)])] (fun _ => True)) n
    ⟨0, root, _, _, _, _, _, _, Nat.le_refl _, ⟨by omega, by omega⟩, hmc, k6, Z6⟩ fun mm IH itsI s₀ s hI => ?_
  obtain ⟨place, rt, ptk, ssv, y1, y2, y3, y4, hmn, ⟨hp0, hp1⟩, hmcI, hky, Y⟩ := hI
  obtain ⟨hq, gq, dq, tq, osq⟩ := s
  have HY := Y.g
  dsimp only [List.map_cons, List.map_nil] at HY hky
  have FW : ∀ {tg b o e}, Fw 2 (.whileLoop tg b o e) [.ret kW none (id false) (id []) cF pW []] := fw_while F1
  refine j_whileTurn (X := jRun (LP w gk C (Ex h0) g0.size L gi κ') _ _) (A := AK (κ' - 2)) ⟨2, rfl, FW, by show 2 ≤ κ'; omega, hκ2⟩ ?_
  refine wpAny_isTrue_value ?_ (by rfl)
  k_clsL
  refine PyProof.Rows.truthy_int ?_
  rw [if_pos (by rfl)]
  cases mm with
  | zero => cases hmcI
  | succ mm =>
  refine j_cons (j_For (A := AK (κ' - 2)) ⟨2, rfl, FW, by show 2 ≤ κ'; omega, hκ2⟩ ?_)
  k_clsL
  obtain ⟨vs, sTL, hcd⟩ := cand_list (w := w) (sLX.mono fun h x => x.2.2.1) (sLX.mono fun h x => x.2.2.2) hv1 hv2 rt
  generalize htl : (if rt = true then t1 else t2) = tl at *
  have kq : ∀ {h' D'}, G w hq [L] h' D' → Keeps good h0 h' := fun N b o hb eb => Y.keeps N.kp b o hb (hky b o hb eb)
  have kqk : ∀ {h' D'}, G w hq [L] h' D' → Keeps gk h0 h' := fun N b o hb eb => kq N b o (gkg b hb) eb
  refine it_list HY (sTL.keep (kqk HY)).now fun I h1 H1 K1 nI nI' => ?_
  intro kF2 p2 g2 l2 hk2 hg2
  subst hg2
  refine for_ind (P := LP w gk C (Ex h0) g0.size L gi κ') (fun cnt itsI' s₀ s => ∃ (j : Nat) (y1 y2 y3 y4 : Option Value), itsI' = itsI ∧ cnt = vs.length - j ∧ j ≤ vs.length ∧ (((cands rules terms rt).take j).find? fun r => hits x place (wholeS r)) = none ∧ Keeps good h0 s.heap ∧
    GS (LP w gk C (Ex h0) g0.size L gi κ') good s₀ s [(I, isLI tl j), (L, fr [("self", some (.ref lx)), ("text", some (.str x tx)), ("stack", some (.ref sta)), ("pos", some (.int place ptk)), ("tokendefs", some (.ref dp)), ("statestack", ssv), ("statetokens", some (.ref tl)), ("rexmatch", y1), ("action", y2), ("new_state", y3), ("m", y4), ("state", none)])] (fun _ => True)) vs.length
    ⟨0, _, _, _, _, rfl, rfl, Nat.zero_le _, rfl, kq H1, Y.calm0 K H1 ⟨nt_li, nt_fr, trivial⟩ (.tail _ (.head _))⟩ fun cnt IH2 itsI' s₀ s hI => ?_
  obtain ⟨j, z1, z2, z3, z4, rfl, ecnt, hj, hfind, hkz, Z⟩ := hI
  obtain ⟨h, g, d, t, os⟩ := s
  have HZ := Z.g
  dsimp only [List.map_cons, List.map_nil] at HZ hkz
  have kz : ∀ {h' D'}, G w h [I, L] h' D' → Keeps good h0 h' := fun N b o hb eb => Z.keeps N.kp b o hb (hkz b o hb eb)
  have kzk : ∀ {h' D'}, G w h [I, L] h' D' → Keeps gk h0 h' := fun N b o hb eb => kz N b o (gkg b hb) eb
  refine j_forTurn (X := jRun (LP w gk C (Ex h0) g0.size L gi κ') _ _) (A := AK (κ' - 3)) ⟨3, rfl, fw_for (fw_while F1), by show 3 ≤ κ'; omega, hκ2⟩ fun Kn Hn hn hs => ?_
  refine (jRun (LP w gk C (Ex h0) g0.size L gi κ') _ _).wrap (A := AK (κ' - 3)) ⟨3, rfl, fw_for (fw_while F1), by show 3 ≤ κ'; omega, hκ2⟩ ?_
  have hvl : vs.length = (cands rules terms rt).length := hcd.1
  rcases Nat.lt_or_ge j vs.length with hlt | hge
  · obtain ⟨v, hv, r, bm, xp, tok, rfl, sT, hpl, hact⟩ := hcd.2 j (by omega)
    refine nx_list HZ (by tb_rel) (sTL.keep (kzk HZ)).now hv (by tb_start) fun h' H' hs' => ?_
    refine hs _ _ ?_
    refine own_list H' (by tb_rel) ?_
    refine a_tup3 hA3.hd H' (sT.keep (kzk H')).now.1 fun h2 H2 => ?_
    k_clsL
    rename_i h3 t3 H3
    refine j_calm (X := jRun (LP w gk C (Ex h0) g0.size L gi κ') _ _) (A := AK (κ' - 3)) ⟨3, rfl, fw_for (fw_while F1), by show 3 ≤ κ'; omega, hκ2⟩ ?_
    k_clsL
    obtain ⟨hl3, hz100, hd05, hw1⟩ := B.c (root := rt) _ (List.getElem_mem (l := cands rules terms rt) (n := j) (by omega))
    obtain ⟨x', dxp, ar, pa, pvs, ex', hO, har7, hpa7, hS⟩ := id hpl
    cases ex'
    generalize hps : (cands rules terms rt)[j] = ps at *
    have hzm : ∀ p ∈ ps.map (·.1), ∀ y, p = some y → y.length ≤ 200 := fun p hp y hy => by
      obtain ⟨p', hp', rfl⟩ := List.mem_map.mp hp
      exact Nat.le_trans (hz100 p' hp' y hy) (by decide)
    refine c_meth (f := 627) (self := .ref xp) (by kernel_rfl) ?_ rfl rfl
    k_clsL
    refine ⟨⟨(sT.keep (kzk H3)).now.2, H3.st.k⟩, ?_⟩
    have hS3 := (hS.keep (kzk H3)).now
    refine wpAny_call (method_call (sT.keep (kzk H3)).now.2 (p_match (k := 4) hA3 H3.st hS3.1 hS3.2.1 har7 hS3.2.2 hpa7 hO (by rw [List.length_map]; omega) hzm hx hp0 (fun hh h4 t4 S4 K4 => ?_) (fun hh m dm h4 t4 N4 => ?_)))
    · have H4 := H3.call S4 K4
      dsimp only
      k_clsL
      rename_i h5 t5 H5
      have Z5 := fun tt => Z.calm0 (t' := tt) K H5 ⟨nt_li, nt_fr, trivial⟩ (.tail _ (.head _))
      refine j_seq (j_cons (j_If (A := AK (κ' - 3)) ⟨3, rfl, fw_for (fw_while F1), by show 3 ≤ κ'; omega, hκ2⟩ ?_))
      refine wpAny_isTrue_value ?_ (by rfl)
      k_clsL
      refine PyProof.Rows.truthy_none ?_
      rw [if_neg (by decide)]
      refine j_nil (env := env) ?_
      rw [joined_whole] at hh
      refine r_again rfl (IH2 (vs.length - (j + 1)) itsI' s₀ _ (by omega) ⟨j + 1, _, _, _, _, rfl, rfl, hlt, ?_, kz H5, Z5 _⟩)
      rw [find_snoc (by omega), hfind, hps, hh]; rfl
    · have H4 := H3.take N4
      dsimp only [List.cons_append, List.nil_append] at H4 ⊢
      k_clsL
      rename_i h5 t5 H5
      rw [joined_whole] at hh
      have hpick : pick rules terms rt x place = some ps := by
        rw [pick_cands]
        have h1 : ((cands rules terms rt).take (j + 1)).find? (fun r => hits x place (wholeS r)) = some ps := by
          rw [find_snoc (by omega), hfind, hps, hh]; rfl
        rw [← List.take_append_drop (j + 1) (cands rules terms rt), List.find?_append, h1]; rfl
      refine j_seq (j_cons (j_If (A := AK (κ' - 3)) ⟨3, rfl, fw_for (fw_while F1), by show 3 ≤ κ'; omega, hκ2⟩ ?_))
      refine wpAny_isTrue_value ?_ (by rfl)
      k_clsL
      refine truthy_in H5.st.k (H5.inH (x := m) (dx := dm) (by tb_rel) (by tb_rel)) (by kernel_rfl) fun t6 => ?_
      rw [if_pos rfl]
      have hwl := hits_len hp0 hp1 hh
      rw [whole_len] at hwl
      rw [mc, if_pos (by omega), hpick] at hmcI
      dsimp only at hmcI
      obtain ⟨a1, ea1, hmcI⟩ := Option.bind_eq_some_iff.mp hmcI
      obtain ⟨b1, eb1, hmcI⟩ := Option.map_eq_some_iff.mp hmcI
      subst hmcI
      have Z5 := fun tt => Z.calm (t' := tt) (T := [(m, isIn 603 dm), (dm, nsx 2 _)]) (D' := [(I, isLI tl (j + 1)), (L, fr _)]) K H5 ⟨nt_li, nt_fr, trivial⟩ (.tail _ (.head _))
      have k5 := kz H5
      have hS5 := hS.keep (kzk H5)
      have IM5 := H5.inH (x := m) (dx := dm) (by tb_rel) (by tb_rel)
      obtain ⟨good2, hgood2⟩ : ∃ good2 : Addr → Prop, good2 = fun b => good b ∨ b ∈ [m, dm] := ⟨_, rfl⟩
      have sM : Sure good2 h5 (fun h => MatchP h m place ps) := by
        rw [hgood2]
        refine ((inH_sure (good := fun b => good b ∨ b ∈ [m, dm]) IM5 (.inr (by simp)) (.inr (by simp))).and (hS5.weak (good' := fun b => good b ∨ b ∈ [m, dm]) fun b hb => .inl (gkg b hb))).mono fun h' hh' => ⟨dm, pa, _, pvs, hh'.1, hh'.2.2.2, hpa7, hO⟩
      refine j_seq2 (P := LP w gk C (Ex h0) g0.size L gi κ') (a := a1) (b := b1) (fun s₁ s' => GS (LP w gk C (Ex h0) g0.size L gi κ') good2 s₁ s' [(I, isLI tl (j + 1)), (L, fr [("self", some (.ref lx)), ("text", some (.str x tx)), ("stack", some (.ref sta)), ("pos", some (.int place ptk)), ("tokendefs", some (.ref dp)), ("statestack", ssv), ("statetokens", some (.ref tl)), ("rexmatch", some (.ref bm)), ("action", some tok), ("new_state", some .none), ("m", some (.ref m)), ("state", none)])] (fun _ => True) ∧ Keeps good2 h5 s'.heap) (fun s₁ s' hmid => ?_) (fun K1 hK1 => ?_)
      · obtain ⟨M1, M2⟩ := hmid
        obtain ⟨h, g, d, t, os⟩ := s'
        have HM := M1.g
        dsimp only [List.map_cons, List.map_nil] at HM M2
        refine j_calm (X := jRun (LP w gk C (Ex h0) g0.size L gi κ') _ _) (A := AK (κ' - 3)) ⟨3, rfl, fw_for (fw_while F1), by show 3 ≤ κ'; omega, hκ2⟩ ?_
        refine wpAny_Assign_Name ?_ rfl
        refine MethodCall_ ?_ (by rfl)
        k_clsL
        obtain ⟨dm', pa', tp', pvs', IM', hpa', pa7', hO'⟩ := (sM.keep M2).now
        refine h_meth (f := 594) HM.st.k IM' (by kernel_rfl) (by kernel_rfl) ?_
        refine callWith_K0 HM.st.k (by kernel_rfl) ?_
        refine wpAny_call (pm_end0 (k := 5) hA3 HM.st IM' hpa' pa7' hO' (by rw [List.length_map]; omega) hzm fun h7 t7 tk7 S7 K7 => ?_)
        have H7 := HM.call S7 K7
        dsimp only
        rw [joined_whole, whole_len]
        k_clsL
        rename_i h8 t8 H8
        refine j_seq (j_cons (j_If (A := AK (κ' - 3)) ⟨3, rfl, fw_for (fw_while F1), by show 3 ≤ κ'; omega, hκ2⟩ ?_))
        k_clsL
        rw [if_neg (by decide)]
        refine j_nil (env := env) (j_seq (j_cons (j_Break ?_)))
        refine (jRun (LP w gk C (Ex h0) g0.size L gi κ') _ _).ret (.ok .next) ?_
        rw [hk2]
        have Z8 := fun tt => (M1.calm0 (t' := tt) K (D' := [(L, fr _)]) (H8.sub (List.sublist_cons_self _ _)) ⟨nt_fr, trivial⟩ (.head _)).less (good' := good) fun b hb => by rw [hgood2]; exact .inl hb
        have k8 : Keeps good h0 h8 := fun b o hb eb => M1.keeps H8.kp b o (by rw [hgood2]; exact .inl hb) (M2 b o (by rw [hgood2]; exact .inl hb) (k5 b o hb eb))
        exact r_again rfl (IH mm b1 s₁ _ (by omega) ⟨place + wlen ps, rt, _, _, _, _, _, _, by omega, ⟨by omega, by omega⟩, eb1, k8, by rw [htl]; exact Z8 _⟩)
      · have W5 := (Z5 t6).less (good' := good2) fun b hb => by rw [hgood2] at hb; exact hb
        have HW := W5.g
        dsimp only [List.map_cons, List.map_nil] at HW
        have kw2 : ∀ {h' D'}, G w h5 [I, L] h' D' → Keeps good2 h5 h' := fun N => W5.keeps N.kp
        have kwk : ∀ {h' D'}, G w h5 [I, L] h' D' → Keeps gk h0 h' := fun N b o hb eb => kw2 N b o (by rw [hgood2]; exact .inl (gkg b hb)) (k5 b o (gkg b hb) eb)
        have gkg2 : ∀ b, gk b → good2 b := fun b hb => by rw [hgood2]; exact .inl (gkg b hb)
        have hg2 : ∀ {h' D'}, G w h5 [I, L] h' D' → ∀ b, good2 b → 714 ≤ b ∧ Ex h' b := fun N b hb => let z := W5.gd b hb; ⟨z.1, let ⟨o, e⟩ := z.2.2.2; ⟨o, kw2 N b o hb e⟩⟩
        have tref : ∃ f, tok = .ref f := by
          rcases hact with (⟨f, _, _, _, _, e, _⟩ | ⟨_, _, f, _, _, _, _, _, e, _⟩) | ⟨_, _, f, _, _, _, e, _⟩ <;> exact ⟨f, e⟩
        obtain ⟨f, rfl⟩ := tref
        refine j_If (A := AK (κ' - 3)) ⟨3, rfl, fw_for (fw_while F1), by show 3 ≤ κ'; omega, hκ2⟩ ?_
        k_clsL
        rw [v_ref_none, if_pos (by decide)]
        refine j_cons (j_If (A := AK (κ' - 3)) ⟨3, rfl, fw_for (fw_while F1), by show 3 ≤ κ'; omega, hκ2⟩ ?_)
        k_clsL
        rcases hact with hroot | ⟨xw, rfl, hty⟩
        · have fnAt : ∀ {h' D'}, G w h5 [I, L] h' D' → ∃ o fd, h'.get? f = some o ∧ o.cls = .type "function" ∧ o.data = .func fd := fun N => by
            rcases hroot with ⟨f', _, _, _, _, ef, _, sU, _⟩ | ⟨_, _, f', _, _, _, _, _, ef, _, _, sU⟩
            · cases ef
              obtain ⟨p, b, s, c', _, ⟨o, eo, _, _, _, rfl⟩, _⟩ := (sU.keep (kwk N)).now.1
              exact ⟨_, _, eo, rfl, rfl⟩
            · cases ef
              obtain ⟨p, b, s, c', _, ⟨o, eo, _, _, _, rfl⟩, _⟩ := (sU.keep (kwk N)).now.1
              exact ⟨_, _, eo, rfl, rfl⟩
          refine call_type_fn (let ⟨o, _, e, c, _⟩ := fnAt HW; ⟨o, e, c⟩) (by decide) ?_
          k_clsL
          refine is_type_ref ?_
          k_clsL
          rw [if_neg (by decide)]
          refine j_cons (j_YieldFrom (A := AK (κ' - 3)) ⟨3, rfl, fw_for (fw_while F1), by show 3 ≤ κ'; omega, hκ2⟩ ?_ (inter Ev))
          k_clsL
          refine c_dyn ?_ rfl rfl
          k_clsL
          refine ⟨(let ⟨o, fd, e, _, d⟩ := fnAt HW; ⟨o, fd, e, d⟩), ?_⟩
          have go : ∀ {κ₁ : Nat} {a2 Lf2 : Addr} {cd2 : Code} {lf2 : Nl} {hb : Heap} {tb : Nat}, κ₁ + 5 ≤ κ' → G w h5 [] hb [(a2, isGn g.size), (Lf2, fr lf2)] → Fresh' w gk κ₁ hb Lf2 good2 cd2 a1 →
              ∀ {K2 : Flow → Sem Fin} {cc : Code} {fs3 : List Frame} {g3 : Bool} {l3 : List Value} (FW : Fw 3 cc fs3), fs3.any Frame.guarded = false → g3 = false → (∀ s₁ s', (GS (LP w gk C (Ex h0) g0.size L gi κ') good2 s₁ s' [(I, isLI tl (j + 1)), (L, fr [("self", some (.ref lx)), ("text", some (.str x tx)), ("stack", some (.ref sta)), ("pos", some (.int place ptk)), ("tokendefs", some (.ref dp)), ("statestack", ssv), ("statetokens", some (.ref tl)), ("rexmatch", some (.ref bm)), ("action", some (.ref f)), ("new_state", some .none), ("m", some (.ref m)), ("state", none)])] (fun _ => True) ∧ Keeps good2 h5 s'.heap) → Run (LP w gk C (Ex h0) g0.size L gi κ') b1 s₁ cc fs3 (K2 .next) s') →
              ∀ (kY : Result → Sem Fin) (pY : Pos), kY (.ok (.ret .none)) = K2 .next → Run (LP w gk C (Ex h0) g0.size L gi κ') (a1 ++ b1) s₀ (yfC a2) (.ret kY none g3 l3 cc pY [] :: fs3) ((MM w).den (yfC a2)) ⟨hb, g.push (.fresh cd2), d, tb, os⟩ := by
            intro κ₁ a2 Lf2 cd2 lf2 hb tb hκ1 Nb frb K2 cc fs3 g3 l3 FW hgd hg3 hK2 kY pY hkY
            have Hb := HW.take Nb
            dsimp only [List.cons_append, List.nil_append] at Hb
            have n9 : ∀ {c : Addr} {P : Pr}, (c, P) ∈ [(a2, isGn g.size), (Lf2, fr lf2)] → h5.get? c = none := fun hm => (Nb.dyn _ hm).2.resolve_left List.not_mem_nil
            have M := made (t' := tb) (κ₁ := κ₁) (T := []) (D' := [(I, isLI tl (j + 1)), (L, fr _)]) K W5 Hb ⟨nt_li, nt_fr, trivial⟩ (.tail _ (.head _)) (n9 (.head _)) (n9 (.tail _ (.head _))) frb (fun b hb => .inl hb) (by omega)
            refine yf_go M (fw_yf FW) (by omega) (by rw [hg3]; show (false || _) = false; rw [hgd]; rfl) fun s₁ s' Y' hky' => ?_
            refine (jRun (LP w gk C (Ex h0) g0.size L gi κ') _ _).ret (.ok (.ret .none)) ?_
            rw [hkY]
            exact hK2 s₁ s' ⟨Y'.less fun b hb => .inl hb, fun b o hb' eb => hky' b o (.inl hb') (kw2 Hb b o hb' eb)⟩
          have LX5 := LexK.keep RootP.pk TermP.pk LX (kwk HW)
          rcases hroot with hcb | ⟨xw, rfl, hus⟩
          · refine wpAny_call (cb_call (hlexs mm (by omega)) (by omega) (k := 9) hA3 HW.st (hcb.keep (kwk HW)) gkg2 LX5 (sM.keep (kw2 HW)) (hg2 HW) hl3 hz100 hd05 ea1 (.inl rfl) (fun f' a2 Lf2 cd2 lf2 hb tb ef Nb frb => ?_) f rfl)
            exact ⟨a2, g.size, rfl, Nb.gn (by tb_rel), fun kY pY hkY => go (by omega) Nb frb (fw_for (fw_while F1)) rfl rfl hK1 kY pY hkY⟩
          · have hmx : ∃ itsx, mc rules terms mm false xw 0 = some itsx ∧ a1 = shift place itsx := by
              have e : pcs (fun x => mc rules terms mm false x 0) [((some xw, 4) : Piece)] place = (mc rules terms mm false xw 0).map (shift place) := by
                show (own _ place ((some xw, 4) : Piece)).bind _ = _
                have : own (fun x => mc rules terms mm false x 0) place ((some xw, 4) : Piece) = (mc rules terms mm false xw 0).map (shift place) := by
                  unfold own
                  dsimp only
                  rw [if_neg (by decide), if_pos (by decide)]
                rw [this]
                cases mc rules terms mm false xw 0 with
                | none => rfl
                | some r => show some (shift place r ++ []) = _; rw [List.append_nil]; rfl
              rw [e] at ea1
              obtain ⟨r, e1, e2⟩ := Option.map_eq_some_iff.mp ea1
              exact ⟨r, e1, e2.symm⟩
            obtain ⟨itsx, hmx, rfl⟩ := hmx
            have sMt : Sure good2 h5 (fun h => MatchAt h m place xw) := sM.mono fun h' hh' => by
              obtain ⟨dm', pa', tp', pvs', IM', hpa', pa7', hO'⟩ := hh'
              exact .inr ⟨dm', pa', tp', pvs', _, IM', hpa', pa7', hO', by rw [joined_whole, whole_one], by simp, hzm⟩
            refine wpAny_call (us_call (hlexs mm (by omega)) (by omega) (k := 9) (deed := 4) hA3 HW.st ((hus.keep (kwk HW)).weak gkg2) (.inl rfl) gkg2 LX5 (sMt.keep (kw2 HW)) (hg2 HW) (hz100 _ (.head _) xw rfl) hmx (.inl rfl) (fun f' a2 Lf2 cd2 lf2 hb tb ef Nb frb => ?_) f rfl)
            exact ⟨a2, g.size, rfl, Nb.gn (by tb_rel), fun kY pY hkY => go (by omega) Nb frb (fw_for (fw_while F1)) rfl rfl hK1 kY pY hkY⟩
        · obtain ⟨ty, dty, nty, tkk, ety, ⟨gty, gdx, gnn⟩, sT2⟩ := hty
          cases ety
          refine call_type_in (sT2.keep (kwk HW)).now.1 ?_
          k_clsL
          refine wpAny_is_ref_self ?_
          k_clsL
          rw [if_pos rfl]
          refine j_cons (j_Yield (A := AK (κ' - 3)) ⟨3, rfl, fw_for (fw_while F1), by show 3 ≤ κ'; omega, hκ2⟩ ?_ Ev.co (inter Ev))
          k_clsL
          refine MethodCall_ ?_ (by rfl)
          k_clsL
          obtain ⟨dm', pa', tp', pvs', IM', hpa', pa7', hO'⟩ := (sM.keep (kw2 HW)).now
          refine h_meth (f := 600) HW.st.k IM' (by kernel_rfl) (by kernel_rfl) ?_
          refine callWith_K0 HW.st.k (by kernel_rfl) ?_
          refine wpAny_call (pm_group0 (k := 7) hA3 HW.st IM' hpa' pa7' hO' hzm (by rw [List.length_map]; omega) fun h7 t7 tk7 S7 K7 => ?_)
          have H7 := HW.call S7 K7
          dsimp only
          rw [joined_whole, whole_one]
          k_clsL
          refine ⟨rfl, new_tupF H7 fun rtp hb Hb Kb _ _ => ?_⟩
          have Zb := fun tt => W5.calm (t' := tt) (T := [(rtp, isT _)]) (D' := [(I, isLI tl (j + 1)), (L, fr _)]) K Hb ⟨nt_li, nt_fr, trivial⟩ (.tail _ (.head _))
          have sT' := (sT2.keep (kwk Hb)).now
          have hxw : xw.length ≠ 0 := by have : wlen [((some xw, 2) : Piece)] = xw.length := by simp [wlen, pw]
                                         omega
          have ha1 : a1 = [(place, [Str.ofString "Comment"], xw)] := by
            have e : pcs (fun x => mc rules terms mm false x 0) [((some xw, 2) : Piece)] place = some [(place, [Str.ofString "Comment"], xw)] := by
              show (own _ place ((some xw, 2) : Piece)).bind _ = _
              have : own (fun x => mc rules terms mm false x 0) place ((some xw, 2) : Piece) = some [(place, [Str.ofString "Comment"], xw)] := by
                unfold own
                dsimp only
                rw [if_pos (by decide), if_neg hxw]; rfl
              rw [this]; rfl
            rw [e] at ea1; exact (Option.some.inj ea1).symm
          subst ha1
          show Run (LP w gk C (Ex h0) g0.size L gi κ') (_ :: b1) s₀ _ _ _ _
          refine r_yield (it := (place, [Str.ofString "Comment"], xw)) (its := b1) (fw_for (fw_while F1)) ?hg (Zb _).R Hb.st ⟨rtp, ptk, _, tk7, rfl, Hb.at (a := rtp) (by tb_rel), Hb.tup (by tb_rel), dty, 1, _, nty, _, ⟨.inl gty, .inl gdx, .inl gnn⟩, sT'.1.1, sT'.1.2.2.2, rfl, sT'.2, .cons _ _ .nil⟩ fun s'' hc => ?_
          case hg => rfl
          obtain ⟨Z3, kz3⟩ := (Zb _).yielded K hc
          exact hK1 s'' s'' ⟨Z3.less fun b hb => .inl hb, fun b o hb eb => kz3 b o (.inl hb) (kw2 Hb b o hb eb)⟩
  · refine nx_listU hA3.hd HZ (by tb_rel) (sTL.keep (kzk HZ)).now (List.getElem?_eq_none hge) (by tb_start) fun h' H' => ?_
    refine hn _ ?_
    have hnone : pick rules terms rt x place = none := by
      rw [pick_cands]
      have : j = (cands rules terms rt).length := by omega
      rw [this, List.take_length] at hfind
      exact hfind
    have Z6 := fun tt => Z.calm0 (t' := tt) K (D' := [(L, fr _)]) (H'.sub (List.sublist_cons_self _ _)) ⟨nt_fr, trivial⟩ (.head _)
    have W6 := Z6 t
    have k6 := kz H'
    have HW := W6.g
    dsimp only [List.map_cons, List.map_nil] at HW
    have kw2 : ∀ {h2 D'}, G w h' [L] h2 D' → Keeps good h0 h2 := fun N b o hb eb => W6.keeps N.kp b o hb (k6 b o hb eb)
    refine j_block (X := jRun (LP w gk C (Ex h0) g0.size L gi κ') _ _) ?_
    refine j_cons (j_If (A := AK (κ' - 3)) ⟨3, rfl, fw_block (fw_while F1), by show 3 ≤ κ'; omega, hκ2⟩ ?_)
    k_clsL
    refine s_len (x := x) (by omega) fun tl7 tt7 => ?_
    k_clsL
    refine PyProof.Rows.ge_int ?_
    k_clsL
    rw [mc] at hmcI
    by_cases hlt : place < x.length
    · rw [if_pos hlt, hnone] at hmcI
      dsimp only at hmcI
      obtain ⟨r1, er1, hmcI⟩ := Option.map_eq_some_iff.mp hmcI
      subst hmcI
      rw [decide_eq_false (by omega), if_neg (by decide)]
      refine j_nil (env := env) (j_seq (j_cons (j_If (A := AK (κ' - 3)) ⟨3, rfl, fw_block (fw_while F1), by show 3 ≤ κ'; omega, hκ2⟩ ?_)))
      k_clsL
      refine s_item (x := x) (k := place) hp0 hlt (by omega) (fun _ _ => ?_) ?hs
      case hs => with_unfolding_all rfl
      k_clsL
      cases hnl : (Txt.item x place == NL) with
      | true =>
        rw [if_pos rfl]
        refine j_calm (A := AK (κ' - 3)) ⟨3, rfl, fw_block (fw_while F1), by show 3 ≤ κ'; omega, hκ2⟩ ?_
        k_clsL
        refine ⟨rfl, new_pl HW fun rl h3 H3 K3 _ _ => ?_⟩
        k_clsL
        rename_i h4 t4 H4
        refine j_seq (j_calm (A := AK (κ' - 3)) ⟨3, rfl, fw_block (fw_while F1), by show 3 ≤ κ'; omega, hκ2⟩ ?_)
        k_clsL
        refine dd_item (sLX.keep (fun b o hb eb => kw2 H4 b o (gkg b hb) eb)).now.2.1 (v := .ref t1) (by kernel_rfl) (fun t6 => ?_) ?hs2
        case hs2 => with_unfolding_all rfl
        k_clsL
        rename_i h5 t5 H5
        refine j_seq (j_cons (j_Yield (A := AK (κ' - 3)) ⟨3, rfl, fw_block (fw_while F1), by show 3 ≤ κ'; omega, hκ2⟩ ?_ Ev.co (inter Ev)))
        k_clsL
        refine ⟨rfl, new_tupF H5 fun rtp hb Hb Kb _ _ => ?_⟩
        have Zb := fun tt => W6.calm (t' := tt) (T := [(rtp, isT _), (rl, isPL _)]) (D' := [(L, fr _)]) K Hb ⟨nt_fr, trivial⟩ (.head _)
        have etx : Txt.item x place = Str.ofString "\n" := eq_of_beq hnl
        show Run (LP w gk C (Ex h0) g0.size L gi κ') (_ :: r1) s₀ _ _ _ _
        refine r_yield (it := missItem x place) (its := r1) (fw_block (fw_while F1)) ?hg (Zb _).R Hb.st ⟨rtp, ptk, 72, _, rfl, Hb.at (a := rtp) (by tb_rel), (by have := Hb.tup (a := rtp) (by tb_rel); unfold missItem; rw [etx]; exact this), (by unfold missItem; rw [if_pos hnl]; exact kind_ws Hb.st)⟩ fun s'' hc => ?_
        case hg => rfl
        obtain ⟨Z3, kz3⟩ := (Zb _).yielded K hc
        have W3 := Z3.less (good' := good) fun b hb => .inl hb
        have k3 : Keeps good h0 s''.heap := fun b o hb eb => kz3 b o (.inl hb) (kw2 Hb b o hb eb)
        obtain ⟨h, g, d, t, os⟩ := s''
        have HW3 := W3.g
        dsimp only [List.map_cons, List.map_nil] at HW3 k3
        refine j_seq (X := jRun (LP w gk C (Ex h0) g0.size L gi κ') _ _) (j_calm (A := AK (κ' - 3)) ⟨3, rfl, fw_block (fw_while F1), by show 3 ≤ κ'; omega, hκ2⟩ ?_)
        refine wpAny_AugAssign_Name ?_
        refine n_load Ev (by tb_rel) HW3 (by tb_rel) (by tb_rel) ?_
        k_clsL
        refine b_iadd fun _ _ => ?_
        k_clsL
        rename_i h8 t8 H8
        refine j_seq (j_cons (j_Continue ?_))
        refine (jRun (LP w gk C (Ex h0) g0.size L gi κ') _ _).ret (.ok .cont) ?_
        rw [hk2]
        have Z8 := fun tt => W3.calm0 (t' := tt) K (D' := [(L, fr _)]) H8 ⟨nt_fr, trivial⟩ (.head _)
        exact r_again rfl (IH mm r1 _ _ (by omega) ⟨place + 1, true, _, _, _, _, _, _, by omega, ⟨by omega, by omega⟩, by rw [hnl, Bool.or_true] at er1; exact er1, (fun b o hb eb => W3.keeps H8.kp b o hb (k3 b o hb eb)), Z8 _⟩)
      | false =>
        rw [if_neg (by decide)]
        refine j_nil (env := env) (j_seq (j_cons (j_Yield (A := AK (κ' - 3)) ⟨3, rfl, fw_block (fw_while F1), by show 3 ≤ κ'; omega, hκ2⟩ ?_ Ev.co (inter Ev))))
        k_clsL
        refine s_item (x := x) (k := place) hp0 hlt (by omega) (fun tk9 _ => ?_) ?hs3
        case hs3 => with_unfolding_all rfl
        k_clsL
        refine ⟨rfl, new_tupF HW fun rtp hb Hb Kb _ _ => ?_⟩
        have Zb := fun tt => W6.calm (t' := tt) (T := [(rtp, isT _)]) (D' := [(L, fr _)]) K Hb ⟨nt_fr, trivial⟩ (.head _)
        show Run (LP w gk C (Ex h0) g0.size L gi κ') (_ :: r1) s₀ _ _ _ _
        refine r_yield (it := missItem x place) (its := r1) (fw_block (fw_while F1)) ?hg (Zb _).R Hb.st ⟨rtp, ptk, 76, tk9, rfl, Hb.at (a := rtp) (by k_memK), Hb.tup (a := rtp) (by k_memK), (by unfold missItem; rw [hnl, if_neg (by decide)]; exact kind_err Hb.st)⟩ fun s'' hc => ?_
        case hg => rfl
        obtain ⟨Z3, kz3⟩ := (Zb _).yielded K hc
        have W3 := Z3.less (good' := good) fun b hb => .inl hb
        have k3 : Keeps good h0 s''.heap := fun b o hb eb => kz3 b o (.inl hb) (kw2 Hb b o hb eb)
        obtain ⟨h, g, d, t, os⟩ := s''
        have HW3 := W3.g
        dsimp only [List.map_cons, List.map_nil] at HW3 k3
        refine j_seq (X := jRun (LP w gk C (Ex h0) g0.size L gi κ') _ _) (j_calm (A := AK (κ' - 3)) ⟨3, rfl, fw_block (fw_while F1), by show 3 ≤ κ'; omega, hκ2⟩ ?_)
        refine wpAny_AugAssign_Name ?_
        refine n_load Ev (by tb_rel) HW3 (by tb_rel) (by tb_rel) ?_
        k_clsL
        refine b_iadd fun _ _ => ?_
        k_clsL
        rename_i h8 t8 H8
        refine j_seq (j_nil ?_)
        refine (jRun (LP w gk C (Ex h0) g0.size L gi κ') _ _).ret (.ok .next) ?_
        rw [hk2]
        have Z8 := fun tt => W3.calm0 (t' := tt) K (D' := [(L, fr _)]) H8 ⟨nt_fr, trivial⟩ (.head _)
        exact r_again rfl (IH mm r1 _ _ (by omega) ⟨place + 1, rt, _, _, _, _, _, _, by omega, ⟨by omega, by omega⟩, by rw [hnl, Bool.or_false] at er1; exact er1, (fun b o hb eb => W3.keeps H8.kp b o hb (k3 b o hb eb)), by rw [htl]; exact Z8 _⟩)
    · rw [if_neg hlt] at hmcI
      cases hmcI
      rw [decide_eq_true (by omega), if_pos rfl]
      refine j_cons (j_Break ?_)
      refine (jRun (LP w gk C (Ex h0) g0.size L gi κ') _ _).ret (.ok .brk) ?_
      rw [hk2]
      refine (jRun (LP w gk C (Ex h0) g0.size L gi κ') _ _).ret (.ok .next) ?_
      rw [hkW]
      refine j_seq (j_nil ?_)
      rw [hKF]
      exact r_end (Z6 tt7).R H'.st (fun i h1 h2 => (Z6 tt7).fin i h1 trivial h2) (.inl rfl)
theorem lex_spec {w : World} {rules : List (List Piece)} {terms : List Str} (B : Bnd rules terms) (n : Nat) : LexSpec w rules terms n (90 + 12 * n) := by
  induction n using Nat.strongRecOn with
  | ind n ih => exact lex_step B n fun m hm => ih m hm
end

section -- N11
open PySem PySem.W PySem.Calls PyProof.Rows
set_option maxHeartbeats 0
set_option linter.unusedVariables false
set_option maxRecDepth 100000
section
variable {w : World} {Φ : Outcome → Shared → Prop} {k : Nat} {h₀ h : Heap} {env : Env} {L cS cC aS aN : Addr} {sc tu tx ru te tk lx to ot cm : Option Value} {n : Nat} {g : Array GenState} {d : Drawn} {t : Nat} {os : OsState} {st : Stmt}
  {c : Code} {fs : List Frame} {dd u : Nat} {K : Flow → Sem Fin} {H : Value → Sem Fin} {gdf : Bool → Bool} {lv : List Value → List Value}
theorem s_told {x : Str} {tx : Tok} {lxa : Addr} {rs : List (List Piece)} {ts : List Str} {its : List Item} (hst : lawSt? (KK w) 6 = some st) (hr : Rm c fs dd u) (hd : dd ≤ 310) (hu : u ≤ 100) (Ev : EnvOk env L NSL (CLs cS cC))
    (X : G w h₀ [] h (LD L cS cC aS aN sc tu (some (.str x tx)) ru te tk (some (.ref lxa)) to ot cm n)) (LX : LexR w (NH [L, cS, cC, aS, aN] h) h lxa rs ts) (B : Bnd rs ts) (hx : x.length ≤ 100) (hmc : mc rs ts 15 true x 0 = some its) (hb : AllBare g)
    (fin : ∀ h' g' t' acc, G w h₀ [] h' (LD L cS cC aS aN sc tu (some (.str x tx)) ru te tk (some (.ref lxa)) (some (.ref acc)) ot cm n) → Kp [L, cS, cC, aS, aN] h h' → Rep NR h' (.list (itemsD its)) (.ref acc) → AllBare g' → GoT (MM w) Φ c fs (K .next) ⟨h', g', d, t', os⟩) :
    GoT (MM w) Φ c fs ((exec st env).wrap K H gdf lv) ⟨h, g, d, t, os⟩ := by
  have e : lawSt? (KK w) 6 = some _ := rfl
  rw [hst] at e
  cases e
  have hA : AOk (AA dd u) 10 := ⟨rfl, by show dd + 8 * 10 ≤ 900; omega, by show u + 64 * 10 ≤ 9000; omega⟩
  refine told_go (κ := 90 + 12 * 15) (gk := NH [L, cS, cC, aS, aN] h) (good := NH [L, cS, cC, aS, aN] h) hr (by omega) (by omega) (by omega) (by omega) Ev X (mc_len0 hmc hx) hb (by rfl) (fun _ => rfl) (fun b hb => ⟨hb.1, hb.2.2⟩) (fun b hb => hb.2.2) (fun Q' E hq => ?_) fin
  obtain ⟨dlx, kx, lxl, dp, t1, t2, vs1, vs2, sLX, htok, hgtu, _⟩ := id LX
  have H := X.restart
  refine MethodCall_ ?_ (by rfl)
  k_clsL
  refine h_meth (f := 559) H.st.k sLX.now.1 hgtu (by kernel_rfl) ?_
  k_clsL
  refine wpAny_call (lex_spec B 15 (k := 9) hA H.st (fun b hb => hb) LX (fun b hb => ⟨hb.1, hb.2.2⟩) hx hmc (.inl ⟨rfl, rfl⟩) fun a Lf cd lf h₁ t₁ N₁ fr₁ => ?_)
  have H₁ := H.take N₁
  exact hq a Lf cd lf h₁ _ (X.over H₁) H₁.kp ((N₁.dyn _ (.head _)).2.resolve_left List.not_mem_nil) ((N₁.dyn _ (.tail _ (.head _))).2.resolve_left List.not_mem_nil) fr₁
theorem s_told2 {x : Str} {tx : Tok} {lxa : Addr} {rs : List (List Piece)} {ts : List Str} {its : List Item} (hst : lawSt? (KK w) 9 = some st) (hr : Rm c fs dd u) (hd : dd ≤ 310) (hu : u ≤ 100) (Ev : EnvOk env L NSL (CLs cS cC))
    (X : G w h₀ [] h (LD L cS cC aS aN sc tu (some (.str x tx)) ru te tk lx to (some (.ref lxa)) cm n)) (LX : LexR w (NH [L, cS, cC, aS, aN] h) h lxa rs ts) (B : Bnd rs ts) (hx : x.length ≤ 10) (hmc : mc rs ts 15 true (x ++ Str.ofString "a") 0 = some its) (hb : AllBare g)
    (fin : ∀ h' g' t' acc, G w h₀ [] h' (LD L cS cC aS aN sc tu (some (.str x tx)) ru te tk lx (some (.ref acc)) (some (.ref lxa)) cm n) → Kp [L, cS, cC, aS, aN] h h' → Rep NR h' (.list (itemsD its)) (.ref acc) → AllBare g' → GoT (MM w) Φ c fs (K .next) ⟨h', g', d, t', os⟩) :
    GoT (MM w) Φ c fs ((exec st env).wrap K H gdf lv) ⟨h, g, d, t, os⟩ := by
  have e : lawSt? (KK w) 9 = some _ := rfl
  rw [hst] at e
  cases e
  have hA : AOk (AA dd u) 10 := ⟨rfl, by show dd + 8 * 10 ≤ 900; omega, by show u + 64 * 10 ≤ 9000; omega⟩
  have hx' : (x ++ Str.ofString "a").length ≤ 100 := by rw [app_len, show (Str.ofString "a").length = 1 by decide +kernel]; omega
  refine told_go (κ := 90 + 12 * 15) (gk := NH [L, cS, cC, aS, aN] h) (good := NH [L, cS, cC, aS, aN] h) hr (by omega) (by omega) (by omega) (by omega) Ev X (mc_len0 hmc hx') hb (by rfl) (fun _ => rfl) (fun b hb => ⟨hb.1, hb.2.2⟩) (fun b hb => hb.2.2) (fun Q' E hq => ?_) fin
  obtain ⟨dlx, kx, lxl, dp, t1, t2, vs1, vs2, sLX, htok, hgtu, _⟩ := id LX
  have H := X.restart
  refine MethodCall_ ?_ (by rfl)
  k_clsL
  refine h_meth (f := 559) H.st.k sLX.now.1 hgtu (by kernel_rfl) ?_
  k_clsL
  refine s_add (by rw [show (Str.ofString "a").length = 1 by decide +kernel]; omega) fun _ _ => ?_
  k_clsL
  refine wpAny_call (lex_spec B 15 (k := 9) hA H.st (fun b hb => hb) LX (fun b hb => ⟨hb.1, hb.2.2⟩) hx' hmc (.inl ⟨rfl, rfl⟩) fun a Lf cd lf h₁ t₁ N₁ fr₁ => ?_)
  have H₁ := H.take N₁
  exact hq a Lf cd lf h₁ _ (X.over H₁) H₁.kp ((N₁.dyn _ (.head _)).2.resolve_left List.not_mem_nil) ((N₁.dyn _ (.tail _ (.head _))).2.resolve_left List.not_mem_nil) fr₁
end
theorem depth_strs : ∀ l : List Str, PyData.depthAll (strsD l) = 0
  | [] => rfl
  | x :: r => by show max 0 (PyData.depthAll (strsD r)) = 0; rw [depth_strs r]; rfl
theorem depth_items : ∀ l : List Item, PyData.depthAll (itemsD l) ≤ 2
  | [] => Nat.zero_le _
  | i :: r => by
    have h1 : (itemD i).depth = 2 := by
      show max 0 (max (PyData.depthAll (strsD i.2.1) + 1) (max 0 0)) + 1 = 2
      rw [depth_strs]; rfl
    show max (itemD i).depth (PyData.depthAll (itemsD r)) ≤ 2
    have := depth_items r
    omega
theorem Rep.seven {K : List Addr} {h : Heap} {d : PyData} {v : Value} (x : Rep (NH K h) h d v) : Rep (fun a => 714 ≤ a) h d v := x.weak fun b hb => hb.1
theorem Rep.nr {h h' : Heap} {d : PyData} {v : Value} (x : Rep NR h d v) (kp : Kp [] h h') : Rep NR h' d v := Rep.keep (fun _ y => y) (fun a o y e => kp.keep a o e List.not_mem_nil y.1 y.2) d v x
section
variable {w : World} {A : Around} {E : Value → Shared → Prop} {k : Nat} {h₀ h : Heap} {env : Env} {L cS cC aS aN : Addr} {sc tu tx ru te tk lx to ot cm : Option Value} {n : Nat} {g : Array GenState} {d : Drawn} {t : Nat} {os : OsState} {st : Stmt} {Q : Flow → Shared → Prop}
theorem s_cmp {x : Str} {ty : Tok} {rv tv : Value} {acc : Addr} {rs : List (List Piece)} {ts : List Str} {its : List Item} (hst : lawSt? (KK w) 7 = some st) (hA : AOk A 66) (Ev : EnvOk env L NSL (CLs cS cC))
    (X : G w h₀ [] h (LD L cS cC aS aN sc tu (some (.str x ty)) (some rv) (some tv) tk lx (some (.ref acc)) ot cm n)) (hr : Rep (NH [L, cS, cC, aS, aN] h) h (.list (rulesD rs)) rv) (ht : Rep (NH [L, cS, cC, aS, aN] h) h (.list (strsD ts)) tv) (hT : TabOk rs ts) (hx : x.length ≤ 100) (hmc : mc rs ts 15 true x 0 = some its)
    (hto : Rep NR h (.list (itemsD its)) (.ref acc))
    (q : ∀ h' t', G w h₀ [] h' (LD L cS cC aS aN sc tu (some (.str x ty)) (some rv) (some tv) tk lx (some (.ref acc)) ot cm n) → Kp [L, cS, cC, aS, aN] h h' → Q .next ⟨h', g, d, t', os⟩) :
    wpAny (MM w) A (exec st env) Q E ⟨h, g, d, t, os⟩ := by
  have e : lawSt? (KK w) 7 = some _ := rfl
  rw [hst] at e
  cases e
  have H := X.restart
  refine wpAny_If ?_
  k_clsL
  refine ⟨rfl, new_tupF H fun tb h₁ H₁ K₁ _ _ => ?_⟩
  k_clsL
  refine ⟨rfl, new_pl H₁ fun sk h₂ H₂ K₂ _ _ => ?_⟩
  k_clsL
  have K12 := K₁.trans K₂
  have up : ∀ {d v}, Rep (NH [L, cS, cC, aS, aN] h) h d v → Rep (fun a => 714 ≤ a) h₂ d v := fun y => y.seven.kp K12 fun a ha => ⟨List.not_mem_nil, ha⟩
  refine wpAny_call (law_machine hT (gd := fun a => 714 ≤ a) (fun a h => h) 15 (k := 2) (Nat.le_refl _) hA H₂.st (rep_tup (H₂.at (a := tb) (by tb_rel)) (H₂.tup (a := tb) (by tb_rel)) (reps_cons (up hr) (reps_cons (up ht) reps_nil))) ⟨sk, _, Str.ofString "root", _, rfl, rfl, by decide +kernel, .inl ⟨H₂.pl (a := sk) (by tb_rel), H₂.at (a := sk) (by tb_rel)⟩⟩ hx hmc fun h₃ t₃ v S₃ K₃ R₃ => ?_)
  dsimp only
  have hdp := depth_items its
  refine ne_same (hto.nr (K12.trans K₃)) R₃ (by have := hA.un; show A.units + (PyData.depthAll (itemsD its) + 1) < 9900; omega) ?_
  k_clsL
  have H₃ := (H₂.call S₃ K₃).sub ((List.sublist_cons_self _ _).trans (List.sublist_cons_self _ _))
  exact q h₃ _ (X.over H₃) H₃.kp
theorem s_cmp2 {x : Str} {ty : Tok} {tv : Value} {acc : Addr} {ts : List Str} {its : List Item} (hst : lawSt? (KK w) 10 = some st) (hA : AOk A 66) (Ev : EnvOk env L NSL (CLs cS cC))
    (X : G w h₀ [] h (LD L cS cC aS aN sc tu (some (.str x ty)) ru (some tv) tk lx (some (.ref acc)) ot cm n)) (ht : Rep (NH [L, cS, cC, aS, aN] h) h (.list (strsD ts)) tv) (hT : TabOk [[(some (x ++ Str.ofString "a"), 4)]] ts) (hx : x.length ≤ 10) (hmc : mc [[(some (x ++ Str.ofString "a"), 4)]] ts 15 true (x ++ Str.ofString "a") 0 = some its)
    (hto : Rep NR h (.list (itemsD its)) (.ref acc))
    (q : ∀ h' t', G w h₀ [] h' (LD L cS cC aS aN sc tu (some (.str x ty)) ru (some tv) tk lx (some (.ref acc)) ot cm n) → Kp [L, cS, cC, aS, aN] h h' → Q .next ⟨h', g, d, t', os⟩) :
    wpAny (MM w) A (exec st env) Q E ⟨h, g, d, t, os⟩ := by
  have e : lawSt? (KK w) 10 = some _ := rfl
  rw [hst] at e
  cases e
  have la : (Str.ofString "a").length = 1 := by decide +kernel
  have hx' : (x ++ Str.ofString "a").length ≤ 100 := by rw [app_len, la]; omega
  have H := X.restart
  refine wpAny_If ?_
  k_clsL
  refine s_add (by rw [la]; omega) fun tk1 t1 => ?_
  k_clsL
  refine ⟨rfl, new_tupF H fun a1 h₁ H₁ K₁ _ _ => ?_⟩
  k_clsL
  refine ⟨rfl, new_pl H₁ fun a2 h₂ H₂ K₂ _ _ => ?_⟩
  k_clsL
  refine ⟨rfl, new_pl H₂ fun a3 h₃ H₃ K₃ _ _ => ?_⟩
  k_clsL
  refine ⟨rfl, new_tupF H₃ fun tb h₄ H₄ K₄ _ _ => ?_⟩
  k_clsL
  refine s_add (by rw [la]; omega) fun tk2 t2 => ?_
  k_clsL
  refine ⟨rfl, new_pl H₄ fun sk h₅ H₅ K₅ _ _ => ?_⟩
  k_clsL
  have K15 := (((K₁.trans K₂).trans K₃).trans K₄).trans K₅
  have up : ∀ {d v}, Rep (NH [L, cS, cC, aS, aN] h) h d v → Rep (fun a => 714 ≤ a) h₅ d v := fun y => y.seven.kp K15 fun a ha => ⟨List.not_mem_nil, ha⟩
  refine wpAny_call (law_machine hT (gd := fun a => 714 ≤ a) (fun a h => h) 15 (k := 2) (Nat.le_refl _) hA H₅.st (rep_tup (H₅.at (a := tb) (by tb_rel)) (H₅.tup (a := tb) (by tb_rel)) (reps_cons ?_ (reps_cons (up ht) reps_nil))) ⟨sk, _, Str.ofString "root", _, rfl, rfl, by decide +kernel, .inl ⟨H₅.pl (a := sk) (by tb_rel), H₅.at (a := sk) (by tb_rel)⟩⟩ hx' hmc fun h₆ t₆ v S₆ K₆ R₆ => ?_)
  · refine rep_list (H₅.at (a := a3) (by tb_rel)) (H₅.pl (a := a3) (by tb_rel)) (reps_cons (rep_list (H₅.at (a := a2) (by tb_rel)) (H₅.pl (a := a2) (by tb_rel)) (reps_cons ?_ reps_nil)) reps_nil)
    exact rep_tup (H₅.at (a := a1) (by tb_rel)) (H₅.tup (a := a1) (by tb_rel)) (reps_cons rep_str (reps_cons rep_int reps_nil))
  dsimp only
  have hdp := depth_items its
  refine ne_same (hto.nr (K15.trans K₆)) R₆ (by have := hA.un; show A.units + (PyData.depthAll (itemsD its) + 1) < 9900; omega) ?_
  k_clsL
  have H₆ := (H₅.call S₆ K₆).sub (((((List.sublist_cons_self _ _).trans (List.sublist_cons_self _ _)).trans (List.sublist_cons_self _ _)).trans (List.sublist_cons_self _ _)).trans (List.sublist_cons_self _ _))
  exact q h₆ _ (X.over H₆) H₆.kp
end
end

section -- N12
open PySem PySem.W PySem.Calls PyProof.Rows
set_option maxHeartbeats 0
set_option linter.unusedVariables false
set_option maxRecDepth 100000
section
variable {w : World} {A : Around} {E : Value → Shared → Prop} {k : Nat} {h₀ h : Heap} {env : Env} {L cS cC aS aN : Addr} {sc tu tx ru te tk lx to ot cm : Option Value} {n : Nat} {g : Array GenState} {d : Drawn} {t : Nat} {os : OsState} {st : Stmt} {Q : Flow → Shared → Prop}
theorem s_other {x : Str} {ty : Tok} {tv cv : Value} {ts : List Str} (hst : lawSt? (KK w) 8 = some st) (hA : AOk A (k + 9)) (Ev : EnvOk env L NSL (CLs cS cC)) (X : G w h₀ [] h (LD L cS cC aS aN sc tu (some (.str x ty)) ru (some tv) tk lx to ot (some cv) n))
    (ht : Rep (NH [L, cS, cC, aS, aN] h) h (.list (strsD ts)) tv) (hc : TypeK (NH [L, cS, cC, aS, aN] h) h cv "Comment") (hx : x.length ≤ 10) (hz2 : ts.length ≤ 2)
    (q : ∀ h' t' lxa, G w h₀ [] h' (LD L cS cC aS aN sc tu (some (.str x ty)) ru (some tv) tk lx to (some (.ref lxa)) (some cv) n) → Kp [L, cS, cC, aS, aN] h h' → LexR w (NH [L, cS, cC, aS, aN] h') h' lxa [[(some (x ++ Str.ofString "a"), 4)]] ts → Q .next ⟨h', g, d, t', os⟩) :
    wpAny (MM w) A (exec st env) Q E ⟨h, g, d, t, os⟩ := by
  have e : lawSt? (KK w) 8 = some _ := rfl
  rw [hst] at e
  cases e
  have la : (Str.ofString "a").length = 1 := by decide +kernel
  obtain ⟨aT, vT, rfl, gT, lT, rT⟩ := Rep.listE ht
  have H := X.restart
  k_clsL
  refine dd_disp H (by kernel_rfl) fun dr h₁ H₁ K₁ ndr => ?_
  refine pairTrees_cons_walk ?_
  k_clsL
  refine s_add (by rw [la]; omega) fun tk1 t1 => ?_
  k_clsL
  refine ⟨rfl, new_pl H₁ fun a h₂ H₂ K₂ _ na => ?_⟩
  k_clsL
  refine ⟨rfl, new_pl H₂ fun ar h₃ H₃ K₃ _ nar => ?_⟩
  k_clsL
  refine wpAny_call (mk_plain (k := k + 6) hA H₃.st fun px pdx h₄ t₄ N₄ => ?_)
  dsimp only
  have H₄ := H₃.take N₄
  dsimp only [List.cons_append, List.nil_append] at H₄
  refine i_cons ?_ rfl
  refine wpAny_Call_Name_kw ?_
  k_clsL
  refine callWith_KW (K := KK w) H₄.st.k (by kernel_rfl) (by rfl) ?_
  k_clsL
  refine kwAll_cons ?_
  k_clsL
  refine kwAll_nil ⟨H₄.st.k, ?_⟩
  refine wpAny_call (mk_usingK (k := k + 6) (stack := [Str.ofString "root", Str.ofString "s"]) hA H₄.st (.inl ⟨_, _, rfl, rfl⟩) fun us fp h₅ t₅ S₅ K₅ U₅ F₅ => ?_)
  dsimp only
  have H₅ := H₄.call S₅ K₅
  k_clsL
  refine ⟨rfl, new_tupF H₅ fun r h₆ H₆ K₆ _ nr => ?_⟩
  have P6 : RootP w [(some (x ++ Str.ofString "a"), 4)] (NH (dr :: [L, cS, cC, aS, aN]) h₆) h₆ (.ref us) := by
    refine .inr ⟨_, rfl, UsK.keep (UsK.weak (U₅ (NH (dr :: [L, cS, cC, aS, aN]) h₅) (fun b hb => ?_) (fun b e => nomatch e)) fun b hb => hb.kp K₆) fun b o hb e => ?_⟩
    · have z := NH.of_fp F₅ H₄ hb
      exact ⟨z.1, fun q => z.2.1 (.tail _ (.tail _ (.tail _ (.tail _ q)))), z.2.2⟩
    · exact K₆.keep b o e List.not_mem_nil (ne380 hb.1) (ne403 hb.1)
  have J := mk_item (P := RootP w [(some (x ++ Str.ofString "a"), 4)]) (po := some (x ++ Str.ofString "a")) H₆ ⟨_, rfl⟩ P6
  k_clsL
  refine ⟨rfl, new_pl H₆ fun l1 h₇ H₇ K₇ nl10 nl1 => ?_⟩
  have H₇' := H₇.sub (.cons_cons _ (.cons _ (.cons _ (.cons _ (.cons _ (.cons _ (List.Sublist.refl _)))))))
  have J7 : ItemK (RootP w [(some (x ++ Str.ofString "a"), 4)]) (NH (l1 :: dr :: [L, cS, cC, aS, aN]) h₇) h₇ (.ref r) [some (x ++ Str.ofString "a")] :=
    ItemK.weak RootP.pk (ItemK.keep RootP.pk J fun b o hb e => K₇.keep b o e List.not_mem_nil (ne380 hb.1) (ne403 hb.1)) fun b hb => NH.add (K' := [l1]) K₇ hb fun q => by
      obtain ⟨o, e⟩ := hb.2.2
      rw [List.mem_singleton.mp q, nl1] at e; cases e
  have n2 : ∀ b, NH [L, cS, cC, aS, aN] h b → NH ([l1, dr] ++ [L, cS, cC, aS, aN]) h₇ b := fun b hb => NH.add H₇'.kp hb fun q => by
    obtain ⟨o, e⟩ := hb.2.2
    simp only [List.mem_cons, List.not_mem_nil, or_false] at q
    rcases q with rfl | rfl
    · rw [nl10] at e; cases e
    · rw [ndr] at e; cases e
  have k2 : ∀ b o, NH [L, cS, cC, aS, aN] h b → h.get? b = some o → h₇.get? b = some o := fun b o hb e => NH.keeps H₇'.kp b o hb e
  clear H₁ H₂ H₃ H₄ H₅ H₆ H₇ N₄ U₅ F₅ K₁ K₂ K₃ K₅ K₆ K₇ S₅ P6 J
  refine pairTrees_cons_walk ?_
  k_clsL
  refine c_terms (k := k + 5) hA Ev H₇' (by tb_rel) ((hc.keep k2).weak n2) (let ⟨o, e, r⟩ := lT; ⟨o, k2 _ _ gT e, r⟩) (n2 _ gT) (strs_of_reps rT) (by omega) ?_ fun l2 h₈ t₈ ys2 H₈ K₈ nl2 a2 => ?_
  · k_clsL
    exact ⟨rfl, rfl⟩
  refine pairTrees_nil_walk ?_
  refine ⟨[("root", .ref l1), ("s", .ref l2)], _, _, _, _, ⟨dkey, rfl, dkey, rfl, trivial⟩, rfl, H₈, by tb_rel, by tb_start, fun h₉ t₉ H₉ hs => ?_⟩
  have em : PySem.merged [] ([("root", Value.ref l1), ("s", Value.ref l2)] : KV) = ([("root", Value.ref l1), ("s", Value.ref l2)] : KV) := by rfl
  rw [em] at H₉
  k_clsL
  obtain ⟨od, es, ep, e1, e2⟩ := H₉.dd (a := dr) (by tb_rel)
  have kk : ∀ b o, NH (l2 :: l1 :: dr :: [L, cS, cC, aS, aN]) h₈ b → h₈.get? b = some o → h₉.get? b = some o := fun b o hb e => (hs.2 b fun q => hb.2.1 (q ▸ .tail _ (.tail _ (.head _)))).trans e
  have a1 : AllK (fun v r => ItemK (RootP w r) (NH (l2 :: l1 :: dr :: [L, cS, cC, aS, aN]) h₉) h₉ v (r.map (·.1))) [.ref r] [[(some (x ++ Str.ofString "a"), 4)]] := by
    refine .one (ItemK.to RootP.pk (ItemK.weak RootP.pk (ItemK.keep RootP.pk J7 fun b o hb e => NH.keeps K₈ b o hb e) fun b hb => NH.add (K' := [l2]) K₈ hb fun q => ?_) kk fun _ h => h)
    obtain ⟨o, e⟩ := hb.2.2
    rw [List.mem_singleton.mp q, nl2] at e; cases e
  replace a2 := a2.mono fun v r x => ItemK.to TermP.pk x kk fun _ h => h
  refine wpAny_call (mk_lexer (k := k) (its1 := [.ref r]) RootP.pk TermP.pk hA H₉.st ⟨od, es, e1, e2⟩ (H₉.at (a := dr) (by tb_rel)) (H₉.pl (a := l1) (by tb_rel)) (H₉.at (a := l1) (by tb_rel)) (H₉.pl (a := l2) (by tb_rel)) (H₉.at (a := l2) (by tb_rel)) (by simp) (by rw [a2.1]; omega) (fun b hb => ⟨hb.1, hb.2.2⟩) a1 a2 fun lxa fp hb tb Sb Kb LX F => ?_)
  dsimp only
  have Hb := H₉.call Sb Kb
  have LX' : LexR w (NH [L, cS, cC, aS, aN] hb) hb lxa [[(some (x ++ Str.ofString "a"), 4)]] ts := LexK.weak RootP.pk TermP.pk LX fun b hb => by
    rcases hb with hb | hb
    · have z := NH.kp (K := []) Kb hb
      exact ⟨z.1, fun q => z.2.1 (.tail _ (.tail _ (.tail _ q))), z.2.2⟩
    · have z := F.ne H₉ b hb
      exact ⟨(F b hb).1, fun q => z (.tail _ (.tail _ (.tail _ q))), (F b hb).2.1⟩
  have Hb' := Hb.sub (((List.sublist_cons_self _ _).trans (List.sublist_cons_self _ _)).trans (List.sublist_cons_self _ _))
  have HR := Hb'.restart
  k_clsL
  rename_i hc' tc Hc
  exact q hc' tc lxa (X.over (Hb'.over Hc)) (Hb'.over Hc).kp (LexK.weak RootP.pk TermP.pk (LexK.keep RootP.pk TermP.pk LX' fun b o hb e => NH.keeps Hc.kp b o hb e) fun b hb => hb.kp Hc.kp)
end
end

section -- N13
open PySem PySem.W PySem.Calls PyProof.Rows
set_option maxHeartbeats 0
set_option linter.unusedVariables false
set_option maxRecDepth 100000
theorem rule_wlen {r : List Piece} (h : RuleOk r) : 1 ≤ wlen r := by
  obtain ⟨_, x, j, e, hx⟩ := h
  cases r with
  | nil => cases e
  | cons p r =>
    have e : p = (some x, j) := by injection e
    have := wlen_ge (ps := p :: r) (pc := p) (.head _) (x := x) (by rw [e])
    omega
theorem bnd_of {rs : List (List Piece)} {ts : List Str} (hR : ∀ r ∈ rs, RuleOk r) (hz : rs.length ≤ 4) (hT : ∀ y ∈ ts, 1 ≤ y.length ∧ y.length ≤ 2) (hz2 : ts.length ≤ 2) : Bnd rs ts ∧ TabOk rs ts := by
  refine ⟨⟨fun r hr => ?_, fun x hx => ?_, by omega, by omega⟩, ⟨fun r hr => rule_wlen (hR r hr), fun r hr => ?_, by omega, fun x hx => ?_, by omega⟩⟩
  · obtain ⟨⟨a, b⟩, _⟩ := id (hR r hr)
    exact ⟨a, fun p hp x hx => by have := (b p hp).2.2 x hx; omega, fun p hp => ⟨(b p hp).1, (b p hp).2.1⟩, rule_wlen (hR r hr)⟩
  · have := hT x hx; omega
  · obtain ⟨⟨a, b⟩, _⟩ := id (hR r hr)
    exact ⟨a, fun p hp => ⟨(b p hp).1, (b p hp).2.1, fun x hx => by have := (b p hp).2.2 x hx; omega⟩⟩
  · have := hT x hx; omega
theorem bnd_of2 {x : Str} {ts : List Str} (h1 : 1 ≤ x.length) (hx : x.length ≤ 11) (hT : ∀ y ∈ ts, 1 ≤ y.length ∧ y.length ≤ 2) (hz2 : ts.length ≤ 2) : Bnd [[(some x, 4)]] ts ∧ TabOk [[(some x, 4)]] ts := by
  have key : ∀ p ∈ [((some x, 4) : Piece)], 0 ≤ p.2 ∧ p.2 ≤ 5 ∧ ∀ y, p.1 = some y → y.length ≤ 100 := fun p hp => by
    rw [List.mem_singleton.mp hp]
    exact ⟨by show (0 : Int) ≤ 4; decide, by show (4 : Int) ≤ 5; decide, fun y e => by cases e; omega⟩
  refine ⟨⟨fun r hr => ?_, fun x hx => ?_, by simp, by omega⟩, ⟨fun r hr => ?_, fun r hr => ?_, by simp, fun x hx => ?_, by omega⟩⟩
  · rw [List.mem_singleton.mp hr]
    exact ⟨by simp, fun p hp y e => (key p hp).2.2 y e, fun p hp => ⟨(key p hp).1, (key p hp).2.1⟩, by rw [wlen_one]; exact h1⟩
  · have := hT x hx; omega
  · rw [List.mem_singleton.mp hr, wlen_one]; exact h1
  · rw [List.mem_singleton.mp hr]
    exact ⟨by simp, key⟩
  · have := hT x hx; omega
section
variable {w : World} {Φ : Outcome → Shared → Prop} {h₀ h : Heap} {env : Env} {L cS cC aS aN : Addr} {sc tu tx ru te tk lx to ot cm : Option Value} {n : Nat} {g : Array GenState} {d : Drawn} {t : Nat} {os : OsState}
  {c : Code} {fs : List Frame} {dd u : Nat} {K : Flow → Sem Fin} {H : Value → Sem Fin} {gdf : Bool → Bool} {lv : List Value → List Value}
theorem law_turn {b0 b1 b2 b3 b4 b5 b6 b7 b8 b9 ba : Stmt} (e0 : lawSt? (KK w) 0 = some b0) (e1 : lawSt? (KK w) 1 = some b1) (e2 : lawSt? (KK w) 2 = some b2) (e3 : lawSt? (KK w) 3 = some b3) (e4 : lawSt? (KK w) 4 = some b4) (e5 : lawSt? (KK w) 5 = some b5)
    (e6 : lawSt? (KK w) 6 = some b6) (e7 : lawSt? (KK w) 7 = some b7) (e8 : lawSt? (KK w) 8 = some b8) (e9 : lawSt? (KK w) 9 = some b9) (ea : lawSt? (KK w) 10 = some ba)
    (hr : Rm c fs dd u) (hd : dd ≤ 310) (hu : u ≤ 100) (Ev : EnvOk env L NSL (CLs cS cC)) (X : G w h₀ [] h (LD L cS cC aS aN sc tu tx ru te tk lx to ot cm n)) (hne : aN ≠ aS) (hn : n + 250 < 1000) (hb : AllBare g)
    (fin : ∀ h' g' t' tx' ru' te' tk' lx' to' ot' cm', G w h₀ [] h' (LD L cS cC aS aN sc tu tx' ru' te' tk' lx' to' ot' cm' (n + 83)) → Kp [L, cS, cC, aS, aN] h h' → AllBare g' → GoT (MM w) Φ c fs (K .next) ⟨h', g', d, t', os⟩) :
    GoT (MM w) Φ c fs ((execs [b0, b1, b2, b3, b4, b5, b6, b7, b8, b9, ba] env).wrap K H gdf lv) ⟨h, g, d, t, os⟩ := by
  have hA : AOk (AA dd u) 66 := ⟨rfl, by show dd + 8 * 66 ≤ 900; omega, by show u + 64 * 66 ≤ 9000; omega⟩
  have ok : (jGo w Φ).Ok (AA dd u) c fs := ⟨dd, u, rfl, hr⟩
  refine j_calm (X := jGo w Φ) (A := AA dd u) ok (s_text (k := 62) e0 hA Ev X hne (by omega) fun h1 t1 x ty hx X1 K1 => j_seq ?_)
  refine j_calm (X := jGo w Φ) (A := AA dd u) ok (s_rules (k := 62) e1 hA Ev X1 hne (by omega) fun h2 t2 rv rs hrl hR X2 K2 R2 => j_seq ?_)
  refine j_calm (X := jGo w Φ) (A := AA dd u) ok (s_words (k := 62) e2 hA Ev X2 hne (by omega) fun h3 t3 tv ts htl hT X3 K3 T3 => j_seq ?_)
  refine j_calm (X := jGo w Φ) (A := AA dd u) ok (s_comment (k := 62) e3 hA Ev X3 fun h4 t4 cv X4 K4 C4 => j_seq ?_)
  obtain ⟨B1, B2⟩ := bnd_of hR hrl hT htl
  obtain ⟨its1, m1⟩ := mc_some1 (rules := rs) (terms := ts) 2 B2.r1 (fun y hy => (hT y hy).1) (fun r hr pc hpc y e => ((hR r hr).1.small pc hpc).2.2 y e) 15 true x 0 (Int.le_refl _) (by omega) (by show x.length - 0 + 2 * 2 < 15; omega)
  have R4 := (R2.nh K3).nh K4
  have T4 := T3.nh K4
  refine j_calm (X := jGo w Φ) (A := AA dd u) ok (s_tokens (k := 59) e4 hA Ev X4 R4 T4 C4 hR hrl htl fun h5 t5 td X5 K5 TK => j_seq ?_)
  refine j_calm (X := jGo w Φ) (A := AA dd u) ok (s_lexer (k := 57) e5 hA Ev X5 TK hrl htl fun h6 t6 lxa X6 K6 LX => j_seq ?_)
  have R6 := (R4.nh K5).nh K6
  have T6 := (T4.nh K5).nh K6
  have C6 := (C4.nh K5).nh K6
  refine j_cons (X := jGo w Φ) (s_told e6 hr hd hu Ev X6 LX B1 (by omega) m1 hb fun h7 g7 t7 acc X7 K7 N7 hb7 => j_seq (X := jGo w Φ) ?_)
  refine j_calm (X := jGo w Φ) (A := AA dd u) ok (s_cmp e7 hA Ev X7 (R6.nh K7) (T6.nh K7) B2 (by omega) m1 N7 fun h8 t8 X8 K8 => j_seq ?_)
  have T8 := (T6.nh K7).nh K8
  have C8 := (C6.nh K7).nh K8
  refine j_calm (X := jGo w Φ) (A := AA dd u) ok (s_other (k := 57) e8 hA Ev X8 T8 C8 hx htl fun h9 t9 lx2 X9 K9 LX2 => j_seq ?_)
  have la : (x ++ Str.ofString "a").length = x.length + 1 := by rw [app_len, show (Str.ofString "a").length = 1 by decide +kernel]
  obtain ⟨B3, B4⟩ := bnd_of2 (x := x ++ Str.ofString "a") (ts := ts) (by omega) (by omega) hT htl
  obtain ⟨its2, m2⟩ := mc_some3 (x := x ++ Str.ofString "a") (terms := ts) (by omega) (fun y hy => (hT y hy).1) (n := 15) (by omega)
  refine j_cons (X := jGo w Φ) (s_told2 e9 hr hd hu Ev X9 LX2 B3 hx m2 hb7 fun ha ga ta acc2 Xa Ka Na hba => j_seq (X := jGo w Φ) ?_)
  refine j_calm (X := jGo w Φ) (A := AA dd u) ok (s_cmp2 ea hA Ev Xa ((T8.nh K9).nh Ka) B4 hx m2 Na fun hb' tb Xb Kb => j_seq (j_nil ?_))
  have KK' := ((((((((((K1.trans K2).trans K3).trans K4).trans K5).trans K6).trans K7).trans K8).trans K9).trans Ka).trans Kb)
  exact fin hb' ga tb _ _ _ _ _ _ _ _ Xb KK' hba
end
end

section -- N2
open PySem PySem.W PySem.Calls PyProof.Rows
set_option maxHeartbeats 0
set_option linter.unusedVariables false
set_option maxRecDepth 100000
/-- entering a def under any judgement: its arguments bound by any means; cells with what they hold -/
theorem j_enter {w : World} {X : Jd w} {A : Around} {fs : List Frame} {h₀ h : Heap} {W : List Addr} {D : Dl} {g : Array GenState} {d : Drawn} {t : Nat} {os : OsState} {f : Addr} {o : Obj} {fd : FuncData} {body : List Stmt} {args : Args} (names : List Str) (cs : List (Str × Nat))
    (ok : X.Ok A (.call (.ref f) args) fs) (hroom : A.depth < recursionLimit) (H : G w h₀ W h D) (ho : h.get? f = some o) (hdat : o.data = .func fd) (hcd : h.CodeRec fd.code fd.qualname) (hbody : fd.body = .stmts body)
    (hl : (names.all (fun x => fd.scope.names.lookup x == some .local || (fd.scope.names.lookup x == some .cell && (cs.lookup x).isSome)) && (fd.scope.kind == .function) && !fd.scope.isCoroutine && !fd.scope.isGenerator && (fd.globals == mainGlobals) && (fd.builtins == builtinsNs) &&
       decide (fd.scope.names.map (·.1)).Nodup && decide (cs.map (·.1)).Nodup && decide (cs.map (·.2)).Nodup) = true) (hclo : fd.closure = [])
    (hcs : ∀ n, cellsFrom n fd.scope.names [] = cs.map fun p => (p.1, n + p.2))
    (q : ∀ E, wpAny (MM w) A (bindArgs fd args) (fun binds s₁ => ∃ (h₁ : Heap) (t₁ : Nat) (D₁ : Dl) (l : Nl) (cv : Str → Option Value), s₁ = ⟨h₁, g, d, t₁, os⟩ ∧ G w h₀ W h₁ D₁ ∧ binds.map (·.1) = names ∧ (decide (l.map (·.1)).Nodup && l.all fun p => !p.2.isSome || fd.scope.names.lookup p.1 == some .local) = true ∧ LocOk binds l ∧
      (∀ p ∈ cs, bindC (fun n => fd.scope.names.lookup n) binds (fun _ => none) p.1 = cv p.1) ∧
      ∀ env L c h' t', EnvOk env L fd.scope.names (cs.map fun p => (p.1, c + p.2)) → env.code = fd.code → env.qual = fd.qualname ++ ".<locals>." → G w h₀ W h' ((L, fr l) :: (cs.map fun p => (c + p.2, isC (cv p.1))) ++ D₁) → Kp [] h₁ h' → (∀ p ∈ cs, h₁.get? (c + p.2) = none ∧ h₀.get? (c + p.2) = none) → h₀.get? L = none →
        X.J (.func body env) fs ((MM w).den (.func body env)) ⟨h', g, d, t', os⟩) E ⟨h, g, d, t, os⟩) :
    X.J (.call (.ref f) args) fs ((MM w).den (.call (.ref f) args)) ⟨h, g, d, t, os⟩ := by
  simp only [Bool.and_eq_true, Bool.not_eq_true', decide_eq_true_eq, beq_iff_eq] at hl
  obtain ⟨⟨⟨⟨⟨⟨⟨⟨h2, h3⟩, h4⟩, h5⟩, h6⟩, h7⟩, h8⟩, h9⟩, h9b⟩ := hl
  have ew : ∀ (m : Sem Fin), m = m.wrap (fun f => .pure f) .raise id id := fun m => by
    have e := (bind_pure m).symm
    rw [Sem.bind_eq_wrap'] at e; exact e
  show X.J _ fs (callAny (.ref f) args) _
  rw [ew (callAny (.ref f) args)]
  refine X.wrap ok ?_
  simp only [callAny]
  refine wpAny_bind (wpAny_load ho ?_)
  obtain ⟨c, oc, vs, tq, hc, hoc, hdc, hq⟩ := hcd
  simp only [hdat, callFunction, h4, h5, hbody, hc]
  refine wpAny_bind (m := field (.ref c) 1) (wpAny_field hoc hdc hq (wpAny_bind (wpAny_pure ?_)))
  refine wpAny_bind (wpAny_mono (q _) (fun binds s₁ x => ?_) fun _ _ x => x)
  obtain ⟨h₁, t₁, D₁, l, cv, rfl, H₁, hbn, h10, hlv, hcv, q⟩ := x
  simp only [Bool.and_eq_true, decide_eq_true_eq] at h10
  obtain ⟨h10, hll'⟩ := h10
  have hll : ∀ p ∈ l, p.2.isSome = true → fd.scope.names.lookup p.1 = some .local := fun p hp hs => by
    have := List.all_eq_true.mp hll' p hp
    rw [hs] at this
    simpa using this
  have hkind : ∀ x ∈ binds, fd.scope.names.lookup x.1 = some .local ∨ (fd.scope.names.lookup x.1 = some .cell ∧ ((cellsFrom (h₁.objs.size + 1) fd.scope.names []).lookup x.1).isSome = true) := fun x hx => by
    have hn : x.1 ∈ names := by rw [← hbn]; exact List.mem_map_of_mem (f := (·.1)) hx
    have := List.all_eq_true.mp h2 x.1 hn
    simp only [Bool.or_eq_true, Bool.and_eq_true, beq_iff_eq] at this
    refine this.imp id fun y => ⟨y.1, ?_⟩
    rw [hcs]
    obtain ⟨v, hv⟩ := Option.isSome_iff_exists.mp y.2
    have hm : (x.1, v) ∈ cs := mem_of_look hv
    rw [lookup_nd (k := h₁.objs.size + 1 + v) (by rw [List.map_map]; exact h9) (List.mem_map.mpr ⟨_, hm, rfl⟩)]; rfl
  rw [hclo]
  refine wpAny_bind (wpAny_newFunctionEnv_cells h3 hkind fun env he s' Y => ?_)
  subst he
  refine wpAny_bind (wpAny_enterFrame (H₁.st.lim.keeps Y.toInCall.keep) hroom ?_)
  refine wpAny_pure ?_
  obtain ⟨hh, tk, rfl⟩ := Y.toInCall.same
  have hcells : (callEnvC fd h₁.objs.size f).cells = cs.map fun p => (p.1, (h₁.objs.size + 1) + p.2) := hcs _
  have ev : EnvOk (callEnvC fd h₁.objs.size f) h₁.objs.size fd.scope.names (cs.map fun p => (p.1, (h₁.objs.size + 1) + p.2)) := by
    refine ⟨rfl, h3, rfl, h8, hcells, ?_, h6, h7, h4⟩
    rw [List.map_map]; exact h9
  obtain ⟨oL, es, ep, e1, e2, e3, e4⟩ := Y.toInCall.ns
  have hgn : ∀ i : Nat, h₁.get? (h₁.objs.size + 1 + i) = none := fun i => by
    cases q : h₁.get? (h₁.objs.size + 1 + i) with
    | none => rfl
    | some o => exact absurd (show h₁.objs.size + 1 + i < h₁.objs.size from Heap.lt_size q) (by omega)
  have nl := fun (i : Nat) => H₁.new (hgn i)
  have n0 := H₁.new (get_size h₁)
  have Hx := H₁.ext (h' := hh) Y.toInCall.keep
  have Hc : ∀ (cs' : List (Str × Nat)), (∀ p ∈ cs', p ∈ cs) → (cs'.map (·.2)).Nodup → G w h₀ W hh ((cs'.map fun p => (h₁.objs.size + 1 + p.2, isC (cv p.1))) ++ D₁) := by
    intro cs'
    induction cs' with
    | nil => intro _ _; exact Hx
    | cons p r ih =>
      intro hp hn
      rw [List.map_cons, List.nodup_cons] at hn
      have Hr := ih (fun q hq => hp q (.tail _ hq)) hn.2
      have hm : (p.1, h₁.objs.size + 1 + p.2) ∈ (callEnvC fd h₁.objs.size f).cells := by rw [hcells]; exact List.mem_map_of_mem (hp p (.head _))
      have hlk : (callEnvC fd h₁.objs.size f).cells.lookup p.1 = some (h₁.objs.size + 1 + p.2) := by
        rw [hcells] at hm ⊢
        exact lookup_nd (by rw [List.map_map]; exact h9) hm
      obtain ⟨oc, ec, dc⟩ := Y.cell p.1 _ hlk
      have dc' : oc.data = .cell (cv p.1) := by rw [dc]; exact congrArg Data.cell (hcv p (hp p (.head _)))
      refine Hr.add' ec (nc_cell dc') dc' (show 714 ≤ h₁.objs.size + 1 + p.2 by have := H₁.st.big; omega) (nl p.2).1 fun q hq hqe => ?_
      rcases List.mem_append.mp hq with h1 | h1
      · obtain ⟨p', hp', rfl⟩ := List.mem_map.mp h1
        have hqe' : h₁.objs.size + 1 + p'.2 = h₁.objs.size + 1 + p.2 := hqe
        exact hn.1 (by have : p'.2 = p.2 := by omega
                       rw [← this]; exact List.mem_map_of_mem hp')
      · exact (nl p.2).2 q h1 hqe
  have HC := Hc cs (fun _ h => h) h9b
  have HL : G w h₀ W hh ((h₁.objs.size, fr l) :: ((cs.map fun p => (h₁.objs.size + 1 + p.2, isC (cv p.1))) ++ D₁)) := by
    refine HC.add' e1 (fun _ vs q => by rw [e2] at q; cases q) ⟨h10, es, ep, e2, e3, fun p hp v hv => (e4 _).trans (bindL_gen binds _ _ _ (hll p hp (by rw [hv]; rfl)) (hlv.at p hp v hv))⟩ H₁.st.big n0.1 fun q hq hqe => ?_
    rcases List.mem_append.mp hq with h1 | h1
    · obtain ⟨p', hp', rfl⟩ := List.mem_map.mp h1
      have hqe' : h₁.objs.size + 1 + p'.2 = h₁.objs.size := hqe
      omega
    · exact n0.2 q h1 hqe
  have key := q _ _ (h₁.objs.size + 1) hh tk ev rfl rfl HL ((Kp.refl [] h₁).ext Y.toInCall.keep) (fun p _ => ⟨hgn p.2, (nl p.2).1⟩) n0.1
  have eE : callEnvC fd h₁.objs.size f = newEnv fd.scope h₁.objs.size fd.globals (cellsFrom (h₁.objs.size + 1) fd.scope.names []) (fd.qualname ++ Str.ofString ".<locals>.") (some f) (Value.ref c) none fd.builtins := by unfold callEnvC; rw [hc]
  rw [eE] at key
  exact X.again rfl key
end

section -- N14
open PySem PySem.W PySem.Calls PyProof.Rows
set_option maxHeartbeats 0
set_option linter.unusedVariables false
set_option maxRecDepth 100000
theorem oldK_of {w : World} {h₀ h : Heap} {D : Dl} (H : G w h₀ [] h D) (S₀ : St w h₀) (ht : ∀ P ∈ [380, 403], h₀.get? P = some (tabObj #[])) : OldK h₀ h := by
  refine ⟨fun b o e => ?_, fun b o e => H.kp.there b o e⟩
  have tab : ∀ {P l cc q c}, TabS h P l cc q → Inner c P l cc q → P ∈ [380, 403] → b = P → asItWas h₀ h b o := fun {P l cc q c} T I hP hbP => by
    subst hbP
    have e0 := ht b hP
    rw [e] at e0
    cases e0
    rcases T with T | ⟨c', o', vs, t, T, _⟩
    · exact .inl T
    · obtain ⟨oc, vc, _, _, _, _, _, _, _, y1, y2, y3, y4, _⟩ := I.hd S₀
      exact .inr (.inl ⟨⟨c, oc, vc, y1, y2, y3, y4⟩, rfl, #[], #[rawInt l, rawInt cc, .ref c'], rfl, by rw [Array.empty_append]; exact T⟩)
  by_cases h1 : b = 380
  · exact tab H.st.t1 (.inl ⟨rfl, rfl, rfl, rfl, rfl⟩) (.head _) h1
  · by_cases h2 : b = 403
    · exact tab H.st.t2 (.inr ⟨rfl, rfl, rfl, rfl, rfl⟩) (.tail _ (.head _)) h2
    · exact .inl (H.kp.keep b o e List.not_mem_nil h1 h2)
theorem law_loop {w : World} {Φ : Outcome → Shared → Prop} {h₀ : Heap} {env : Env} {L cS cC aS aN I : Addr} {sc : Option Value} {d : Drawn} {os : OsState} {fs : List Frame} {dd u : Nat} {pt : Pos} {b0 b1 b2 b3 b4 b5 b6 b7 b8 b9 ba : Stmt}
    (e0 : lawSt? (KK w) 0 = some b0) (e1 : lawSt? (KK w) 1 = some b1) (e2 : lawSt? (KK w) 2 = some b2) (e3 : lawSt? (KK w) 3 = some b3) (e4 : lawSt? (KK w) 4 = some b4) (e5 : lawSt? (KK w) 5 = some b5)
    (e6 : lawSt? (KK w) 6 = some b6) (e7 : lawSt? (KK w) 7 = some b7) (e8 : lawSt? (KK w) 8 = some b8) (e9 : lawSt? (KK w) 9 = some b9) (ea : lawSt? (KK w) 10 = some ba)
    (hr : ∀ cc : Code, cc.weight ≤ 2 → cc.cUnits ≤ 8 → Rm cc fs dd u) (hd : dd ≤ 310) (hu : u ≤ 100) (Ev : EnvOk env L NSL (CLs cS cC)) (hne : aN ≠ aS) (nI : h₀.get? I = none)
    (fin : ∀ h' g' t' tu tx ru te tk lx to ot cm n, G w h₀ [] h' (LD L cS cC aS aN sc tu tx ru te tk lx to ot cm n) → AllBare g' → GoT (MM w) Φ (.block [] env) fs (.pure (.done .next)) ⟨h', g', d, t', os⟩) :
    ∀ (m : Nat) (i : Int) (n : Nat) (tu tx ru te tk lx to ot cm : Option Value) (h : Heap) (g : Array GenState) (t : Nat), m = (2 - i).toNat → 0 ≤ i → i ≤ 2 → n = 83 * i.toNat → G w h₀ [] h ((I, isRI i (2 - i)) :: LD L cS cC aS aN sc tu tx ru te tk lx to ot cm n) → AllBare g →
      GoT (MM w) Φ (.forLoop (.Name "turn" pt) (.ref I) [b0, b1, b2, b3, b4, b5, b6, b7, b8, b9, ba] [] env) fs ((MM w).den (.forLoop (.Name "turn" pt) (.ref I) [b0, b1, b2, b3, b4, b5, b6, b7, b8, b9, ba] [] env)) ⟨h, g, d, t, os⟩ := by
  have ok : (jGo w Φ).Ok (AA dd u) (.forLoop (.Name "turn" pt) (.ref I) [b0, b1, b2, b3, b4, b5, b6, b7, b8, b9, ba] [] env) fs := ⟨dd, u, rfl, hr _ (Nat.le_of_ble_eq_true rfl) (Nat.le_of_ble_eq_true rfl)⟩
  intro m
  induction m with
  | zero =>
    intro i n tu tx ru te tk lx to ot cm h g t em i0 i2 en H hb
    refine j_forTurn (X := jGo w Φ) ok fun Kn Hn hn hs => ?_
    refine (jGo w Φ).wrap ok (nx_range_end rfl H (.head _) (by omega) Del.head nI fun h' H' => hn _ ?_)
    exact j_block (X := jGo w Φ) (j_nil (fin h' g _ _ _ _ _ _ _ _ _ _ _ H' hb))
  | succ m ih =>
    intro i n tu tx ru te tk lx to ot cm h g t em i0 i2 en H hb
    refine j_forTurn (X := jGo w Φ) ok fun Kn Hn hn hs => ?_
    refine (jGo w Φ).wrap ok (nx_range H (.head _) (by omega) .head fun h₁ t₁ tk₁ H₁ => hs _ _ ?_)
    refine wpAny_of_eq (a := ()) rfl ?_
    k_clsL
    rename_i h₂ t₂ H₂
    have HT := H₂.sub (List.sublist_cons_self _ _)
    refine law_turn e0 e1 e2 e3 e4 e5 e6 e7 e8 e9 ea (hr _ (Nat.le_of_ble_eq_true rfl) (Nat.le_of_ble_eq_true rfl)) hd hu Ev HT hne (by omega) hb fun h₃ g₃ t₃ tx ru te tk lx to ot cm H₃ K₃ hb₃ => ?_
    refine g_again rfl ?_
    obtain ⟨oI, eI, pI⟩ := H₂.get (a := I) (.head _)
    have I7 : 714 ≤ I := H₂.at (a := I) (.head _)
    have ndI := (List.nodup_cons.mp (show (I :: [L, cS, cC, aS, aN]).Nodup from H₂.nd)).1
    have H₄ := H₃.add' (K₃.keep I oI eI ndI (ne380 I7) (ne403 I7)) (by rw [pI]; exact nc_of rfl (by decide)) pI I7 nI fun p hp q => ndI (q ▸ List.mem_map_of_mem (f := (·.1)) hp)
    have e1 : 2 - i - 1 = 2 - (i + 1) := by omega
    rw [e1] at H₄
    refine ih (i + 1) _ _ _ _ _ _ _ _ _ _ _ _ _ (by omega) (by omega) (by omega) ?_ H₄ hb₃
    omega
theorem walk {w : World} {s₁ : Shared} {a : Addr} {vs : List Value} {ns : List Int} {mb : Str → Option Value} (X : (KK w).In s₁.heap) (ht : ∀ P ∈ [380, 403], s₁.heap.get? P = some (tabObj #[])) (hB : s₁.heap.Ns builtinsNs mb) (hmb : ∀ x : Str, x ≠ "__name__" → mb x = bootBuiltins x)
    (hlim : s₁.heap.NoLimit) (hbm : ∃ ob, s₁.heap.get? 4 = some ob ∧ ob.cls = .type "module" ∧ ob.dict = some builtinsNs ∧ ob.data = .plain) (hg : s₁.gens = #[]) (hi : IntsAre vs ns) (hn : ns.length ≤ 63) (hl : s₁.heap.IsList a vs.toArray)
    (Φ : Outcome → Shared → Prop) (hΦ : ∀ v s', v = .bool true ∧ OldK s₁.heap s'.heap ∧ s'.os = s₁.os ∧ AllBare s'.gens → Φ (.done (.ret v)) s') :
    GoT (model PP w) Φ (.builtin "claim.caller" {}) [] (call (.ref 713) [.ref a] >>= fun v => ret v) s₁ := by
  obtain ⟨h₀, g, d, t, os⟩ := s₁
  dsimp only at *
  subst hg
  have S₀ : St w h₀ := ⟨X, ⟨mb, hB, hmb⟩, hlim, .inl (ht _ (.head _)), .inl (ht _ (.tail _ (.head _))), hbm⟩
  have H0 : G w h₀ [] h₀ [] := G.start S₀
  rw [Sem.bind_eq_wrap']
  show (jGo w Φ).J _ _ _ _
  unfold call
  refine j_code (X := jGo w Φ) fun k' p hk hk' => ?_
  have rm1 : ∀ cc : Code, cc.weight ≤ 2 → cc.cUnits ≤ 8 → ∀ g l, Rm cc (.ret k' none g l (.builtin "claim.caller" {}) p [] :: []) 303 12 := fun cc hw hu g l => (rm_caller.ret (c' := cc)).mono (by show 1 + 300 + cc.weight ≤ 303; omega) (by omega)
  have hA : AOk (AA 303 12) 70 := ⟨rfl, by decide, by decide⟩
  refine j_enter (X := jGo w Φ) (A := AA 303 12) ["script"] [("comment", 1), ("state", 0)] ⟨303, 12, rfl, rm1 _ (Nat.le_of_ble_eq_true rfl) (Nat.le_of_ble_eq_true rfl) _ _⟩ (by decide) H0 (S₀.k 713 _ rfl) rfl (codeRec_of S₀.k (by kernel_rfl)) rfl (by kernel_rfl) rfl (fun n => rfl) (fun E => ?_)
  refine wp_eq (m' := pure [("script", Value.ref a)]) (by kernel_rfl) (wpAny_pure ⟨_, _, _, LFr (some (.ref a)) none none none none none none none none, fun _ => none, rfl, H0, rfl, by kernel_rfl, ⟨by kernel_rfl, trivial⟩, ?_, ?_⟩)
  · intro p hp
    simp only [List.mem_cons, List.not_mem_nil, or_false] at hp
    rcases hp with rfl | rfl <;> rfl
  intro env L c h₁ t₁ Ev _ _ H₁ K₁ nc nL
  have Ev' : EnvOk env L NSL (CLs c (c + 1)) := Ev
  have H₁' : G w h₀ [] h₁ [(L, fr (LFr (some (.ref a)) none none none none none none none none)), (c + 1, isC none), (c, isC none)] := H₁
  clear Ev H₁ nc
  generalize c + 1 = cC at Ev' H₁'
  have ok1 : ∀ {cc : Code} {g l}, cc.weight ≤ 2 → cc.cUnits ≤ 8 → (jGo w Φ).Ok (AA 303 12) cc (.ret k' none g l (.builtin "claim.caller" {}) p [] :: []) := fun hw hu => ⟨303, 12, rfl, rm1 _ hw hu _ _⟩
  refine j_func (X := jGo w Φ) ?_
  refine j_calm (X := jGo w Φ) (A := AA 303 12) (ok1 (Nat.le_of_ble_eq_true rfl) (Nat.le_of_ble_eq_true rfl)) ?_
  have na : ∀ P ∈ [380, 403], a ≠ P := fun P hP q => by
    obtain ⟨o, e, c, _⟩ := hl
    rw [q, ht P hP] at e
    cases e; cases c
  have hl₁ : h₁.IsList a vs.toArray := let ⟨o, e, r⟩ := hl; ⟨o, H₁'.kp.keep a o e List.not_mem_nil (na _ (.head _)) (na _ (.tail _ (.head _))), r⟩
  k_clsL
  refine wpAny_call (law_state (k := 60) (hA.mono (by omega)) H₁'.st hl₁ hi hn (na _ (.head _)) (na _ (.tail _ (.head _))) fun h₂ t₂ aS aN S₂ K₂ m1 m2 f1 f2 hne => ?_)
  dsimp only
  have H₂ := H₁'.call S₂ K₂
  have n1 := H₁'.new f1.1
  have n2 := H₁'.new f2.1
  obtain ⟨oN, eN, pN⟩ := m2
  obtain ⟨oS, eS, pS⟩ := m1
  have H₃ := H₂.add' eN (by obtain ⟨_, _, x, _⟩ := pN; exact nc_list x) pN f2.2 n2.1 n2.2
  have H₄ := H₃.add' eS (nc_sS pS) pS f1.2 n1.1 fun p hp => by
    rcases List.mem_cons.mp hp with rfl | hp
    · exact hne
    · exact n1.2 p hp
  have H₅ : G w h₀ [] h₂ [(L, fr (LFr (some (.ref a)) none none none none none none none none)), (c, isC none), (cC, isC none), (aS, sS aN 0), (aN, sN)] :=
    H₄.perm ((List.perm_append_comm (l₁ := [_, _, _]) (l₂ := [_, _])).trans (.cons _ (.cons _ (.cons _ (.swap _ _ _)))))
  clear H₁' H₂ H₃ H₄ hl₁
  refine c_store Ev' (by tb_rel) (by tb_rel) H₅ (by tb_rel) (by tb_start) fun h₆ H₆ => ?_
  k_clsL
  refine j_seq (j_cons (X := jGo w Φ) (j_For (A := AA 303 12) (ok1 (Nat.le_of_ble_eq_true rfl) (Nat.le_of_ble_eq_true rfl)) ?_))
  k_clsL
  refine it_range H₆ (by omega) (by omega) fun I h₇ t₇ H₇ K₇ nI => ?_
  intro k2 p2 g2 l2 hk2 hg2
  refine law_loop (dd := 305) (u := 20) rfl rfl rfl rfl rfl rfl rfl rfl rfl rfl rfl (fun cc hw hu => ?_) (by decide) (by decide) Ev' hne nI (fun h' g' t' tu tx ru te tk lx to ot cm n H' hb' => ?_) 2 0 0 none none none none none none none none none _ _ _ rfl (by decide) (by decide) rfl H₇ AllBare.empty
  · exact ((rm1 _ (Nat.le_of_ble_eq_true rfl) (Nat.le_of_ble_eq_true rfl) _ _).ret (c' := cc)).mono (by omega) (by omega)
  refine g_ret (.ok .next) ?_
  rw [hk2]
  refine j_seq (X := jGo w Φ) (j_calm (X := jGo w Φ) (A := AA 303 12) (ok1 (Nat.le_of_ble_eq_true rfl) (Nat.le_of_ble_eq_true rfl)) ?_)
  k_clsL
  refine g_ret (.ok (.ret (.bool true))) ?_
  rw [hk]
  exact go_done hb' (hΦ _ _ ⟨rfl, oldK_of H' S₀ ht, rfl, hb'⟩)
end

end Mine
end

theorem PySem.Challenge.cw_ev0008_01_holds : PySem.Challenge.rw_ev0008_01.Holds :=
  Mine.entry fun _ _ _ _ _ _ X ht hB hmb hlim hbm hg hi hn hl Φ hΦ => Mine.walk X ht hB hmb hlim hbm hg hi hn hl Φ hΦ
