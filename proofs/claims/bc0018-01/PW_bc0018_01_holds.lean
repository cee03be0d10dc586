import PyProof.Rows.All
import Wide.All
import OpenK.AllK
import Wide.FinOn
import PySem.Challenge.RW_bc0018_01
set_option Elab.async false
set_option compiler.extract_closed false
section
open PySem PySem.W PyProof.Rows
set_option Elab.async false
namespace Mine
theorem lim {a b c L : Nat} (h : a + b < L) (hc : c ≤ b) : a + c < L := Nat.lt_of_le_of_lt (Nat.add_le_add_left hc a) h
theorem lim0 {a b L : Nat} (h : a + b < L) : a < L := Nat.lt_of_le_of_lt (Nat.le_add_right _ _) h
theorem lim1 {a b c d L : Nat} (h : a + b < L) (hc : c + d ≤ b) : a + c + d < L := by rw [Nat.add_assoc]; exact lim h hc
theorem sub_step {N i : Nat} (h : i < N) : N - i = N - (i + 1) + 1 := (Nat.succ_pred_eq_of_pos (Nat.sub_pos_of_lt h)).symm
theorem sub_lt {N i : Nat} (h : i < N) : N - (i + 1) < N - i := Nat.sub_lt_sub_left h (Nat.lt_succ_self _)
theorem room_arith {b c c' m n L z : Nat} (h : b + n < L) (h8 : m + 8 ≤ n) (hc : c ≤ 4) (hc' : c' ≤ 4) (hz : z = 0) : b + (c + z) + c' + m < L := by
  subst hz
  refine Nat.lt_of_le_of_lt (Nat.le_trans (Nat.add_le_add_right (Nat.add_le_add (Nat.add_le_add_left hc b) hc') m) ?_) h
  rw [Nat.add_assoc b, Nat.add_assoc, Nat.add_comm _ m]
  exact Nat.add_le_add_left h8 b
theorem fmod4_range (n : Int) : 0 ≤ n.fmod 4 ∧ n.fmod 4 < 4 := ⟨Int.fmod_nonneg_of_pos _ (by decide), Int.fmod_lt_of_pos _ (by decide)⟩
theorem fmod4_nat (n : Int) : (n.fmod 4 + 1).toNat ≤ 4 := Int.toNat_le.mpr (fmod4_range n).2
theorem big40 (r : Nat) : 40 * (r + 1) + 20 ≤ 40 * (r + 1 + 1) := by rw [Nat.mul_succ 40 (r + 1)]; exact Nat.add_le_add_left (by decide) _
theorem four_of {y : Int} (h0 : 0 ≤ y) (h1 : y < 4) : y = 0 ∨ y = 1 ∨ y = 2 ∨ y = 3 := by
  obtain ⟨k, rfl⟩ := Int.eq_ofNat_of_zero_le h0
  have hk : k < 4 := Int.ofNat_lt.mp h1
  exact (by decide : ∀ k : Fin 4, ((k.1 : Nat) : Int) = 0 ∨ ((k.1 : Nat) : Int) = 1 ∨ ((k.1 : Nat) : Int) = 2 ∨ ((k.1 : Nat) : Int) = 3) ⟨k, hk⟩
theorem len_lt_of {α β γ : Type} {a : List α} {b : List β} {p : List γ} {f : γ → Bool} (e1 : a.length = b.length) (e2 : b.length = (p.filter f).length) {n : Nat} (h : p.length ≤ n) : a.length ≤ n := by
  rw [e1, e2]; exact Nat.le_trans (List.length_filter_le ..) h

/-! T1: the machine J: as the kit's calm machine, but a generator may also sleep over another generator -/

noncomputable def nowhere (s : Shared) : Shared := s.withLife fun l => { l with registered := [] }
theorem nowhere_of {s : Shared} (h : s.heap.life.registered = []) : nowhere s = s := by
  obtain ⟨⟨o, l⟩, g, d, t, os⟩ := s
  obtain ⟨r⟩ := l
  simp only at h
  subst h; rfl
/-- does the tree yield, and under a handler of its own -/
noncomputable def yd : Sem PySem.Fin → Option Bool
  | .yield _ g _ _ => some g
  | _ => none
theorem yields_is (t : Thread) : t.yieldsInsideHandler = (yd t.cur).any fun g => g || (splitAtGen t.stack).any fun x => x.1.any Frame.guarded := by
  obtain ⟨cur, code, pos, stack⟩ := t
  unfold Thread.yieldsInsideHandler
  dsimp only
  generalize splitAtGen stack = q
  cases cur <;> first | rfl | (cases q <;> rfl)
noncomputable def showsJ (s : Shared) (t : Thread) : Bool := (yd t.cur).any fun g => (splitAtGen t.stack).any fun x => closingShows (nowhere s) x.1 t.code g
noncomputable def badJ (s : Shared) (t : Thread) : Bool := (t.atCollectorCode && !t.atExit) || showsJ s t

section
variable (den : Code → Sem Fin) (prog : Program) (w : World)

noncomputable def stepJ (s : Shared) (t : Thread) : Step := if badJ s t then .halt (.stuck "proof:bad") s else stepK den prog w s t
noncomputable def runNJ : Nat → Shared → Thread → Run
  | 0, s, t => .running s t
  | n + 1, s, t =>
    match stepJ den prog w s t with
    | .go s' t' => runNJ n s' t'
    | .halt o s' => .halted o s'

/-- a thread that J steps -/
noncomputable def fineJ (s : Shared) (t : Thread) : Bool := !badJ s t && !t.refused

theorem showsJ_forget {s s' : Shared} {t t' : Thread} (hs : s.forget = s'.forget) (ht : t.forget = t'.forget) : showsJ s t = showsJ s' t' := by
  have key : ∀ (s : Shared) (t : Thread), showsJ s.forget t.forget = showsJ s t := fun s t => by
    refine congrArg (fun f => (yd t.cur).any f) (funext fun g => ?_)
    rw [show t.forget.stack = forgetAll t.stack from rfl, splitAtGen_forgetAll]
    cases splitAtGen t.stack with
    | none => rfl
    | some x =>
      show closingShows (nowhere s) (forgetAll x.1) t.code g = closingShows (nowhere s) x.1 t.code g
      unfold closingShows
      rw [any_guarded_forgetAll]
  rw [← key s t, ← key s' t', hs, ht]
theorem badJ_forget {s s' : Shared} {t t' : Thread} (hs : s.forget = s'.forget) (ht : t.forget = t'.forget) : badJ s t = badJ s' t' := by
  have hc : t.cur = t'.cur := by have := congrArg Thread.cur ht; exact this
  unfold badJ
  rw [showsJ_forget hs ht]
  unfold Thread.atCollectorCode Thread.atExit
  rw [hc]
theorem fineJ_forget {s s' : Shared} {t t' : Thread} (hs : s.forget = s'.forget) (ht : t.forget = t'.forget) : fineJ s t = fineJ s' t' := by
  have hc : t.cur = t'.cur := by have := congrArg Thread.cur ht; exact this
  unfold fineJ Thread.refused
  rw [badJ_forget hs ht, hc]

theorem none_ne {α : Type} {a : α} {P : Prop} (h : none = some a) : P := nomatch h
theorem yd_some {c : Sem PySem.Fin} {g : Bool} (h : yd c = some g) : ∃ v l k, c = .yield v g l k := by
  cases c <;> first | exact none_ne h | (obtain rfl := Option.some.inj h; exact ⟨_, _, _, rfl⟩)
section
variable {den : Code → Sem PySem.Fin} {prog : Program} {w : World} {s : Shared} {v : Value} {g : Bool} {l : List Value} {k : Resume → Sem PySem.Fin} {code : Code} {pos : Pos} {stack : List Frame}
theorem pick_yield (h0 : (!s.watching) = true) : (Config.single s ⟨.yield v g l k, code, pos, stack⟩).pick w = .ok (.run 0, .single s ⟨.yield v g l k, code, pos, stack⟩) := by
  have h3 : (Config.single s ⟨.yield v g l k, code, pos, stack⟩).moves w.params.profile = [.run 0] :=
    ite_self (c := Thread.atomic w.params.profile s.heap ⟨.yield v g l k, code, pos, stack⟩ = true) [Move.run 0]
  have h4 : (Config.single s ⟨.yield v g l k, code, pos, stack⟩).pickThread w = .ok (.run 0, .single s ⟨.yield v g l k, code, pos, stack⟩) := by
    unfold Config.pickThread
    rw [h3]
  unfold Config.pick
  rw [show (Config.single s ⟨.yield v g l k, code, pos, stack⟩).collect? w.params = none from if_pos h0, show (Config.single s ⟨.yield v g l k, code, pos, stack⟩).collectable = [] from if_pos h0]
  cases w.params.lifetimes <;> exact h4
theorem life_yield (hsp : Thread.special ⟨.yield v g l k, code, pos, stack⟩ = true) (hc : s.heap.life.counting = false) (hsh : ((splitAtGen stack).any fun x => closingShows s x.1 code g) = false) :
    lifeStep den prog w [] s ⟨.yield v g l k, code, pos, stack⟩ = step den prog w s ⟨.yield v g l k, code, pos, stack⟩ := by
  have hcount : stepCounting den prog w s ⟨.yield v g l k, code, pos, stack⟩ = step den prog w s ⟨.yield v g l k, code, pos, stack⟩ := by
    unfold stepCounting
    rw [hc]; rfl
  refine Eq.trans ?_ hcount
  clear hcount hc
  unfold lifeStep
  rw [if_pos hsp]
  clear hsp
  dsimp -zeta only [collectorTurn?]
  cases hq : splitAtGen stack with
  | none => rfl
  | some x =>
    rw [hq] at hsh
    clear hq
    obtain ⟨fs, y, r⟩ := x
    dsimp -zeta only
    rw [show closingShows s fs code g = false from hsh]
    rfl
theorem run_yield (hsp : Thread.special ⟨.yield v g l k, code, pos, stack⟩ = true) (hl : lifeStep den prog w [] s ⟨.yield v g l k, code, pos, stack⟩ = step den prog w s ⟨.yield v g l k, code, pos, stack⟩) :
    Config.run den prog w (.single s ⟨.yield v g l k, code, pos, stack⟩) 0 = (step den prog w s ⟨.yield v g l k, code, pos, stack⟩).lift := by
  have ho := others_single s ⟨.yield v g l k, code, pos, stack⟩ 0
  show (match (if Thread.special ⟨.yield v g l k, code, pos, stack⟩ = true then Config.others ⟨s, #[.live ⟨.yield v g l k, code, pos, stack⟩], 0⟩ 0 else some []) with
    | none => SStep.halt (.stuck "scheduler: the collector is at work while another thread does not tell what it holds") s
    | some others => match lifeStep den prog w others s ⟨.yield v g l k, code, pos, stack⟩ with
      | .go s' t' => .go ⟨s', #[.live t'], 0⟩
      | .halt o s' => .halt o s') = _
  rw [if_pos hsp, ho]
  dsimp only
  rw [hl]
  cases step den prog w s ⟨.yield v g l k, code, pos, stack⟩ <;> rfl
end
theorem sstep_J (s : Shared) (t : Thread) (h : fineJ s t = true) (hz : s.asleep) :
    sstep den prog w (.single s t) = (step den prog w s t).lift ∨
      step den prog w s t = .halt (.unsupported "lifetime:generator-with-cleanup-left-suspended") s := by
  unfold fineJ badJ at h
  rw [Bool.and_eq_true, Bool.not_eq_true', Bool.not_eq_true', Bool.or_eq_false_iff] at h
  obtain ⟨⟨h1, hsh⟩, h2⟩ := h
  cases hy : t.yieldsInsideHandler with
  | false => exact sstep_single den prog w s t (by rw [Thread.calm_eq]; unfold Thread.loud; rw [hy, h1, h2]; rfl) hz
  | true =>
    refine .inl ?_
    clear h1 h2
    obtain ⟨hr, hc⟩ := hz
    have hsp : t.special = true := by unfold Thread.special; rw [hy, Bool.or_true, Bool.true_or]
    unfold showsJ at hsh
    rw [nowhere_of hr] at hsh
    rw [yields_is] at hy
    cases hg : yd t.cur with
    | none => rw [hg] at hy; exact nomatch hy
    | some g =>
      rw [hg] at hsh
      clear hy
      obtain ⟨cur, code, pos, stack⟩ := t
      obtain ⟨v, l, k, e⟩ := yd_some hg
      clear hg
      dsimp only at e
      subst e
      unfold sstep
      rw [pick_yield (by unfold Shared.watching; rw [hr]; rfl)]
      exact run_yield hsp (life_yield hsp hc hsh)

theorem runNJ_runNK {n : Nat} {s : Shared} {t : Thread} {o : Outcome} {s' : Shared} (h : runNJ den prog w n s t = .halted o s') (ho : o.ends = true) :
    runNK den prog w n s t = .halted o s' ∧ ∀ k s₁ t₁, k < n → runNK den prog w k s t = .running s₁ t₁ → fineJ s₁ t₁ = true := by
  induction n generalizing s t with
  | zero => cases h
  | succ n ih =>
    simp only [runNJ] at h
    cases hb : badJ s t with
    | true =>
      simp only [stepJ, hb, if_true] at h
      injection h with h1 _; subst h1; exact absurd ho (by simp [Outcome.ends])
    | false =>
      have e : stepJ den prog w s t = stepK den prog w s t := by simp [stepJ, hb]
      rw [e] at h
      have hf : fineJ s t = true := by
        unfold fineJ
        rw [hb]
        cases hr : t.refused with
        | false => rfl
        | true =>
          obtain ⟨what, e⟩ := stepK_refused den prog w (s := s) hr
          simp only [e] at h
          injection h with h1 _; subst h1; exact absurd ho (by simp [Outcome.ends])
      cases hs : stepK den prog w s t with
      | go s₂ t₂ =>
        simp only [hs] at h
        obtain ⟨a, b⟩ := ih h
        refine ⟨by simp only [runNK, hs]; exact a, fun k s₁ t₁ hk hr => ?_⟩
        cases k with
        | zero => injection hr with e1 e2; subst e1 e2; exact hf
        | succ k => simp only [runNK, hs] at hr; exact b k s₁ t₁ (Nat.lt_of_succ_lt_succ hk) hr
      | halt o₂ s₂ =>
        simp only [hs] at h
        refine ⟨by simp only [runNK, hs]; exact h, fun k s₁ t₁ hk hr => ?_⟩
        cases k with
        | zero => injection hr with e1 e2; subst e1 e2; exact hf
        | succ k => simp only [runNK, hs] at hr; cases hr

theorem runNJ_full {n : Nat} {s : Shared} {t : Thread} {o : Outcome} {s' : Shared} (h : runNJ den prog w n s t = .halted o s') (ho : o.ends = true) (hz : s.asleep) :
    ∃ s'', schedN den prog w n (.single s t) = .halted o s'' ∧ runN den prog w n s t = .halted o s'' ∧ s''.forget = s'.forget := by
  obtain ⟨hk, hc⟩ := runNJ_runNK den prog w h ho
  obtain ⟨s'', hn, hf⟩ := runNK_halted den prog w hk
  have hreal : ∀ k s₁ t₁, k < n → runN den prog w k s t = .running s₁ t₁ → fineJ s₁ t₁ = true := by
    intro k s₁ t₁ hkn hr
    have e := runNK_same den prog w k (s₁ := s) (s₂ := s) (t₁ := t) (t₂ := t) rfl rfl
    rw [hr] at e
    cases hr2 : runNK den prog w k s t with
    | halted o₂ s₂ => rw [hr2] at e; cases e
    | running s₂ t₂ =>
      rw [hr2] at e; simp only [Run.forget] at e; injection e with e1 e2
      rw [← fineJ_forget e1 e2]; exact hc k s₂ t₂ hkn hr2
  have hno : ∀ k s₁ t₁, runN den prog w k s t = .running s₁ t₁ → step den prog w s₁ t₁ ≠ .halt (.unsupported "lifetime:generator-with-cleanup-left-suspended") s₁ := by
    intro k s₁ t₁ hr hst
    have : runN den prog w (k + 1) s t = .halted (.unsupported "lifetime:generator-with-cleanup-left-suspended") s₁ := by
      clear hn hf hreal hk hc h
      induction k generalizing s t with
      | zero => injection hr with e1 e2; subst e1 e2; simp only [runN, hst]
      | succ k ih =>
        simp only [runN] at hr
        rw [runN]
        cases hs : step den prog w s t with
        | go s₂ t₂ => simp only [hs] at hr ⊢; exact ih (Shared.asleep_of_life (step_life den prog w s s₂ t t₂ hs) hz) hr
        | halt o₂ s₂ => simp only [hs] at hr; cases hr
    have a := runN_mono den prog w n (k + 1) s t o s'' hn
    have b := runN_mono den prog w (k + 1) n s t _ s₁ this
    rw [Nat.add_comm, b] at a
    injection a with a1 _
    subst a1; exact absurd ho (by simp [Outcome.ends])
  refine ⟨s'', ?_, hn, hf⟩
  clear hk hc h hf
  induction n generalizing s t with
  | zero => cases hn
  | succ n ih =>
    have e := (sstep_J den prog w s t (hreal 0 s t (Nat.succ_pos n) rfl) hz).resolve_right (hno 0 s t rfl)
    simp only [schedN, e]
    simp only [runN] at hn
    cases hs : step den prog w s t with
    | go s₂ t₂ =>
      simp only [hs] at hn
      exact ih (s := s₂) (t := t₂) (Shared.asleep_of_life (step_life den prog w s s₂ t t₂ hs) hz) hn
        (fun k s₁ t₁ hk hr => hreal (k + 1) s₁ t₁ (Nat.succ_lt_succ hk) (by simp only [runN, hs]; exact hr))
        (fun k s₁ t₁ hr => hno (k + 1) s₁ t₁ (by simp only [runN, hs]; exact hr))
    | halt o₂ s₂ =>
      simp only [hs] at hn
      simp only [Step.lift]
      injection hn with h1 h2
      subst h1 h2; rfl
end

/-! the runs that end well, backward -/

variable {M : Model}
noncomputable def Wins (M : Model) (P : Result → Shared → Prop) (s : Shared) (t : Thread) : Prop := ∃ n r s', runNJ M.den M.prog M.w n s t = .halted (outcomeOf r) s' ∧ P r s'

theorem Wins.step {P : Result → Shared → Prop} {s s' : Shared} {t t' : Thread} (h : stepJ M.den M.prog M.w s t = .go s' t') (x : Wins M P s' t') : Wins M P s t := by
  obtain ⟨n, r, s₂, hn, hP⟩ := x
  exact ⟨n + 1, r, s₂, by simp only [runNJ, h]; exact hn, hP⟩

theorem stepJ_of_quiet {s : Shared} {t : Thread} (hl : t.loud = false) : stepJ M.den M.prog M.w s t = M.step s t := by
  rw [M.step_quiet hl]
  unfold Thread.loud at hl
  obtain ⟨h1, h2⟩ := Bool.or_eq_false_iff.mp hl
  have hb : badJ s t = false := by
    unfold badJ showsJ
    rw [h1, Bool.false_or]
    rw [yields_is] at h2
    cases hy : yd t.cur with
    | none => rfl
    | some g =>
      rw [hy] at h2
      obtain ⟨rfl, h2⟩ := Bool.or_eq_false_iff.mp h2
      cases hq : splitAtGen t.stack with
      | none => rfl
      | some x =>
        rw [hq] at h2
        show (x.1.any Frame.guarded || (false && _)) = false
        rw [Bool.false_and, Bool.or_false]; exact h2
  rw [stepJ, if_neg (by rw [hb]; exact Bool.false_ne_true)]
theorem stepJ_of_I {s s' : Shared} {t t' : Thread} (h : M.step s t = .go s' t') : stepJ M.den M.prog M.w s t = .go s' t' := by
  cases hl : t.loud with
  | true => rw [M.step_loud hl] at h; cases h
  | false => rw [stepJ_of_quiet hl]; exact h
theorem Wins.stepI {P : Result → Shared → Prop} {s s' : Shared} {t t' : Thread} (h : M.step s t = .go s' t') (x : Wins M P s' t') : Wins M P s t := x.step (stepJ_of_I h)

theorem Wins.reach {P : Result → Shared → Prop} {base : List Frame} {s t c p pre s' e} (h : Reach M base s t c p pre s' e)
    (k : ∀ t' c' p' pre', Exits e t' c' p' pre' → Wins M P s' ⟨t', c', p', pre' ++ base⟩) : Wins M P s ⟨t, c, p, pre ++ base⟩ := by
  induction h with
  | exit hx => exact k _ _ _ _ hx
  | step hs _ ih => exact (ih k).stepI hs

theorem Wins.end_ {P : Result → Shared → Prop} {r : Result} {s : Shared} {c : Code} {p : Pos} (hP : P r s) (hg : leftWithCleanup s.gens = false) : Wins M P s ⟨leafOf r, c, p, []⟩ := by
  refine ⟨1, r, s, ?_, hP⟩
  have e : stepJ M.den M.prog M.w s ⟨leafOf r, c, p, []⟩ = .halt (outcomeOf r) s := by
    rw [stepJ_of_quiet (by cases r <;> rfl), step_leaf_nil]
    simp only [finish, hg, Bool.false_eq_true, if_false]
  simp only [runNJ, e]

theorem wins_ends {P : Result → Shared → Prop} {s : Shared} {t : Thread} (hz : s.asleep) (x : Wins M P s t) :
    ∃ n r s' s'', runN M.den M.prog M.w n s t = .halted (outcomeOf r) s' ∧ schedN M.den M.prog M.w n (.single s t) = .halted (outcomeOf r) s' ∧ s'.forget = s''.forget ∧ P r s'' := by
  obtain ⟨n, r, s₁, hn, hP⟩ := x
  obtain ⟨s₂, hs, hr, hf⟩ := runNJ_full M.den M.prog M.w hn (outcomeOf_ends r) hz
  exact ⟨n, r, s₂, s₁, hr, hs, hf, hP⟩
end Mine
end
section
open PySem PySem.W PyProof.Rows
set_option Elab.async false
namespace Mine
variable {M : Model} {P : Result → Shared → Prop}

theorem Wins.wp {α : Type} {c : Code} {base : List Frame} (K : α → Sem PySem.Fin) (H : Value → Sem PySem.Fin) (gd : Bool → Bool) (lv : List Value → List Value) (m : Sem α) :
    ∀ {Q : α → Pos → Shared → Prop} {E : Value → Pos → Shared → Prop} {p : Pos} {s : Shared}, Sem.wp M (Ctx.of c base) m Q E p s →
      (∀ a p' s', Q a p' s' → Wins M P s' ⟨K a, c, p', base⟩) → (∀ x p' s', E x p' s' → Wins M P s' ⟨H x, c, p', base⟩) →
      Wins M P s ⟨m.wrap K H gd lv, c, p, base⟩ := by
  induction m with
  | pure a => intro Q E p s h hQ _; exact hQ a p s h
  | raise x => intro Q E p s h _ hE; exact hE x p s h
  | unsupported what => intro Q E p s h; exact h.elim
  | finish x => intro Q E p s h; exact h.elim
  | register a k => intro Q E p s h; exact h.elim
  | yield v g l k => intro Q E p s h; exact h.elim
  | fork c k => intro Q E p s h; exact h.elim
  | await a f d l k => intro Q E p s h; exact h.elim
  | rule tag k ih => intro Q E p s h hQ hE; exact (ih () h hQ hE).stepI (step_rule ..)
  | «at» p' k ih => intro Q E p s h hQ hE; exact (ih () h hQ hE).stepI (step_at ..)
  | load a part k ih => intro Q E p s h hQ hE; obtain ⟨o, ho, h⟩ := h; exact (ih o h hQ hE).stepI (step_load _ _ _ _ _ _ _ ho)
  | update a part f k ih => intro Q E p s h hQ hE; obtain ⟨ha, h⟩ := h; exact (ih () h hQ hE).stepI (step_update _ _ _ _ _ _ _ _ ha)
  | alloc o k ih => intro Q E p s h hQ hE; exact (ih _ h hQ hE).stepI (step_alloc ..)
  | loadIfAlive a k ih => intro Q E p s h hQ hE; exact (ih _ h hQ hE).stepI (step_loadIfAlive ..)
  | point l k ih => intro Q E p s h hQ hE; exact (ih _ h hQ hE).stepI (step_point ..)
  | fresh k ih => intro Q E p s h hQ hE; exact (ih _ h hQ hE).stepI (step_fresh ..)
  | ask k ih => intro Q E p s h hQ hE; exact (ih _ h hQ hE).stepI (step_ask ..)
  | choose src n k ih => intro Q E p s h hQ hE; obtain ⟨hn, h⟩ := h; exact (ih _ h hQ hE).stepI (step_choose _ _ _ _ _ _ _ hn)
  | os q l k ih => intro Q E p s h hQ hE; exact (ih _ h hQ hE).stepI (step_os ..)
  | handled own k ih =>
    intro Q E p s h hQ hE
    refine (ih _ h hQ hE).stepI ?_
    show M.step s ⟨.handled own _, c, p, base⟩ = _
    rw [step_handled]; cases own <;> rfl
  | newGen c' k ih => intro Q E p s h hQ hE; exact (ih _ h hQ hE).stepI (step_newGen ..)
  | genState g k ih => intro Q E p s h hQ hE; obtain ⟨st, hg, h⟩ := h; exact (ih _ h hQ hE).stepI (step_genState _ _ _ _ _ _ hg)
  | stack k ih => intro Q E p s h hQ hE; exact (ih _ h hQ hE).stepI (step_stack ..)
  | thread k ih => intro Q E p s h hQ hE; exact (ih _ h hQ hE).stepI (step_thread ..)
  | call c' h g l k ih =>
    intro Q E p s hw hQ hE
    obtain ⟨r, s₁, hret, hw⟩ := hw
    refine Wins.stepI (step_call ..) ?_
    have hr := runs_reach hret (.ret (fun x => (k x).wrap K H gd lv) h (gd g) (lv l) c p [] :: base) ((Ctx.fits_of c base).enter c' _ h (gd g) (lv l) p [])
    refine Wins.reach (pre := []) hr ?_
    rintro _ _ _ _ ⟨rfl, rfl⟩
    exact (ih r hw hQ hE).stepI (step_leaf_ret ..)
  | resume g r l k ih =>
    intro Q E p s hw hQ hE
    obtain ⟨res, s₁, hwk, hw⟩ := hw
    have go := ih res hw hQ hE
    unfold Wakes at hwk
    cases hg : s.gens[g]? with
    | none => rw [hg] at hwk; exact hwk.elim
    | some gs =>
      rw [hg] at hwk
      cases gs with
      | fresh c₀ =>
        cases r with
        | send v =>
          by_cases hv : v = .none
          · subst hv
            obtain ⟨e₁, s₂, h₁, hq, rfl, rfl⟩ := hwk
            refine Wins.stepI (step_resume_fresh _ _ _ _ _ _ _ hg) ?_
            have hr := runs_reach h₁ (.gen g (fun x => (k x).wrap K H gd lv) (lv l) c p :: base) ((Ctx.fits_of c base).wake c₀ g _ (lv l) p)
            refine Wins.reach (pre := []) hr ?_
            intro t' c' p' pre' hx
            exact go.stepI (step_exit_gen _ _ _ _ _ _ _ hx hq)
          · have : res = .justStarted ∧ s₁ = s := by cases v <;> first | exact absurd rfl hv | exact hwk
            obtain ⟨rfl, rfl⟩ := this
            exact go.stepI (step_resume_justStarted _ _ _ _ _ _ _ hg hv)
        | throw x => obtain ⟨rfl, rfl⟩ := hwk; exact go.stepI (step_resume_throwFresh _ _ _ _ _ _ _ _ hg)
      | suspended k₀ l₀ c₀ p₀ fs cl =>
        obtain ⟨e₁, s₂, h₁, hq, rfl, rfl⟩ := hwk
        refine Wins.stepI (step_resume_suspended _ _ _ _ _ _ _ _ hg) ?_
        have hr := runs_reach h₁ (.gen g (fun x => (k x).wrap K H gd lv) (lv l) c p :: base) ((Ctx.fits_of c base).wake c₀ g _ (lv l) p)
        refine Wins.reach hr ?_
        intro t' c' p' pre' hx
        exact go.stepI (step_exit_gen _ _ _ _ _ _ _ hx hq)
      | running => obtain ⟨rfl, rfl⟩ := hwk; exact go.stepI (step_resume_running _ _ _ _ _ _ _ _ hg)
      | finished => obtain ⟨rfl, rfl⟩ := hwk; exact go.stepI (step_resume_finished _ _ _ _ _ _ _ _ hg)

/-- a code at work over a stack, seen by the kit's rules as A -/
noncomputable def On (A : Around) (c : Code) (st : List Frame) : Prop := (Ctx.of c st).In A

theorem Wins.any {α : Type} {A : Around} {c : Code} {st : List Frame} {K : α → Sem PySem.Fin} {H : Value → Sem PySem.Fin} {gd : Bool → Bool} {lv : List Value → List Value} {m : Sem α} {p : Pos} {s : Shared}
    (hA : On A c st) (h : wpAny M A m (fun a s' => ∀ p', Wins M P s' ⟨K a, c, p', st⟩) (fun x s' => ∀ p', Wins M P s' ⟨H x, c, p', st⟩) s) : Wins M P s ⟨m.wrap K H gd lv, c, p, st⟩ :=
  Wins.wp K H gd lv m (h (Ctx.of c st) p hA) (fun _ p' _ x => x p') fun _ p' _ x => x p'

theorem On.call {A : Around} {c c' : Code} {st : List Frame} (h : On A c st) (k : Result → Sem PySem.Fin) (g : Bool) (l : List Value) (p : Pos) : On (A.under c') c' (.ret k none g l c p [] :: st) := by
  have e : Ctx.of c' (.ret k none g l c p [] :: st) = (Ctx.of c st).enter c' none p := by
    have := Ctx.of_append c' [.ret k none g l c p []] st
    rw [List.singleton_append] at this
    rw [this]
    exact (Ctx.over_ret (Ctx.of c st) c' k none g l c p [] []).trans rfl
  unfold On
  rw [e]
  have := (Ctx.In.enter h c' none p (by intro x; cases x)).in
  exact this
theorem On.again {A : Around} {c : Code} {st : List Frame} (h : (Ctx.of c st).Below A) (c' : Code) : On (A.under c') c' st := (h.goto c').in

end Mine
end
section
open PySem PySem.W PySem.Calls PySem.Spec PyProof.Rows
set_option Elab.async false
namespace Mine

theorem hideGoal {P : Prop} (H : ∀ G : Prop, (P → G) → G) : P := H P id

theorem callFromJ {c : ClaimW} {tree : List Value → Sem PySem.Fin} {w : World} {s : Shared} {free : Addr → Prop} {gens : Prop} {kept : Heap → Prop} (hz : s.asleep) (hgens : s.gens = #[])
    (hspec : ∀ args, c.pre args = true → WData.layableAll args = true →
      ∀ ord : List DictEntry → List DictEntry, (∀ l, (ord l).Perm l) →
      ∃ vs s₁, layAllW c.records (classAt s.heap) w.params ord args s = some (vs, s₁) ∧
        Wins (model c.prog w) (fun r s' => c.Ends s args vs s₁ r s' ∧ s'.os = s.os ∧ kept s'.heap) s₁ ⟨tree vs, .builtin "claim.caller" {}, default, []⟩) :
    c.CallFrom (fun vs => ⟨tree vs, .builtin "claim.caller" {}, default, []⟩) w free gens kept s := by
  intro args hpre hlay ord hord
  refine hideGoal fun G toG => ?_
  obtain ⟨vs, s₁, hlaid, hcode⟩ := hspec args hpre hlay ord hord
  have hal := layAllW_rest _ _ _ hlaid
  obtain ⟨k, r, s', s'', hrun, hsched, hfo, hcase, hos, hkp⟩ := wins_ends (M := model c.prog w) (Shared.asleep_of_life hal.2.2.2 hz) hcode
  obtain ⟨eh, _, _, eo, _⟩ := Shared.forget_eq hfo
  have hcase := hcase.congr eh
  have hkp : kept s'.heap := by rw [eh]; exact hkp
  rw [← eo] at hos
  have hlife : s'.heap.life = s.heap.life := (runN_life _ _ _ hrun).trans hal.2.2.2
  refine toG ⟨vs, s₁, hlaid, k, _, s', hsched, hcase.imp (fun h => h.imp fun v h => ⟨?_, h.2.1, h.2.2.1, h.2.2.2.1, fun b o y _ => h.2.2.2.2.1 b o y, h.2.2.2.2.2⟩) (fun h => h.imp fun e h => h.imp fun ob h => h.imp fun cls h => ⟨?_, h.2.1, h.2.2.1, h.2.2.2.1, h.2.2.2.2.1, fun b o y _ => h.2.2.2.2.2 b o y⟩), (fun _ i x hx => by rw [hgens] at hx; simp at hx), hkp, by rw [hlife], Shared.rest_eq hos⟩
  · rw [h.1]; rfl
  · rw [h.1]; rfl

noncomputable abbrev callThread (f : Value) (vs : List Value) : Thread := ⟨PySem.call f vs >>= fun v => ret v, .builtin "claim.caller" {}, default, []⟩

noncomputable abbrev WalkJ (q : Program) (loose : List Str) (XP : (Str → Option Value) → Heap → Prop) (YP : World → Heap → Prop) (r : RowW) (d : DefRec) (kwd : List (Str × Expr)) : Prop :=
  ∀ (w : World) (s₀ s₁ : Shared) (mg mb : Str → Option Value), Ground q loose r.records XP w s₀ mg mb s₁.heap → YP w s₁.heap → ∀ (a : Addr) (o : Obj) (pm cd doc dV kV : Value), s₁.heap.get? a = some o →
    o.data = .func { docDef d.name d.params d.body d.scope pm cd doc with defaults := dV, kwdefaults := kV } → s₁.heap.CodeRec cd d.name → Dflts mg s₁.heap d.params kwd dV kV → mg d.name = some (.ref a) → s₁.gens = #[] →
    ∀ (args : List WData) (vals : List Value) (as : List Addr), r.claim.pre args = true → WData.layableAll args = true → ReadsAllW r.records (classAt s₀.heap) s₁.heap vals args as → WellAll w.params s₁.heap vals args → (∀ a ∈ as, (a == sysModules) = false) →
      ∀ p, Wins (model r.prog w) (fun r' s' => GoodWG r.claim (classAt s₀.heap) (ExcName.means s₀.heap) args s₁ r' s') s₁ { callThread (.ref a) vals with pos := p }

theorem onCaller : On callerA (.builtin "claim.caller" {}) [] := caller_in

theorem PySem.W.holds_open {r : OpenRow} {q : Program} {loose : List Str} {Xt : Shared → Bool} {XP : (Str → Option Value) → Heap → Prop} {α : Type} {Yf : Shared → α} {Ya : World → α} {YP : World → Heap → Prop} {d : DefRec} {kwd : List (Str × Expr)} {N : Nat}
    (left : LeftO r.prog q loose Xt Yf Ya N) (hY : ∀ w s, Yf s = Ya w → YP w s.heap) (hYk : ∀ w h h', YP w h → (∀ b o, h.get? b = some o → h'.get? b = some o) → YP w h')
    (hX : ∀ s, Xt s = true → XP (s.heap.nsMap mainGlobals) s.heap) (hXk : ∀ mg h h', XP mg h → (∀ b o, h.get? b = some o → h'.get? b = some o) → XP mg h')
    (hdef : defOf q r.name = some (d, kwd)) (hp : r.prog.theDef r.name = some (d.params, d.body, d.scope)) (hk : kwWritten? d.params.kwonlyargs d.params.kw_defaults = some kwd) (hRf : ∀ s, Xt s = true → RecFacts r.records s.heap) (hwr : (!r.writes || r.records.isEmpty) = true)
    (k1 : r.wellSaid = true) (ok : (chainsOk q && opensWell r.prog && (frees r.toRowW && r.within.isEmpty)) = true) (hb : r.prog.bare) (hw : r.toRowW.promised)
    (call : WalkJ q loose XP YP r.toRowW d kwd) : r.Holds := by
  refine ⟨k1, hw, ?_⟩
  show r.toRowW.claim.HoldsOpenBy (fun vs => ⟨(do match ← nsGet mainNs r.name with
      | some f => do ret (← PySem.call f vs)
      | none => unsupported "claim.caller:no-such-global" : Sem PySem.Fin), .builtin "claim.caller" {}, default, []⟩) (if r.pinned then [r.name] else []) r.keeps r.writes
  obtain ⟨ok, k5⟩ := Bool.and_eq_true_iff.mp ok
  obtain ⟨hch, o1⟩ := Bool.and_eq_true_iff.mp ok
  obtain ⟨k5, k6⟩ := Bool.and_eq_true_iff.mp k5
  obtain ⟨hsame, hu, ha, hap, hm⟩ := frees_parts k5
  refine ⟨⟨hb, o1, by show r.makers.map _ = []; rw [hm]; rfl⟩, hw.witness, fun w => ⟨(left.behind hX hch w).1, fun s' hs' => ?_⟩⟩
  refine hideGoal fun GG toGG => ?_
  obtain ⟨s₀, hf, hg0, s, hT, hz, hgens, hg, G00, y⟩ := (left.behind (XP := fun mg h => XP mg h ∧ RecFacts r.records h) (fun s hs => ⟨hX s hs, hRf s hs⟩) hch w).2 s' hs'
  refine toGG ?_
  have G0 : Ground q loose [] XP w s (s.heap.nsMap mainGlobals) (s.heap.nsMap builtinsNs) s.heap := ⟨G00.T, G00.B, G00.D, G00.TE, G00.TD, G00.W, G00.X.1, G00.cls, G00.has, G00.apart, G00.once, G00.K⟩
  have RF := G00.X.2
  have hT' := hT
  refine ⟨s₀, hf, hg0, s, hT, fun n hn => ?_, RF.1, RF.2.1, ?_⟩
  · obtain rfl : n = r.name := by split at hn <;> simp_all
    exact pinned_of_view hg G0 hdef hp hk
  have hgens : s.gens = #[] := Array.eq_empty_of_size_eq_zero (beq_iff_eq.mp hgens)
  have G : Ground q loose r.records XP w s _ _ s.heap := RF.ground G0
  refine callFromJ (c := r.claim) hz hgens fun args hpre hlay ord hord => ?_
  refine hideGoal fun G2 toG2 => ?_
  obtain ⟨⟨vs, s₁⟩, hlaid⟩ := Option.isSome_iff_exists.mp (layAllW_isSome (P := w.params) (ord := ord) G.has args r.args s (pre_splitW hpre).1)
  have keeps := layAllW_keeps _ _ _ hlaid
  have hal := layAllW_rest _ _ _ hlaid
  obtain ⟨as, hrd, hin, hold⟩ := reads_layAllW hord _ _ _ hlaid hlay s₁.heap (fun _ _ e => e)
  have L : Laid r.records w s s₁ args vs as := ⟨⟨ord, hord, hlaid⟩, hrd, hin, hold, keeps, hal.1.trans hgens, hal.2.2.1⟩
  have G₁ := G.keeps hXk keeps
  obtain ⟨a, o, pm, cd, doc, dV, kV, h1, h2, h3, h4, h5⟩ := G₁.fn hdef
  have walk := call w s s₁ _ _ G₁ (hYk _ _ _ (hY w s y) keeps) a o pm cd doc dV kV h2 h3 h4 h5 (defOf_name hdef ▸ h1) L.gens args vs as hpre hlay L.reads L.well (L.low G.low)
  have hi := ident_freeW hu ha hap
  have hwi : r.claim.within = [] := List.isEmpty_iff.mp k6
  refine toG2 ⟨vs, s₁, hlaid, ?_⟩
  have key : ∀ p, Wins (model r.prog w) (fun r' s' => r.claim.Ends s args vs s₁ r' s' ∧ s'.os = s.os ∧ (r.writes = true → namesKept r.claim.prog r.keeps s.heap s'.heap ∧ ∀ x ∈ r.claim.records, ∀ a, classAt s.heap x.1 = some a → recordClass s'.heap a x.1 (x.2.map (·.1)) = true)) s₁ { callThread (.ref a) vs with pos := p } := by
    intro p
    obtain ⟨n, r', s', hn, g⟩ := walk p
    have z := g.laid (c := r.claim) hsame hwi hi L
    exact ⟨n, r', s', hn, z.1, z.2.1, fun q => ⟨namesKept_of hT' hg _ keeps g.2.1.old, noTable hwr q⟩⟩
  show Wins _ _ s₁ ⟨(nsGet mainNs r.name).bind _, _, _, _⟩
  rw [Sem.bind_eq_wrap]
  refine Wins.any onCaller (wpAny_nsGet G₁.T.g ?_)
  rw [h1]
  exact key
end Mine
end
section
open PySem PySem.W PySem.Calls PySem.Spec PyProof.Rows
set_option Elab.async false
namespace Mine
variable {α β : Type} {M : Model} {A : Around} {E : Value → Shared → Prop} {s : Shared}

/-- as wpAny, over the machine J -/
noncomputable def wpJ {α : Type} (M : Model) (A : Around) (m : Sem α) (Q : α → Shared → Prop) (E : Value → Shared → Prop) (s : Shared) : Prop :=
  ∀ (P : Result → Shared → Prop) (c : Code) (st : List Frame) (K : α → Sem PySem.Fin) (H : Value → Sem PySem.Fin) (gd : Bool → Bool) (lv : List Value → List Value) (p : Pos), On A c st →
    (∀ a s' p', Q a s' → Wins M P s' ⟨K a, c, p', st⟩) → (∀ x s' p', E x s' → Wins M P s' ⟨H x, c, p', st⟩) → Wins M P s ⟨m.wrap K H gd lv, c, p, st⟩
noncomputable def codeJ (M : Model) (A : Around) (c : Code) (R : Result → Shared → Prop) (s : Shared) : Prop :=
  ∀ (P : Result → Shared → Prop) (st : List Frame) (p : Pos), (Ctx.of c st).Below A → (∀ r s' c' p', R r s' → Wins M P s' ⟨leafOf r, c', p', st⟩) → Wins M P s ⟨M.den c, c, p, st⟩

theorem wpJ_any {m : Sem α} {Q : α → Shared → Prop} (h : wpAny M A m Q E s) : wpJ M A m Q E s :=
  fun _ _ _ _ _ _ _ p hA hQ hE => Wins.wp _ _ _ _ m (h _ p hA) (fun a p' s' x => hQ a s' p' x) fun x p' s' y => hE x s' p' y
theorem wpJ_pure {a : α} {Q : α → Shared → Prop} (h : Q a s) : wpJ M A (pure a) Q E s := fun _ _ _ _ _ _ _ p _ hQ _ => hQ a s p h
theorem wpJ_mono {m : Sem α} {Q Q' : α → Shared → Prop} {E' : Value → Shared → Prop} (h : wpJ M A m Q E s) (hQ : ∀ a s, Q a s → Q' a s) (hE : ∀ e s, E e s → E' e s) : wpJ M A m Q' E' s :=
  fun P c st K H gd lv p hA kQ kE => h P c st K H gd lv p hA (fun a s' p' x => kQ a s' p' (hQ a s' x)) fun x s' p' y => kE x s' p' (hE x s' y)
theorem wpJ_bind {m : Sem α} {f : α → Sem β} {Q : β → Shared → Prop} (h : wpJ M A m (fun a s' => wpJ M A (f a) Q E s') E s) : wpJ M A (m >>= f) Q E s := by
  intro P c st K H gd lv p hA hQ hE
  rw [Sem.bind_eq_wrap', Sem.wrap_wrap]
  exact h P c st _ _ _ _ p hA (fun a s' p' x => x P c st K H gd lv p' hA hQ hE) hE
theorem wpJ_map {m : Sem α} {f : α → β} {Q : β → Shared → Prop} (h : wpJ M A m (fun a s' => Q (f a) s') E s) : wpJ M A (f <$> m) Q E s :=
  wpJ_bind (m := m) (f := fun a => pure (f a)) (wpJ_mono h (fun _ _ x => wpJ_pure x) fun _ _ x => x)
theorem wpJ_tryCatch {m : Sem α} {k : Value → Sem α} {Q : α → Shared → Prop} (h : wpJ M A m Q (fun e s' => wpJ M A (k e) Q E s') s) : wpJ M A (tryCatch m k) Q E s := by
  intro P c st K H gd lv p hA hQ hE
  show Wins M P s ⟨(Sem.tryCatch m k).wrap K H gd lv, c, p, st⟩
  rw [Sem.tryCatch_eq_wrap, Sem.wrap_wrap]
  exact h P c st _ _ _ _ p hA hQ fun x s' p' y => y P c st K H gd lv p' hA hQ hE
theorem wpJ_onRaise {m : Sem α} {k : Value → Sem Unit} {Q : α → Shared → Prop} (h : wpJ M A m Q (fun e s' => wpJ M A (k e) (fun _ s'' => E e s'') E s') s) : wpJ M A (m.onRaise k) Q E s := by
  intro P c st K H gd lv p hA hQ hE
  rw [Sem.onRaise_eq_wrap, Sem.wrap_wrap]
  refine h P c st _ _ _ _ p hA hQ fun x s' p' y => ?_
  rw [Sem.bind_eq_wrap, Sem.wrap_wrap]
  exact y P c st _ _ _ _ p' hA (fun _ s'' p'' z => hE x s'' p'' z) hE
theorem wpJ_attempt {m : Sem α} {Q : Except Value α → Shared → Prop} (h : wpJ M A m (fun a => Q (.ok a)) (fun e => Q (.error e)) s) : wpJ M A m.attempt Q E s := by
  unfold Sem.attempt
  refine wpJ_tryCatch (wpJ_bind (wpJ_mono h (fun a s' x => wpJ_pure x) fun e s' x => wpJ_pure x))
theorem wpJ_keep {vs : List Value} {m : Sem α} {Q : α → Shared → Prop} (h : wpJ M A m Q E s) : wpJ M A (m.keep vs) Q E s := by
  intro P c st K H gd lv p hA hQ hE
  rw [Sem.keep_eq_wrap, Sem.wrap_wrap]
  exact h P c st _ _ _ _ p hA hQ hE
theorem wpJ_holding {vs : List Value} {m : Sem α} {Q : α → Shared → Prop} (h : wpJ M A m Q E s) : wpJ M A (holding vs m) Q E s := by
  unfold holding
  split
  · exact h
  · exact wpJ_keep h
theorem wpJ_ite {c : Prop} [Decidable c] {a b : Sem α} {Q : α → Shared → Prop} (h : if c then wpJ M A a Q E s else wpJ M A b Q E s) : wpJ M A (if c then a else b) Q E s := by split <;> simp_all
theorem wpJ_throw {e : Value} {Q : α → Shared → Prop} (h : E e s) : wpJ M A (throw e : Sem α) Q E s := fun _ _ _ _ _ _ _ p _ _ hE => hE e s p h

theorem wrap_id (m : Sem α) : m.wrap .pure .raise id id = m := by
  induction m <;> simp only [Sem.wrap, id, *]
theorem wins_of_wpJ {c : Code} {st : List Frame} {P : Result → Shared → Prop} {m : Sem PySem.Fin} {Q : PySem.Fin → Shared → Prop} {p : Pos} (hA : On A c st) (h : wpJ M A m Q E s)
    (hQ : ∀ a s' p', Q a s' → Wins M P s' ⟨.pure a, c, p', st⟩) (hE : ∀ x s' p', E x s' → Wins M P s' ⟨.raise x, c, p', st⟩) : Wins M P s ⟨m, c, p, st⟩ := by
  have := h P c st .pure .raise id id p hA hQ hE
  rwa [wrap_id] at this

theorem codeJ_of_tree {c : Code} {R : Result → Shared → Prop}
    (h : wpJ M (A.under c) (M.den c) (fun fin s' => match fin with | .done f => R (.ok f) s' | .again c' => c'.quiet = true ∧ codeJ M A c' R s') (fun e s' => R (.error e) s') s) : codeJ M A c R s := by
  intro P st p hB hR
  refine wins_of_wpJ hB.in h (fun fin s' p' x => ?_) fun e s' p' x => hR (.error e) s' c p' x
  cases fin with
  | done f => exact hR (.ok f) s' c p' x
  | again c' => exact (x.2 P st p' (hB.goto c') hR).stepI (step_again _ _ _ _ _ _ x.1)
theorem codeJ_any {c : Code} {R : Result → Shared → Prop} (h : codeAny M A c R s) : codeJ M A c R s := by
  intro P st p hB hR
  obtain ⟨r, s', hr, hR'⟩ := h (Ctx.of c st) p rfl hB
  refine Wins.reach (pre := []) (runs_reach hr st (Ctx.fits_of c st)) ?_
  rintro t' c' p' pre' ⟨rfl, rfl⟩
  exact hR r s' c' p' hR'
theorem codeJ_mono {c : Code} {R R' : Result → Shared → Prop} (h : codeJ M A c R s) (hR : ∀ r s, R r s → R' r s) : codeJ M A c R' s :=
  fun P st p hB k => h P st p hB fun r s' c' p' x => k r s' c' p' (hR r s' x)

theorem wpJ_run {c : Code} {Q : Flow → Shared → Prop} (hc : codeJ M A c (fun r s' => match r with | .ok f => Q f s' | .error e => E e s') s) : wpJ M A (run c) Q E s := by
  intro P c₀ st K H gd lv p hA hQ hE
  refine Wins.stepI (step_call ..) ?_
  have hB : (Ctx.of c (.ret (fun x => (match x with | .ok f => (Sem.pure f : Sem Flow) | .error e => .raise e).wrap K H gd lv) none (gd false) (lv []) c₀ p [] :: st)).Below A := by
    have e : Ctx.of c (.ret (fun x => (match x with | .ok f => (Sem.pure f : Sem Flow) | .error e => .raise e).wrap K H gd lv) none (gd false) (lv []) c₀ p [] :: st) = (Ctx.of c₀ st).enter c none p := by
      have := Ctx.of_append c [.ret (fun x => (match x with | .ok f => (Sem.pure f : Sem Flow) | .error e => .raise e).wrap K H gd lv) none (gd false) (lv []) c₀ p []] st
      rw [List.singleton_append] at this
      rw [this]
      exact (Ctx.over_ret (Ctx.of c₀ st) c _ _ _ _ c₀ p [] []).trans rfl
    rw [e]
    exact Ctx.In.enter hA c none p (by intro x; cases x)
  refine hc P _ p hB fun r s' c' p' x => ?_
  refine Wins.stepI (step_leaf_ret ..) ?_
  cases r with
  | ok f => exact hQ f s' p x
  | error e => exact hE e s' p x
theorem wpJ_runValue {c : Code} {Q : Value → Shared → Prop} (hc : codeJ M A c (fun r s' => match r with | .ok (.ret v) => Q v s' | .ok _ => False | .error e => E e s') s) : wpJ M A (runValue c) Q E s := by
  unfold runValue
  refine wpJ_bind (wpJ_run (codeJ_mono hc fun r s' x => ?_))
  cases r with
  | error e => exact x
  | ok f => cases f <;> first | exact wpJ_pure x | exact x.elim
theorem wpJ_call {f : Value} {pos : List Value} {kw : List (Str × Value)} {Q : Value → Shared → Prop}
    (hc : codeJ M A (.call f ⟨pos, kw⟩) (fun r s' => match r with | .ok (.ret v) => Q v s' | .ok _ => False | .error e => E e s') s) : wpJ M A (call f pos kw) Q E s := wpJ_runValue hc
theorem wpJ_of_eq {m m' : Sem α} {Q : α → Shared → Prop} (e : m = m') (h : wpJ M A m' Q E s) : wpJ M A m Q E s := e ▸ h
end Mine
end
section
open PySem PySem.W PySem.Calls PySem.Spec PyProof.Rows
set_option Elab.async false
namespace Mine
variable {α β : Type} {M : Model}

/-- a generator's activation at work: code c, tree t, its own frames fs -/
noncomputable def GenJ (M : Model) (B : Around) (c : Code) (g : Nat) (t : Sem PySem.Fin) (fs : List Frame) (Y : Value → GenState → Shared → Prop) (R : Result → Shared → Prop) (s : Shared) : Prop :=
  ∀ (P : Result → Shared → Prop) (k : GenResult → Sem PySem.Fin) (l : List Value) (c₀ : Code) (p₀ : Pos) (st : List Frame) (p : Pos), On B c₀ st →
    (∀ v gs s', Y v gs s' → Wins M P (s'.setGen g gs) ⟨k (.yielded v), c₀, p₀, st⟩) →
    (∀ r s', R r s' → Wins M P (s'.setGen g .finished) ⟨k (End.ret r).result, c₀, p₀, st⟩) →
    Wins M P s ⟨t, c, p, fs ++ .gen g k l c₀ p₀ :: st⟩

theorem On.gen {B : Around} {c₀ : Code} {st : List Frame} (h : On B c₀ st) (c : Code) (g : Nat) (k : GenResult → Sem PySem.Fin) (l : List Value) (p₀ : Pos) (fs : List Frame) :
    On (B.over c fs) c (fs ++ .gen g k l c₀ p₀ :: st) := by
  have e : Ctx.of c (.gen g k l c₀ p₀ :: st) = (Ctx.of c₀ st).wake c p₀ := by
    have := Ctx.of_append c [.gen g k l c₀ p₀] st
    rw [List.singleton_append] at this
    rw [this]
    exact (Ctx.over_gen (Ctx.of c₀ st) c g k l c₀ p₀ []).trans rfl
  unfold On
  rw [Ctx.of_append, e]
  exact (Ctx.In.wake h c p₀).over fs

section
variable {B : Around} {c : Code} {g : Nat} {fs : List Frame} {Y : Value → GenState → Shared → Prop} {R : Result → Shared → Prop} {s : Shared}

theorem genJ_lift {m : Sem α} {K : α → Sem PySem.Fin} {H : Value → Sem PySem.Fin} {gd : Bool → Bool} {lv : List Value → List Value}
    (h : wpJ M (B.over c fs) m (fun a s' => GenJ M B c g (K a) fs Y R s') (fun x s' => GenJ M B c g (H x) fs Y R s') s) : GenJ M B c g (m.wrap K H gd lv) fs Y R s := by
  intro P k l c₀ p₀ st p hB hY hR
  exact h P c _ K H gd lv p (hB.gen c g k l p₀ fs) (fun a s' p' x => x P k l c₀ p₀ st p' hB hY hR) fun x s' p' y => y P k l c₀ p₀ st p' hB hY hR
theorem genJ_bind {m : Sem α} {K : α → Sem PySem.Fin}
    (h : wpJ M (B.over c fs) m (fun a s' => GenJ M B c g (K a) fs Y R s') (fun x s' => GenJ M B c g (.raise x) fs Y R s') s) : GenJ M B c g (m >>= K) fs Y R s := by
  rw [Sem.bind_eq_wrap']; exact genJ_lift h
theorem genJ_at {q : Pos} {k : Unit → Sem PySem.Fin} (h : GenJ M B c g (k ()) fs Y R s) : GenJ M B c g (.at q k) fs Y R s :=
  fun P kk l c₀ p₀ st _ hB hY hR => Wins.stepI (step_at ..) (h P kk l c₀ p₀ st _ hB hY hR)
theorem genJ_rule {tag : String} {k : Unit → Sem PySem.Fin} (h : GenJ M B c g (k ()) fs Y R s) : GenJ M B c g (.rule tag k) fs Y R s :=
  fun P kk l c₀ p₀ st _ hB hY hR => Wins.stepI (step_rule ..) (h P kk l c₀ p₀ st _ hB hY hR)
theorem genJ_point {l : List Value} {k : Unit → Sem PySem.Fin} (h : GenJ M B c g (k ()) fs Y R s) : GenJ M B c g (.point l k) fs Y R s :=
  fun P kk l c₀ p₀ st _ hB hY hR => Wins.stepI (step_point ..) (h P kk l c₀ p₀ st _ hB hY hR)
theorem genJ_call {c' : Code} {h : Option Value} {gd : Bool} {l : List Value} {k : Result → Sem PySem.Fin} (hc : ∀ p, GenJ M B c' g (M.den c') (.ret k h gd l c p [] :: fs) Y R s) : GenJ M B c g (.call c' h gd l k) fs Y R s :=
  fun P kk l c₀ p₀ st p hB hY hR => Wins.stepI (step_call ..) (hc p P kk l c₀ p₀ st p hB hY hR)
theorem genJ_leaf {k : Result → Sem PySem.Fin} {h : Option Value} {gd : Bool} {l : List Value} {c₁ : Code} {p₁ : Pos} {kp : List Value} (r : Result) (hk : GenJ M B c₁ g (k r) fs Y R s) :
    GenJ M B c g (leafOf r) (.ret k h gd l c₁ p₁ kp :: fs) Y R s :=
  fun P kk l c₀ p₀ st _ hB hY hR => Wins.stepI (step_leaf_ret ..) (hk P kk l c₀ p₀ st _ hB hY hR)
theorem genJ_again {c' : Code} (hq : c'.quiet = true) (hc : GenJ M B c' g (M.den c') fs Y R s) : GenJ M B c g (.pure (.again c')) fs Y R s :=
  fun P kk l c₀ p₀ st p hB hY hR => Wins.stepI (step_again _ _ _ _ _ _ hq) (hc P kk l c₀ p₀ st p hB hY hR)
theorem genJ_end (r : Result) (h : R r s) : GenJ M B c g (leafOf r) [] Y R s :=
  fun P kk l c₀ p₀ st p _ _ hR => Wins.stepI (step_leaf_gen ..) (hR r s h)
theorem genJ_yield {v : Value} {gd : Bool} {l : List Value} {k : Resume → Sem PySem.Fin} (hfs : splitAtGen fs = none) (hcl : closingShows (nowhere s) fs c gd = false)
    (h : ∀ p, Y v (.suspended k l c p fs (gd || fs.any Frame.guarded)) s) : GenJ M B c g (.yield v gd l k) fs Y R s := by
  intro P kk l' c₀ p₀ st p hB hY hR
  refine Wins.step (s' := s.setGen g (.suspended k l c p fs (gd || fs.any Frame.guarded))) (t' := ⟨kk (.yielded v), c₀, p₀, st⟩) ?_ (hY v _ s (h p))
  have hsp : splitAtGen (fs ++ .gen g kk l' c₀ p₀ :: st) = some (fs, (g, kk, c₀, p₀), st) := by
    rw [splitAtGen_append_none _ hfs, splitAtGen_gen]; simp
  have hb : badJ s ⟨.yield v gd l k, c, p, fs ++ .gen g kk l' c₀ p₀ :: st⟩ = false := by
    show ((false && _) || (splitAtGen (fs ++ .gen g kk l' c₀ p₀ :: st)).any fun x => closingShows (nowhere s) x.1 c gd) = false
    rw [hsp, Bool.false_and, Bool.false_or]
    exact hcl
  rw [stepJ, if_neg (by rw [hb]; exact Bool.false_ne_true)]
  obtain ⟨hp, gs, d, tk, os⟩ := s
  simp only [stepK, PySem.step, hsp, Shared.setGen]
end

section
variable {A : Around} {E : Value → Shared → Prop} {Q : α → Shared → Prop} {s : Shared} {g : Nat} {l : List Value} {k : GenResult → Sem α} {Y : Value → GenState → Shared → Prop} {R : Result → Shared → Prop}

theorem wpJ_resume_fresh {c : Code} (hg : s.gens[g]? = some (.fresh c)) (h : GenJ M A c g (M.den c) [] Y R (s.setGen g .running))
    (hY : ∀ v gs s', Y v gs s' → wpJ M A (k (.yielded v)) Q E (s'.setGen g gs)) (hR : ∀ r s', R r s' → wpJ M A (k (End.ret r).result) Q E (s'.setGen g .finished)) :
    wpJ M A (.resume g (.send .none) l k) Q E s := by
  intro P c₀ st K H gd lv p hA hQ hE
  refine Wins.stepI (step_resume_fresh _ _ _ _ _ _ _ hg) ?_
  exact h P _ _ c₀ p st p hA (fun v gs s' y => hY v gs s' y P c₀ st K H gd lv p hA hQ hE) fun r s' y => hR r s' y P c₀ st K H gd lv p hA hQ hE
theorem wpJ_resume_susp {kk : Resume → Sem PySem.Fin} {l' : List Value} {c : Code} {p' : Pos} {fs : List Frame} {cl : Bool} (hg : s.gens[g]? = some (.suspended kk l' c p' fs cl)) (h : GenJ M A c g (kk (.send .none)) fs Y R (s.setGen g .running))
    (hY : ∀ v gs s', Y v gs s' → wpJ M A (k (.yielded v)) Q E (s'.setGen g gs)) (hR : ∀ r s', R r s' → wpJ M A (k (End.ret r).result) Q E (s'.setGen g .finished)) :
    wpJ M A (.resume g (.send .none) l k) Q E s := by
  intro P c₀ st K H gd lv p hA hQ hE
  refine Wins.stepI (step_resume_suspended _ _ _ _ _ _ _ _ hg) ?_
  exact h P _ _ c₀ p st p' hA (fun v gs s' y => hY v gs s' y P c₀ st K H gd lv p hA hQ hE) fun r s' y => hR r s' y P c₀ st K H gd lv p hA hQ hE
end
end Mine
end
section
open PySem PySem.W PySem.Calls PySem.Spec PyProof.Rows
set_option Elab.async false
namespace Mine
section
variable {prog : Program} {w : World} {A : Around} {E : Value → Shared → Prop} {R : Result → Shared → Prop} {s : Shared}

theorem codeJ_builtin {id : String} {args : Args} {b : Builtin} (hb : entryFor table id = some b)
    (h : wpJ (model prog w) (A.under (.builtin id args)) (b args)
      (fun fin s' => match fin with | .done f => R (.ok f) s' | .again c' => c'.quiet = true ∧ codeJ (model prog w) A c' R s') (fun e s' => R (.error e) s') s) :
    codeJ (model prog w) A (.builtin id args) R s := by
  refine codeJ_of_tree ?_
  show wpJ _ _ (match entryFor table id with | some b => b args | none => unsupported ((withoutEnding? id "#data").getD id)) _ _ s
  rw [hb]; exact h
theorem codeJ_call_builtin {id : String} {args : Args} {b : Builtin} (hq : plainId id = true) (hb : entryFor table id = some b)
    (h : wpAny (model prog w) A.in1 (checkBuiltinCall id args) (fun _ s₁ => wpJ (model prog w) A.in1 (b args)
      (fun fin s' => match fin with | .done f => R (.ok f) s' | .again c' => c'.quiet = true ∧ codeJ (model prog w) A c' R s') (fun e s' => R (.error e) s') s₁)
      (fun e s' => R (.error e) s') s) : codeJ (model prog w) A (.call (.builtin id) args) R s := by
  refine codeJ_of_tree ?_
  show wpJ _ A.in1 (do checkBuiltinCall id args; again (.builtin id args)) _ _ s
  refine wpJ_bind (wpJ_mono (wpJ_any h) (fun _ s₁ h₁ => wpJ_pure (And.intro (plainId_quiet hq args) (codeJ_builtin hb (by rw [Around.under_plainId hq args]; exact h₁)))) fun _ _ h' => h')
theorem wpJ_call_entry {T : String} {name : Str} {id : String} {b : Builtin} {self : Value} {rest : List Value} {Q : Value → Shared → Prop} (h : Slot T name id) (hT : s.TypeIs self T)
    (hb : entryFor table id = some b)
    (hc : wpJ (model prog w) A.in1 (b ⟨self :: rest, []⟩) (fun fin s' => match fin with | .done f => (match (Except.ok f : Result) with | .ok (.ret v) => Q v s' | .ok _ => False | .error e => E e s') | .again c' => c'.quiet = true ∧ codeJ (model prog w) A c' (fun r s' => match r with | .ok (.ret v) => Q v s' | .ok _ => False | .error e => E e s') s') E s)
    (ha : argsOk id ⟨self :: rest, []⟩ := by rfl) :
    wpJ (model prog w) A (call (.builtin id) (self :: rest)) Q E s :=
  wpJ_call (codeJ_call_builtin h.plain hb (h.check _ _ _ _ _ _ _ _ hT ha hc))
theorem wpJ_call_function_entry {id : String} {b : Builtin} {args : List Value} {Q : Value → Shared → Prop} (hk : builtinKind id = none) (hp : plainId id = true)
    (hb : entryFor table id = some b) (ha : argsOk id ⟨args, []⟩)
    (hc : wpJ (model prog w) A.in1 (b ⟨args, []⟩) (fun fin s' => match fin with | .done f => (match (Except.ok f : Result) with | .ok (.ret v) => Q v s' | .ok _ => False | .error e => E e s') | .again c' => c'.quiet = true ∧ codeJ (model prog w) A c' (fun r s' => match r with | .ok (.ret v) => Q v s' | .ok _ => False | .error e => E e s') s') E s) :
    wpJ (model prog w) A (call (.builtin id) args) Q E s := by
  refine wpJ_call (codeJ_call_builtin hp hb ?_)
  simp only [checkBuiltinCall, hk]
  cases hsig : Manifest.signature? id with
  | none => exact wpAny_pure hc
  | some sig =>
    simp only [argsOk, hsig] at ha
    have h2 : Bind.checkArgs id sig ⟨args, []⟩ = pure () := ha
    simp only [h2]
    exact wpAny_pure hc
theorem wpJ_callSpecial?_slot {self : Value} {T : String} {name : Str} {id : String} {args : List Value} {kw : List (Str × Value)}
    {Q : Option Value → Shared → Prop} (hT : s.TypeIs self T) (h : Slot T name id)
    (hc : wpJ (model prog w) A (call (.builtin id) (self :: args) kw) (fun v => Q (some v)) E s) : wpJ (model prog w) A (callSpecial? self name args kw) Q E s := by
  simp only [callSpecial?]
  refine wpJ_bind (wpJ_any (wpAny_specialOf hT h.lookup ?_))
  simp only [h.bind]
  exact wpJ_holding (wpJ_bind (wpJ_pure (wpJ_bind (wpJ_mono hc (fun v s' h' => wpJ_pure h') fun _ _ h' => h'))))
end

/-! a generator object, asleep or not -/
noncomputable def IsGenJ (h : Heap) (a : Addr) (g : Nat) : Prop :=
  ∃ o nm qn, h.get? a = some o ∧ o.cls = .type "generator" ∧ o.data = .fields #[.int g 0, nm, qn] ∧ (o.slots = #[] ∨ o.slots = #[some (.int 0 0)])
theorem IsGenJ.typeIs {s : Shared} {a g} (x : IsGenJ s.heap a g) : s.TypeIs (.ref a) "generator" := let ⟨o, _, _, ho, hc, _⟩ := x; ⟨o, ho, hc⟩
theorem wpAny_genNumberJ {M : Model} {A : Around} {E : Value → Shared → Prop} {s : Shared} {a : Addr} {g : Nat} {Q : Nat → Shared → Prop} (hg : IsGenJ s.heap a g) (h : Q g s) :
    wpAny M A (Builtin.Generator.genNumber (.ref a)) Q E s := by
  obtain ⟨o, nm, qn, ho, _, hd, hsl⟩ := hg
  unfold Builtin.Generator.genNumber
  refine wpAny_bind (wpAny_load ho ?_)
  rcases hsl with hsl | hsl
  · rw [hsl, hd]
    show wpAny M A (pure ((g : Int).toNat)) Q E s
    rw [Int.toNat_natCast]; exact wpAny_pure h
  · rw [hsl, hd]
    show wpAny M A (pure ((g : Int).toNat)) Q E s
    rw [Int.toNat_natCast]; exact wpAny_pure h

/-- the error that ends a walk -/
noncomputable def IsStop (h : Heap) (e : Value) : Prop := ∃ a o vs, e = .ref a ∧ h.get? a = some o ∧ o.cls = .type "StopIteration" ∧ o.data = .fields vs ∧ vs[5]? = some .none

noncomputable def GenState.GoesJ (M : Model) (B : Around) (g : Nat) (Y : Value → GenState → Shared → Prop) (R : Result → Shared → Prop) (gs : GenState) (s : Shared) : Prop := match gs with
  | .fresh c => GenJ M B c g (M.den c) [] Y R (s.setGen g .running)
  | .suspended kk _ c _ fs _ => GenJ M B c g (kk (.send .none)) fs Y R (s.setGen g .running)
  | _ => False

theorem next_J {prog : Program} {w : World} {A : Around} {s : Shared} {a : Addr} {g : Nat} {gs : GenState} {Q : Option Value → Shared → Prop} {E : Value → Shared → Prop} {Y : Value → GenState → Shared → Prop} {R : Result → Shared → Prop}
    (hh : A.handled = none) (hl : s.heap.NoLimit) (hroom : A.depth < recursionLimit) (hg : IsGenJ s.heap a g) (hgs : s.gens[g]? = some gs)
    (hgo : GenState.GoesJ (model prog w) A.in1 g Y R gs s)
    (hY : ∀ v gs' s', Y v gs' s' → Q (some v) (s'.setGen g gs'))
    (hR : ∀ r s', R r s' → r = .ok (.ret .none) ∧ ∀ h' e, (∀ b o, s'.heap.get? b = some o → h'.get? b = some o) → s'.heap.objs.size ≤ h'.objs.size → IsStop h' e → E e { s'.setGen g .finished with heap := h' }) :
    wpJ (model prog w) A (callSpecial? (.ref a) "__next__") Q E s := by
  refine wpJ_callSpecial?_slot (name := Str.ofString "__next__") hg.typeIs slot_gen_next (wpJ_call_entry slot_gen_next hg.typeIs entry_gen_next ?_ (args_gen_next _))
  show wpJ _ A.in1 (Builtin.Generator.genWake (.ref a) (.send .none)) _ _ s
  unfold Builtin.Generator.genWake
  refine wpJ_bind (wpJ_any (wpAny_holding (wpAny_genNumberJ hg ?_)))
  refine wpJ_bind (wpJ_any (wpAny_genState hgs ?_))
  have fin : ∀ r s', R r s' → wpJ (model prog w) A.in1 (match (End.ret r).result with
      | .yielded v => ret v
      | .returned v => (do
        if v == .none then raiseNew (← newExc (.type "StopIteration") [])
        rule "generator.return-value"; throw (← newExc (.type "StopIteration") [v]) : Sem PySem.Fin)
      | .raised e => Builtin.Generator.genLeft (.ref a) e
      | .running => (do rule "generator.already-executing"; raiseError "ValueError" "generator already executing")
      | .justStarted => (do rule "generator.send-to-fresh"; raiseError "TypeError" "can't send non-None value to a just-started generator")
      | .finished => (do raiseNew (← newExc (.type "StopIteration") []))) (fun fin s' => match fin with | .done f => (match (Except.ok f : Result) with | .ok (.ret v) => Q (some v) s' | .ok _ => False | .error e => E e s') | .again c' => c'.quiet = true ∧ codeJ (model prog w) A c' (fun r s' => match r with | .ok (.ret v) => Q (some v) s' | .ok _ => False | .error e => E e s') s') E (s'.setGen g .finished) := by
    intro r s' hr
    obtain ⟨rfl, hE⟩ := hR r s' hr
    show wpJ _ _ (newExc (.type "StopIteration") [] >>= _) _ _ _
    refine wpJ_any (wpAny_bind ?_)
    simp only [newExc, newTuple]
    refine wpAny_bind (wpAny_newObj_type ?_ (by size_fits))
    refine wpAny_bind (m := firstArgMember _ _) (wpAny_of_eq (a := Value.none) (by first | rfl | (simp only [firstArgMember]; rfl)) ?_)
    refine wpAny_newObj_type ?_ (by size_fits)
    simp only [raiseNew]
    refine wpAny_bind (wpAny_bind (wpAny_handled ?_))
    rw [show A.in1.handled = none from hh]
    refine wpAny_throw (hE _ _ (fun b o hb => Heap.get?_push_of_some _ (Heap.get?_push_of_some _ hb)) (by simp only [Heap.size_push]; exact Nat.le_succ_of_le (Nat.le_succ _)) ⟨_, _, _, rfl, Heap.get?_push_size _ rfl, rfl, rfl, rfl⟩)
  cases gs with
  | running => exact hgo.elim
  | finished => exact hgo.elim
  | fresh c =>
    refine wpJ_bind (wpJ_any (wpAny_roomToWake hl hroom ?_))
    show wpJ _ _ (.resume g (.send .none) [] _) _ _ s
    exact wpJ_resume_fresh hgs hgo (fun v gs s' y => wpJ_pure (hY v gs s' y)) fin
  | suspended kk l' c p' fs cl =>
    refine wpJ_bind (wpJ_any (wpAny_roomToWake hl hroom ?_))
    show wpJ _ _ (.resume g (.send .none) [] _) _ _ s
    exact wpJ_resume_susp hgs hgo (fun v gs s' y => wpJ_pure (hY v gs s' y)) fin
end Mine
end
section
open PySem PySem.W PySem.Calls PySem.Spec PyProof.Rows
set_option Elab.async false
namespace Mine

noncomputable def Keeps (h h' : Heap) : Prop := ∀ b o, h.get? b = some o → h'.get? b = some o
theorem Keeps.refl (h : Heap) : Keeps h h := fun _ _ e => e
theorem Keeps.trans {h₁ h₂ h₃ : Heap} (x : Keeps h₁ h₂) (y : Keeps h₂ h₃) : Keeps h₁ h₃ := fun b o e => y b o (x b o e)

/-- what others may do meanwhile -/
structure Same (hR : Heap) (O : List Addr) (Og : List Nat) (s s₀ : Shared) : Prop where
  base : Keeps hR s₀.heap
  own : ∀ x ∈ O, ∀ o, s.heap.get? x = some o → s₀.heap.get? x = some o
  gens : ∀ g ∈ Og, s₀.gens[g]? = s.gens[g]?
  size : s.heap.objs.size ≤ s₀.heap.objs.size
  gsize : s.gens.size ≤ s₀.gens.size
theorem Same.refl {hR : Heap} {O : List Addr} {Og : List Nat} {s : Shared} (h : Keeps hR s.heap) : Same hR O Og s s := ⟨h, fun _ _ _ e => e, fun _ _ => rfl, Nat.le_refl _, Nat.le_refl _⟩
theorem Same.trans {hR : Heap} {O : List Addr} {Og : List Nat} {s s₁ s₂ : Shared} (x : Same hR O Og s s₁) (y : Same hR O Og s₁ s₂) : Same hR O Og s s₂ :=
  ⟨y.base, fun a ha o e => y.own a ha o (x.own a ha o e), fun g hg => (y.gens g hg).trans (x.gens g hg), Nat.le_trans x.size y.size, Nat.le_trans x.gsize y.gsize⟩
theorem Same.sub {hR : Heap} {O O' : List Addr} {Og Og' : List Nat} {s s₁ : Shared} (x : Same hR O Og s s₁) (h : ∀ a ∈ O', a ∈ O) (hg : ∀ g ∈ Og', g ∈ Og) : Same hR O' Og' s s₁ :=
  ⟨x.base, fun a ha => x.own a (h a ha), fun g q => x.gens g (hg g q), x.size, x.gsize⟩

/-- what the walk does -/
structure After (hR : Heap) (O : List Addr) (Og : List Nat) (s s' : Shared) (O' : List Addr) (Og' : List Nat) : Prop where
  base : Keeps hR s'.heap
  keep : ∀ x o, x ∉ O → s.heap.get? x = some o → s'.heap.get? x = some o
  gens : ∀ g, g < s.gens.size → g ∉ Og → s'.gens[g]? = s.gens[g]?
  new : ∀ x ∈ O', x ∈ O ∨ s.heap.objs.size ≤ x
  old : ∀ x ∈ O, x ∈ O'
  gnew : ∀ g ∈ Og', g ∈ Og ∨ s.gens.size ≤ g
  gold : ∀ g ∈ Og, g ∈ Og'
  gall : ∀ g, s.gens.size ≤ g → g < s'.gens.size → g ∈ Og'
  size : s.heap.objs.size ≤ s'.heap.objs.size
  gsize : s.gens.size ≤ s'.gens.size
  os : s'.os = s.os
theorem After.refl {hR : Heap} {O : List Addr} {Og : List Nat} {s : Shared} (h : Keeps hR s.heap) : After hR O Og s s O Og :=
  ⟨h, fun _ _ _ e => e, fun _ _ _ => rfl, fun _ h => .inl h, fun _ h => h, fun _ h => .inl h, fun _ h => h, fun _ a b => absurd b (Nat.not_lt.mpr a), Nat.le_refl _, Nat.le_refl _, rfl⟩
theorem After.trans {hR : Heap} {O O₁ O₂ : List Addr} {Og Og₁ Og₂ : List Nat} {s s₁ s₂ : Shared} (x : After hR O Og s s₁ O₁ Og₁) (y : After hR O₁ Og₁ s₁ s₂ O₂ Og₂) : After hR O Og s s₂ O₂ Og₂ := by
  refine ⟨y.base, fun a o ha e => ?_, fun g hg hn => ?_, fun a ha => ?_, fun a ha => y.old a (x.old a ha), fun g hg => ?_, fun g hg => y.gold g (x.gold g hg), fun g h1 h2 => ?_, Nat.le_trans x.size y.size, Nat.le_trans x.gsize y.gsize, y.os.trans x.os⟩
  · refine y.keep a o (fun h => ?_) (x.keep a o ha e)
    rcases x.new a h with h | h
    · exact ha h
    · exact Nat.lt_irrefl _ (Nat.lt_of_lt_of_le (Heap.lt_size e) h)
  · refine (y.gens g (Nat.lt_of_lt_of_le hg x.gsize) fun h => ?_).trans (x.gens g hg hn)
    rcases x.gnew g h with h | h
    · exact hn h
    · exact Nat.lt_irrefl _ (Nat.lt_of_lt_of_le hg h)
  · rcases y.new a ha with h | h
    · exact x.new a h
    · exact .inr (Nat.le_trans x.size h)
  · rcases y.gnew g hg with h | h
    · exact x.gnew g h
    · exact .inr (Nat.le_trans x.gsize h)
  · by_cases h : g < s₁.gens.size
    · exact y.gold g (x.gall g h1 h)
    · exact y.gall g (Nat.not_lt.mp h) h2
/-- a longer list of what is owned -/
theorem After.more {hR : Heap} {O O₁ O₂ : List Addr} {Og Og₁ Og₂ : List Nat} {s s₁ : Shared} (x : After hR O Og s s₁ O₁ Og₁) (h : ∀ a ∈ O₂, a ∈ O₁ ∨ s.heap.objs.size ≤ a) (h' : ∀ a ∈ O₁, a ∈ O₂)
    (hg : ∀ g ∈ Og₂, g ∈ Og₁ ∨ s.gens.size ≤ g) (hg' : ∀ g ∈ Og₁, g ∈ Og₂) : After hR O Og s s₁ O₂ Og₂ :=
  ⟨x.base, x.keep, x.gens, fun a ha => (h a ha).elim (x.new a) .inr, fun a ha => h' a (x.old a ha), fun g q => (hg g q).elim (x.gnew g) .inr, fun g q => hg' g (x.gold g q), fun g a b => hg' g (x.gall g a b), x.size, x.gsize, x.os⟩

structure Room (n : Nat) (A : Around) : Prop where
  handled : A.handled = none
  depth : A.depth + n < recursionLimit
  units : A.units + n < cLine
theorem Room.le {n m : Nat} {A : Around} (h : Room n A) (hm : m ≤ n) : Room m A := ⟨h.handled, lim h.depth hm, lim h.units hm⟩
theorem Room.in1 {n : Nat} {A : Around} (h : Room (n + 1) A) : Room n A.in1 := ⟨h.handled, by rw [Around.in1_depth]; exact lim h.depth (Nat.le_succ n), by rw [Around.in1_units]; exact lim1 h.units (Nat.le_of_eq (Nat.add_comm 1 n))⟩

/-- what a resumed generator owes -/
noncomputable def YY (G : List Value → List Addr → List Nat → GenState → Shared → Prop) (hR : Heap) (g : Nat) (vs : List Value) (O : List Addr) (Og : List Nat) (s₀ : Shared) : Value → GenState → Shared → Prop := fun v gs s' => match vs with
  | [] => False
  | v' :: vs' => v = v' ∧ ∃ O' Og', After hR O (g :: Og) s₀ s' O' (g :: Og') ∧ g ∉ Og' ∧ G vs' O' Og' gs s'
noncomputable def RR (hR : Heap) (g : Nat) (vs : List Value) (O : List Addr) (Og : List Nat) (s₀ : Shared) : Result → Shared → Prop := fun r s' => match vs with
  | [] => r = .ok (.ret .none) ∧ ∃ O' Og', After hR O (g :: Og) s₀ s' O' (g :: Og') ∧ ∀ g' ∈ Og', s'.gens[g']? = some .finished
  | _ :: _ => False

/-- an idle generator g that will yield vs; n: the room it wants -/
noncomputable def Good (M : Model) (hR : Heap) (n : Nat) (g : Nat) : List Value → List Addr → List Nat → GenState → Shared → Prop
  | [], O, Og, gs, s => ∀ s₀ B, Same hR O Og s s₀ → Room n B → GenState.GoesJ M B g (fun _ _ _ => False) (RR hR g [] O Og s₀) gs s₀
  | v :: vs, O, Og, gs, s => ∀ s₀ B, Same hR O Og s s₀ → Room n B →
      GenState.GoesJ M B g (fun v' gs' s' => v' = v ∧ ∃ O' Og', After hR O (g :: Og) s₀ s' O' (g :: Og') ∧ g ∉ Og' ∧ Good M hR n g vs O' Og' gs' s') (fun _ _ => False) gs s₀
theorem good_iff {M : Model} {hR : Heap} {n g : Nat} {vs : List Value} {O : List Addr} {Og : List Nat} {gs : GenState} {s : Shared} :
    Good M hR n g vs O Og gs s ↔ ∀ s₀ B, Same hR O Og s s₀ → Room n B → GenState.GoesJ M B g (YY (Good M hR n g) hR g vs O Og s₀) (RR hR g vs O Og s₀) gs s₀ := by
  cases vs with
  | nil => unfold Good YY RR; exact Iff.rfl
  | cons v vs => unfold Good YY RR; exact Iff.rfl
theorem Good.same {M : Model} {hR : Heap} {n g : Nat} {vs : List Value} {O : List Addr} {Og : List Nat} {gs : GenState} {s s₁ : Shared} (h : Good M hR n g vs O Og gs s) (x : Same hR O Og s s₁) : Good M hR n g vs O Og gs s₁ :=
  good_iff.mpr fun s₀ B y r => good_iff.mp h s₀ B (x.trans y) r

/-- an idle generator object that will yield vs -/
structure Draws (M : Model) (hR : Heap) (n : Nat) (a : Addr) (g : Nat) (vs : List Value) (O : List Addr) (Og : List Nat) (s : Shared) : Prop where
  base : Keeps hR s.heap
  gen : IsGenJ s.heap a g
  off : a ∉ O
  goff : g ∉ Og
  here : ∃ gs, s.gens[g]? = some gs ∧ Good M hR n g vs O Og gs s
theorem Draws.same {M : Model} {hR : Heap} {n : Nat} {a : Addr} {g : Nat} {vs : List Value} {O : List Addr} {Og : List Nat} {s s₁ : Shared} (d : Draws M hR n a g vs O Og s) (x : Same hR O (g :: Og) s s₁) (hg : IsGenJ s₁.heap a g) : Draws M hR n a g vs O Og s₁ := by
  obtain ⟨gs, h1, h2⟩ := d.here
  exact ⟨x.base, hg, d.off, d.goff, gs, (x.gens g (.head _)).trans h1, h2.same (x.sub (fun _ h => h) fun _ h => .tail _ h)⟩

theorem setGen_ne {s : Shared} {g g' : Nat} {gs : GenState} (h : g' ≠ g) : (s.setGen g gs).gens[g']? = s.gens[g']? := by
  unfold Shared.setGen
  simp only [Array.getElem?_setIfInBounds]
  rw [if_neg (Ne.symm h)]
theorem setGen_size {s : Shared} {g : Nat} {gs : GenState} : (s.setGen g gs).gens.size = s.gens.size := by unfold Shared.setGen; simp
theorem setGen_at {s : Shared} {g : Nat} {gs : GenState} (h : g < s.gens.size) : (s.setGen g gs).gens[g]? = some gs := by
  unfold Shared.setGen
  simp only [Array.getElem?_setIfInBounds, if_true]
  rw [if_pos h]
theorem After.setGen {hR : Heap} {O O' : List Addr} {Og Og' : List Nat} {s s' : Shared} {g : Nat} {gs : GenState} (x : After hR O (g :: Og) s s' O' Og') : After hR O (g :: Og) s (s'.setGen g gs) O' Og' :=
  ⟨x.base, x.keep, fun g' q1 q2 => (setGen_ne fun z => q2 (by rw [z]; exact .head _)).trans (x.gens g' q1 q2), x.new, x.old, x.gnew, x.gold, fun g' q1 q2 => x.gall g' q1 (by rw [setGen_size] at q2; exact q2), x.size, by rw [setGen_size]; exact x.gsize, x.os⟩
theorem After.heap {hR : Heap} {O O' : List Addr} {Og Og' : List Nat} {s s' : Shared} {h' : Heap} (x : After hR O Og s s' O' Og') (k : Keeps s'.heap h') (hs : s'.heap.objs.size ≤ h'.objs.size) : After hR O Og s { s' with heap := h' } O' Og' :=
  ⟨x.base.trans k, fun a o ha e => k _ _ (x.keep a o ha e), x.gens, x.new, x.old, x.gnew, x.gold, x.gall, Nat.le_trans x.size hs, x.gsize, x.os⟩
theorem Same.ofSetGen {hR : Heap} {O : List Addr} {Og : List Nat} {s : Shared} {g : Nat} {gs : GenState} (h : Keeps hR s.heap) (hg : g ∉ Og) : Same hR O Og s (s.setGen g gs) :=
  ⟨h, fun _ _ _ e => e, fun g' q => setGen_ne fun z => hg (z ▸ q), Nat.le_refl _, by rw [setGen_size]; exact Nat.le_refl _⟩

section
variable {prog : Program} {w : World} {hR : Heap} {n : Nat} {a : Addr} {g : Nat} {v : Value} {vs : List Value} {O : List Addr} {Og : List Nat} {s : Shared} {A : Around} {Q : Option Value → Shared → Prop} {E : Value → Shared → Prop}
/-- one step of a walk, where an item is left -/
theorem draws_cons (hl : hR.NoLimit) (d : Draws (model prog w) hR n a g (v :: vs) O Og s) (r : Room (n + 1) A)
    (hQ : ∀ s' O' Og', After hR O (g :: Og) s s' O' (g :: Og') → Draws (model prog w) hR n a g vs O' Og' s' → Q (some v) s') : wpJ (model prog w) A (callSpecial? (.ref a) "__next__") Q E s := by
  obtain ⟨gs, h1, h2⟩ := d.here
  refine next_J r.handled (hl.keeps d.base) (lim0 r.depth) d.gen h1 (good_iff.mp h2 s A.in1 (Same.refl d.base) r.in1) (fun v' gs' s' y => ?_) (fun r s' y => y.elim)
  obtain ⟨rfl, O', Og', x, hgo, z⟩ := y
  have hlt : g < s.gens.size := (Array.getElem?_eq_some_iff.mp h1).1
  have eg : (s'.setGen g gs').gens[g]? = some gs' := setGen_at (Nat.lt_of_lt_of_le hlt x.gsize)
  have k := x.keep
  refine hQ _ O' Og' x.setGen ⟨x.base, ?_, fun ha => ?_, hgo, gs', eg, z.same (Same.ofSetGen x.base hgo)⟩
  · obtain ⟨o, nm, qn, ho, r⟩ := d.gen
    exact ⟨o, nm, qn, x.keep a o d.off ho, r⟩
  · rcases x.new a ha with h | h
    · exact d.off h
    · obtain ⟨o, nm, qn, ho, r⟩ := d.gen
      exact Nat.lt_irrefl _ (Nat.lt_of_lt_of_le (Heap.lt_size ho) h)
/-- the walk's end -/
theorem draws_nil (hl : hR.NoLimit) (d : Draws (model prog w) hR n a g [] O Og s) (r : Room (n + 1) A)
    (hE : ∀ s' O' Og' e, After hR O (g :: Og) s s' O' (g :: Og') → (∀ g' ∈ g :: Og', s'.gens[g']? = some .finished) → IsGenJ s'.heap a g → IsStop s'.heap e → E e s') :
    wpJ (model prog w) A (callSpecial? (.ref a) "__next__") Q E s := by
  obtain ⟨gs, h1, h2⟩ := d.here
  refine next_J r.handled (hl.keeps d.base) (lim0 r.depth) d.gen h1 (good_iff.mp h2 s A.in1 (Same.refl d.base) r.in1) (fun v' gs' s' y => y.elim) (fun r s' y => ?_)
  obtain ⟨rfl, O', Og', x, hf⟩ := y
  refine ⟨rfl, fun h' e k hs he => ?_⟩
  have hlt : g < s.gens.size := (Array.getElem?_eq_some_iff.mp h1).1
  refine hE _ O' Og' e (After.heap (s' := s'.setGen g .finished) x.setGen k hs) (fun g' hg' => ?_) ?_ he
  · show (s'.setGen g .finished).gens[g']? = _
    by_cases q : g' = g
    · rw [q]; exact setGen_at (Nat.lt_of_lt_of_le hlt x.gsize)
    · rw [setGen_ne q]
      rcases List.mem_cons.mp hg' with z | z
      · exact absurd z q
      · exact hf g' z
  · obtain ⟨o, nm, qn, ho, r⟩ := d.gen
    exact ⟨o, nm, qn, k _ _ (x.keep a o d.off ho), r⟩
end
end Mine
end
section
open PySem PySem.W PySem.Calls PySem.Spec PyProof.Rows
set_option Elab.async false
set_option maxRecDepth 100000
set_option linter.unusedVariables false
namespace Mine
theorem entry_yf : entryFor table "proto.yield_from" = some Builtin.«proto.yield_from» := entryFor_of_tree (by kernel_rfl)
theorem den_builtin {id : String} {args : Args} {b : Builtin} (hb : entryFor table id = some b) : denote table (.builtin id args) = b args := by
  show (match entryFor table id with | some b => b args | none => unsupported ((withoutEnding? id "#data").getD id)) = _
  rw [hb]
noncomputable abbrev yfCode (a : Addr) : Code := .builtin "proto.yield_from" ⟨[.ref a, .bool false, .none], []⟩
theorem yf_plain : plainId "proto.yield_from" = true := by decide +kernel
theorem yf_quiet (a : Addr) : (yfCode a).quiet = true := plainId_quiet yf_plain _
noncomputable abbrev stepped (a : Addr) : Sem Value := do
  rule "yield-from.next"
  match ← callSpecial? (.ref a) "__next__" with
  | some v => pure v
  | none => do rule "yield-from.send-none"; call (← getAttr (.ref a) "send") [.none]
theorem gen_close : typeLookup (.type "generator") (Str.ofString "close") = pure (some (.builtin "generator.close")) := by rw [typeLookup_type, builtinLookup_eq_fast]; kernel_rfl

theorem After.lift {hR : Heap} {O O' P : List Addr} {Og Og' Pg : List Nat} {s s' : Shared} (x : After hR O Og s s' O' Og') (h : ∀ a ∈ O, a ∈ P) (hg : ∀ g ∈ Og, g ∈ Pg) : After hR P Pg s s' (P ++ O') (Pg ++ Og') :=
  ⟨x.base, fun a o ha e => x.keep a o (fun z => ha (h a z)) e, fun g q1 q2 => x.gens g q1 fun z => q2 (hg g z), fun a ha => (List.mem_append.mp ha).elim .inl fun z => (x.new a z).imp (h a) id, fun a ha => List.mem_append_left _ ha,
   fun g hg' => (List.mem_append.mp hg').elim .inl fun z => (x.gnew g z).imp (hg g) id, fun g q => List.mem_append_left _ q, fun g a b => List.mem_append_right _ (x.gall g a b), x.size, x.gsize, x.os⟩
theorem After.upd {hR : Heap} {O O' : List Addr} {Og Og' : List Nat} {s s' : Shared} {a : Addr} {f : Obj → Obj} (x : After hR O Og s s' O' Og') (ha : a ∈ O') (hn : hR.get? a = none) : After hR O Og s { s' with heap := s'.heap.update a f } O' Og' := by
  have hs : Heap.SameBut a s'.heap (s'.heap.update a f) := Heap.SameBut.update ..
  refine ⟨fun b o e => ?_, fun b o hb e => ?_, x.gens, x.new, x.old, x.gnew, x.gold, x.gall, by show _ ≤ (s'.heap.update a f).objs.size; rw [hs.1]; exact x.size, x.gsize, x.os⟩
  · exact (hs.2 b fun z => by rw [z, hn] at e; cases e).trans (x.base b o e)
  · refine (hs.2 b fun z => ?_).trans (x.keep b o hb e)
    subst z
    rcases x.new b ha with h | h
    · exact hb h
    · exact Nat.lt_irrefl _ (Nat.lt_of_lt_of_le (Heap.lt_size e) h)
theorem After.gensEq {hR : Heap} {O O' : List Addr} {Og Og' : List Nat} {s s' : Shared} (x : After hR O Og s s' O' Og') {g : Nat} {y : GenState} (h : g ∉ Og) (e : s.gens[g]? = some y) : s'.gens[g]? = some y :=
  (x.gens g (Array.getElem?_eq_some_iff.mp e).1 h).trans e

noncomputable abbrev slept (n : Int) : Obj → Obj := fun o => { o with slots := (o.slots ++ Array.replicate (0 + 1 - o.slots.size) none).setIfInBounds 0 (some (rawInt n)) }
theorem wpAny_slept {M : Model} {A : Around} {E : Value → Shared → Prop} {s : Shared} {a : Addr} {o : Obj} {more : Bool} {Q : Unit → Shared → Prop} (ho : s.heap.get? a = some o) (hc : o.cls = .type "generator") {k : Int}
    (hk : (o.slots = #[] ∧ k = 0) ∨ o.slots = #[some (.int k 0)])
    (h : ∀ s', s' = { s with heap := s.heap.update a (slept (if more then k + 1 else k - 1)) } → Q () s') : wpAny M A (Builtin.Generator.sleptOver (.ref a) more) Q E s := by
  unfold Builtin.Generator.sleptOver
  dsimp only
  refine wpAny_bind (wpAny_load ho ?_)
  rw [hc]
  have e : ((Value.type "generator" != Value.type "generator") = true) = False := by simp
  simp only [e, if_false]
  unfold setSlotAt
  rw [if_neg (by decide)]
  refine wpAny_updatePart ho ?_
  rcases hk with ⟨hk, rfl⟩ | hk
  · rw [hk]; exact h _ rfl
  · rw [hk]; exact h _ rfl

theorem over_room {n m : Nat} {B : Around} {c c' : Code} {k : Result → Sem PySem.Fin} {gd : Bool} {l kp : List Value} {p : Pos} (r : Room n B) (hw : c.weight ≤ 1) (hu : c.cUnits ≤ 4) (hw' : c'.weight ≤ 1) (hu' : c'.cUnits ≤ 4) (h : m + 8 ≤ n) :
    Room m (B.over c' [.ret k none gd l c p kp]) := by
  have h1 := r.depth
  have h2 := r.units
  refine ⟨?_, ?_, ?_⟩
  · show (marksOver [Frame.ret k none gd l c p kp] (B.handled, B.handled)).1 = none
    exact r.handled
  · show B.depth + frameCount [(c, p)] + c'.weight + m < recursionLimit
    rw [frameCount_cons]
    exact room_arith h1 h (Nat.le_trans hw (by decide)) (Nat.le_trans hw' (by decide)) rfl
  · show B.units + unitsOf [(c, p)] + c'.cUnits + m < cLine
    rw [unitsOf_cons]
    exact room_arith h2 h hu hu' rfl

noncomputable abbrev yfErr (e : Value) : Sem PySem.Fin := do
  let b ← Builtin.Generator.endsTheTurnAsAValue false e
  if b = true then do
    rule "yield-from.value"
    let v ← field e 5
    ret v
  else throw e
section
variable {prog : Program} {w : World} {B : Around} {g : Nat} {fs : List Frame} {Y : Value → GenState → Shared → Prop} {R : Result → Shared → Prop} {s : Shared}
theorem yf_open {a : Addr} (h : wpJ (model prog w) (B.over (yfCode a) fs) (callSpecial? (.ref a) "__next__")
      (fun r s' => ∃ v, r = some v ∧ s'.TypeIs (.ref a) "generator" ∧ ∀ K : Resume → Sem PySem.Fin, K (.send .none) = (Builtin.Generator.sleptOver (.ref a) false >>= fun _ => again (yfCode a)) →
        GenJ (model prog w) B (yfCode a) g (Builtin.Generator.sleptOver (.ref a) true >>= fun _ => Sem.yield v true [] K) fs Y R s')
      (fun e s' => GenJ (model prog w) B (yfCode a) g (yfErr e) fs Y R s') s) : GenJ (model prog w) B (yfCode a) g (denote table (yfCode a)) fs Y R s := by
  rw [den_builtin entry_yf]
  unfold Builtin.«proto.yield_from»
  dsimp only
  refine genJ_bind (wpJ_pure ?_)
  simp only [Bool.false_eq_true, if_false, beq_self_eq_true, if_true]
  refine genJ_bind (m := (holding [Value.none] (stepped a)).attempt) ?_
  refine wpJ_attempt (wpJ_holding (wpJ_bind (wpJ_any (wpAny_rule (wpJ_bind (wpJ_mono h (fun r s' x => ?_) fun e s' x => ?_))))))
  · obtain ⟨v, rfl, ht, x⟩ := x
    refine wpJ_pure ?_
    dsimp only
    refine genJ_bind (wpJ_any (wpAny_typeOf (T := "generator") ht ?_))
    dsimp only
    rw [gen_close]
    refine genJ_bind (wpJ_pure ?_)
    refine genJ_bind (wpJ_pure ?_)
    refine x (fun woken => _) ?_
    rfl
  · exact x
end

theorem yfErr_J {prog : Program} {w : World} {A : Around} {s : Shared} {e : Value} {Q : PySem.Fin → Shared → Prop} {E : Value → Shared → Prop} (he : IsStop s.heap e) (h : Q (.done (.ret .none)) s) :
    wpAny (model prog w) A (yfErr e) Q E s := by
  obtain ⟨x, o, vs, rfl, ho, hc, hd, hv⟩ := he
  unfold yfErr
  refine wpAny_bind ?_
  unfold Builtin.Generator.endsTheTurnAsAValue Builtin.Generator.isStopAndMetaclass
  refine wpAny_bind (wpAny_bind (wpAny_typeOf (T := "StopIteration") ⟨o, ho, hc⟩ ?_))
  dsimp only
  rw [isSubtype_stop]
  refine wpAny_bind (wpAny_pure ?_)
  refine wpAny_bind (m := typeOf (.type "StopIteration")) (wpAny_pure (wpAny_pure ?_))
  dsimp only
  refine wpAny_pure ?_
  simp only [if_true]
  refine wpAny_bind (wpAny_rule (wpAny_bind (wpAny_field ho hd hv ?_)))
  exact wpAny_pure h

theorem genJ_tree {M : Model} {B : Around} {c : Code} {g : Nat} {fs : List Frame} {Y : Value → GenState → Shared → Prop} {R : Result → Shared → Prop} {s : Shared} {m : Sem PySem.Fin}
    (h : wpJ M (B.over c fs) m (fun a s' => GenJ M B c g (.pure a) fs Y R s') (fun x s' => GenJ M B c g (.raise x) fs Y R s') s) : GenJ M B c g m fs Y R s := by
  have := genJ_lift (K := .pure) (H := .raise) (gd := id) (lv := id) h
  rwa [wrap_id] at this

theorem genJ_again' {prog : Program} {w : World} {B : Around} {c c' : Code} {g : Nat} {fs : List Frame} {Y : Value → GenState → Shared → Prop} {R : Result → Shared → Prop} {s : Shared} (hq : c'.quiet = true)
    (hc : GenJ (model prog w) B c' g (denote table c') fs Y R s) : GenJ (model prog w) B c g (again c') fs Y R s := genJ_again hq hc
theorem slept_slots {o : Obj} {k : Int} {x : Option Value} (h : o.slots = #[] ∨ o.slots = #[x]) : (slept k o).slots = #[some (.int k 0)] := by
  unfold slept
  rcases h with h | h <;> simp only [h] <;> rfl
theorem slept_data {o : Obj} {k : Int} : (slept k o).data = o.data := rfl
theorem slept_cls {o : Obj} {k : Int} : (slept k o).cls = o.cls := rfl
theorem slept_freed {o : Obj} {k : Int} {vs : Array Value} (h : o.data = .fields vs) : (slept k o).isFreed = false := Obj.isFreed_of_fields (o := slept k o) (h : (slept k o).data = .fields vs)
theorem upd_at {h : Heap} {a : Addr} {o : Obj} {k : Int} {vs : Array Value} (e : h.get? a = some o) (hd : o.data = .fields vs) : (h.update a (slept k)).get? a = some (slept k o) := Heap.get?_update_self _ e (slept_freed hd)
theorem closing_no {s : Shared} {a : Addr} {o : Obj} {g : Nat} {nm qn : Value} {kr : Result → Sem PySem.Fin} {l kp : List Value} {c : Code} {p : Pos} (e : s.heap.get? a = some o) (hc : o.cls = .type "generator") (hd : o.data = .fields #[.int g 0, nm, qn]) :
    closingShows (nowhere s) [.ret kr none false l c p kp] (yfCode a) true = false := by
  have e' : (nowhere s).heap.get? a = some o := e
  have hg : o.genNumber? = some ((g : Int).toNat) := by unfold Obj.genNumber?; rw [hc, hd]; rfl
  show (false || (true && delegateShows (nowhere s) (.ref a))) = false
  unfold delegateShows
  dsimp only
  rw [e']
  simp only [hg]
  rfl

section
variable {prog : Program} {w : World} {hR : Heap} {n m : Nat} {go g a L : Nat} {oL : Obj} {c : Code} {vs : List Value} {kr : Result → Sem PySem.Fin} {gd : Bool} {l kp : List Value}

theorem yf_loop (hl : hR.NoLimit) (han : hR.get? a = none) (hgd : gd = false) (hmn : m + 20 ≤ n) (hw : c.weight ≤ 1) (hu : c.cUnits ≤ 4) (hL : L ≠ a)
    (cont : ∀ (s' s₀ : Shared) (O : List Addr) (Og : List Nat) (O₁ : List Addr) (Og₁ : List Nat) (B : Around), After hR O (go :: Og) s₀ s' O₁ (go :: Og₁) → L ∈ O₁ → s'.heap.get? L = some oL → go ∉ Og₁ → go < s'.gens.size →
      (∀ x ∈ Og₁, s'.gens[x]? = some .finished) → Room n B → GenJ (model prog w) B c go (kr (.ok (.ret .none))) [] (YY (Good (model prog w) hR n go) hR go vs O Og s₀) (RR hR go vs O Og s₀) s') :
    ∀ (us : List Value) (s s₀ : Shared) (O : List Addr) (Og : List Nat) (O₁ : List Addr) (Og₁ : List Nat) (Oin : List Addr) (Ogin : List Nat) (B : Around) (p : Pos),
      After hR O (go :: Og) s₀ s O₁ (go :: Og₁) → Draws (model prog w) hR m a g us Oin Ogin s → (∀ x ∈ Oin, x ∈ O₁) → a ∈ O₁ → L ∈ O₁ → L ∉ Oin → g ∈ Og₁ → (∀ x ∈ Ogin, x ∈ Og₁) → go ∉ Og₁ → go < s.gens.size →
      (∀ x ∈ Og₁, x = g ∨ x ∈ Ogin ∨ s.gens[x]? = some .finished) → s.heap.get? L = some oL → Room n B →
      GenJ (model prog w) B (yfCode a) go (denote table (yfCode a)) [.ret kr none gd l c p kp] (YY (Good (model prog w) hR n go) hR go (us ++ vs) O Og s₀) (RR hR go (us ++ vs) O Og s₀) s := by
  subst hgd
  have hcw : (yfCode a).weight ≤ 1 := by rw [plainId_weight yf_plain]; omega
  have hcu : (yfCode a).cUnits ≤ 4 := by rw [plainId_units yf_plain]; omega
  intro us
  induction us with
  | nil =>
    intro s s₀ O Og O₁ Og₁ Oin Ogin B p af D i1 i2 i3 i4 i5 i6 i7 i8 i9 i10 room
    refine yf_open (draws_nil hl D (over_room room hw hu hcw hcu (by omega)) fun s' O' Og' e x hf hgen he => ?_)
    have x' := x.lift (P := O₁) (Pg := go :: Og₁) i1 (fun y hy => by
      rcases List.mem_cons.mp hy with rfl | hy
      · exact .tail _ i5
      · exact .tail _ (i6 y hy))
    refine genJ_tree (wpJ_any (yfErr_J he ?_))
    refine genJ_leaf (.ok (.ret .none)) ?_
    have hO : ∀ y ∈ g :: Ogin, y ∈ go :: Og₁ := fun y hy => by
      rcases List.mem_cons.mp hy with rfl | hy
      · exact .tail _ i5
      · exact .tail _ (i6 y hy)
    have x2 := af.trans x'
    have hgo : go ∉ Og' := fun z => by
      rcases x.gnew go (.tail _ z) with z | z
      · rcases List.mem_cons.mp z with z | z
        · subst z; exact i7 i5
        · exact i7 (i6 _ z)
      · omega
    refine cont s' s₀ O Og (O₁ ++ O') (Og₁ ++ (g :: Og')) B ?_ ?_ ?_ ?_ ?_ ?_ room
    · exact x2
    · exact List.mem_append_left _ i3
    · exact x.keep L oL i4 i10
    · intro z
      rcases List.mem_append.mp z with z | z
      · exact i7 z
      · rcases List.mem_cons.mp z with z | z
        · subst z; exact i7 i5
        · exact hgo z
    · exact Nat.lt_of_lt_of_le i8 x.gsize
    · intro y hy
      rcases List.mem_append.mp hy with hy | hy
      · rcases i9 y hy with z | z | z
        · subst z; exact hf _ (.head _)
        · exact hf y (x.gold y (.tail _ z))
        · by_cases q : y ∈ g :: Ogin
          · exact hf y (x.gold y q)
          · exact x.gensEq q z
      · exact hf y hy
  | cons u us ih =>
    intro s s₀ O Og O₁ Og₁ Oin Ogin B p af D i1 i2 i3 i4 i5 i6 i7 i8 i9 i10 room
    refine yf_open (draws_cons hl D (over_room room hw hu hcw hcu (by omega)) fun s' O' Og' x D' => ⟨u, rfl, D'.gen.typeIs, fun K hK => ?_⟩)
    have hO : ∀ y ∈ g :: Ogin, y ∈ go :: Og₁ := fun y hy => by
      rcases List.mem_cons.mp hy with rfl | hy
      · exact .tail _ i5
      · exact .tail _ (i6 y hy)
    have x2 := af.trans (x.lift (P := O₁) (Pg := go :: Og₁) i1 hO)
    have hgo : go ∉ Og' := fun z => by
      rcases x.gnew go (.tail _ z) with z | z
      · rcases List.mem_cons.mp z with z | z
        · subst z; exact i7 i5
        · exact i7 (i6 _ z)
      · omega
    have hgo2 : go ∉ Og₁ ++ (g :: Og') := fun z => by
      rcases List.mem_append.mp z with z | z
      · exact i7 z
      · rcases List.mem_cons.mp z with z | z
        · subst z; exact i7 i5
        · exact hgo z
    have hL' := x.keep L oL i4 i10
    have hLO' : L ∉ O' := fun z => by
      rcases x.new L z with z | z
      · exact i4 z
      · exact Nat.lt_irrefl _ (Nat.lt_of_lt_of_le (Heap.lt_size i10) z)
    obtain ⟨o, nm, qn, ho, hc, hd, hsl⟩ := D'.gen
    have hs2 : o.slots = #[] ∧ (0 : Int) = 0 ∨ o.slots = #[some (.int 0 0)] := hsl.imp (fun z => ⟨z, rfl⟩) id
    refine genJ_bind (wpJ_any (wpAny_slept ho hc hs2 fun s'' hs'' => ?_))
    simp only [if_true] at hs''
    have hbut : Heap.SameBut a s'.heap s''.heap := by subst hs''; exact Heap.SameBut.update ..
    have hget : s''.heap.get? a = some (slept (0 + 1) o) := by subst hs''; exact upd_at ho hd
    have hgens : s''.gens = s'.gens := by subst hs''; rfl
    have x3 : After hR O (go :: Og) s₀ s'' (O₁ ++ O') (go :: (Og₁ ++ (g :: Og'))) := by
      subst hs''
      exact After.upd x2 (List.mem_append_left _ i2) han
    refine genJ_yield rfl ?_ fun p2 => ?_
    · exact closing_no hget hc hd
    · refine ⟨rfl, O₁ ++ O', Og₁ ++ (g :: Og'), x3, hgo2, good_iff.mpr fun s₁ B₁ same room₁ => ?_⟩
      show GenJ _ _ _ _ (K (.send .none)) _ _ _ _
      rw [hK]
      have ho1 : (s₁.setGen go .running).heap.get? a = some (slept (0 + 1) o) := same.own a (List.mem_append_left _ i2) _ hget
      refine genJ_bind (wpJ_any (wpAny_slept (k := 1) ho1 hc (.inr (slept_slots (hsl.imp id id))) fun s₃ hs₃ => ?_))
      simp only [Bool.false_eq_true, if_false] at hs₃
      refine genJ_again' (yf_quiet a) ?_
      have hbut3 : Heap.SameBut a s₁.heap s₃.heap := by subst hs₃; exact Heap.SameBut.update ..
      have hget3 : s₃.heap.get? a = some (slept (1 - 1) (slept (0 + 1) o)) := by subst hs₃; exact upd_at ho1 hd
      have hgens3 : s₃.gens = (s₁.setGen go .running).gens := by subst hs₃; rfl
      have hgs : s.gens.size ≤ s₁.gens.size := by have h1 := same.gsize; have h2 := x.gsize; rw [hgens] at h1; exact Nat.le_trans h2 h1
      have x4 : After hR (O₁ ++ O') (go :: (Og₁ ++ (g :: Og'))) s₁ s₃ (O₁ ++ O') (go :: (Og₁ ++ (g :: Og'))) := by
        subst hs₃
        exact After.upd (After.setGen (After.refl same.base)) (List.mem_append_left _ i2) han
      refine ih s₃ s₁ (O₁ ++ O') (Og₁ ++ (g :: Og')) (O₁ ++ O') (Og₁ ++ (g :: Og')) O' Og' B₁ p x4 (D'.same ⟨x4.base, ?_, ?_, ?_, ?_⟩ ?_) ?_ ?_ ?_ hLO' ?_ ?_ hgo2 ?_ ?_ ?_ room₁
      · intro y hy oy ey
        have hya : y ≠ a := fun z => D'.off (z ▸ hy)
        exact (hbut3.2 y hya).trans (same.own y (List.mem_append_right _ hy) oy ((hbut.2 y hya).trans ey))
      · intro y hy
        rw [hgens3, setGen_ne (fun z : y = go => hgo2 (z ▸ List.mem_append_right _ hy)), same.gens y (List.mem_append_right _ hy), hgens]
      · have := same.size; rw [hbut.1] at this; rw [hbut3.1]; exact this
      · have := same.gsize; rw [hgens] at this; rw [hgens3, setGen_size]; exact this
      · exact ⟨_, nm, qn, hget3, hc, hd, .inr (slept_slots (.inr (slept_slots (hsl.imp id id))))⟩
      · exact fun y hy => List.mem_append_right _ hy
      · exact List.mem_append_left _ i2
      · exact List.mem_append_left _ i3
      · exact List.mem_append_right _ (.head _)
      · exact fun y hy => List.mem_append_right _ (.tail _ hy)
      · rw [hgens3, setGen_size]; omega
      · intro y hy
        have e0 : ∀ y ∈ Og₁ ++ (g :: Og'), s'.gens[y]? = some .finished → s₃.gens[y]? = some .finished := fun y hy e => by
          rw [hgens3, setGen_ne (fun z : y = go => hgo2 (z ▸ hy)), same.gens y hy, hgens]; exact e
        rcases List.mem_append.mp hy with hy' | hy'
        · rcases i9 y hy' with z | z | z
          · exact .inl z
          · rcases List.mem_cons.mp (x.gold y (.tail _ z)) with z | z
            · exact .inl z
            · exact .inr (.inl z)
          · by_cases q : y ∈ g :: Ogin
            · rcases List.mem_cons.mp (x.gold y q) with z | z
              · exact .inl z
              · exact .inr (.inl z)
            · exact .inr (.inr (e0 y hy (x.gensEq q z)))
        · rcases List.mem_cons.mp hy' with z | z
          · exact .inl z
          · exact .inr (.inl z)
      · exact (hbut3.2 L hL).trans (same.own L (List.mem_append_left _ i3) oL ((hbut.2 L hL).trans hL'))
end
end Mine
end
section
open PySem PySem.W PySem.Calls PySem.Spec PyProof.Rows
set_option Elab.async false
set_option maxRecDepth 100000
set_option linter.unusedVariables false
namespace Mine

/-! the walk through a generator's body -/
structure Ix where
  B : Around
  O : List Addr
  Og : List Nat
  s₀ : Shared
  O₁ : List Addr
  Og₁ : List Nat

structure AtG (hR : Heap) (n go : Nat) (L : Addr) (m : Str → Option Value) (x : Ix) (s : Shared) : Prop where
  af : After hR x.O (go :: x.Og) x.s₀ s x.O₁ (go :: x.Og₁)
  own : L ∈ x.O₁
  ns : s.heap.Ns L m
  off : go ∉ x.Og₁
  lt : go < s.gens.size
  fin : ∀ y ∈ x.Og₁, s.gens[y]? = some .finished
  room : Room n x.B

theorem AtG.step {hR : Heap} {n go : Nat} {L : Addr} {m m' : Str → Option Value} {x : Ix} {s : Shared} (a : AtG hR n go L m x s) (hL : hR.get? L = none) {h' : Heap} {tk : Nat}
    (k : ∀ b o, b ≠ L → s.heap.get? b = some o → h'.get? b = some o) (hs : s.heap.objs.size ≤ h'.objs.size) (hn : h'.Ns L m') : AtG hR n go L m' x { s with heap := h', toks := tk } := by
  have hb : ∀ b o, hR.get? b = some o → b ≠ L := fun b o e z => by rw [z, hL] at e; cases e
  refine ⟨⟨fun b o e => k b o (hb b o e) (a.af.base b o e), fun b o hbO e => k b o (fun z => ?_) (a.af.keep b o hbO e), a.af.gens, a.af.new, a.af.old, a.af.gnew, a.af.gold, a.af.gall, Nat.le_trans a.af.size hs, a.af.gsize, a.af.os⟩, a.own, hn, a.off, a.lt, a.fin, a.room⟩
  subst z
  rcases a.af.new b a.own with h | h
  · exact hbO h
  · exact Nat.lt_irrefl _ (Nat.lt_of_lt_of_le (Heap.lt_size e) h)

section
variable {α β : Type} {prog : Program} {w : World} {hR : Heap} {n : Nat} {go : Nat} {L : Addr} {c : Code}

noncomputable def GJ (prog : Program) (w : World) (hR : Heap) (n go : Nat) (c : Code) (x : Ix) (vs : List Value) (t : Sem PySem.Fin) (s : Shared) : Prop :=
  GenJ (model prog w) x.B c go t [] (YY (Good (model prog w) hR n go) hR go vs x.O x.Og x.s₀) (RR hR go vs x.O x.Og x.s₀) s

/-- t, from the locals m, yields us and goes on with Q -/
noncomputable def Gw (prog : Program) (w : World) (hR : Heap) (n go : Nat) (L : Addr) (c : Code) (us : List Value) (t : Sem α) (m : Str → Option Value) (Q : α → (Str → Option Value) → Prop) : Prop :=
  ∀ (vs : List Value) (x : Ix) (s : Shared) (K : α → Sem PySem.Fin) (H : Value → Sem PySem.Fin) (gd : Bool → Bool) (lv : List Value → List Value), gd false = false → AtG hR n go L m x s →
    (∀ a m' x' s', Q a m' → AtG hR n go L m' x' s' → GJ prog w hR n go c x' vs (K a) s') → GJ prog w hR n go c x (us ++ vs) (t.wrap K H gd lv) s

variable {m : Str → Option Value} {us us' : List Value}
theorem gw_pure {a : α} {Q : α → (Str → Option Value) → Prop} (h : Q a m) : Gw prog w hR n go L c [] (pure a) m Q := fun _ _ _ _ _ _ _ _ A k => k a m _ _ h A
theorem gw_mono {t : Sem α} {Q Q' : α → (Str → Option Value) → Prop} (h : Gw prog w hR n go L c us t m Q) (q : ∀ a m', Q a m' → Q' a m') : Gw prog w hR n go L c us t m Q' :=
  fun vs x s K H gd lv hg A k => h vs x s K H gd lv hg A fun a m' x' s' z => k a m' x' s' (q a m' z)
theorem gw_bind {t : Sem α} {f : α → Sem β} {Q₁ : α → (Str → Option Value) → Prop} {Q : β → (Str → Option Value) → Prop} (h : Gw prog w hR n go L c us t m Q₁)
    (hf : ∀ a m', Q₁ a m' → Gw prog w hR n go L c us' (f a) m' Q) : Gw prog w hR n go L c (us ++ us') (t >>= f) m Q := by
  intro vs x s K H gd lv hg A k
  rw [Sem.bind_eq_wrap', Sem.wrap_wrap, List.append_assoc]
  exact h _ _ _ _ _ _ _ hg A fun a m' x' s' q A' => hf a m' q _ _ _ _ _ _ _ hg A' k
theorem gw_bind0 {t : Sem α} {f : α → Sem β} {Q₁ : α → (Str → Option Value) → Prop} {Q : β → (Str → Option Value) → Prop} (h : Gw prog w hR n go L c [] t m Q₁)
    (hf : ∀ a m', Q₁ a m' → Gw prog w hR n go L c us (f a) m' Q) : Gw prog w hR n go L c us (t >>= f) m Q := gw_bind (us := []) h hf
theorem gw_any {t : Sem α} {Q : α → (Str → Option Value) → Prop} (h : ∀ x s, AtG hR n go L m x s → wpAny (model prog w) (x.B.over c []) t (fun a s' => ∃ m', Q a m' ∧ AtG hR n go L m' x s') (fun _ _ => False) s) :
    Gw prog w hR n go L c [] t m Q := by
  intro vs x s K H gd lv hg A k
  exact genJ_lift (wpJ_any (wpAny_mono (h x s A) (fun a s' ⟨m', q, A'⟩ => k a m' x s' q A') fun _ _ f => f.elim))
theorem gw_at {q : Pos} {f : Unit → Sem β} {Q : β → (Str → Option Value) → Prop} (h : Gw prog w hR n go L c us (f ()) m Q) : Gw prog w hR n go L c us (standAt q >>= f) m Q :=
  gw_bind0 (gw_any (Q := fun _ m' => m' = m) fun x s A => wpAny_standAt ⟨m, rfl, A⟩) fun a m' e => by subst e; exact h
theorem gw_execs_nil {env : Env} {Q : Flow → (Str → Option Value) → Prop} (h : Q .next m) : Gw prog w hR n go L c [] (execs [] env) m Q := gw_pure h
theorem gw_execs_cons {env : Env} {st : Stmt} {rest : List Stmt} {Q : Flow → (Str → Option Value) → Prop} (h : Gw prog w hR n go L c us (exec st env) m (fun f m' => f = .next ∧ Gw prog w hR n go L c us' (execs rest env) m' Q)) :
    Gw prog w hR n go L c (us ++ us') (execs (st :: rest) env) m Q := by
  rw [execs_cons]
  exact gw_bind h fun f m' ⟨e, z⟩ => by subst e; exact z

theorem yieldOut_eq {env : Env} (hco : env.scope.isCoroutine = false) (v : Value) : yieldOut env v = yieldValue v := by simp only [yieldOut, hco, Bool.false_eq_true, if_false]

theorem closing_func {s : Shared} {body : List Stmt} {env : Env} : closingShows s [] (.func body env) false = false := rfl

theorem gw_yield {e : Expr} {ypos pos : Pos} {env : Env} {v : Value} {body : List Stmt} {Q : Flow → (Str → Option Value) → Prop} (hi : interactive env = false) (hco : env.scope.isCoroutine = false) (hL : hR.get? L = none)
    (h : ∀ x s, AtG hR n go L m x s → wpAny (model prog w) (x.B.over (.func body env) []) (eval e env) (fun a s' => a = v ∧ AtG hR n go L m x s') (fun _ _ => False) s) (hq : Q .next m) :
    Gw prog w hR n go L (.func body env) [v] (exec (.Expr (.Yield (some e) ypos) pos) env) m Q := by
  rw [exec_Expr env _ pos hi rfl]
  show Gw _ _ _ _ _ _ _ _ (standAt pos >>= fun _ => ((eval e env >>= fun v => (standAt ypos >>= fun _ => yieldOut env v)) >>= fun x => dropValue (.Yield (some e) ypos) pos x)) m Q
  refine gw_at ?_
  simp only [yieldOut_eq hco]
  intro vs x s K H gd lv hg A k
  rw [Sem.bind_eq_wrap', Sem.bind_eq_wrap', Sem.wrap_wrap, Sem.wrap_wrap]
  refine genJ_lift (wpJ_any (wpAny_mono (h x s A) (fun a s' ⟨ea, A'⟩ => ?_) fun _ _ f => f.elim))
  subst ea
  refine genJ_at ?_
  refine genJ_yield rfl ?_ fun p => ?_
  · show closingShows _ _ _ (gd false) = false
    rw [hg]; rfl
  · refine ⟨rfl, x.O₁, x.Og₁, A'.af, A'.off, good_iff.mpr fun s₁ B₁ same room => ?_⟩
    obtain ⟨o, es, ep, ho, rest⟩ := A'.ns
    refine k .next m ⟨B₁, x.O₁, x.Og₁, s₁, x.O₁, x.Og₁⟩ (s₁.setGen go .running) hq ⟨?_, A'.own, ⟨o, es, ep, same.own L A'.own o ho, rest⟩, A'.off, ?_, fun y hy => ?_, room⟩
    · exact (After.refl same.base).setGen
    · rw [setGen_size]; exact Nat.lt_of_lt_of_le A'.lt same.gsize
    · rw [setGen_ne (fun z : y = go => A'.off (z ▸ hy)), same.gens y hy]; exact A'.fin y hy

/-- a fresh callee of a 'yield from' -/
inductive FreshEx (prog : Program) (w : World) (hR : Heap) (n go : Nat) (L : Addr) (m : Str → Option Value) (us : List Value) (x : Ix) (v : Value) (s : Shared) : Prop
  | mk (a : Addr) (g : Nat) (Oin : List Addr) (Ogin : List Nat) (O' : List Addr) (Og' : List Nat) (k : Nat) (c0 : v = .ref a) (c1 : After hR x.O (go :: x.Og) x.s₀ s O' (go :: Og')) (c2 : L ∈ O') (c3 : s.heap.Ns L m) (c4 : k + 20 ≤ n) (c5 : Draws (model prog w) hR k a g us Oin Ogin s) (c6 : (∀ y ∈ Oin, y ∈ O')) (c7 : a ∈ O') (c8 : L ∉ Oin) (c9 : L ≠ a) (c10 : hR.get? a = none) (c11 : g ∈ Og') (c12 : (∀ y ∈ Ogin, y ∈ Og')) (c13 : go ∉ Og') (c14 : go < s.gens.size) (c15 : (∀ y ∈ Og', y = g ∨ y ∈ Ogin ∨ s.gens[y]? = some .finished)) (c16 : Room n x.B) : FreshEx prog w hR n go L m us x v s
structure Fresh (prog : Program) (w : World) (hR : Heap) (n go : Nat) (L : Addr) (m : Str → Option Value) (us : List Value) (x : Ix) (v : Value) (s : Shared) : Prop where
  ex : FreshEx prog w hR n go L m us x v s

theorem wpAny_pyIter_genJ {A : Around} {E : Value → Shared → Prop} {s : Shared} {a : Addr} {Q : Value → Shared → Prop} (hg : s.TypeIs (.ref a) "generator") (h : Q (.ref a) s) :
    wpAny (model prog w) A (pyIter (.ref a)) Q E s := by
  refine wpAny_pyIter_slot hg slot_gen_iter (wpAny_call_entry slot_gen_iter hg entry_gen_iter ?_ (args_gen_iter _))
  show wpAny _ _ (ret (.ref a)) _ _ s
  exact wpAny_pure ⟨_, rfl, "generator", _, hg, slot_gen_next.lookup, h⟩

theorem genJ_call' {B : Around} {g : Nat} {fs : List Frame} {Y : Value → GenState → Shared → Prop} {R : Result → Shared → Prop} {s : Shared} {c' : Code} {h : Option Value} {gd : Bool} {l : List Value} {k : Result → Sem PySem.Fin} (hc : ∀ p, GenJ (model prog w) B c' g (denote table c') (.ret k h gd l c p [] :: fs) Y R s) : GenJ (model prog w) B c g (.call c' h gd l k) fs Y R s := genJ_call hc
theorem genJ_yieldFrom {B : Around} {g : Nat} {fs : List Frame} {Y : Value → GenState → Shared → Prop} {R : Result → Shared → Prop} {s : Shared} {a : Addr} {env : Env} {K : Value → Sem PySem.Fin} {H : Value → Sem PySem.Fin} {gd : Bool → Bool} {lv : List Value → List Value}
    (ht : s.TypeIs (.ref a) "generator") (h : GenJ (model prog w) B c g (.call (yfCode a) none (gd false) (lv []) fun r => (match r with | .ok f => (.pure f : Sem Flow) | .error e => .raise e).wrap (fun f : Flow => (match f with | .ret v => (pure v : Sem Value) | _ => unsupported "internal:call-without-return-value").wrap K H gd lv) H gd lv) fs Y R s) :
    GenJ (model prog w) B c g ((yieldFrom env (.ref a)).wrap K H gd lv) fs Y R s := by
  unfold yieldFrom
  rw [Sem.bind_eq_wrap', Sem.wrap_wrap]
  refine genJ_lift (wpJ_any (wpAny_typeOf (T := "generator") ht ?_))
  have ec : ((Value.type "generator" == Value.type "coroutine") = true) = False := by simp
  simp only [ec, if_false]
  rw [Sem.bind_eq_wrap', Sem.wrap_wrap]
  refine genJ_lift (wpJ_any (wpAny_holding (wpAny_pyIter_genJ ht ?_)))
  unfold runValue
  rw [Sem.bind_eq_wrap', Sem.wrap_wrap]
  exact h
theorem gw_yieldFrom {e : Expr} {ypos pos : Pos} {env : Env} {Q : Flow → (Str → Option Value) → Prop} (hi : interactive env = false) (hl : hR.NoLimit) (hw : c.weight ≤ 1) (hu : c.cUnits ≤ 4)
    (h : ∀ x s, AtG hR n go L m x s → wpAny (model prog w) (x.B.over c []) (eval e env) (fun a s' => Fresh prog w hR n go L m us x a s') (fun _ _ => False) s) (hq : Q .next m) :
    Gw prog w hR n go L c us (exec (.Expr (.YieldFrom e ypos) pos) env) m Q := by
  rw [exec_Expr env _ pos hi rfl]
  show Gw _ _ _ _ _ _ _ _ (standAt pos >>= fun _ => ((eval e env >>= fun v => (standAt ypos >>= fun _ => yieldFrom env v)) >>= fun x => dropValue (.YieldFrom e ypos) pos x)) m Q
  refine gw_at ?_
  intro vs x s K H gd lv hg A k
  rw [Sem.bind_eq_wrap', Sem.bind_eq_wrap', Sem.wrap_wrap, Sem.wrap_wrap]
  refine genJ_lift (wpJ_any (wpAny_mono (h x s A) (fun v s' F => ?_) fun _ _ f => f.elim))
  obtain ⟨a, g, Oin, Ogin, O', Og', kk, rfl, af, hLO, hns, hk, D, i1, i2, i4, iL, han, i5, i6, i7, i8, i9, room⟩ := F.ex
  refine genJ_at ?_
  refine genJ_yieldFrom D.gen.typeIs (K := fun z => (dropValue (.YieldFrom e ypos) pos z).wrap K H gd lv) (H := H) (gd := gd) (lv := lv) ?_
  refine genJ_call' fun p => ?_
  obtain ⟨oL, es, ep, ho, rest⟩ := hns
  refine yf_loop (oL := oL) (L := L) (m := kk) hl han hg hk hw hu iL ?_ us s' x.s₀ x.O x.Og O' Og' Oin Ogin x.B p af D i1 i2 hLO i4 i5 i6 i7 i8 i9 ho room
  intro s₂ s₁ O₂ Og₂ O₃ Og₃ B₃ af₃ j1 j2 j3 j4 j5 room₃
  show GenJ _ _ _ _ (K .next) _ _ _ _
  exact k .next m ⟨B₃, O₂, Og₂, s₁, O₃, Og₃⟩ s₂ hq ⟨af₃, j1, ⟨oL, es, ep, j2, rest⟩, j3, j4, j5, room₃⟩
end
end Mine
end
section
open PySem PySem.W PySem.Calls PySem.Spec PyProof.Rows
set_option Elab.async false
set_option maxRecDepth 100000
set_option linter.unusedVariables false
namespace Mine

theorem After.but {hR : Heap} {O O' : List Addr} {Og Og' : List Nat} {s s' : Shared} {S : Addr} {h' : Heap} {tk : Nat} (x : After hR O Og s s' O' Og') (hS : S ∈ O') (hn : hR.get? S = none) (k : ∀ b o, b ≠ S → s'.heap.get? b = some o → h'.get? b = some o)
    (hs : s'.heap.objs.size ≤ h'.objs.size) : After hR O Og s { s' with heap := h', toks := tk } O' Og' := by
  refine ⟨fun b o e => k b o (fun z => by rw [z, hn] at e; cases e) (x.base b o e), fun b o hb e => k b o (fun z => ?_) (x.keep b o hb e), x.gens, x.new, x.old, x.gnew, x.gold, x.gall, Nat.le_trans x.size hs, x.gsize, x.os⟩
  subst z
  rcases x.new b hS with h | h
  · exact hb h
  · exact Nat.lt_irrefl _ (Nat.lt_of_lt_of_le (Heap.lt_size e) h)

section
variable {prog : Program} {w : World} {hR : Heap} {n : Nat} {a : Addr} {g : Nat} {v : Value} {us : List Value} {O : List Addr} {Og : List Nat} {s : Shared} {A : Around}
theorem next_cons {Q : Option Value → Shared → Prop} {E : Value → Shared → Prop} (hl : hR.NoLimit) (d : Draws (model prog w) hR n a g (v :: us) O Og s) (r : Room (n + 1) A)
    (hQ : ∀ s' O' Og', After hR O (g :: Og) s s' O' (g :: Og') → Draws (model prog w) hR n a g us O' Og' s' → Q (some v) s') : wpJ (model prog w) A (pyNext (.ref a)) Q E s := by
  unfold pyNext
  refine wpJ_bind (wpJ_attempt (draws_cons hl d r fun s' O' Og' x d' => ?_))
  exact wpJ_pure (hQ s' O' Og' x d')
theorem next_nil {Q : Option Value → Shared → Prop} {E : Value → Shared → Prop} (hl : hR.NoLimit) (d : Draws (model prog w) hR n a g [] O Og s) (r : Room (n + 1) A)
    (hQ : ∀ s' O' Og', After hR O (g :: Og) s s' O' (g :: Og') → (∀ g' ∈ g :: Og', s'.gens[g']? = some .finished) → Q none s') : wpJ (model prog w) A (pyNext (.ref a)) Q E s := by
  unfold pyNext
  refine wpJ_bind (wpJ_attempt (draws_nil hl d r fun s' O' Og' e x hf _ he => ?_))
  obtain ⟨b, o, vs, rfl, ho, hc, _⟩ := he
  refine wpJ_bind (wpJ_any (wpAny_isInstance (T := "StopIteration") (b := true) ⟨o, ho, hc⟩ isSubtype_stop ?_))
  exact wpJ_pure (hQ s' O' Og' x hf)

theorem extend_draws {R : Result → Shared → Prop} {S : Addr} {res : Value} (hl : hR.NoLimit) (r : Room (n + 2) A) (hSR : hR.get? S = none) {s₀ : Shared} {O₀ : List Addr} {Og₀ : List Nat} :
    ∀ (us : List Value) (s : Shared) (O : List Addr) (Og : List Nat) (O₁ : List Addr) (Og₁ : List Nat) (acc : Array Value) (c : Nat), Draws (model prog w) hR n a g us O Og s → S ∉ O → S ∈ O₁ → (∀ x ∈ O, x ∈ O₁) → (∀ y ∈ g :: Og, y ∈ Og₁) → (∀ y ∈ Og₁, y ∈ g :: Og) → S ≠ a →
      After hR O₀ Og₀ s₀ s O₁ Og₁ → s.heap.get? S = some { cls := .type "list", dict := none, data := .seq acc c, slots := #[] } → acc.size + us.length ≤ 1000 →
      (∀ s' O' Og' c', After hR O₀ Og₀ s₀ s' O' Og' → S ∈ O' → (∀ y ∈ Og', s'.gens[y]? = some .finished) → s'.heap.get? S = some { cls := .type "list", dict := none, data := .seq (acc ++ us.toArray) c', slots := #[] } → R (.ok (.ret res)) s') →
      codeJ (model prog w) A (.builtin "list.extend.loop" ⟨[.ref S, .ref a, res], []⟩) R s := by
  have r1 : Room (n + 1) A.in1 := Room.in1 r
  intro us
  induction us with
  | nil =>
    intro s O Og O₁ Og₁ acc c d i1 i2 i3 i4 i5 i6 x hS hsz hR'
    refine codeJ_builtin F.entry_extend_loop ?_
    rw [Around.under_plainId F.plain_extend_loop _]
    show wpJ _ A.in1 (pyNext (.ref a) >>= _) _ _ s
    refine wpJ_bind (next_nil hl d r1 fun s' O' Og' x' hf => ?_)
    have x2 := x.trans (x'.lift (P := O₁) (Pg := Og₁) i3 i4)
    refine wpJ_pure (hR' s' _ _ c x2 (List.mem_append_left _ i2) (fun y hy => ?_) (by simpa using x'.keep S _ i1 hS))
    rcases List.mem_append.mp hy with hy | hy
    · exact hf y (x'.gold y (i5 y hy))
    · exact hf y hy
  | cons u us ih =>
    intro s O Og O₁ Og₁ acc c d i1 i2 i3 i4 i5 i6 x hS hsz hR'
    refine codeJ_builtin F.entry_extend_loop ?_
    rw [Around.under_plainId F.plain_extend_loop _]
    show wpJ _ A.in1 (pyNext (.ref a) >>= _) _ _ s
    refine wpJ_bind (next_cons hl d r1 fun s' O' Og' x' d' => ?_)
    have x2 := x.trans (x'.lift (P := O₁) (Pg := Og₁) i3 i4)
    have hS' := x'.keep S _ i1 hS
    have hSO' : S ∉ O' := fun z => by
      rcases x'.new S z with z | z
      · exact i1 z
      · exact Nat.lt_irrefl _ (Nat.lt_of_lt_of_le (Heap.lt_size hS) z)
    simp only [List.length_cons] at hsz
    show wpJ _ A.in1 (updateSeq S (·.push u) >>= _) _ _ _
    refine wpJ_bind (wpJ_any ?_)
    refine wpAny_updateSeq hS' rfl ?_ (Nat.le_trans (show acc.size ≤ 1000 by omega) (show 1000 ≤ sizeLine by decide)) (by show (acc.push u).size ≤ sizeLine + 1; rw [Array.size_push]; exact Nat.le_trans (show acc.size + 1 ≤ 1000 by omega) (show 1000 ≤ sizeLine + 1 by decide))
    have hat := Heap.get?_update_self (Obj.mapSeq (·.push u)) hS' rfl
    have hbut : ∀ b o, b ≠ S → s'.heap.get? b = some o → (s'.heap.update S (Obj.mapSeq (·.push u))).get? b = some o := fun b o hb e => (Heap.get?_update_other _ _ (Ne.symm hb)).trans e
    have x3 : After hR O₀ Og₀ s₀ { s' with heap := s'.heap.update S (Obj.mapSeq (·.push u)) } (O₁ ++ O') (Og₁ ++ (g :: Og')) := After.but (tk := s'.toks) x2 (List.mem_append_left _ i2) hSR hbut (by rw [Heap.size_update]; exact Nat.le_refl _)
    refine wpJ_pure ⟨plainId_quiet F.plain_extend_loop _, ih _ O' Og' (O₁ ++ O') (Og₁ ++ (g :: Og')) (acc.push u) _ (d'.same ⟨x3.base, fun y hy o e => hbut y o (fun z => hSO' (z ▸ hy)) e, fun _ _ => rfl, by show _ ≤ (s'.heap.update S _).objs.size; rw [Heap.size_update]; exact Nat.le_refl _, Nat.le_refl _⟩ ?_) hSO' (List.mem_append_left _ i2) (fun y hy => List.mem_append_right _ hy) (fun y hy => List.mem_append_right _ hy) ?_ i6 x3 hat (by rw [Array.size_push]; omega) fun s'' O'' Og'' c' y1 y2 y3 y4 => ?_⟩
    · obtain ⟨o, nm, qn, ho, r⟩ := d'.gen
      exact ⟨o, nm, qn, hbut a o (Ne.symm i6) ho, r⟩
    · intro y hy
      rcases List.mem_append.mp hy with hy | hy
      · exact x'.gold y (i5 y hy)
      · exact hy
    · refine hR' s'' O'' Og'' c' y1 y2 y3 ?_
      rw [y4]
      congr 2
      simp

theorem collect_draws {Q : List Value → Shared → Prop} {E : Value → Shared → Prop} (hl : hR.NoLimit) (d : Draws (model prog w) hR n a g us O Og s) (r : Room (n + 2) A) (hO : ∀ x ∈ O, x < s.heap.objs.size) (hle : hR.objs.size ≤ s.heap.objs.size) (hus : us.length ≤ 1000)
    (hQ : ∀ s' O' Og', After hR O (g :: Og) s s' O' Og' → (∀ y ∈ Og', s'.gens[y]? = some .finished) → Q us s') : wpJ (model prog w) A (collect (.ref a)) Q E s := by
  have hSO : s.heap.objs.size ∉ O := fun z => Nat.lt_irrefl _ (hO _ z)
  have hlt : a < s.heap.objs.size := by obtain ⟨o, _, _, ho, _⟩ := d.gen; exact Heap.lt_size ho
  have hSa : s.heap.objs.size ≠ a := Nat.ne_of_gt hlt
  have hSR : hR.get? s.heap.objs.size = none := Heap.get?_none_of_le hle
  unfold collect
  refine wpJ_bind (wpJ_runValue (codeJ_builtin F.entry_proto_collect ?_))
  rw [Around.under_plainId F.plain_proto_collect _]
  show wpJ _ A.in1 (newList [] >>= fun l => again (.builtin "list.__iadd__" ⟨[l, .ref a], []⟩)) _ _ s
  refine wpJ_bind (wpJ_any (wpAny_newObj_type ?_))
  refine wpJ_pure ⟨plainId_quiet F.plain_list_iadd _, codeJ_builtin F.entry_list_iadd ?_⟩
  rw [Around.under_plainId F.plain_list_iadd _]
  show wpJ _ A.in1 (Builtin.List.listExtendWith (.ref s.heap.objs.size) (.ref a) (.ref s.heap.objs.size)) _ _ _
  unfold Builtin.List.listExtendWith
  have gT := d.gen.typeIs
  have hT : ({ s with heap := s.heap.push { cls := .type "list", data := .seq ([] : List Value).toArray } } : Shared).TypeIs (.ref a) "generator" := by
    obtain ⟨o, ho, hc⟩ := gT
    exact ⟨o, Heap.get?_push_of_some _ ho, hc⟩
  refine wpJ_bind (wpJ_any (wpAny_typeOf hT ?_))
  have h1 : Builtin.List.listSameRef (.ref s.heap.objs.size) (.ref a) = false := by simp [Builtin.List.listSameRef, hSa]
  have h2 : (Value.type "generator" == Value.type "list") = false := by decide
  have h3 : (Value.type "generator" == Value.type "tuple") = false := by decide
  simp only [h1, h2, h3, Bool.or_false, Bool.false_eq_true, if_false]
  refine wpJ_bind (wpJ_any (wpAny_pyIter_genJ hT ?_))
  refine wpJ_bind (wpJ_any (wpAny_holding ?_))
  unfold Builtin.List.listLengthHint
  refine wpAny_bind (wpAny_specialOf hT F.gen_no_len ?_)
  show wpAny _ A.in1 (specialOf (Value.ref a) (Str.ofString "__length_hint__") >>= _) _ _ _
  refine wpAny_bind (wpAny_specialOf hT F.gen_no_hint ?_)
  refine wpAny_pure ?_
  show wpJ _ A.in1 (rule "list.extend.makes-room" >>= fun _ => Builtin.List.listTouch (.ref s.heap.objs.size) >>= fun _ =>
    again (.builtin "list.extend.loop" ⟨[.ref s.heap.objs.size, .ref a, .ref s.heap.objs.size], []⟩)) _ _ _
  refine wpJ_bind (wpJ_any (wpAny_rule ?_))
  have hS₁ : (s.heap.push { cls := .type "list", data := .seq ([] : List Value).toArray }).get? s.heap.objs.size = some { cls := .type "list", data := .seq ([] : List Value).toArray } := Heap.get?_push_size _ rfl
  refine wpJ_bind (wpJ_any ?_)
  show wpAny _ A.in1 (updateSeq s.heap.objs.size (·.push .none) >>= fun _ => updateSeq s.heap.objs.size (·.pop)) _ _ _
  refine wpAny_bind (wpAny_updateSeq hS₁ rfl ?_)
  have hS₂ := Heap.get?_update_self (Obj.mapSeq (·.push Value.none)) hS₁ rfl
  refine wpAny_updateSeq hS₂ rfl ?_
  have hS₃ := Heap.get?_update_self (Obj.mapSeq (·.pop)) hS₂ rfl
  have oth : ∀ b o, b ≠ s.heap.objs.size → s.heap.get? b = some o →
      (((s.heap.push { cls := .type "list", data := .seq ([] : List Value).toArray }).update s.heap.objs.size (Obj.mapSeq (·.push Value.none))).update s.heap.objs.size (Obj.mapSeq (·.pop))).get? b = some o :=
    fun b o hb e => (Heap.get?_update_other _ _ (Ne.symm hb)).trans ((Heap.get?_update_other _ _ (Ne.symm hb)).trans (Heap.get?_push_of_some _ e))
  have sz : (((s.heap.push { cls := .type "list", data := .seq ([] : List Value).toArray }).update s.heap.objs.size (Obj.mapSeq (·.push Value.none))).update s.heap.objs.size (Obj.mapSeq (·.pop))).objs.size = s.heap.objs.size + 1 := by
    rw [Heap.size_update, Heap.size_update, Heap.size_push]
  generalize hh : (((s.heap.push { cls := .type "list", data := .seq ([] : List Value).toArray }).update s.heap.objs.size (Obj.mapSeq (·.push Value.none))).update s.heap.objs.size (Obj.mapSeq (·.pop))) = h' at hS₃ oth sz
  have x1 : After hR O (g :: Og) s { s with heap := h' } (s.heap.objs.size :: O) (g :: Og) := by
    refine After.but (s' := s) (tk := s.toks) ((After.refl d.base).more (O₂ := s.heap.objs.size :: O) (Og₂ := g :: Og) ?_ (fun y hy => .tail _ hy) (fun y hy => .inl hy) fun y hy => hy) (.head _) hSR oth (by omega)
    intro y hy
    rcases List.mem_cons.mp hy with e | e
    · exact .inr (Nat.le_of_eq e.symm)
    · exact .inl e
  have ha' : ∀ o, s.heap.get? a = some o → h'.get? a = some o := fun o e => oth a o (Ne.symm hSa) e
  refine wpJ_pure ⟨plainId_quiet F.plain_extend_loop _, extend_draws hl r hSR us _ O Og (s.heap.objs.size :: O) (g :: Og) _ _ (d.same ⟨x1.base, fun y hy o e => oth y o (fun z => hSO (z ▸ hy)) e, fun _ _ => rfl, by show _ ≤ h'.objs.size; omega, Nat.le_refl _⟩ ?_) hSO (.head _) (fun y hy => .tail _ hy) (fun y hy => hy) (fun y hy => hy) hSa x1 hS₃ (by simp; omega) fun s' O' Og' c' y1 y2 y3 y4 => ?_⟩
  · obtain ⟨o, nm, qn, ho, rr⟩ := d.gen
    exact ⟨o, nm, qn, ha' _ ho, rr⟩
  show wpJ _ A (load s.heap.objs.size >>= _) _ _ s'
  refine wpJ_bind (wpJ_any (wpAny_load y4 ?_))
  refine wpJ_pure ?_
  have := hQ s' O' Og' y1 y3
  simpa using this

theorem sorted_draws {Q : Value → Shared → Prop} {E : Value → Shared → Prop} {ns : List Int} (hl : hR.NoLimit) (d : Draws (model prog w) hR n a g us O Og s) (r : Room (n + 3) A) (hO : ∀ x ∈ O, x < s.heap.objs.size) (hle : hR.objs.size ≤ s.heap.objs.size) (hI : IntsAre us ns) (h64 : us.length < 64)
    (hQ : ∀ s' O' Og' S vs' ns' e, After hR O (g :: Og) s s' O' Og' → (∀ y ∈ Og', s'.gens[y]? = some .finished) → s.heap.objs.size ≤ S → s'.heap.get? S = some (seqObj "list" vs' e) → IntsAre vs'.toList ns' → ns'.Perm ns → ns'.Pairwise (· ≤ ·) → Q (.ref S) s') : wpJ (model prog w) A (call (.builtin "sorted") [.ref a]) Q E s := by
  have r1 : Room (n + 2) A.in1 := Room.in1 r
  refine wpJ_call_function_entry kind_sorted plain_sorted entry_sorted (args_sorted1 _) ?_
  unfold Builtin.«sorted»
  refine wpJ_bind (m := checkCount "sorted" 1 1 _) (wpJ_pure ?_)
  refine wpJ_bind (collect_draws hl d r1 hO hle (by omega) fun s' O' Og' x hf => ?_)
  refine wpJ_any (wpAny_bind (wpAny_newList ?_))
  have hoL : (s'.heap.push (seqObj "list" us.toArray 0)).get? s'.heap.objs.size = some (seqObj "list" us.toArray 0) := Heap.get?_push_size _ rfl
  show wpAny _ _ _ _ _ { s' with heap := s'.heap.push (seqObj "list" us.toArray 0) }
  refine wpAny_bind (wpAny_holding (wpAny_call_entry slot_list_sort ⟨_, hoL, rfl⟩ entry_list_sort (list_sort_tree hoL hI h64 fun out ns' a1 a2 a3 => ⟨_, rfl, ?_⟩) (args_list_sort _)))
  obtain ⟨e, he⟩ := sortedHeap_at (vs := us) (out := out) hoL
  refine wpAny_pure (hQ _ (s'.heap.objs.size :: O') Og' _ out ns' e ?_ hf x.size he a1 a2 a3)
  have x1 := (After.heap (h' := s'.heap.push (seqObj "list" us.toArray 0)) x (fun b o e => Heap.get?_push_of_some _ e) (by rw [Heap.size_push]; exact Nat.le_succ _)).more (O₂ := s'.heap.objs.size :: O') (Og₂ := Og') (fun y hy => ?_) (fun y hy => .tail _ hy) (fun y hy => .inl hy) fun y hy => hy
  · refine After.but (h' := sortedHeap (s'.heap.push (seqObj "list" us.toArray 0)) s'.heap.objs.size us out) (tk := s'.toks) x1 (.head _) (Heap.get?_none_of_le (Nat.le_trans hle x.size)) (fun b o hb e => ?_) ?_
    · exact (sortedHeap_old hb (Heap.lt_size e)).trans e
    · unfold sortedHeap
      simp only [Heap.size_update, Heap.size_push]
      exact Nat.le_succ_of_le (Nat.le_succ _)
  · rcases List.mem_cons.mp hy with e | e
    · exact .inr (e ▸ x.size)
    · exact .inl e
end
end Mine
end
section
open PySem PySem.W PySem.Calls PySem.Spec PyProof.Rows
set_option Elab.async false
set_option maxRecDepth 100000
set_option linter.unusedVariables false
namespace Mine

noncomputable abbrev NoE : Value → Shared → Prop := fun _ _ => False
section
variable {α : Type} {M : Model} {A : Around} {E : Value → Shared → Prop} {s : Shared} {env : Env}
theorem noE_bind {m : Sem Unit} {Q : Unit → Shared → Prop} : True := trivial
theorem wpJ_onRaiseN {m : Sem α} {k : Value → Sem Unit} {Q : α → Shared → Prop} (h : wpJ M A m Q NoE s) : wpJ M A (m.onRaise k) Q NoE s :=
  wpJ_onRaise (wpJ_mono h (fun _ _ x => x) fun _ _ f => f.elim)
theorem wpJ_execs_nil {Q : Flow → Shared → Prop} (h : Q .next s) : wpJ M A (execs [] env) Q E s := wpJ_pure h
theorem wpJ_execs_cons {st : Stmt} {rest : List Stmt} {Q : Flow → Shared → Prop} (h : wpJ M A (exec st env) (fun f s' => match f with | .next => wpJ M A (execs rest env) Q E s' | f => Q f s') E s) : wpJ M A (execs (st :: rest) env) Q E s := by
  rw [execs_cons]
  refine wpJ_bind (wpJ_mono h (fun f s' x => ?_) fun _ _ x => x)
  cases f <;> first | exact x | exact wpJ_pure x
/-- a statement that goes on -/
theorem wpJ_execs_next {st : Stmt} {rest : List Stmt} {Q : Flow → Shared → Prop} (h : wpJ M A (exec st env) (fun f s' => f = .next ∧ wpJ M A (execs rest env) Q E s') E s) : wpJ M A (execs (st :: rest) env) Q E s :=
  wpJ_execs_cons (wpJ_mono h (fun f s' x => by obtain ⟨rfl, x⟩ := x; exact x) fun _ _ x => x)
theorem wpJ_If {test : Expr} {body orelse : List Stmt} {pos : Pos} {Q : Flow → Shared → Prop} (h : wpAny M A (isTrue test env (eval test env)) (fun b s' => wpJ M A (if b then execs body env else execs orelse env) Q E s') E s) :
    wpJ M A (exec (.If test body orelse pos) env) Q E s := by
  rw [exec_If]
  exact wpJ_bind (wpJ_any (wpAny_standAt (wpJ_bind (wpJ_any h))))
theorem wpJ_runOwn {c : Code} {Q : Flow → Shared → Prop} (h : codeJ M A c (fun r s' => match r with | .ok f => Q f s' | .error _ => False) s) : wpJ M A (runOwn c env) Q NoE s := by
  unfold runOwn
  exact wpJ_onRaiseN (wpJ_run (codeJ_mono h fun r s' x => by cases r <;> exact x))
theorem wpJ_For {target iter : Expr} {body orelse : List Stmt} {pos : Pos} {Q : Flow → Shared → Prop}
    (h : wpAny M A (eval iter env) (fun x s₁ => wpAny M A (pyIter x) (fun it s₂ => codeJ M A (.forLoop target it body orelse env) (fun r s' => match r with | .ok f => Q f s' | .error _ => False) s₂) NoE s₁) NoE s)
    (hs : ∀ x, foldedSetIterable iter env x = pure x := by intro _; rfl) : wpJ M A (exec (.For target iter body orelse pos) env) Q NoE s := by
  rw [exec_For]
  refine wpJ_bind (wpJ_any (wpAny_standAt (wpJ_bind (wpJ_any (wpAny_mono h (fun x s₁ h₁ => ?_) fun _ _ x => x)))))
  refine wpJ_bind (wpJ_any (wpAny_of_eq (hs x) ?_))
  refine wpJ_bind (wpJ_any (wpAny_standAt (wpJ_bind (wpJ_any (wpAny_holding (wpAny_mono h₁ (fun it s₂ h₂ => ?_) fun _ _ x => x))))))
  exact wpJ_runOwn h₂
/-- a call with one argument, walked in J -/
theorem wpJ_callWith1 {pos : Pos} {f : Value} {first : List Value} {x : Sem Value} {Q : Value → Shared → Prop} {P : Heap → Prop} (hk : ∀ h, P h → ∃ k, (k = Keeper.frame ∨ k = Keeper.machine ∨ k = Keeper.boundFrame) ∧ Looks M h (keeperOf f) k)
    (h : wpJ M A x (fun v s₁ => P s₁.heap ∧ wpJ M A (call f (first ++ [v])) Q E s₁) E s) : wpJ M A (callWith pos f first [(false, x)] []) Q E s := by
  unfold callWith
  have ea : wpJ M A (evalArgs f true [(false, x)] []) (fun a s₁ => P s₁.heap ∧ wpJ M A (call f (first ++ a.pos) a.kw) Q E s₁) E s := by
    unfold evalArgs
    show wpJ M A (spliced [(false, x)] >>= _) _ E s
    refine wpJ_bind ?_
    show wpJ M A (x >>= fun v => (pure [v] >>= fun here => (holding here (spliced []) >>= fun r => pure (here ++ r)))) _ E s
    refine wpJ_bind (wpJ_mono h (fun v s₁ h₁ => ?_) fun _ _ z => z)
    refine wpJ_bind (wpJ_pure (wpJ_bind (wpJ_holding (wpJ_pure (wpJ_pure ?_)))))
    refine wpJ_holding ?_
    exact wpJ_bind (wpJ_pure (wpJ_bind (wpJ_pure (wpJ_pure h₁))))
  refine wpJ_bind (wpJ_holding (wpJ_mono ea (fun a s₁ h₁ => wpJ_bind (wpJ_any (wpAny_standAt ?_))) fun _ _ z => z))
  obtain ⟨k, hk', L⟩ := hk _ h₁.1
  have tail : ∀ {t : Sem Value}, wpJ M A t Q E s₁ → wpJ M A (t >>= fun r => holding [r] point >>= fun _ => pure r) Q E s₁ :=
    fun ht => wpJ_bind (wpJ_mono ht (fun r s₂ hr => wpJ_bind (wpJ_any (wpAny_holding (wpAny_point (wpJ_pure hr))))) fun _ _ z => z)
  have marked (mk : Value) : wpJ M A (callMarked mk f (first ++ a.pos) a.kw) Q E s₁ := by unfold callMarked; exact wpJ_keep h₁.2
  have hst : ([(false, x)].any (·.1) || ([] : List (Option Str × Sem Value)).any (·.1.isNone)) = false := rfl
  simp only [hst]
  refine wpJ_bind (wpJ_any (L.here ?_))
  rcases hk' with rfl | rfl | rfl <;> dsimp only <;> first | exact tail h₁.2 | (split <;> first | exact tail h₁.2 | exact tail (marked _))
end

section
variable {prog : Program} {w : World} {A : Around} {s : Shared} {env : Env}
theorem codeJ_func {body : List Stmt} {R : Result → Shared → Prop} (h : wpJ (model prog w) (A.deeper env) (execs body env) (fun f s' => R (.ok (.ret (match f with | .ret v => v | _ => .none))) s') NoE s) : codeJ (model prog w) A (.func body env) R s := by
  refine codeJ_of_tree ?_
  show wpJ _ (A.deeper env) (do point; match ← (execs body env).onRaise (leaving env) with | .ret v => ret v | _ => ret .none) _ _ s
  refine wpJ_bind (wpJ_any (wpAny_point (wpJ_bind (wpJ_onRaise (wpJ_mono h (fun f s' h' => ?_) fun _ _ z => z.elim)))))
  cases f <;> exact wpJ_pure h'
theorem codeJ_call_function {a : Addr} {args : Args} {o : Obj} {fd : FuncData} {body : List Stmt} {R : Result → Shared → Prop} (hroom : A.depth < recursionLimit) (ho : s.heap.get? a = some o)
    (hd' : o.data = .func fd) (hco : fd.scope.isCoroutine = false) (hgen : fd.scope.isGenerator = false) (hbody : fd.body = .stmts body) (hcd : s.heap.CodeRec fd.code fd.qualname)
    (h : wpAny (model prog w) A.in1 (bindArgs fd args) (fun binds s₁ =>
      wpAny (model prog w) A.in1 (newFunctionEnv fd.scope fd.globals fd.closure binds (fd.qualname ++ ".<locals>.") (some a) fd.code none fd.builtins)
        (fun env s₂ => s₂.heap.NoLimit ∧ codeJ (model prog w) A (.func body env) R s₂) (fun e s' => R (.error e) s') s₁) (fun e s' => R (.error e) s') s) :
    codeJ (model prog w) A (.call (.ref a) args) R s := by
  refine codeJ_of_tree ?_
  show wpJ _ A.in1 (callAny (.ref a) args) _ _ s
  simp only [callAny]
  refine wpJ_bind (wpJ_any (wpAny_load ho ?_))
  obtain ⟨c, oc, vs, tq, hc, hoc, hdc, hq⟩ := hcd
  simp only [hd', callFunction, hco, hgen, hbody, hc]
  rw [hc] at h
  refine wpJ_bind (m := field (.ref c) 1) (wpJ_any (wpAny_field hoc hdc hq (wpJ_bind (wpJ_any (wpAny_pure ?_)))))
  exact wpJ_bind (wpJ_any (wpAny_mono h (fun binds s₁ h₁ => wpJ_bind (wpJ_any (wpAny_mono h₁ (fun env s₂ h₂ => wpJ_bind (wpJ_any (wpAny_enterFrame h₂.1 hroom
    (wpJ_pure (And.intro rfl h₂.2))))) fun _ _ h' => h'))) fun _ _ h' => h'))

theorem codeJ_forLoop {R : Result → Shared → Prop} {target : Expr} {it : Value} {body : List Stmt} (I : Nat → Shared → Prop)
    (turn : ∀ n s, I n s → wpAny (model prog w) A (pyNext it) (fun r s₁ => match r with
      | none => R (.ok .next) s₁
      | some v => wpAny (model prog w) A (assign target env v) (fun _ s₂ => wpJ (model prog w) A (execs body env) (fun f s₃ => f = .next ∧ ∃ m, m < n ∧ I m s₃) NoE s₂) NoE s₁) NoE s)
    (n : Nat) (h : I n s) (ht : ∀ v, letOwnedTupleGo target it v = pure () := by intro _; rfl) : codeJ (model prog w) A (.forLoop target it body [] env) R s := by
  induction n using Nat.strongRecOn generalizing s with
  | ind n ih =>
    refine codeJ_of_tree ?_
    show wpJ _ A ((forTurn target it body [] env).onRaise (fun x => do noteFrame x env; theTreesLotGoes x)) _ _ s
    refine wpJ_onRaise (wpJ_mono (E := NoE) (Q := fun fin s' => match fin with | .done f => R (.ok f) s' | .again c' => c'.quiet = true ∧ codeJ (model prog w) A c' R s') ?_ (fun _ _ x => x) fun _ _ f => f.elim)
    simp only [forTurn]
    refine wpJ_bind (wpJ_any (wpAny_standAt (wpJ_bind (wpJ_onRaiseN (wpJ_any (wpAny_mono (turn n s h) (fun r s₁ h₁ => ?_) fun _ _ h' => h'))))))
    cases r with
    | none =>
      refine wpJ_pure ⟨rfl, codeJ_any (codeAny_block (wpAny_execs_nil h₁))⟩
    | some v =>
      refine wpJ_bind (wpJ_any (wpAny_of_eq (ht v) ?_))
      refine wpJ_bind (wpJ_any (wpAny_mono h₁ (fun _ s₂ h₂ => wpJ_bind (wpJ_mono h₂ (fun f s₃ h₃ => ?_) fun _ _ h' => h')) fun _ _ h' => h'))
      obtain ⟨rfl, m, hm, hI⟩ := h₃
      exact wpJ_pure ⟨rfl, ih m hm hI⟩
end
end Mine
end
section
open PySem PySem.W PySem.Calls PySem.Spec PyProof.Rows
set_option Elab.async false
set_option maxRecDepth 100000
set_option maxHeartbeats 8000000
namespace Mine
open_top hd for PySem.Challenge.rw_bc0018_01
end Mine
end
section
open PySem PySem.W PySem.Calls PySem.Spec PyProof.Rows
set_option Elab.async false
set_option maxRecDepth 100000
set_option maxHeartbeats 4000000
namespace Mine
noncomputable abbrev PP : Program := PySem.Challenge.rw_bc0018_01.row.toRowW.prog
noncomputable def nthS : List Stmt → Nat → Stmt
  | [], _ => .Pass default
  | s :: _, 0 => s
  | _ :: r, n + 1 => nthS r n
noncomputable def bodyS (s : Stmt) : List Stmt := by
  cases s with
  | FunctionDef _ _ b => exact b
  | ClassDef _ _ _ b => exact b
  | If _ b => exact b
  | For _ _ b => exact b
  | _ => exact []
noncomputable def scopeS (s : Stmt) : Scope := by
  cases s with
  | FunctionDef _ _ _ _ _ _ s => exact s
  | _ => exact default
noncomputable def paramsS (s : Stmt) : Arguments := by
  cases s with
  | FunctionDef _ p => exact p
  | _ => exact default
noncomputable def clsS : Stmt := nthS PySem.Challenge.pw_bc0018_01.main.body 1
noncomputable def imS : Stmt := nthS (bodyS clsS) 5
noncomputable def recS : Stmt := nthS (bodyS imS) 2
noncomputable def recL : { l : List Stmt // bodyS recS = l } := ⟨_, by
  dsimp only [recS, imS, clsS, PySem.Challenge.pw_bc0018_01, nthS, bodyS]⟩
noncomputable def recSc : { l : Scope // scopeS recS = l } := ⟨_, by
  dsimp only [recS, imS, clsS, PySem.Challenge.pw_bc0018_01, nthS, bodyS, scopeS]⟩
noncomputable def recPa : { l : Arguments // paramsS recS = l } := ⟨_, by
  dsimp only [recS, imS, clsS, PySem.Challenge.pw_bc0018_01, nthS, bodyS, paramsS]⟩
end Mine
end
section
open PySem PySem.W PySem.Calls PySem.Spec PyProof.Rows
set_option Elab.async false
set_option maxRecDepth 100000
set_option maxHeartbeats 4000000
namespace Mine
noncomputable def Reg (_ : OpenLaw) (_ : Params → Frag) : Prop := True
theorem fillT : Reg PySem.Challenge.rw_bc0018_01 hd.heap_39 := by k_fill; trivial

noncomputable def testS : Stmt → Expr
  | .If t _ _ _ => t
  | _ => default
noncomputable def elseS : Stmt → List Stmt
  | .If _ _ e _ => e
  | _ => []

section
variable {w : World} {A : Around} {E : Value → Shared → Prop} {s : Shared} {x L : Addr} {h₀ : Heap} {m : Str → Option Value} {ox od : Obj} {v u : Value} {expr : Bool} {Q : Value → Shared → Prop}
/-- a Node's object -/
structure NodeAt (h : Heap) (x : Addr) (v u : Value) : Prop where
  ex : ∃ ox od, InstAt h x ox 40 (some od) ∧ ox.slots = #[some u, some v]
  hv : handedIn v = true
  hu : handedIn u = true
theorem get_content (F : Fr h₀ L s.heap m) (X : Frag.In (hd.heap_39 w.params) h₀) (I : NodeAt s.heap x v u)
    (h : Q v { s with toks := s.toks + 1 }) : wpAny (model PP w) A (getAttr (.ref x) "_content" expr) Q E s := by
  obtain ⟨⟨ox, od, I, hs⟩, hh, _⟩ := I
  refine get_slot (C := 40) (p := 42) (i := 1) F X I ?_ ?_ ?_ ?_ ?_ ?_ (by rw [hs]; rfl) hh h
  · k_is
  · k_is
  · k_is
  · k_is
  · k_is
  · k_is
theorem get_children (F : Fr h₀ L s.heap m) (X : Frag.In (hd.heap_39 w.params) h₀) (I : NodeAt s.heap x v u)
    (h : Q u { s with toks := s.toks + 1 }) : wpAny (model PP w) A (getAttr (.ref x) "_children" expr) Q E s := by
  obtain ⟨⟨ox, od, I, hs⟩, _, hh⟩ := I
  refine get_slot (C := 40) (p := 41) (i := 0) F X I ?_ ?_ ?_ ?_ ?_ ?_ (by rw [hs]; rfl) hh h
  · k_is
  · k_is
  · k_is
  · k_is
  · k_is
  · k_is
end
end Mine
end
section
open PySem PySem.W PySem.Calls PySem.Spec PyProof.Rows
set_option Elab.async false
set_option maxRecDepth 100000
set_option maxHeartbeats 4000000
set_option linter.unusedVariables false
namespace Mine

theorem fillS : Reg PySem.Challenge.rw_bc0018_01 hd.heap_39 := by k_fill; trivial
noncomputable abbrev rq : Str := Str.ofString "MQTTMatcher.iter_match.<locals>.rec"
noncomputable abbrev SK (w : World) := strKind PP w
noncomputable def mm0 (x : Addr) (i : Int) (t : Tok) : Str → Option Value := fun y => if y = (Str.ofString "i") then some (.int i t) else if y = Str.ofString "node" then some (.ref x) else none

section
variable {w : World} {A : Around} {E : Value → Shared → Prop} {s : Shared} {h₀ : Heap} {d : Addr} {f : Str → Option Value} {k : Str} {t : Tok} {Q : Value → Shared → Prop}
theorem in_map (hd : (d == sysModules) = false) (hm : s.heap.MapOf (SK w) d f) (h : Q (.bool (f k).isSome) { s with toks := s.toks + 1 }) : wpAny (model PP w) A (compareOp .In (.str k t) (.ref d)) Q E s :=
  wpAny_in_of (strKind_is PP w k t) hd hm h
theorem item_map {value slice : Expr} {v : Value} (hm : s.heap.MapOf (SK w) d f) (hv : f k = some v) (h : Q v { s with toks := s.toks + 1 })
    (hs : subscripted slice false (.ref d) (.str k t) = operate [.ref d, .str k t] (getItem (.ref d) (.str k t)) := by with_unfolding_all rfl) :
    wpAny (model PP w) A (subscriptTail value slice (.ref d) (.str k t)) Q E s :=
  subscriptTail_builtinR (x := v) hm.typeIs slot_dict_getitem.lookup (wpAny_getItem_of (strKind_is PP w k t) hm hv ⟨rfl, h⟩) hs
end

local macro_rules | `(tactic| walk_at "eval Name") => `(tactic| (k_here; k_dflt (refine' wpAny_Name (wpAny_loadName_free (by rfl) (by rfl) (by assumption) (by assumption) ?_ (by decide)) (by decide))))
local macro_rules | `(tactic| walk_at "getAttr ref") => `(tactic| (k_here; k_dflt (first | ((with_reducible show wpAny _ _ (getAttr _ (PySem.Str.ofString "_content") _) _ _ _); refine' get_content (by k_asm) (by k_asm) (by assumption) ?_) | ((with_reducible show wpAny _ _ (getAttr _ (PySem.Str.ofString "_children") _) _ _ _); refine' get_children (by k_asm) (by k_asm) (by assumption) ?_))))
local macro_rules | `(tactic| walk_at "compareOp In str ref") => `(tactic| (k_here; k_dflt (refine' in_map (by assumption) (by assumption) ?_)))
local macro_rules | `(tactic| walk_at "subscriptTail") => `(tactic| (k_here; (with_reducible show wpAny _ _ (subscriptTail _ _ (Value.ref _) (Value.str _ _)) _ _ _); k_dflt (refine' item_map (by assumption) (by with_reducible assumption) ?_)))
local macro_rules | `(tactic| walk_at "call builtin:len") => `(tactic| (k_here; k_dflt (refine' len_strsA (by assumption) (by assumption) (by omega) ?_)))

local macro_rules | `(tactic| walk_at "callWith ref") => `(tactic| (k_here; k_dflt (refine' callWith_F (by assumption) ?_)))
local macro_rules | `(tactic| walk_at "And") => `(tactic| ((with_reducible show FnAt _ _ ∧ _); refine ⟨by assumption, ?_⟩; try dsimp only [List.nil_append, List.cons_append]))

section
variable {w : World} {A : Around} {hR : Heap} {L fr cL cN cR l x d x' : Addr} {mg mb : Str → Option Value} {s : Shared} {p : Program} {loose : List Str} {mean : ExcName → Option Value} {E : Value → Shared → Prop} {ccd v v' u' : Value} {cl : List (Str × Addr)}
  {i : Int} {t : Tok} {vs : List Value} {parts : List Str} {normal : Bool} {f : Str → Option Value} {part : Str} {tp : Tok} {m : Str → Option Value}
noncomputable abbrev renv (L fr : Addr) (ccd : Value) (cl : List (Str × Addr)) : Env := envX rq recSc.1 L fr ccd cl

theorem p_len (F : Fr hR L s.heap (mm0 x i t)) (X : Frag.In (hd.heap_39 w.params) hR) (T : Top p loose mean mg mb hR) (N : News hR L s.heap []) (hcL : cl.lookup (Str.ofString "lst") = some cL) (hvL : s.heap.IsCell cL (some (.ref l))) (hl : s.heap.IsList l vs.toArray) (hs : StrsAre vs parts)
    (hp : parts.length ≤ 1000) {Q : Bool → Shared → Prop} (h : ∀ tk, Q (decide (i = parts.length)) { s with toks := tk }) :
    wpAny (model PP w) A (isTrue (testS (nthS recL.1 0)) (renv L fr ccd cl) (eval (testS (nthS recL.1 0)) (renv L fr ccd cl))) Q E s := by
  unfold renv recL recSc
  dsimp only [nthS, testS]
  k_steps
  exact h _
theorem p_content (F : Fr hR L s.heap (mm0 x i t)) (X : Frag.In (hd.heap_39 w.params) hR) (T : Top p loose mean mg mb hR) (N : News hR L s.heap []) (I : NodeAt s.heap x v (.ref d)) (hv : v = .none ∨ ∃ k t, v = .int k t)
    {Q : Bool → Shared → Prop} (h : ∀ tk, Q (v != .none) { s with toks := tk }) :
    wpAny (model PP w) A (isTrue (testS (nthS (bodyS (nthS recL.1 0)) 0)) (renv L fr ccd cl) (eval (testS (nthS (bodyS (nthS recL.1 0)) 0)) (renv L fr ccd cl))) Q E s := by
  unfold renv recL recSc
  dsimp only [nthS, testS, bodyS]
  rcases hv with rfl | ⟨k, t', rfl⟩
  · k_steps
    exact h _
  · k_steps
    exact h _
theorem p_in (F : Fr hR L s.heap (fun y => if y = Str.ofString "part" then some (.str part tp) else mm0 x i t y)) (X : Frag.In (hd.heap_39 w.params) hR) (T : Top p loose mean mg mb hR) (N : News hR L s.heap []) (I : NodeAt s.heap x v (.ref d)) (hd : (d == sysModules) = false) (hm : s.heap.MapOf (SK w) d f)
    {Q : Bool → Shared → Prop} (h : ∀ tk, Q (f part).isSome { s with toks := tk }) :
    wpAny (model PP w) A (isTrue (testS (nthS (elseS (nthS recL.1 0)) 1)) (renv L fr ccd cl) (eval (testS (nthS (elseS (nthS recL.1 0)) 1)) (renv L fr ccd cl))) Q E s := by
  unfold renv recL recSc
  dsimp only [nthS, testS, elseS]
  k_steps
  exact h _

noncomputable def exprS : Stmt → Expr
  | .Expr (.Yield (some e) _) _ => e
  | .Expr (.YieldFrom e _) _ => e
  | _ => default
theorem p_yield (F : Fr hR L s.heap (mm0 x i t)) (X : Frag.In (hd.heap_39 w.params) hR) (T : Top p loose mean mg mb hR) (N : News hR L s.heap []) (I : NodeAt s.heap x v (.ref d))
    {Q : Value → Shared → Prop} (h : ∀ tk, Q v { s with toks := tk }) :
    wpAny (model PP w) A (eval (exprS (nthS (bodyS (nthS (bodyS (nthS recL.1 0)) 0)) 0)) (renv L fr ccd cl)) Q E s := by
  unfold renv recL recSc
  dsimp only [nthS, exprS, bodyS]
  k_steps
  exact h _
theorem p_and1 (F : Fr hR L s.heap (fun y => if y = Str.ofString "part" then some (.str part tp) else mm0 x i t y)) (X : Frag.In (hd.heap_39 w.params) hR) (T : Top p loose mean mg mb hR) (N : News hR L s.heap []) (I : NodeAt s.heap x v (.ref d)) (hd : (d == sysModules) = false) (hm : s.heap.MapOf (SK w) d f)
    (hcN : cl.lookup (Str.ofString "normal") = some cN) (hvN : s.heap.IsCell cN (some (.bool normal)))
    {Q : Bool → Shared → Prop} (h : ∀ b tk, b = ((f (Str.ofString "+")).isSome && (normal || decide (i > 0))) → Q b { s with toks := tk }) :
    wpAny (model PP w) A (isTrue (testS (nthS (elseS (nthS recL.1 0)) 2)) (renv L fr ccd cl) (eval (testS (nthS (elseS (nthS recL.1 0)) 2)) (renv L fr ccd cl))) Q E s := by
  unfold renv recL recSc
  dsimp only [nthS, testS, elseS]
  cases normal
  all_goals k_steps
  all_goals refine h _ _ ?_
  all_goals simp_all
theorem p_call (F : Fr hR L s.heap (fun y => if y = Str.ofString "part" then some (.str part tp) else mm0 x i t y)) (X : Frag.In (hd.heap_39 w.params) hR) (T : Top p loose mean mg mb hR) (N : News hR L s.heap []) (I : NodeAt s.heap x v (.ref d)) (hd : (d == sysModules) = false) (hm : s.heap.MapOf (SK w) d f)
    (hcR : cl.lookup (Str.ofString "rec") = some cR) (hvR : s.heap.IsCell cR (some (.ref fr))) (hf : FnAt fr s.heap) (hx : f part = some (.ref x'))
    {Q : Value → Shared → Prop} (h : ∀ tk tk', wpAny (model PP w) A (call (.ref fr) [.ref x', .int (i + 1) tk']) Q E { s with toks := tk }) :
    wpAny (model PP w) A (eval (exprS (nthS (bodyS (nthS (elseS (nthS recL.1 0)) 1)) 0)) (renv L fr ccd cl)) Q E s := by
  unfold renv recL recSc
  dsimp only [nthS, exprS, elseS, bodyS]
  k_steps
  exact h _ _
theorem p_call2 (F : Fr hR L s.heap (fun y => if y = Str.ofString "part" then some (.str part tp) else mm0 x i t y)) (X : Frag.In (hd.heap_39 w.params) hR) (T : Top p loose mean mg mb hR) (N : News hR L s.heap []) (I : NodeAt s.heap x v (.ref d)) (hd : (d == sysModules) = false) (hm : s.heap.MapOf (SK w) d f)
    (hcR : cl.lookup (Str.ofString "rec") = some cR) (hvR : s.heap.IsCell cR (some (.ref fr))) (hf : FnAt fr s.heap) (hx : f (Str.ofString "+") = some (.ref x'))
    {Q : Value → Shared → Prop} (h : ∀ tk tk', wpAny (model PP w) A (call (.ref fr) [.ref x', .int (i + 1) tk']) Q E { s with toks := tk }) :
    wpAny (model PP w) A (eval (exprS (nthS (bodyS (nthS (elseS (nthS recL.1 0)) 2)) 0)) (renv L fr ccd cl)) Q E s := by
  unfold renv recL recSc
  dsimp only [nthS, exprS, elseS, bodyS]
  k_steps
  exact h _ _
end
section
open PySem PySem.W PySem.Calls PySem.Spec PyProof.Rows
set_option Elab.async false
set_option maxRecDepth 100000
set_option maxHeartbeats 4000000
set_option linter.unusedVariables false
theorem fillU : Reg PySem.Challenge.rw_bc0018_01 hd.heap_39 := by k_fill; trivial


local macro_rules | `(tactic| walk_at "eval Name") => `(tactic| (k_here; k_dflt (refine' nameX_L (by k_asm) (by with_reducible assumption) ?_ (by rfl) (by rfl); k_whole)))
local macro_rules | `(tactic| walk_at "storeName") => `(tactic| (k_here; k_dflt (refine' wpAny_storeName_local (by rfl) (Fr.ns (by k_asm)) ?_ (by rfl); intro h' hn' hs')))
section
variable {w : World} {A : Around} {hR : Heap} {L fr cL cN cR l x d x' : Addr} {mg mb : Str → Option Value} {s : Shared} {p : Program} {loose : List Str} {mean : ExcName → Option Value} {E : Value → Shared → Prop} {ccd v v' u' : Value} {cl : List (Str × Addr)}
  {i : Int} {t : Tok} {vs : List Value} {parts : List Str} {normal : Bool} {f : Str → Option Value} {part : Str} {tp : Tok} {m : Str → Option Value}


theorem p_and2 (F : Fr hR L s.heap m) (hmi : m (Str.ofString "i") = some (.int i t)) (hmn : m (Str.ofString "node") = some (.ref x)) (X : Frag.In (hd.heap_39 w.params) hR) (T : Top p loose mean mg mb hR) (N : News hR L s.heap []) (I : NodeAt s.heap x v (.ref d)) (hd : (d == sysModules) = false) (hm : s.heap.MapOf (SK w) d f)
    (hcN : cl.lookup (Str.ofString "normal") = some cN) (hvN : s.heap.IsCell cN (some (.bool normal)))
    {Q : Bool → Shared → Prop} (h : ∀ b tk, b = ((f (Str.ofString "#")).isSome && (normal || decide (i > 0))) → Q b { s with toks := tk }) :
    wpAny (model PP w) A (isTrue (testS (nthS recL.1 1)) (renv L fr ccd cl) (eval (testS (nthS recL.1 1)) (renv L fr ccd cl))) Q E s := by
  unfold renv recL recSc
  dsimp only [nthS, testS, elseS]
  cases normal
  all_goals k_steps
  all_goals refine h _ _ ?_
  all_goals simp_all
theorem p_part (F : Fr hR L s.heap (mm0 x i t)) (X : Frag.In (hd.heap_39 w.params) hR) (T : Top p loose mean mg mb hR) (N : News hR L s.heap []) (hcL : cl.lookup (Str.ofString "lst") = some cL) (hvL : s.heap.IsCell cL (some (.ref l))) (hl : s.heap.IsList l vs.toArray) (hs : StrsAre vs parts)
    (hp : parts.length ≤ 1000) (h0 : 0 ≤ i) (h1 : i < parts.length) {Q : Flow → Shared → Prop} (h : ∀ h' tk tp, h'.Ns L (fun y => if y = Str.ofString "part" then some (.str (parts.getD i.toNat Str.empty) tp) else mm0 x i t y) → Heap.SameBut L s.heap h' → Q .next { s with heap := h', toks := tk }) :
    wpAny (model PP w) A (exec (nthS (elseS (nthS recL.1 0)) 0) (renv L fr ccd cl)) Q E s := by
  unfold renv recL recSc
  dsimp only [nthS, testS, elseS]
  k_steps
  exact h _ _ _ (by assumption) (by assumption)
theorem p_hash (F : Fr hR L s.heap m) (hmi : m (Str.ofString "i") = some (.int i t)) (hmn : m (Str.ofString "node") = some (.ref x)) (X : Frag.In (hd.heap_39 w.params) hR) (T : Top p loose mean mg mb hR) (N : News hR L s.heap []) (I : NodeAt s.heap x v (.ref d)) (hd : (d == sysModules) = false) (hm : s.heap.MapOf (SK w) d f)
    (hx : f (Str.ofString "#") = some (.ref x')) (I' : NodeAt s.heap x' v' u')
    {Q : Flow → Shared → Prop} (h : ∀ h' tk, h'.Ns L (fun y => if y = Str.ofString "content" then some v' else m y) → Heap.SameBut L s.heap h' → Q .next { s with heap := h', toks := tk }) :
    wpAny (model PP w) A (exec (nthS (bodyS (nthS recL.1 1)) 0) (renv L fr ccd cl)) Q E s := by
  unfold renv recL recSc
  dsimp only [nthS, testS, elseS, bodyS]
  k_steps
  exact h _ _ (by assumption) (by assumption)
theorem p_cont2 (F : Fr hR L s.heap m) (hmc : m (Str.ofString "content") = some v) (X : Frag.In (hd.heap_39 w.params) hR) (T : Top p loose mean mg mb hR) (N : News hR L s.heap []) (hv : v = .none ∨ ∃ k t, v = .int k t)
    {Q : Bool → Shared → Prop} (h : ∀ tk, Q (v != .none) { s with toks := tk }) :
    wpAny (model PP w) A (isTrue (testS (nthS (bodyS (nthS recL.1 1)) 1)) (renv L fr ccd cl) (eval (testS (nthS (bodyS (nthS recL.1 1)) 1)) (renv L fr ccd cl))) Q E s := by
  unfold renv recL recSc
  dsimp only [nthS, testS, elseS, bodyS]
  rcases hv with rfl | ⟨k, t', rfl⟩
  · k_steps
    exact h _
  · k_steps
    exact h _
theorem p_yield2 (F : Fr hR L s.heap m) (hmc : m (Str.ofString "content") = some v) (X : Frag.In (hd.heap_39 w.params) hR) (T : Top p loose mean mg mb hR) (N : News hR L s.heap [])
    {Q : Value → Shared → Prop} (h : ∀ tk, Q v { s with toks := tk }) :
    wpAny (model PP w) A (eval (exprS (nthS (bodyS (nthS (bodyS (nthS recL.1 1)) 1)) 0)) (renv L fr ccd cl)) Q E s := by
  unfold renv recL recSc
  dsimp only [nthS, exprS, elseS, bodyS]
  k_steps
  exact h _
end
end
end Mine
end
section
open PySem PySem.W PySem.Calls PySem.Spec PyProof.Rows
set_option Elab.async false
set_option maxRecDepth 100000
set_option maxHeartbeats 1000000
set_option linter.unusedVariables false
namespace Mine

/-! more rules -/
section
variable {prog : Program} {w : World} {hR : Heap} {n go L : Nat} {c : Code} {us : List Value} {m : Str → Option Value} {env : Env}
theorem gw_If {test : Expr} {body orelse : List Stmt} {pos : Pos} {Q : Flow → (Str → Option Value) → Prop} (b : Bool)
    (h : ∀ x s, AtG hR n go L m x s → wpAny (model prog w) (x.B.over c []) (isTrue test env (eval test env)) (fun a s' => a = b ∧ AtG hR n go L m x s') (fun _ _ => False) s)
    (h2 : Gw prog w hR n go L c us (if b then execs body env else execs orelse env) m Q) : Gw prog w hR n go L c us (exec (.If test body orelse pos) env) m Q := by
  rw [exec_If]
  refine gw_at (gw_bind0 (Q₁ := fun a m' => a = b ∧ m' = m) (gw_any fun x s A => wpAny_mono (h x s A) (fun a s' z => ⟨m, ⟨z.1, rfl⟩, z.2⟩) fun _ _ z => z) ?_)
  rintro a m' ⟨rfl, rfl⟩
  exact h2
theorem gw_execs_one {st : Stmt} {Q : Flow → (Str → Option Value) → Prop} (h : Gw prog w hR n go L c us (exec st env) m (fun f m' => f = .next ∧ Q .next m')) : Gw prog w hR n go L c us (execs [st] env) m Q := by
  have := gw_execs_cons (us' := []) (rest := []) (gw_mono h fun f m' ⟨e, q⟩ => ⟨e, gw_execs_nil (c := c) (env := env) q⟩)
  rwa [List.append_nil] at this

theorem good_of_body {body : List Stmt} {s : Shared} (h : Gw prog w hR n go L (.func body env) us (execs body env) m (fun f _ => f = .next)) (hb : Keeps hR s.heap) (hns : s.heap.Ns L m) (hg : go < s.gens.size) :
    Good (model prog w) hR n go us [L] [] (.fresh (.func body env)) s := by
  refine good_iff.mpr fun s₀ B same room => ?_
  show GenJ _ _ _ _ (denote table (.func body env)) _ _ _ _
  show GenJ _ _ _ _ (.point [] fun _ => ((execs body env).onRaise (leaving env)) >>= _) _ _ _ _
  refine genJ_point ?_
  rw [Sem.onRaise_eq_wrap, Sem.bind_eq_wrap', Sem.wrap_wrap]
  obtain ⟨o, es, ep, ho, rest⟩ := hns
  have := h [] ⟨B, [L], [], s₀, [L], []⟩ (s₀.setGen go .running) (fun f => .pure (.done (.ret (match f with | .ret v => v | _ => .none)))) (fun e => (leaving env e).wrap (fun _ => .raise e) .raise id id) id id rfl
    ⟨(After.refl same.base).setGen, .head _, ⟨o, es, ep, same.own L (.head _) o ho, rest⟩, by simp, by rw [setGen_size]; exact Nat.lt_of_lt_of_le hg same.gsize, by simp, room⟩ (fun f m' x' s' q A => by
      subst q
      exact genJ_end (.ok (.ret .none)) ⟨rfl, x'.O₁, x'.Og₁, A.af, A.fin⟩)
  rw [List.append_nil] at this
  rw [Sem.wrap_congr (execs body env) _ _ (K' := fun f => .pure (.done (.ret (match f with | .ret v => v | _ => .none))))
    (H' := fun e => (leaving env e).wrap (fun _ => .raise e) .raise id id) (fun f => by cases f <;> rfl)
    (fun e => by rw [Sem.bind_eq_wrap, Sem.wrap_wrap]; rfl)]
  exact this
end

/-! the trie, read -/
structure TrieR (w : World) (h : Heap) (P : List Str → Option (Addr × Addr)) (C : List Str → Value) : Prop where
  node : ∀ q x d, P q = some (x, d) → NodeAt h x (C q) (.ref d) ∧ (d == sysModules) = false ∧ ∃ f, h.MapOf (SK w) d f ∧ ∀ k, f k = (P (q ++ [k])).map fun y => Value.ref y.1
  vals : ∀ q, C q = .none ∨ ∃ k t, C q = .int k t
theorem NodeAt.keeps {h h' : Heap} {x : Addr} {v u : Value} (I : NodeAt h x v u) (k : Keeps h h') : NodeAt h' x v u := by
  obtain ⟨⟨ox, od, I, hs⟩, a, b⟩ := I
  refine ⟨⟨ox, od, ⟨k _ _ I.at_, I.cls, I.no, ?_⟩, hs⟩, a, b⟩
  have := I.dict
  cases hd : ox.dict with
  | none => rw [hd] at this; exact this.elim
  | some dx => rw [hd] at this; exact k _ _ this
theorem mapOf_keeps {w : World} {h h' : Heap} {d : Addr} {f : Str → Option Value} (m : h.MapOf (SK w) d f) (k : Keeps h h') : h'.MapOf (SK w) d f :=
  let ⟨o, es, ep, ho, r⟩ := m; ⟨o, es, ep, k _ _ ho, r⟩
theorem TrieR.keeps {w : World} {h h' : Heap} {P : List Str → Option (Addr × Addr)} {C : List Str → Value} (t : TrieR w h P C) (k : Keeps h h') : TrieR w h' P C :=
  ⟨fun q x d e => let ⟨a, b, f, c, r⟩ := t.node q x d e; ⟨a.keeps k, b, f, mapOf_keeps c k, r⟩, t.vals⟩

/-- what the closure's frame holds -/
structure RC (w : World) (p : Program) (loose : List Str) (mean : ExcName → Option Value) (mg mb : Str → Option Value) (hR : Heap) (cl : List (Str × Addr)) (ccd : Value) (fr : Addr) (parts : List Str) (normal : Bool) (P : List Str → Option (Addr × Addr)) (C : List Str → Value) : Prop where
  X : Frag.In (hd.heap_39 w.params) hR
  T : Top p loose mean mg mb hR
  lst : ∃ c l vs, cl.lookup (Str.ofString "lst") = some c ∧ hR.IsCell c (some (.ref l)) ∧ hR.IsList l vs.toArray ∧ StrsAre vs parts
  nrm : ∃ c, cl.lookup (Str.ofString "normal") = some c ∧ hR.IsCell c (some (.bool normal))
  rc : ∃ c, cl.lookup (Str.ofString "rec") = some c ∧ hR.IsCell c (some (.ref fr))
  fn : ∃ oc od sl T kV doc pm an ct oT t0 nT, hR.get? fr = some ⟨oc, od, .func (fnX (Str.ofString "rec") rq recPa.1 recL.1 recSc.1 cl (.ref T) kV doc pm an ccd ct), sl⟩ ∧ hR.CodeRec ccd rq ∧ hR.get? T = some oT ∧ oT.data = .seq #[.int 0 t0] nT
  plen : parts.length ≤ 1000
  tr : TrieR w hR P C

noncomputable def optV (v : Value) : List Value := if v != .none then [v] else []
noncomputable def hashes (P : List Str → Option (Addr × Addr)) (C : List Str → Value) (normal : Bool) (q : List Str) (i : Int) : List Value :=
  if (P (q ++ [Str.ofString "#"])).isSome && (normal || decide (i > 0)) then optV (C (q ++ [Str.ofString "#"])) else []
noncomputable def mat (P : List Str → Option (Addr × Addr)) (C : List Str → Value) (normal : Bool) : List Str → List Str → Int → List Value
  | [], q, i => optV (C q) ++ hashes P C normal q i
  | part :: rest, q, i => ((if (P (q ++ [part])).isSome then mat P C normal rest (q ++ [part]) (i + 1) else []) ++
      (if (P (q ++ [Str.ofString "+"])).isSome && (normal || decide (i > 0)) then mat P C normal rest (q ++ [Str.ofString "+"]) (i + 1) else [])) ++ hashes P C normal q i

section
variable {w : World} {p : Program} {loose : List Str} {mean : ExcName → Option Value} {mg mb : Str → Option Value} {hR : Heap} {cl : List (Str × Addr)} {ccd : Value} {fr : Addr} {parts : List Str} {normal : Bool} {P : List Str → Option (Addr × Addr)} {C : List Str → Value}
  {n go L : Nat}
noncomputable abbrev rcode (L fr : Addr) (ccd : Value) (cl : List (Str × Addr)) : Code := .func recL.1 (renv L fr ccd cl)

theorem AtG.toFr (hle : hR.objs.size ≤ L) {m : Str → Option Value} {x : Ix} {s : Shared} (A : AtG hR n go L m x s) : Fr hR L s.heap m := ⟨A.ns, A.af.base, hle⟩
theorem AtG.toks {m : Str → Option Value} {x : Ix} {s : Shared} (A : AtG hR n go L m x s) (tk : Nat) : AtG hR n go L m x { s with toks := tk } := ⟨⟨A.af.base, A.af.keep, A.af.gens, A.af.new, A.af.old, A.af.gnew, A.af.gold, A.af.gall, A.af.size, A.af.gsize, A.af.os⟩, A.own, A.ns, A.off, A.lt, A.fin, A.room⟩
theorem hR_none (hle : hR.objs.size ≤ L) : hR.get? L = none := Heap.get?_none_of_le hle

/-- the hash part, at the end -/
theorem gw_hash (R : RC w p loose mean mg mb hR cl ccd fr parts normal P C) (hle : hR.objs.size ≤ L) {m : Str → Option Value} {q : List Str} {x d : Addr} {i : Int} {t : Tok} (hmi : m (Str.ofString "i") = some (.int i t)) (hmn : m (Str.ofString "node") = some (.ref x)) (hP : P q = some (x, d)) :
    Gw PP w hR n go L (rcode L fr ccd cl) (hashes P C normal q i) (exec (nthS recL.1 1) (renv L fr ccd cl)) m (fun f _ => f = .next) := by
  obtain ⟨I, hd, f, hm, hf⟩ := R.tr.node q x d hP
  obtain ⟨cN, hcN, hvN⟩ := R.nrm
  show Gw PP w hR n go L _ _ (exec (.If (testS (nthS recL.1 1)) [nthS (bodyS (nthS recL.1 1)) 0, nthS (bodyS (nthS recL.1 1)) 1] [] ⟨64, 12, 67, 33⟩) (renv L fr ccd cl)) _ _
  refine gw_If ((f (Str.ofString "#")).isSome && (normal || decide (i > 0))) (fun x' s A => ?_) ?_
  · exact p_and2 (A.toFr hle) hmi hmn R.X R.T .nil (I.keeps A.af.base) hd (mapOf_keeps hm A.af.base) hcN (hvN.keeps A.af.base) fun b tk e => ⟨e, A.toks tk⟩
  unfold hashes
  have e : (P (q ++ [Str.ofString "#"])).isSome = (f (Str.ofString "#")).isSome := by rw [hf]; simp
  rw [e]
  split
  · rename_i hb
    obtain ⟨v', hv'⟩ := Option.isSome_iff_exists.mp (Bool.and_eq_true_iff.mp hb).1
    rw [hf] at hv'
    cases hP' : P (q ++ [Str.ofString "#"]) with
    | none => rw [hP'] at hv'; cases hv'
    | some y =>
      obtain ⟨x₁, d₁⟩ := y
      obtain ⟨I', _⟩ := R.tr.node _ _ _ hP'
      have hx : f (Str.ofString "#") = some (.ref x₁) := by rw [hf, hP']; rfl
      have key : Gw PP w hR n go L (rcode L fr ccd cl) ([] ++ (optV (C (q ++ [Str.ofString "#"])) ++ [])) (execs [nthS (bodyS (nthS recL.1 1)) 0, nthS (bodyS (nthS recL.1 1)) 1] (renv L fr ccd cl)) m (fun f _ => f = .next) := by
        refine gw_execs_cons (gw_mono (gw_any (Q := fun f m' => f = Flow.next ∧ m' = (fun y => if y = Str.ofString "content" then some (C (q ++ [Str.ofString "#"])) else m y)) fun x' s A => ?_) ?_)
        · refine p_hash (A.toFr hle) hmi hmn R.X R.T .nil (I.keeps A.af.base) hd (mapOf_keeps hm A.af.base) hx (I'.keeps A.af.base) fun h' tk hn hs => ?_
          exact ⟨_, ⟨rfl, rfl⟩, A.step (hR_none hle) (fun b o hb e => (hs.2 b hb).trans e) (Nat.le_of_eq hs.1.symm) hn⟩
        · rintro _ _ ⟨rfl, rfl⟩
          refine ⟨rfl, gw_execs_cons ?_⟩
          show Gw PP w hR n go L _ _ (exec (.If (testS (nthS (bodyS (nthS recL.1 1)) 1)) [nthS (bodyS (nthS (bodyS (nthS recL.1 1)) 1)) 0] [] ⟨66, 16, 67, 33⟩) (renv L fr ccd cl)) _ _
          refine gw_If (C (q ++ [Str.ofString "#"]) != .none) (fun x' s A => ?_) ?_
          · exact p_cont2 (v := C (q ++ [Str.ofString "#"])) (A.toFr hle) (by rw [if_pos rfl]) R.X R.T .nil (R.tr.vals _) fun tk => ⟨rfl, A.toks tk⟩
          · unfold optV
            split
            · refine gw_execs_one ?_
              show Gw PP w hR n go L _ _ (exec (.Expr (.Yield (some (exprS (nthS (bodyS (nthS (bodyS (nthS recL.1 1)) 1)) 0))) ⟨67, 20, 67, 33⟩) ⟨67, 20, 67, 33⟩) (renv L fr ccd cl)) _ _
              refine gw_yield rfl rfl (hR_none hle) (fun x' s A => ?_) ⟨rfl, rfl, gw_execs_nil rfl⟩
              exact p_yield2 (v := C (q ++ [Str.ofString "#"])) (A.toFr hle) (by rw [if_pos rfl]) R.X R.T .nil fun tk => ⟨rfl, A.toks tk⟩
            · exact gw_execs_nil ⟨rfl, gw_execs_nil rfl⟩
      rw [List.nil_append, List.append_nil] at key
      exact key
  · exact gw_execs_nil rfl

noncomputable abbrev mm1 (x : Addr) (i : Int) (t : Tok) (part : Str) (tp : Tok) : Str → Option Value := fun y => if y = Str.ofString "part" then some (.str part tp) else mm0 x i t y

/-- what a call of rec gives -/
noncomputable def Calls (w : World) (p : Program) (loose : List Str) (mean : ExcName → Option Value) (mg mb : Str → Option Value) (hR : Heap) (cl : List (Str × Addr)) (ccd : Value) (fr : Addr) (normal : Bool) (P : List Str → Option (Addr × Addr)) (C : List Str → Value) (rest : List Str) (j : Int) : Prop :=
  ∀ (n go L : Nat) (q : List Str) (x' d' : Addr) (m : Str → Option Value) (x : Ix) (s : Shared) (c : Code) (tk : Tok), hR.objs.size ≤ L → P q = some (x', d') → 40 * (rest.length + 1) + 20 ≤ n → AtG hR n go L m x s → c.weight ≤ 1 → c.cUnits ≤ 4 →
    wpAny (model PP w) (x.B.over c []) (call (.ref fr) [.ref x', .int j tk]) (fun a s' => Fresh PP w hR n go L m (mat P C normal rest q j) x a s') (fun _ _ => False) s

theorem body_nil (R : RC w p loose mean mg mb hR cl ccd fr parts normal P C) (hle : hR.objs.size ≤ L) {q : List Str} {x d : Addr} {i : Int} {t : Tok} (hP : P q = some (x, d)) (hi : i = parts.length) :
    Gw PP w hR n go L (rcode L fr ccd cl) (mat P C normal [] q i) (execs recL.1 (renv L fr ccd cl)) (mm0 x i t) (fun f _ => f = .next) := by
  obtain ⟨I, hd, f, hm, hf⟩ := R.tr.node q x d hP
  obtain ⟨cL, l, vs, hcL, hvL, hl, hs⟩ := R.lst
  show Gw PP w hR n go L _ (optV (C q) ++ hashes P C normal q i) (execs [.If (testS (nthS recL.1 0)) (bodyS (nthS recL.1 0)) (elseS (nthS recL.1 0)) ⟨55, 12, 63, 62⟩, nthS recL.1 1] (renv L fr ccd cl)) _ _
  refine gw_execs_cons (gw_If true (fun x' s A => ?_) ?_)
  · exact p_len (A.toFr hle) R.X R.T .nil hcL (hvL.keeps A.af.base) (hl.at fun o e => A.af.base _ _ e) hs R.plen fun tk => ⟨by simp [hi], A.toks tk⟩
  rw [if_pos rfl]
  show Gw PP w hR n go L _ (optV (C q)) (execs [.If (testS (nthS (bodyS (nthS recL.1 0)) 0)) [nthS (bodyS (nthS (bodyS (nthS recL.1 0)) 0)) 0] [] ⟨56, 16, 57, 39⟩] (renv L fr ccd cl)) _ _
  have hh : Gw PP w hR n go L (rcode L fr ccd cl) (hashes P C normal q i) (execs [nthS recL.1 1] (renv L fr ccd cl)) (mm0 x i t) (fun f _ => f = .next) :=
    gw_execs_one (gw_mono (gw_hash R hle rfl rfl hP) fun f m' e => ⟨e, rfl⟩)
  refine gw_execs_one (gw_If (C q != .none) (fun x' s A => ?_) ?_)
  · exact p_content (A.toFr hle) R.X R.T .nil (I.keeps A.af.base) (R.tr.vals _) fun tk => ⟨rfl, A.toks tk⟩
  unfold optV
  split
  · refine gw_execs_one ?_
    show Gw PP w hR n go L _ _ (exec (.Expr (.Yield (some (exprS (nthS (bodyS (nthS (bodyS (nthS recL.1 0)) 0)) 0))) ⟨57, 20, 57, 39⟩) ⟨57, 20, 57, 39⟩) (renv L fr ccd cl)) _ _
    refine gw_yield rfl rfl (hR_none hle) (fun x' s A => ?_) ⟨rfl, rfl, rfl, hh⟩
    exact p_yield (A.toFr hle) R.X R.T .nil (I.keeps A.af.base) fun tk => ⟨rfl, A.toks tk⟩
  · exact gw_execs_nil ⟨rfl, rfl, hh⟩

theorem body_cons (R : RC w p loose mean mg mb hR cl ccd fr parts normal P C) (hle : hR.objs.size ≤ L) {q : List Str} {x d : Addr} {i : Int} {t : Tok} {part : Str} {rest : List Str} (hP : P q = some (x, d)) (h0 : 0 ≤ i) (h1 : i < parts.length) (hpart : parts.getD i.toNat Str.empty = part)
    (ih : Calls w p loose mean mg mb hR cl ccd fr normal P C rest (i + 1)) (hn : 40 * (rest.length + 1) + 20 ≤ n) (hw : (rcode L fr ccd cl).weight ≤ 1) (hu : (rcode L fr ccd cl).cUnits ≤ 4) :
    Gw PP w hR n go L (rcode L fr ccd cl) (mat P C normal (part :: rest) q i) (execs recL.1 (renv L fr ccd cl)) (mm0 x i t) (fun f _ => f = .next) := by
  obtain ⟨I, hd, f, hm, hf⟩ := R.tr.node q x d hP
  obtain ⟨cL, l, vs, hcL, hvL, hl, hs⟩ := R.lst
  obtain ⟨cN, hcN, hvN⟩ := R.nrm
  obtain ⟨cR, hcR, hvR⟩ := R.rc
  obtain ⟨oc, od, sl, T, kV, doc, pm, an, ct, oT, t0, nT, ho, hcd, hT, hTd⟩ := R.fn
  have hfn : ∀ {h : Heap}, Keeps hR h → FnAt fr h := fun k => ⟨_, _, _, _, k _ _ ho⟩
  have isS : ∀ k, (P (q ++ [k])).isSome = (f k).isSome := fun k => by rw [hf]; simp
  have hlim := R.T.nolimit
  show Gw PP w hR n go L _ ((_ ++ _) ++ hashes P C normal q i) (execs [.If (testS (nthS recL.1 0)) (bodyS (nthS recL.1 0)) (elseS (nthS recL.1 0)) ⟨55, 12, 63, 62⟩, nthS recL.1 1] (renv L fr ccd cl)) _ _
  refine gw_execs_cons (gw_If false (fun x' s A => ?_) ?_)
  · exact p_len (A.toFr hle) R.X R.T .nil hcL (hvL.keeps A.af.base) (hl.at fun o e => A.af.base _ _ e) hs R.plen fun tk => ⟨by simp; omega, A.toks tk⟩
  rw [if_neg Bool.false_ne_true]
  have hh : ∀ tp, Gw PP w hR n go L (rcode L fr ccd cl) (hashes P C normal q i) (execs [nthS recL.1 1] (renv L fr ccd cl)) (mm1 x i t part tp) (fun f _ => f = .next) := fun tp =>
    gw_execs_one (gw_mono (gw_hash R hle rfl rfl hP) fun f m' e => ⟨e, rfl⟩)
  show Gw PP w hR n go L _ ([] ++ (_ ++ _)) (execs [nthS (elseS (nthS recL.1 0)) 0, nthS (elseS (nthS recL.1 0)) 1, nthS (elseS (nthS recL.1 0)) 2] (renv L fr ccd cl)) _ _
  refine gw_execs_cons (gw_mono (gw_any (Q := fun f m' => f = Flow.next ∧ ∃ tp, m' = mm1 x i t part tp) fun x' s A => ?_) ?_)
  · refine p_part (A.toFr hle) R.X R.T .nil hcL (hvL.keeps A.af.base) (hl.at fun o e => A.af.base _ _ e) hs R.plen h0 h1 fun h' tk tp hn hs => ?_
    rw [hpart] at hn
    exact ⟨_, ⟨rfl, tp, rfl⟩, A.step (hR_none hle) (fun b o hb e => (hs.2 b hb).trans e) (Nat.le_of_eq hs.1.symm) hn⟩
  rintro _ _ ⟨rfl, tp, rfl⟩
  refine ⟨rfl, gw_execs_cons ?_⟩
  have two : Gw PP w hR n go L (rcode L fr ccd cl) (if (P (q ++ [Str.ofString "+"])).isSome && (normal || decide (i > 0)) then mat P C normal rest (q ++ [Str.ofString "+"]) (i + 1) else [])
      (execs [nthS (elseS (nthS recL.1 0)) 2] (renv L fr ccd cl)) (mm1 x i t part tp) (fun f m' => f = .next ∧ Gw PP w hR n go L (rcode L fr ccd cl) (hashes P C normal q i) (execs [nthS recL.1 1] (renv L fr ccd cl)) m' (fun f _ => f = .next)) := by
    refine gw_execs_one ?_
    show Gw PP w hR n go L _ _ (exec (.If (testS (nthS (elseS (nthS recL.1 0)) 2)) [nthS (bodyS (nthS (elseS (nthS recL.1 0)) 2)) 0] [] ⟨62, 16, 63, 62⟩) (renv L fr ccd cl)) _ _
    refine gw_If ((f (Str.ofString "+")).isSome && (normal || decide (i > 0))) (fun x' s A => ?_) ?_
    · exact p_and1 (A.toFr hle) R.X R.T .nil (I.keeps A.af.base) hd (mapOf_keeps hm A.af.base) hcN (hvN.keeps A.af.base) fun b tk e => ⟨e, A.toks tk⟩
    rw [isS]
    split
    · rename_i hb
      obtain ⟨v', hv'⟩ := Option.isSome_iff_exists.mp (Bool.and_eq_true_iff.mp hb).1
      rw [hf] at hv'
      cases hP' : P (q ++ [Str.ofString "+"]) with
      | none => rw [hP'] at hv'; cases hv'
      | some y =>
        obtain ⟨x₁, d₁⟩ := y
        have hx : f (Str.ofString "+") = some (.ref x₁) := by rw [hf, hP']; rfl
        refine gw_execs_one ?_
        show Gw PP w hR n go L _ _ (exec (.Expr (.YieldFrom (exprS (nthS (bodyS (nthS (elseS (nthS recL.1 0)) 2)) 0)) ⟨63, 20, 63, 62⟩) ⟨63, 20, 63, 62⟩) (renv L fr ccd cl)) _ _
        refine gw_yieldFrom rfl hlim hw hu (fun x' s A => ?_) ⟨rfl, rfl, rfl, hh tp⟩
        exact p_call2 (A.toFr hle) R.X R.T .nil (I.keeps A.af.base) hd (mapOf_keeps hm A.af.base) hcR (hvR.keeps A.af.base) (hfn A.af.base) hx fun tk tk' => ih _ _ _ _ _ _ _ _ _ _ _ hle hP' hn (A.toks tk) hw hu
    · exact gw_execs_nil ⟨rfl, rfl, hh tp⟩
  show Gw PP w hR n go L _ _ (exec (.If (testS (nthS (elseS (nthS recL.1 0)) 1)) [nthS (bodyS (nthS (elseS (nthS recL.1 0)) 1)) 0] [] ⟨60, 16, 61, 63⟩) (renv L fr ccd cl)) _ _
  refine gw_If ((f part).isSome) (fun x' s A => ?_) ?_
  · exact p_in (A.toFr hle) R.X R.T .nil (I.keeps A.af.base) hd (mapOf_keeps hm A.af.base) fun tk => ⟨rfl, A.toks tk⟩
  rw [isS]
  split
  · rename_i hb
    obtain ⟨v', hv'⟩ := Option.isSome_iff_exists.mp hb
    rw [hf] at hv'
    cases hP' : P (q ++ [part]) with
    | none => rw [hP'] at hv'; cases hv'
    | some y =>
      obtain ⟨x₁, d₁⟩ := y
      have hx : f part = some (.ref x₁) := by rw [hf, hP']; rfl
      refine gw_execs_one ?_
      show Gw PP w hR n go L _ _ (exec (.Expr (.YieldFrom (exprS (nthS (bodyS (nthS (elseS (nthS recL.1 0)) 1)) 0)) ⟨61, 20, 61, 63⟩) ⟨61, 20, 61, 63⟩) (renv L fr ccd cl)) _ _
      refine gw_yieldFrom rfl hlim hw hu (fun x' s A => ?_) ⟨rfl, rfl, two⟩
      exact p_call (A.toFr hle) R.X R.T .nil (I.keeps A.af.base) hd (mapOf_keeps hm A.af.base) hcR (hvR.keeps A.af.base) (hfn A.af.base) hx fun tk tk' => ih _ _ _ _ _ _ _ _ _ _ _ hle hP' hn (A.toks tk) hw hu
  · exact gw_execs_nil ⟨rfl, two⟩
end
end Mine
end
section
open PySem PySem.W PySem.Calls PySem.Spec PyProof.Rows
set_option Elab.async false
set_option maxRecDepth 100000
set_option maxHeartbeats 1000000
set_option linter.unusedVariables false
namespace Mine

theorem After.made {hR : Heap} {O Og} {s s' : Shared} {O₁ : List Addr} {Og₁ : List Nat} {h' : Heap} {gs : GenState} {tk : Nat} {add : List Addr} (x : After hR O Og s s' O₁ Og₁) (k : Keeps s'.heap h') (hs : s'.heap.objs.size ≤ h'.objs.size)
    (ha : ∀ a ∈ add, s'.heap.objs.size ≤ a) {Og₂ : List Nat} (h2 : ∀ g, g ∈ Og₂ ↔ g = s'.gens.size ∨ g ∈ Og₁) : After hR O Og s { s' with heap := h', gens := s'.gens.push gs, toks := tk } (add ++ O₁) Og₂ := by
  refine ⟨x.base.trans k, fun a o e1 e2 => k _ _ (x.keep a o e1 e2), fun g e1 e2 => ?_, fun a e => ?_, fun a e => List.mem_append_right _ (x.old a e), fun g e => ?_, fun g e => (h2 g).mpr (.inr (x.gold g e)), fun g e1 e2 => ?_, Nat.le_trans x.size hs, ?_, x.os⟩
  · show (s'.gens.push gs)[g]? = _
    rw [Array.getElem?_push, if_neg (by have := x.gsize; omega)]
    exact x.gens g e1 e2
  · rcases List.mem_append.mp e with e | e
    · exact .inr (Nat.le_trans x.size (ha a e))
    · exact x.new a e
  · rcases (h2 g).mp e with e | e
    · exact .inr (e ▸ x.gsize)
    · exact x.gnew g e
  · have e2 : g < (s'.gens.push gs).size := e2
    rw [Array.size_push] at e2
    by_cases q : g = s'.gens.size
    · exact (h2 g).mpr (.inl q)
    · exact (h2 g).mpr (.inr (x.gall g e1 (by omega)))
  · show _ ≤ (s'.gens.push gs).size
    rw [Array.size_push]; exact Nat.le_succ_of_le x.gsize

theorem lookup_mm0 {x : Addr} {i : Int} {t : Tok} : (fun y => List.lookup y ([(Str.ofString "node", Value.ref x), (Str.ofString "i", Value.int i t)] : List (Str × Value)).reverse) = mm0 x i t := by
  funext y
  unfold mm0
  show List.lookup y [(Str.ofString "i", Value.int i t), (Str.ofString "node", Value.ref x)] = _
  rw [List.lookup_cons, List.lookup_cons]
  by_cases h1 : y = Str.ofString "i"
  · rw [if_pos h1, beq_iff_eq.mpr h1]
  · rw [if_neg h1, beq_false_of_ne h1]
    by_cases h2 : y = Str.ofString "node"
    · rw [if_pos h2, beq_iff_eq.mpr h2]
    · rw [if_neg h2, beq_false_of_ne h2]; rfl

theorem rcode_weight {L fr : Addr} {ccd : Value} {cl : List (Str × Addr)} : (rcode L fr ccd cl).weight ≤ 1 := Nat.le_of_eq rfl
theorem rcode_units {L fr : Addr} {ccd : Value} {cl : List (Str × Addr)} : (rcode L fr ccd cl).cUnits ≤ 4 := Nat.le_of_ble_eq_true rfl

section
variable {w : World} {p : Program} {loose : List Str} {mean : ExcName → Option Value} {mg mb : Str → Option Value} {hR : Heap} {cl : List (Str × Addr)} {ccd : Value} {fr : Addr} {parts : List Str} {normal : Bool} {P : List Str → Option (Addr × Addr)} {C : List Str → Value}

/-- the call makes the frame and the generator -/
theorem rec_made (R : RC w p loose mean mg mb hR cl ccd fr parts normal P C) {s : Shared} {x : Addr} {j : Int} {args : Args} {A : Around} {Q : Value → Shared → Prop} {E : Value → Shared → Prop} (base : Keeps hR s.heap) (hroom : A.depth < recursionLimit)
    (hb : ∀ T kV doc pm an ct oT t0 nT, hR.get? T = some oT → oT.data = .seq #[.int 0 t0] nT → ∃ tk, BindsTo s (fnX (Str.ofString "rec") rq recPa.1 recL.1 recSc.1 cl (.ref T) kV doc pm an ccd ct) args [(Str.ofString "node", .ref x), (Str.ofString "i", .int j tk)])
    (h : ∀ tk h' tk' o, h'.Ns s.heap.objs.size (mm0 x j tk) → Keeps s.heap h' → h'.objs.size = s.heap.objs.size + 2 → h'.get? (s.heap.objs.size + 1) = some o → o.cls = .type "generator" → (∃ nm qn, o.data = .fields #[.int s.gens.size 0, nm, qn]) → o.slots = #[] →
      Q (.ref (s.heap.objs.size + 1)) { s with heap := h', gens := s.gens.push (.fresh (rcode s.heap.objs.size fr ccd cl)), toks := tk' }) :
    codeAny (model PP w) A (.call (.ref fr) args) (fun r s' => match r with | .ok (.ret v) => Q v s' | .ok _ => False | .error e => E e s') s := by
  obtain ⟨oc, od, sl, T, kV, doc, pm, an, ct, oT, t0, nT, ho, hcd, hT, hTd⟩ := R.fn
  refine codeAny_call_generator hroom (base _ _ ho) rfl rfl rfl rfl (hcd.keeps base) ?_
  obtain ⟨tk, hb⟩ := hb T kV doc pm an ct oT t0 nT hT hTd
  refine hb _ _ _ _ ?_
  refine wpAny_newFunctionEnv (show ∀ x ∈ recSc.1.names, x.2 ≠ .cell by decide) (locs rfl) (fun h₁ hns hsb => ?_) rfl
  have k1 : Keeps s.heap h₁ := fun b o e => hsb.extBut b o (Nat.ne_of_lt (Heap.lt_size e)) (Heap.get?_push_of_some _ e)
  have sz : h₁.objs.size = s.heap.objs.size + 1 := by rw [hsb.1, Heap.size_push]
  refine ⟨(R.T.nolimit.keeps base).keeps k1, ?_⟩
  dsimp only
  rw [sz]
  rw [lookup_mm0] at hns
  refine h tk _ _ _ (hns.keeps fun b o e => Heap.get?_push_of_some _ e) (fun b o e => Heap.get?_push_of_some _ (k1 _ _ e)) (by rw [Heap.size_push, sz]) (by rw [← sz]; exact Heap.get?_push_size _ rfl) rfl ⟨_, _, rfl⟩ rfl

theorem fresh_of {n go L kI : Nat} {m mI : Str → Option Value} {x : Ix} {s : Shared} {body : List Stmt} {env : Env} {us : List Value} {h' : Heap} {tk' : Nat} {o : Obj} (hle : hR.objs.size ≤ L) (A : AtG hR n go L m x s)
    (hns : h'.Ns s.heap.objs.size mI) (hk : Keeps s.heap h') (hsz : h'.objs.size = s.heap.objs.size + 2) (ho : h'.get? (s.heap.objs.size + 1) = some o) (hc : o.cls = .type "generator") (hdt : ∃ nm qn, o.data = .fields #[.int s.gens.size 0, nm, qn]) (hsl : o.slots = #[]) (hkn : kI + 20 ≤ n)
    (hg : Gw PP w hR kI s.gens.size s.heap.objs.size (.func body env) us (execs body env) mI (fun f _ => f = .next)) :
    Fresh PP w hR n go L m us x (.ref (s.heap.objs.size + 1)) { s with heap := h', gens := s.gens.push (.fresh (.func body env)), toks := tk' } := by
  obtain ⟨nm, qn, hdt⟩ := hdt
  have hLlt := A.ns.lt
  have hle' : hR.objs.size ≤ s.heap.objs.size := Nat.le_trans hle (Nat.le_of_lt hLlt)
  have glt := A.lt
  have x2 : After hR x.O (go :: x.Og) x.s₀ { s with heap := h', gens := s.gens.push (.fresh (.func body env)), toks := tk' } ([s.heap.objs.size + 1, s.heap.objs.size] ++ x.O₁) (go :: s.gens.size :: x.Og₁) :=
    A.af.made hk (by omega) (fun a ha => by
      rcases List.mem_cons.mp ha with e | e
      · rw [e]; exact Nat.le_succ _
      · rw [List.mem_singleton.mp e]; exact Nat.le_refl _) (fun g => by simp only [List.mem_cons]; constructor <;> (intro h; rcases h with h | h | h <;> simp [h]))
  refine ⟨_, s.gens.size, [s.heap.objs.size], [], [s.heap.objs.size + 1, s.heap.objs.size] ++ x.O₁, s.gens.size :: x.Og₁, kI, rfl, x2, List.mem_append_right _ A.own, A.ns.keeps hk, hkn, ?_, ?_, List.mem_append_left _ (.head _), ?_, ?_, ?_, .head _, by simp, ?_, ?_, ?_, A.room⟩
  · refine ⟨x2.base, ⟨o, nm, qn, ho, hc, hdt, .inl hsl⟩, by simp, by simp, .fresh (.func body env), ?_, ?_⟩
    · show (s.gens.push _)[s.gens.size]? = _
      rw [Array.getElem?_push, if_pos rfl]
    · exact good_of_body hg x2.base hns (by show _ < (s.gens.push _).size; rw [Array.size_push]; omega)
  · intro y hy
    obtain rfl := List.mem_singleton.mp hy
    exact List.mem_append_left _ (.tail _ (.head _))
  · intro hm
    exact absurd (List.mem_singleton.mp hm) (Nat.ne_of_lt hLlt)
  · exact Nat.ne_of_lt (Nat.lt_succ_of_lt hLlt)
  · exact Heap.get?_none_of_le (by omega)
  · intro hm
    rcases List.mem_cons.mp hm with e | e
    · omega
    · exact A.off e
  · show go < (s.gens.push _).size
    rw [Array.size_push]; omega
  · intro y hy
    rcases List.mem_cons.mp hy with e | e
    · exact .inl e
    · have := A.fin y e
      refine .inr (.inr ?_)
      show (s.gens.push _)[y]? = _
      rw [Array.getElem?_push, if_neg (by have := (Array.getElem?_eq_some_iff.mp this).1; omega)]
      exact this

theorem calls_of (R : RC w p loose mean mg mb hR cl ccd fr parts normal P C) : ∀ (rest : List Str) (j : Int), 0 ≤ j → parts.drop j.toNat = rest → j.toNat ≤ parts.length → Calls w p loose mean mg mb hR cl ccd fr normal P C rest j := by
  intro rest
  induction rest with
  | nil => ?_
  | cons part rest ih => ?_
  all_goals
    intro j hj hdrop hlen n go L q x' d' m x s c tk hle hP hn A hw hu
    have room := A.room
    have hLlt := A.ns.lt
    have hle' : hR.objs.size ≤ s.heap.objs.size := Nat.le_trans hle (Nat.le_of_lt hLlt)
    refine wpAny_call (rec_made R (j := j) (x := x') A.af.base ?_ (fun T kV doc pm an ct oT t0 nT hT hTd => ⟨tk, BindsTo.of_defaults rfl (A.af.base _ _ hT) hTd rfl rfl⟩) fun tk9 h' tk' o hns hk hsz ho hc hdt hsl => ?_)
    · show x.B.depth + frameCount [] + c.weight < recursionLimit
      exact Nat.lt_of_le_of_lt (Nat.add_le_add_left hw _) (lim room.depth (Nat.le_trans (by decide) (Nat.le_trans (Nat.le_add_left 20 _) hn)))
  · refine fresh_of hle A hns hk hsz ho hc hdt hsl hn (body_nil R hle' hP ?_)
    have := congrArg List.length hdrop
    simp at this
    omega
  · have hl := congrArg List.length hdrop
    simp at hl
    have hd2 : parts.drop (j + 1).toNat = rest := by
      have e : (j + 1).toNat = j.toNat + 1 := Int.toNat_add hj (by decide)
      rw [e, ← List.drop_drop, hdrop]; rfl
    have hp : parts.getD j.toNat Str.empty = part := by
      have : parts[j.toNat]? = some part := by
        have := congrArg List.head? hdrop
        rw [List.head?_drop] at this
        exact this
      rw [List.getD_eq_getElem?_getD, this]; rfl
    refine fresh_of hle A hns hk hsz ho hc hdt hsl hn (body_cons R hle' hP hj (by omega) hp (ih (j + 1) (by omega) hd2 (by omega)) ?_ rcode_weight rcode_units)
    simp only [List.length_cons]
    omega
end
end Mine
end
section
open PySem PySem.W PySem.Calls PySem.Spec PyProof.Rows
set_option Elab.async false
set_option maxRecDepth 100000
set_option maxHeartbeats 4000000
set_option linter.unusedVariables false
namespace Mine
theorem gen_post {α : Type} {M : Model} {A : Around} {t : Sem α} {Q : α → Shared → Prop} {E : Value → Shared → Prop} {s : Shared} (H : ∀ (Q' : α → Shared → Prop) (E' : Value → Shared → Prop), (∀ a s, Q a s → Q' a s) → (∀ e s, E e s → E' e s) → wpAny M A t Q' E' s) : wpAny M A t Q E s := H Q E (fun _ _ h => h) (fun _ _ h => h)
theorem fillN : Reg PySem.Challenge.rw_bc0018_01 hd.heap_39 := by k_fill; trivial

section
variable {prog : Program} {w : World} {A : Around} {s : Shared} {h₀ : Heap} {K : Frag} {R : Result → Shared → Prop} {name qual : Str} {params : Arguments} {body : List Stmt} {scope : Scope} {dV kV doc pm cdv ct oc : Value} {an od : Option Addr} {osl : Array (Option Value)} {f : Addr} {args : Args} {binds : List (Str × Value)}
/-- a call of a written def, the heap in the raw -/
theorem code_raw (X : K.In h₀) (k : Keeps h₀ s.heap) (hlim : h₀.NoLimit) (ho : K.lookup f = some ⟨oc, od, .func (fnOf name qual params body scope dV kV doc pm an cdv ct), osl⟩) (hcd : codeIn K cdv qual = true) (hroom : A.depth < recursionLimit)
    (hbind : BindsTo s (fnOf name qual params body scope dV kV doc pm an cdv ct) args binds) (hloc : ∀ y ∈ binds, scope.names.lookup y.1 = some .local)
    (h : ∀ h₁, h₁.Ns s.heap.objs.size (fun y => binds.reverse.lookup y) → Keeps s.heap h₁ → h₁.objs.size = s.heap.objs.size + 1 →
      wpAny (model prog w) (A.deeper (envOf qual scope s.heap.objs.size f cdv)) (execs body (envOf qual scope s.heap.objs.size f cdv)) (fun fl s' => R (.ok (.ret (match fl with | .ret v => v | _ => .none))) s')
        (fun e s' => wpAny (model prog w) (A.deeper (envOf qual scope s.heap.objs.size f cdv)) (leaving (envOf qual scope s.heap.objs.size f cdv) e) (fun _ s'' => R (.error e) s'') (fun e' s'' => R (.error e') s'') s') { s with heap := h₁, toks := s.toks + binds.length })
    (hco : scope.isCoroutine = false) (hgen : scope.isGenerator = false) (hk : scope.kind = .function) (hcell : ∀ x ∈ scope.names, x.2 ≠ .cell) : codeAny (model prog w) A (.call (.ref f) args) R s := by
  have X' := X.keeps k
  refine codeAny_call_function hroom (X' _ _ ho) rfl hco hgen rfl (codeRec_of X' hcd) (hbind _ _ _ _ ?_)
  refine wpAny_newFunctionEnv hcell hloc (fun h₁ hns hsb => ⟨(hlim.keeps k).fresh _ hsb, codeAny_func (h h₁ hns (fun b o e => ?_) ?_)⟩) hk
  · exact hsb.extBut b o (Nat.ne_of_lt (Heap.lt_size e)) (Heap.get?_push_of_some _ e)
  · rw [hsb.1, Heap.size_push]
end

section
variable {prog : Program} {w : World} {A : Around} {s : Shared} {K : Frag} {R : Result → Shared → Prop} {x C p : Addr} {ox : Obj} {od : Option Obj} {i : Nat} {v : Value}
noncomputable abbrev putSlot (i : Nat) (v : Value) : Obj → Obj := fun o => { o with slots := (o.slots ++ Array.replicate (i + 1 - o.slots.size) none).setIfInBounds i (some v) }
theorem slot_set_raw (X : K.In s.heap) (I : InstAt s.heap x ox C od) (hp : slotIn K p C = some i) (hi : i < 1000) (h : R (.ok (.ret .none)) { s with heap := s.heap.update x (putSlot i v) }) :
    codeAny (model prog w) A (.call (.builtin "member_descriptor.__set__") ⟨[.ref p, .ref x, v], []⟩) R s := by
  obtain ⟨n, tn, owner, behind, tb, d, sl, cd, ho, hc, hm, hb, rfl⟩ := slot_of X hp
  obtain ⟨hh, g, dr, t, os⟩ := s
  have L0 := I.type (M := model prog w)
  have L1 := looks_mroIn (M := model prog w) X hm
  have L2 : Looks (model prog w) hh (Builtin.Slots.slotNamesOf (.ref C)) cd.slotNames := (looks_clsIn X hc).andThen .now
  have hx := I.at_
  dsimp only at ho hx L0 L1
  have f0 := looks_field (M := model prog w) ho 0 (v := .str n tn) rfl
  have f1 := looks_field (M := model prog w) ho 1 (v := owner) rfl
  have f3 := looks_field (M := model prog w) ho 3 (v := .builtin "proto.slot#set") rfl
  have f4 := looks_field (M := model prog w) ho 4 (v := .int behind tb) rfl
  refine codeAny_call_builtin KF.slot_mset.plain KF.entry_mset (KF.slot_mset.check _ _ _ _ _ _ _ _ ⟨_, ho, rfl⟩ (KF.args_mset _ _ _) ?_)
  unfold Builtin.«member_descriptor.__set__» Builtin.Getset_descriptor.descrSet Builtin.Getset_descriptor.descrStoreThrough Builtin.Getset_descriptor.descrCheckInstance Builtin.Getset_descriptor.descrNameAndClass isInstance
  have f5 : Looks (model prog w) hh (Builtin.Getset_descriptor.descrItself (.ref p)) [.ref p] := ((Looks.ld (part := none) ho).andThen .now).andThen (Looks.of_pure (by kernel_rfl))
  repeat lk
  refine ⟨Code.quiet_builtin _ (by decide +kernel), PySem.codeAny_builtin KF.entry_slotset ?_⟩
  unfold Builtin.«proto.slot#set» Builtin.Slots.target
  repeat lk
  rw [if_neg hb]
  refine wpAny_pure (wpAny_bind ?_)
  unfold setSlotAt
  dsimp only
  rw [if_neg (by rw [sizeLine_eq]; omega)]
  exact wpAny_updatePart hx (wpAny_pure h)
theorem set_slot_raw {E : Value → Shared → Prop} {name : Str} {Q : Unit → Shared → Prop} (X : K.In s.heap) (I : InstAt s.heap x ox C od)
    (hs : findIn K (.ref C) "__setattr__" = some (some (.builtin "object.__setattr__"))) (hp : plainOver K C = true) (ht : takerIn K C name = some (some (.ref p))) (hT : typeIn K (.ref p) = some (.type "member_descriptor")) (hi : slotIn K p C = some i) (hz : i < 1000)
    (h : Q () { s with heap := s.heap.update x (putSlot i v), toks := s.toks + 1 }) : wpAny (model prog w) A (setAttr (.ref x) name v) Q E s :=
  set_plain X I hs (osa_descr (s := { s with toks := s.toks + 1 }) KF.slot_mset X I hp ht hT (slot_set_raw (s := { s with toks := s.toks + 1 }) X I hi hz h))
end

section
variable {w : World} {A : Around} {E : Value → Shared → Prop} {s : Shared} {x : Addr} {ox : Obj} {od : Option Obj} {v : Value} {Q : Unit → Shared → Prop}
theorem set_content (X : Frag.In (hd.heap_39 w.params) s.heap) (I : InstAt s.heap x ox 40 od) (h : Q () { s with heap := s.heap.update x (putSlot 1 v), toks := s.toks + 1 }) : wpAny (model PP w) A (setAttr (.ref x) "_content" v) Q E s := by
  refine set_slot_raw (C := 40) (p := 42) (i := 1) X I ?_ ?_ ?_ ?_ ?_ (by decide) h
  all_goals k_is
theorem set_children (X : Frag.In (hd.heap_39 w.params) s.heap) (I : InstAt s.heap x ox 40 od) (h : Q () { s with heap := s.heap.update x (putSlot 0 v), toks := s.toks + 1 }) : wpAny (model PP w) A (setAttr (.ref x) "_children" v) Q E s := by
  refine set_slot_raw (C := 40) (p := 41) (i := 0) X I ?_ ?_ ?_ ?_ ?_ (by decide) h
  all_goals k_is
end
end Mine
end
section
open PySem PySem.W PySem.Calls PySem.Spec PyProof.Rows
set_option Elab.async false
set_option maxRecDepth 100000
set_option maxHeartbeats 4000000
set_option linter.unusedVariables false
namespace Mine
theorem fillN2 : Reg PySem.Challenge.rw_bc0018_01 hd.heap_39 := by k_fill; trivial
local macro_rules | `(tactic| tb_start) => `(tactic| (
  refine' code_raw ?k1 ?k2 ?k3 ?k6 ?k7 ?k8 ?k9 ?kB ?_ ?c2 ?c3 ?c4 ?c5; (case k1 => assumption); (case k2 => assumption); (case k3 => assumption); (case k6 => k_is); (case k7 => k_is); (case k9 => exact BindsTo.of_eq rfl); (case c5 => decide); (case kB => exact locs rfl); (case c2 => exact rfl); (case c3 => exact rfl); (case c4 => exact rfl)))

section
variable {M : Model} {A : Around} {E : Value → Shared → Prop} {s : Shared} {L a : Addr} {m : Str → Option Value} {cn : Str} {cs : Scope} {ccd v : Value} {cl : List (Str × Addr)} {x : Str} {pos : Pos} {Q : Value → Shared → Prop}
theorem nameR (hn : s.heap.Ns L m) (hv : m x = some v) (h : Q v s) (hk : cs.kind = .function := by rfl) (hx : (envX cn cs L a ccd cl).kindOf x = some .local := by rfl) (hd : (x == ("__debug__" : Str)) = false := by decide) :
    wpAny M A (eval (.Name x pos) (envX cn cs L a ccd cl)) Q E s := wpAny_Name (wpAny_loadName_local hk hx hn hv h) hd
theorem noneR {env : Env} {k : Tok} (h : Q .none s) : wpAny M A (eval (.Constant .none k pos) env) Q E s := fun _ _ _ => h
end

section
variable {w : World} {A : Around} {s : Shared} {h₀ : Heap} {Q : Value → Shared → Prop} {E : Value → Shared → Prop}
noncomputable abbrev nodeObj (x v : Value) (dd : Addr) : Obj := ⟨.ref 40, some dd, .plain, #[some x, some v]⟩
theorem node_new (X : Frag.In (hd.heap_39 w.params) h₀) (k : Keeps h₀ s.heap) (hlim : h₀.NoLimit) (hroom : A.depth + 5 < recursionLimit)
    (h : ∀ h' tk, Keeps s.heap h' → h'.objs.size = s.heap.objs.size + 4 → h'.get? (s.heap.objs.size + 1) = some (nodeObj (.ref (s.heap.objs.size + 3)) .none s.heap.objs.size) → h'.get? s.heap.objs.size = some emptyDict → h'.get? (s.heap.objs.size + 3) = some emptyDict →
      Q (.ref (s.heap.objs.size + 1)) { s with heap := h', toks := tk }) : wpAny (model PP w) A (call (.ref 40) [] []) Q E s := by
  obtain ⟨hh, g, dr, t, os⟩ := s
  dsimp only at *
  have X' := X.keeps k
  refine wpAny_call (make_core (init := .ref 36) (makes_of X' ?_) (looks_findIn X' ?_) (fun self => bind_fn X' self ?_) (.inl rfl) ?_)
  · k_is
  · k_is
  · k_is
  have k2 : Keeps h₀ ((hh.push emptyDict).push (instObj 40 hh.objs.size)) := fun b o e => Heap.get?_push_of_some _ (Heap.get?_push_of_some _ (k b o e))
  clear X'
  tb_start
  case k8 => 
    show A.depth + 1 < recursionLimit
    omega
  intro h₁ hns hk hsz
  have e0 : ((hh.push emptyDict).push (instObj 40 hh.objs.size)).objs.size = hh.objs.size + 2 := by simp only [Heap.size_push]
  dsimp only at hns hk hsz ⊢
  rw [e0] at hns hsz ⊢
  have hx : h₁.get? (hh.objs.size + 1) = some (instObj 40 hh.objs.size) := hk _ _ (by heap_get)
  have hd0 : h₁.get? hh.objs.size = some emptyDict := hk _ _ (by heap_get)
  have k3 : Keeps h₀ h₁ := k2.trans hk
  have F1 := hns.push emptyDict
  refine wpAny_execs_cons (plainObj_wpAny_Assign_Attribute (wpAny_Dict_empty ?_))
  refine nameR (cl := []) F1 rfl ?_
  have hx1 : (h₁.push emptyDict).get? (hh.objs.size + 1) = some (instObj 40 hh.objs.size) := Heap.get?_push_of_some _ hx
  have hd1 : (h₁.push emptyDict).get? hh.objs.size = some emptyDict := Heap.get?_push_of_some _ hd0
  refine set_children (od := some emptyDict) (X.keeps fun b o e => Heap.get?_push_of_some _ (k3 b o e)) ⟨hx1, rfl, rfl, hd1⟩ ?_
  dsimp only
  rw [hsz]
  have F2 : ((h₁.push emptyDict).update (hh.objs.size + 1) (putSlot 0 (.ref (hh.objs.size + 3)))).Ns (hh.objs.size + 2) _ := F1.sameBut (Heap.SameBut.update ..) (Nat.ne_of_gt (Nat.lt_succ_self _))
  have hx2 := Heap.get?_update_self (putSlot 0 (.ref (hh.objs.size + 3))) hx1 rfl
  have hd2 : ((h₁.push emptyDict).update (hh.objs.size + 1) (putSlot 0 (.ref (hh.objs.size + 3)))).get? hh.objs.size = some emptyDict := (Heap.get?_update_other _ _ (Nat.ne_of_gt (Nat.lt_succ_self _))).trans hd1
  have hc2 : ((h₁.push emptyDict).update (hh.objs.size + 1) (putSlot 0 (.ref (hh.objs.size + 3)))).get? (hh.objs.size + 3) = some emptyDict := by
    refine (Heap.get?_update_other _ _ (Nat.ne_of_lt (Nat.lt_succ_of_lt (Nat.lt_succ_self _)))).trans ?_
    show (h₁.push emptyDict).get? (hh.objs.size + 2 + 1) = _
    rw [← hsz]; exact Heap.get?_push_size _ rfl
  have k4 : Keeps h₀ ((h₁.push emptyDict).update (hh.objs.size + 1) (putSlot 0 (.ref (hh.objs.size + 3)))) := fun b o e => (Heap.get?_update_other _ _ (fun z => Nat.lt_irrefl _ (Nat.lt_trans (Nat.lt_of_le_of_lt (Nat.le_of_eq z) (Heap.lt_size (k b o e))) (Nat.lt_succ_self _)))).trans (Heap.get?_push_of_some _ (k3 b o e))
  refine wpAny_execs_cons (plainObj_wpAny_Assign_Attribute (noneR ?_))
  refine nameR (cl := []) F2 rfl ?_
  refine set_content (od := some emptyDict) (X.keeps k4) ⟨hx2, rfl, rfl, hd2⟩ ?_
  refine wpAny_execs_nil ?_
  refine ⟨rfl, ?_⟩
  have n01 : hh.objs.size ≠ hh.objs.size + 1 := Nat.ne_of_lt (Nat.lt_succ_self _)
  have n31 : hh.objs.size + 3 ≠ hh.objs.size + 1 := Nat.ne_of_gt (Nat.lt_succ_of_lt (Nat.lt_succ_self _))
  refine h _ _ (fun b o e => ?_) ?_ ?_ ?_ ?_
  · have hb : b ≠ hh.objs.size + 1 := Nat.ne_of_lt (Nat.lt_succ_of_lt (Heap.lt_size e))
    exact (Heap.get?_update_other _ _ (Ne.symm hb)).trans ((Heap.get?_update_other _ _ (Ne.symm hb)).trans (Heap.get?_push_of_some _ (hk _ _ (Heap.get?_push_of_some _ (Heap.get?_push_of_some _ e)))))
  · simp only [Heap.size_update, Heap.size_push, hsz]
  · exact Heap.get?_update_self _ hx2 rfl
  · exact (Heap.get?_update_other _ _ (Ne.symm n01)).trans hd2
  · exact (Heap.get?_update_other _ _ (Ne.symm n31)).trans hc2
end
end Mine
end
section
open PySem PySem.W PySem.Calls PySem.Spec PyProof.Rows
set_option Elab.async false
set_option maxRecDepth 100000
set_option maxHeartbeats 1000000
set_option linter.unusedVariables false
namespace Mine

inductive DdOf (h : Heap) (x d : Addr) (c : Value) (TA : List Addr) : Prop
  | mk (dd : Addr) (od : Obj) (a4 : dd ∈ TA) (hx : h.get? x = some (nodeObj (.ref d) c dd)) (hd : h.get? dd = some od) : DdOf h x d c TA
inductive KvOf (w : World) (h : Heap) (P : List Str → Option (Addr × Addr)) (B : Nat) (q : List Str) (d : Addr) : Prop
  | mk (kvs : List (Str × Value)) (hk : h.DictOf (SK w) d kvs) (hl : kvs.length ≤ B) (hv : ∀ k, valueAt kvs k = (P (q ++ [k])).map fun y => Value.ref y.1) : KvOf w h P B q d
structure NodeOf (w : World) (h : Heap) (P : List Str → Option (Addr × Addr)) (C : List Str → Value) (TA : List Addr) (B : Nat) (q : List Str) (x d : Addr) : Prop where
  a1 : x ∈ TA
  a2 : d ∈ TA
  a3 : (d == sysModules) = false
  a4 : DdOf h x d (C q) TA
  kv : KvOf w h P B q d
/-- the trie in the heap: P tells the node's and its dict's places by the road, C what is put there, TA all its places -/
structure Trie (w : World) (h : Heap) (root : Addr) (P : List Str → Option (Addr × Addr)) (C : List Str → Value) (TA : List Addr) (B : Nat) : Prop where
  rt : ∃ d, P [] = some (root, d)
  node : ∀ q x d, P q = some (x, d) → NodeOf w h P C TA B q x d
  inj : ∀ q q' x d d', P q = some (x, d) → P q' = some (x, d') → q = q'
  injd : ∀ q q' x x' d, P q = some (x, d) → P q' = some (x', d) → q = q'
  closed : ∀ q k, P (q ++ [k]) ≠ none → P q ≠ none
  dom : ∀ q, P q = none → C q = .none
  vals : ∀ q, C q = .none ∨ ∃ k t, C q = .int k t
  live : ∀ a ∈ TA, ∃ o, h.get? a = some o

section
variable {w : World} {h h' : Heap} {root : Addr} {P : List Str → Option (Addr × Addr)} {C : List Str → Value} {TA : List Addr} {B : Nat}
theorem handed_val {v : Value} (h : v = .none ∨ ∃ k t, v = .int k t) : handedIn v = true := by
  rcases h with rfl | ⟨k, t, rfl⟩ <;> rfl
theorem Trie.nodeAt (T : Trie w h root P C TA B) {q : List Str} {x d : Addr} (e : P q = some (x, d)) : NodeAt h x (C q) (.ref d) := by
  obtain ⟨_, _, _, ⟨dd, od, _, hx, hd⟩, _⟩ := T.node q x d e
  exact ⟨⟨_, od, ⟨hx, rfl, rfl, hd⟩, rfl⟩, handed_val (T.vals q), rfl⟩
theorem Trie.read (T : Trie w h root P C TA B) : TrieR w h P C :=
  ⟨fun q x d e => by
    obtain ⟨_, _, hs, _, kvs, hd, _, hv⟩ := T.node q x d e
    exact ⟨T.nodeAt e, hs, _, hd.mapOf, hv⟩, T.vals⟩
theorem Trie.lt (T : Trie w h root P C TA B) {a : Addr} (ha : a ∈ TA) : a < h.objs.size := let ⟨_, e⟩ := T.live a ha; Heap.lt_size e
theorem Trie.keep (T : Trie w h root P C TA B) (k : ∀ a ∈ TA, ∀ o, h.get? a = some o → h'.get? a = some o) : Trie w h' root P C TA B :=
  ⟨T.rt, fun q x d e => by
    obtain ⟨a1, a2, a3, ⟨dd, od, a4, hx, hd⟩, kvs, hk, hl, hv⟩ := T.node q x d e
    exact ⟨a1, a2, a3, ⟨dd, od, a4, k _ a1 _ hx, k _ a4 _ hd⟩, kvs, hk.at (k _ a2), hl, hv⟩, T.inj, T.injd, T.closed, T.dom, T.vals, fun a ha => let ⟨o, e⟩ := T.live a ha; ⟨o, k a ha o e⟩⟩
theorem Trie.ne (T : Trie w h root P C TA B) {q q' : List Str} {x d x' d' : Addr} (e : P q = some (x, d)) (e' : P q' = some (x', d')) : x ≠ d' := by
  intro z
  obtain ⟨_, _, _, ⟨dd, od, _, hx, _⟩, _⟩ := T.node q x d e
  obtain ⟨_, _, _, _, kvs, hd, _⟩ := T.node q' x' d' e'
  obtain ⟨o, es, ep, ho, hc, _⟩ := hd
  rw [← z, hx] at ho
  cases ho
  exact absurd hc.1 (by intro z; cases z)

/-- a value is put at a node -/
theorem Trie.setC (T : Trie w h root P C TA B) {q : List Str} {x d : Addr} (e : P q = some (x, d)) {v : Value} (hv : v = .none ∨ ∃ k t, v = .int k t) :
    Trie w (h.update x (putSlot 1 v)) root P (fun p => if p = q then v else C p) TA B := by
  have hb : Heap.SameBut x h (h.update x (putSlot 1 v)) := Heap.SameBut.update ..
  refine ⟨T.rt, fun q' x' d' e' => ?_, T.inj, T.injd, T.closed, fun p hp => ?_, fun p => ?_, fun a ha => ?_⟩
  · obtain ⟨a1, a2, a3, ⟨dd, od, a4, hx, hd⟩, kvs, hk, hl, hv'⟩ := T.node q' x' d' e'
    have hdx : d' ≠ x := Ne.symm (T.ne e e')
    refine ⟨a1, a2, a3, ?_, kvs, hk.sameBut hb hdx, hl, hv'⟩
    have hdd : ∃ od', (h.update x (putSlot 1 v)).get? dd = some od' := by
      by_cases z : dd = x
      · obtain ⟨_, _, _, ⟨dd0, _, _, hx0, _⟩, _⟩ := T.node q x d e
        exact ⟨_, by rw [z]; exact Heap.get?_update_self (putSlot 1 v) hx0 rfl⟩
      · exact ⟨od, (hb.2 dd z).trans hd⟩
    obtain ⟨od', hdd⟩ := hdd
    by_cases z : q' = q
    · subst z
      rw [e] at e'; cases e'
      refine ⟨dd, od', a4, ?_, hdd⟩
      rw [if_pos rfl, Heap.get?_update_self (putSlot 1 v) hx rfl]
      rfl
    · have hxx : x' ≠ x := fun zz => z (T.inj q' q x' d' d e' (zz ▸ e))
      refine ⟨dd, od', a4, ?_, hdd⟩
      rw [if_neg z]
      exact (hb.2 x' hxx).trans hx
  · have : p ≠ q := fun z => by rw [z, e] at hp; cases hp
    rw [if_neg this]; exact T.dom p hp
  · show (if p = q then v else C p) = _ ∨ _
    split
    · exact hv
    · exact T.vals p
  · obtain ⟨o, ho⟩ := T.live a ha
    by_cases z : a = x
    · obtain ⟨_, _, _, ⟨dd0, _, _, hx0, _⟩, _⟩ := T.node q x d e
      exact ⟨_, by rw [z]; exact Heap.get?_update_self (putSlot 1 v) hx0 rfl⟩
    · exact ⟨o, (hb.2 a z).trans ho⟩

theorem valueAt_nil {K : Type} [DecidableEq K] {k : K} : valueAt ([] : List (K × Value)) k = none := rfl
theorem valueAt_cons {K : Type} [DecidableEq K] {p : K × Value} {l : List (K × Value)} {k : K} : valueAt (p :: l) k = if p.1 = k then some p.2 else valueAt l k := by
  unfold valueAt
  rw [List.find?_cons]
  by_cases z : p.1 = k
  · simp [z]
  · simp [z]
theorem valueAt_append {K : Type} [DecidableEq K] {l l' : List (K × Value)} {k : K} : valueAt (l ++ l') k = (valueAt l k).or (valueAt l' k) := by
  induction l with
  | nil => rfl
  | cons p l ih =>
    rw [List.cons_append, valueAt_cons, valueAt_cons, ih]
    split <;> rfl
theorem stored_none {K : Type} [DecidableEq K] {kvs : List (K × Value)} {k : K} {v : Value} (h : valueAt kvs k = none) : stored kvs k v = kvs ++ [(k, v)] := by
  unfold stored
  rw [if_neg]
  intro z
  obtain ⟨p, hp, hk⟩ := List.any_eq_true.mp z
  unfold valueAt at h
  rw [Option.map_eq_none_iff, List.find?_eq_none] at h
  exact h p hp hk
theorem valueAt_stored {K : Type} [DecidableEq K] {kvs : List (K × Value)} {k k' : K} {v : Value} (h : valueAt kvs k = none) : valueAt (stored kvs k v) k' = if k' = k then some v else valueAt kvs k' := by
  rw [stored_none h, valueAt_append, valueAt_cons, valueAt_nil]
  by_cases z : k' = k
  · subst z; rw [h]; simp
  · rw [if_neg z, if_neg (Ne.symm z)]; cases valueAt kvs k' <;> rfl

theorem liveBut (T : Trie w h root P C TA B) {d : Addr} {kvs : List (Str × Value)} (hd : h'.DictOf (SK w) d kvs) (keep : ∀ b o, b ≠ d → h.get? b = some o → h'.get? b = some o) {a : Addr} (ha : a ∈ TA) : ∃ o, h'.get? a = some o := by
  obtain ⟨o, ho⟩ := T.live a ha
  by_cases z : a = d
  · obtain ⟨o, _, _, ho, _⟩ := hd
    exact ⟨o, by rw [z]; exact ho⟩
  · exact ⟨o, keep a o z ho⟩
/-- a new child -/
theorem Trie.insert (T : Trie w h root P C TA B) {q : List Str} {x d : Addr} (e : P q = some (x, d)) {k : Str} (hk : P (q ++ [k]) = none) {kvs : List (Str × Value)} {x' d' dd' : Addr} (hh : h.DictOf (SK w) d kvs) (hl : kvs.length ≤ B)
    (hd : h'.DictOf (SK w) d (stored kvs k (.ref x'))) (keep : ∀ b o, b ≠ d → h.get? b = some o → h'.get? b = some o) (hx : h'.get? x' = some (nodeObj (.ref d') .none dd')) (hd' : h'.get? d' = some emptyDict) (hdd : h'.get? dd' = some emptyDict)
    (n1 : ∀ a ∈ TA, a ≠ x') (n2 : ∀ a ∈ TA, a ≠ d') (hm : (d' == sysModules) = false) :
    Trie w h' root (fun p => if p = q ++ [k] then some (x', d') else P p) C (x' :: d' :: dd' :: TA) (B + 1) := by
  have old : ∀ p, p ≠ q ++ [k] → (if p = q ++ [k] then some (x', d') else P p) = P p := fun p hp => if_neg hp
  have qk : ∀ p, p ++ [k] = q ++ [k] → p = q := fun p hp => by
    have := List.append_inj_left' hp rfl; exact this
  have hqn : q ≠ q ++ [k] := fun z => by have := congrArg List.length z; simp at this
  refine ⟨?_, fun p a b hp => ?_, fun p p' a b b' hp hp' => ?_, fun p p' a a' b hp hp' => ?_, fun p j hp => ?_, fun p hp => ?_, T.vals, fun a ha => ?_⟩
  · obtain ⟨d0, h0⟩ := T.rt
    exact ⟨d0, by rw [if_neg (fun z => by have := congrArg List.length z; simp at this)]; exact h0⟩
  · by_cases z : p = q ++ [k]
    · rw [if_pos z] at hp
      cases hp
      subst z
      refine ⟨.head _, .tail _ (.head _), hm, ⟨dd', _, .tail _ (.tail _ (.head _)), ?_, hdd⟩, [], ⟨_, #[], 0, hd', ⟨rfl, rfl, rfl⟩, rfl, fun _ he => by simp at he, .nil, List.nodup_nil⟩, Nat.zero_le _, fun j => ?_⟩
      · rw [T.dom _ hk]; exact hx
      · rw [valueAt_nil]
        have h1 : P (q ++ [k] ++ [j]) = none := by
          cases hz : P (q ++ [k] ++ [j]) with
          | none => rfl
          | some y => exact absurd hk (T.closed _ _ (by rw [hz]; simp))
        rw [if_neg (fun z => by have := congrArg List.length z; simp at this), h1]; rfl
    · rw [if_neg z] at hp
      obtain ⟨a1, a2, a3, ⟨dd, od, a4, hx0, hd0⟩, kvs0, hk0, hl0, hv0⟩ := T.node p a b hp
      have hax : a ≠ d := T.ne hp e
      have hdd0 : ∃ od', h'.get? dd = some od' := by
        by_cases y : dd = d
        · obtain ⟨o, _, _, ho, _⟩ := hd
          exact ⟨o, by rw [y]; exact ho⟩
        · exact ⟨od, keep dd od y hd0⟩
      obtain ⟨od', hdd0⟩ := hdd0
      refine ⟨.tail _ (.tail _ (.tail _ a1)), .tail _ (.tail _ (.tail _ a2)), a3, ⟨dd, od', .tail _ (.tail _ (.tail _ a4)), keep a _ hax hx0, hdd0⟩, ?_⟩
      by_cases y : p = q
      · subst y
        rw [e] at hp; cases hp
        have hv : valueAt kvs k = none := by
          have : kvs = kvs0 ∨ ∀ j, valueAt kvs j = valueAt kvs0 j := .inr fun j => by
            obtain ⟨o1, e1, ep1, g1, r1⟩ := hh.mapOf
            obtain ⟨o2, e2, ep2, g2, r2⟩ := hk0.mapOf
            rw [g1] at g2; cases g2
            obtain ⟨_, f1, _, f2⟩ := r1
            obtain ⟨_, f3, _, f4⟩ := r2
            rw [f1] at f3; cases f3
            rw [← f2 j, ← f4 j]
          rcases this with z1 | z1
          · rw [z1, hv0, hk]; rfl
          · rw [z1, hv0, hk]; rfl
        have hsame : ∀ j, valueAt kvs j = valueAt kvs0 j := fun j => by
            obtain ⟨o1, e1, ep1, g1, r1⟩ := hh.mapOf
            obtain ⟨o2, e2, ep2, g2, r2⟩ := hk0.mapOf
            rw [g1] at g2; cases g2
            obtain ⟨_, f1, _, f2⟩ := r1
            obtain ⟨_, f3, _, f4⟩ := r2
            rw [f1] at f3; cases f3
            rw [← f2 j, ← f4 j]
        refine ⟨_, hd, Nat.le_trans (stored_length_le ..) (by omega), fun j => ?_⟩
        rw [valueAt_stored hv]
        by_cases u : j = k
        · subst u; rw [if_pos rfl, if_pos rfl]; rfl
        · rw [if_neg u, if_neg (fun z2 => u (by have := List.append_inj_right' z2 rfl; simpa using this)), hsame, hv0]
      · have hbd : b ≠ d := fun z2 => y (T.injd p q a x b hp (z2 ▸ e))
        refine ⟨kvs0, hk0.at fun o ho => keep b o hbd ho, by omega, fun j => ?_⟩
        rw [hv0, if_neg (fun z2 => y (by have := List.append_inj_left' z2 rfl; exact this))]
  · by_cases z : p = q ++ [k]
    · rw [if_pos z] at hp; cases hp
      by_cases z' : p' = q ++ [k]
      · rw [z, z']
      · rw [if_neg z'] at hp'
        exact absurd rfl (n1 _ (T.node _ _ _ hp').1)
    · rw [if_neg z] at hp
      by_cases z' : p' = q ++ [k]
      · rw [if_pos z'] at hp'; cases hp'
        exact absurd rfl (n1 _ (T.node _ _ _ hp).1)
      · rw [if_neg z'] at hp'
        exact T.inj _ _ _ _ _ hp hp'
  · by_cases z : p = q ++ [k]
    · rw [if_pos z] at hp; cases hp
      by_cases z' : p' = q ++ [k]
      · rw [z, z']
      · rw [if_neg z'] at hp'
        exact absurd rfl (n2 _ (T.node _ _ _ hp').a2)
    · rw [if_neg z] at hp
      by_cases z' : p' = q ++ [k]
      · rw [if_pos z'] at hp'; cases hp'
        exact absurd rfl (n2 _ (T.node _ _ _ hp).a2)
      · rw [if_neg z'] at hp'
        exact T.injd _ _ _ _ _ hp hp'
  · by_cases z : p = q ++ [k]
    · rw [if_pos z]; simp
    · rw [if_neg z]
      by_cases z' : p ++ [j] = q ++ [k]
      · have : p = q := by have := List.append_inj_left' z' rfl; exact this
        rw [this, e]; simp
      · rw [if_neg z'] at hp
        exact T.closed p j hp
  · by_cases z : p = q ++ [k]
    · rw [if_pos z] at hp; cases hp
    · rw [if_neg z] at hp; exact T.dom p hp
  · rcases List.mem_cons.mp ha with z | ha
    · exact ⟨_, by rw [z]; exact hx⟩
    rcases List.mem_cons.mp ha with z | ha
    · exact ⟨_, by rw [z]; exact hd'⟩
    rcases List.mem_cons.mp ha with z | ha
    · exact ⟨_, by rw [z]; exact hdd⟩
    · exact liveBut T hd keep ha

theorem valueAt_without {K : Type} [DecidableEq K] {kvs : List (K × Value)} {k k' : K} : valueAt (without kvs k) k' = if k' = k then none else valueAt kvs k' := by
  induction kvs with
  | nil => unfold without; simp [valueAt_nil]
  | cons p l ih =>
    unfold without at ih ⊢
    rw [List.filter_cons]
    by_cases z : p.1 = k
    · rw [if_neg (by simp [z]), ih, valueAt_cons]
      by_cases u : k' = k
      · rw [if_pos u, if_pos u]
      · rw [if_neg u, if_neg u, if_neg (fun y : p.1 = k' => u (y.symm.trans z))]
    · rw [if_pos (by simp [z]), valueAt_cons, valueAt_cons, ih]
      by_cases u : k' = k
      · subst u; rw [if_pos rfl, if_neg z, if_pos rfl]
      · rw [if_neg u, if_neg u]
theorem dictOf_same {kvs kvs0 : List (Str × Value)} {d : Addr} (hh : h.DictOf (SK w) d kvs) (hk0 : h.DictOf (SK w) d kvs0) : ∀ j, valueAt kvs j = valueAt kvs0 j := fun j => by
  obtain ⟨o1, e1, ep1, g1, r1⟩ := hh.mapOf
  obtain ⟨o2, e2, ep2, g2, r2⟩ := hk0.mapOf
  rw [g1] at g2; cases g2
  obtain ⟨_, f1, _, f2⟩ := r1
  obtain ⟨_, f3, _, f4⟩ := r2
  rw [f1] at f3; cases f3
  rw [← f2 j, ← f4 j]
theorem without_length {K : Type} [DecidableEq K] (kvs : List (K × Value)) (k : K) : (without kvs k).length ≤ kvs.length := List.length_filter_le ..

/-- a child goes -/
theorem Trie.remove (T : Trie w h root P C TA B) {q : List Str} {x d : Addr} (e : P q = some (x, d)) {k : Str} (hc : C (q ++ [k]) = .none) (hemp : ∀ j, P (q ++ [k] ++ [j]) = none) {kvs : List (Str × Value)} (hh : h.DictOf (SK w) d kvs) (hl : kvs.length ≤ B)
    (hd : h'.DictOf (SK w) d (without kvs k)) (keep : ∀ b o, b ≠ d → h.get? b = some o → h'.get? b = some o) :
    Trie w h' root (fun p => if p = q ++ [k] then none else P p) C TA B := by
  have some_of : ∀ p y, (if p = q ++ [k] then none else P p) = some y → p ≠ q ++ [k] ∧ P p = some y := fun p y hp => by
    by_cases z : p = q ++ [k]
    · rw [if_pos z] at hp; cases hp
    · rw [if_neg z] at hp; exact ⟨z, hp⟩
  refine ⟨?_, fun p a b hp => ?_, fun p p' a b b' hp hp' => ?_, fun p p' a a' b hp hp' => ?_, fun p j hp => ?_, fun p hp => ?_, T.vals, fun a ha => liveBut T hd keep ha⟩
  · obtain ⟨d0, h0⟩ := T.rt
    exact ⟨d0, by rw [if_neg (fun z => by have := congrArg List.length z; simp at this)]; exact h0⟩
  · obtain ⟨z, hp0⟩ := some_of _ _ hp
    clear hp
    rename P p = some (a, b) => hp
    obtain ⟨a1, a2, a3, ⟨dd, od, a4, hx0, hd0⟩, kvs0, hk0, hl0, hv0⟩ := T.node p a b hp
    have hax : a ≠ d := T.ne hp e
    have hdd0 : ∃ od', h'.get? dd = some od' := by
      by_cases y : dd = d
      · obtain ⟨o, _, _, ho, _⟩ := hd
        exact ⟨o, by rw [y]; exact ho⟩
      · exact ⟨od, keep dd od y hd0⟩
    obtain ⟨od', hdd0⟩ := hdd0
    refine ⟨a1, a2, a3, ⟨dd, od', a4, keep a _ hax hx0, hdd0⟩, ?_⟩
    by_cases y : p = q
    · subst y
      rw [e] at hp; cases hp
      refine ⟨_, hd, Nat.le_trans (without_length ..) hl, fun j => ?_⟩
      rw [valueAt_without]
      by_cases u : j = k
      · subst u; rw [if_pos rfl, if_pos rfl]; rfl
      · rw [if_neg u, if_neg (fun z2 => u (by have := List.append_inj_right' z2 rfl; simpa using this)), dictOf_same hh hk0, hv0]
    · have hbd : b ≠ d := fun z2 => y (T.injd p q a x b hp (z2 ▸ e))
      refine ⟨kvs0, hk0.at fun o ho => keep b o hbd ho, hl0, fun j => ?_⟩
      rw [hv0, if_neg (fun z2 => y (by have := List.append_inj_left' z2 rfl; exact this))]
  · exact T.inj _ _ _ _ _ (some_of _ _ hp).2 (some_of _ _ hp').2
  · exact T.injd _ _ _ _ _ (some_of _ _ hp).2 (some_of _ _ hp').2
  · have hp2 : P (p ++ [j]) ≠ none := by
      intro z
      by_cases y : p ++ [j] = q ++ [k]
      · rw [if_pos y] at hp; exact hp rfl
      · rw [if_neg y] at hp; exact hp z
    by_cases z : p = q ++ [k]
    · subst z; exact absurd (hemp j) hp2
    · rw [if_neg z]; exact T.closed p j hp2
  · by_cases z : p = q ++ [k]
    · rw [z]; exact hc
    · rw [if_neg z] at hp; exact T.dom p hp
end
end Mine
end
section
open PySem PySem.W PySem.Calls PySem.Spec PyProof.Rows
set_option Elab.async false
set_option maxRecDepth 100000
set_option maxHeartbeats 4000000
set_option linter.unusedVariables false
namespace Mine
theorem fillB : Reg PySem.Challenge.rw_bc0018_01 hd.heap_39 := by k_fill; trivial

/-- the matcher's object -/
noncomputable def MatAt (h : Heap) (M root : Addr) : Prop := ∃ dM hs tk n, h.get? M = some (instObj 82 dM) ∧ h.get? dM = some (dictOf [⟨hs, .str (Str.ofString "_root") tk, .ref root⟩] n)
theorem MatAt.keeps {h h' : Heap} {M root : Addr} (x : MatAt h M root) (k : Keeps h h') : MatAt h' M root := let ⟨dM, hs, tk, n, a, b⟩ := x; ⟨dM, hs, tk, n, k _ _ a, k _ _ b⟩

section
variable {w : World} {A : Around} {E : Value → Shared → Prop} {s : Shared} {M root L : Addr} {h₀ : Heap} {m : Str → Option Value} {expr : Bool}
theorem mat_root {Q : Value → Shared → Prop} (F : Fr h₀ L s.heap m) (X : Frag.In (hd.heap_39 w.params) h₀) (I : MatAt s.heap M root) (h : Q (.ref root) { s with toks := s.toks + 1 }) : wpAny (model PP w) A (getAttr (.ref M) "_root" expr) Q E s := by
  obtain ⟨dM, hs, tk, n, h1, h2⟩ := I
  refine get_own (C := 82) (attr := none) F X ⟨h1, rfl, rfl, h2⟩ ?_ ?_ ?_ ?_ ?_ rfl h
  · k_is
  · k_is
  · k_is
  · k_is
  · k_get
theorem mat_node {Q : Value × List Value → Shared → Prop} {pl : Sem Bool} (F : Fr h₀ L s.heap m) (X : Frag.In (hd.heap_39 w.params) h₀) (I : MatAt s.heap M root) (h : Q (.ref 40, []) { s with toks := s.toks + 1 }) : wpAny (model PP w) A (getMethod (.ref M) "Node" pl) Q E s := by
  obtain ⟨dM, hs, tk, n, h1, h2⟩ := I
  refine method_usual (C := 82) (r := some (.ref 40)) (od := some (dictOf [⟨hs, .str (Str.ofString "_root") tk, .ref root⟩] n)) (X.keeps F.keep) ⟨h1, rfl, rfl, h2⟩ ?_ ?_ ?_ ?_ ?_
  · k_is
  · k_is
  · k_is
  · kernel_rfl
  refine get_cls (C := 82) F X ⟨h1, rfl, rfl, h2⟩ ?_ ?_ ?_ ?_ rfl (by decide +kernel) ?_ h
  · k_is
  · k_is
  · k_is
  · k_is
  · k_get
end

section
variable {w : World} {prog : Program} {A : Around} {E : Value → Shared → Prop} {s : Shared} {x y : Str} {t u : Tok} {Q : Value → Shared → Prop}
noncomputable abbrev strList (l : List (Str × Tok)) : Obj := { cls := .type "list", data := .seq (strValues l).toArray }
open PySem.Builtin PySem.Builtin.Str in
theorem split_raw (hy : (y.length == 0) = false) (h : ∀ l k, l.map (·.1) = Txt.split x y → Q (.ref s.heap.objs.size) { s with heap := s.heap.push (strList l), toks := k }) (hsz : x.length + 2 ≤ sizeLine) :
    wpAny (model prog w) A (call (.builtin "str.split") [.str x t, .str y u]) Q E s := by
  have hn : (partsBetween x (occurrences x y 0 x.length (x.length + 1)) y.length).length ≤ sizeLine := by
    have e1 := StrLaws.occ_length_le x y 0 x.length (x.length + 1)
    rw [length_partsBetween]; omega
  have no : ∀ {b : Bool}, b = false → ¬ b = true := fun e z => by rw [e] at z; cases z
  cases h1 : (decide (x.length < y.length) || decide (PySem.Builtin.Str.strKind x < PySem.Builtin.Str.strKind y))
  · cases hf : (occurrences x y 0 x.length (x.length + 1)).isEmpty
    · refine call_meets PySem.F.slot_str_split (typeIs_str _ _ _) PySem.F.entry_str_split (PySem.F.args_str_split_2 _ _) (meets_str_split_sep x y t u h1 hy hf (by omega) hn) ?_
      show wants Q E _ { s with toks := _, heap := s.heap.push { cls := .type "list", data := .seq (strsFrom s.toks (partsBetween x (occurrences x y 0 x.length (x.length + 1)) y.length)).toArray } }
      rw [strsFrom_eq]
      exact h (numbered s.toks _) _ ((numbered_texts _ _).trans ((if_neg (no h1)).trans (if_neg (no hf))).symm)
    · exact call_meets PySem.F.slot_str_split (typeIs_str _ _ _) PySem.F.entry_str_split (PySem.F.args_str_split_2 _ _) (meets_str_split_not_found x y t u h1 hy hf)
        (h [(x, t)] s.toks ((if_neg (no h1)).trans (if_pos hf)).symm)
  · exact call_meets PySem.F.slot_str_split (typeIs_str _ _ _) PySem.F.entry_str_split (PySem.F.args_str_split_2 _ _) (meets_str_split_cannot_occur x y t u h1)
      (h [(x, t)] s.toks (if_pos h1).symm)
end
end Mine
end
section
open PySem PySem.W PySem.Calls PySem.Spec PyProof.Rows
set_option Elab.async false
set_option maxRecDepth 100000
set_option maxHeartbeats 4000000
set_option linter.unusedVariables false
namespace Mine
local macro_rules | `(tactic| walk_at "eval Name") => `(tactic| (k_here; k_dflt (refine' nameX_L (by k_asm) (by with_reducible assumption) ?_ (by rfl) (by rfl); k_whole)))
local macro_rules | `(tactic| tb_start) => `(tactic| (
  refine' code_raw ?k1 ?k2 ?k3 ?k6 ?k7 ?k8 ?k9 ?kB ?_ ?c2 ?c3 ?c4 ?c5; (case k1 => assumption); (case k2 => assumption); (case k3 => exact Top.nolimit (by assumption)); (case k6 => k_is); (case k7 => k_is); (case k9 => exact BindsTo.of_eq rfl); (case c5 => decide); (case kB => exact locs rfl); (case c2 => exact rfl); (case c3 => exact rfl); (case c4 => exact rfl)))
section
open PySem PySem.W PySem.Calls PySem.Spec PyProof.Rows
set_option Elab.async false
set_option maxRecDepth 100000
set_option maxHeartbeats 4000000
set_option linter.unusedVariables false
theorem fillB2 : Reg PySem.Challenge.rw_bc0018_01 hd.heap_39 := by k_fill; trivial

section
variable {w : World} {A : Around} {E : Value → Shared → Prop} {s : Shared} {d : Addr} {kvs : List (Str × Value)} {k : Str} {t : Tok} {v dflt : Value}
theorem setdefault_raw {Q : Value → Shared → Prop} (hd : s.heap.DictOf (SK w) d kvs) (hl : kvs.length ≤ 1000) (lo : (d == sysModules) = false) (h1 : ∀ v, valueAt kvs k = some v → Q v { s with toks := s.toks + 1 })
    (h2 : valueAt kvs k = none → ∀ h', h'.DictOf (SK w) d (stored kvs k dflt) → Heap.SameBut d s.heap h' → Q dflt { s with heap := h', toks := s.toks + 1 }) :
    wpAny (model PP w) A (call (.builtin "dict.setdefault") [.ref d, .str k t, dflt]) Q E s :=
  call_meetsIn PySem.F.slot_dict_setdefault hd.typeIs PySem.F.entry_dict_setdefault (PySem.F.args_dict_setdefault_3 _ _ _) (kt_meets_setdefault (SK w) d (strKind_is PP w k t) lo dflt)
    ⟨kvs, hd, Nat.le_trans hl (by decide), h1, h2⟩
theorem dict_method {Q : Value × List Value → Shared → Prop} {pl : Sem Bool} (hd : s.heap.DictOf (SK w) d kvs) (h : Q (.builtin "dict.setdefault", [.ref d]) s) : wpAny (model PP w) A (getMethod (.ref d) "setdefault" pl) Q E s :=
  getMethod_builtin hd.typeIs PySem.F.plainAttrs_dict PySem.F.slot_dict_setdefault PySem.F.type_dict_setdefault hd.mapOf.noDict h
end

noncomputable def setS : Stmt := nthS (bodyS clsS) 2
noncomputable def setL : { l : List Stmt // bodyS setS = l } := ⟨_, by
  dsimp only [setS, clsS, PySem.Challenge.pw_bc0018_01, nthS, bodyS]⟩
noncomputable def setSc : { l : Scope // scopeS setS = l } := ⟨_, by
  dsimp only [setS, clsS, PySem.Challenge.pw_bc0018_01, nthS, bodyS, scopeS]⟩
noncomputable abbrev setQ : Str := Str.ofString "MQTTMatcher.__setitem__"

local macro_rules | `(tactic| walk_at "getAttr ref") => `(tactic| (k_here; k_dflt (first
  | ((with_reducible show wpAny _ _ (getAttr _ (PySem.Str.ofString "_content") _) _ _ _); refine' get_content (by k_asm) (by k_asm) (by assumption) ?_)
  | ((with_reducible show wpAny _ _ (getAttr _ (PySem.Str.ofString "_children") _) _ _ _); refine' get_children (by k_asm) (by k_asm) (by assumption) ?_)
  | ((with_reducible show wpAny _ _ (getAttr _ (PySem.Str.ofString "_root") _) _ _ _); refine' mat_root (by k_asm) (by k_asm) (by assumption) ?_))))
local macro_rules | `(tactic| walk_at "getMethod ref") => `(tactic| (k_here; k_dflt (first
  | ((with_reducible show wpAny _ _ (getMethod _ (PySem.Str.ofString "Node") _) _ _ _); refine' mat_node (by k_asm) (by k_asm) (by assumption) ?_)
  | ((with_reducible show wpAny _ _ (getMethod _ (PySem.Str.ofString "setdefault") _) _ _ _); refine' dict_method (by assumption) ?_))))

section
variable {w : World} {A : Around} {E : Value → Shared → Prop} {s : Shared} {M root L x d cd9 : Addr} {h₀ : Heap} {m mg mb : Str → Option Value} {p : Program} {loose : List Str} {mean : ExcName → Option Value} {ccd : Value} {k : Str} {t : Tok} {P : List Str → Option (Addr × Addr)} {C : List Str → Value} {TA : List Addr} {B : Nat} {q : List Str}
theorem set_turn (F : Fr h₀ L s.heap m) (X : Frag.In (hd.heap_39 w.params) h₀) (T : Top p loose mean mg mb h₀) (hroom : A.depth + 10 < recursionLimit)
    (hself : m (Str.ofString "self") = some (.ref M)) (hnode : m (Str.ofString "node") = some (.ref x)) (hsym : m (Str.ofString "sym") = some (.str k t)) (I : MatAt s.heap M root) (R : Trie w s.heap root P C TA B) (hP : P q = some (x, d)) (hB : B ≤ 900) (hLT : L ∉ TA)
    {Q : Flow → Shared → Prop} (h : ∀ h' tk x2 d2 P' TA', Trie w h' root P' C TA' (B + 1) → P' (q ++ [k]) = some (x2, d2) → h'.Ns L (fun y => if y = Str.ofString "node" then some (.ref x2) else m y) → L ∉ TA' →
      (∀ b o, b ∉ TA → b ≠ L → s.heap.get? b = some o → h'.get? b = some o ∧ b ∉ TA') → Q .next { s with heap := h', toks := tk }) :
    wpAny (model PP w) A (exec (nthS (bodyS (nthS setL.1 1)) 0) (envX setQ setSc.1 L 58 ccd [])) Q E s := by
  obtain ⟨a1, a2, lo, ⟨dd, od, a4, hx0, hd0⟩, kvs, hk, hl, hv⟩ := R.node q x d hP
  have I0 := R.nodeAt hP
  unfold setL setSc
  dsimp only [nthS, bodyS]
  have N : News h₀ L s.heap [] := .nil
  k_steps
  have kk : Keeps h₀ s.heap := F.keep
  refine node_new (s := { s with toks := s.toks + 1 + 1 }) X kk T.nolimit (by omega) (fun h1 tk1 k1 hsz hx1 hdd1 hd1 => ?_)
  dsimp only at k1 hsz hx1 hdd1 hd1 ⊢
  generalize hσ : s.heap.objs.size = σ at *
  have lt : ∀ {a}, a ∈ TA → a < σ := fun ha => hσ ▸ R.lt ha
  have ltb : ∀ {b o}, s.heap.get? b = some o → b < σ := fun e => hσ ▸ Heap.lt_size e
  walk1
  try dsimp only [List.cons_append, List.nil_append]
  have hk1 : h1.DictOf (SK w) d kvs := hk.at fun o e => k1 _ _ e
  have hns1 : h1.Ns L m := F.ns.keeps k1
  have R1 : Trie w h1 root P C TA B := R.keep fun a _ o e => k1 _ _ e
  have hLlt : L < σ := hσ ▸ F.ns.lt
  refine setdefault_raw hk1 (by omega) lo (fun v hv1 => ?_) fun hv1 h2 hd2 hs2 => ?_
  · rw [hv] at hv1
    cases hP2 : P (q ++ [k]) with
    | none => rw [hP2] at hv1; cases hv1
    | some y =>
      obtain ⟨x2, d2⟩ := y
      rw [hP2] at hv1; cases hv1
      refine wpAny_storeName_local rfl hns1 (fun h3 hn3 hs3 => ?_) rfl
      have R3 : Trie w h3 root P C TA (B + 1) := by
        have := R1.keep (h' := h3) fun a ha o e => (hs3.2 a fun z : a = L => hLT (z ▸ ha)).trans e
        exact ⟨this.rt, fun q x d e => by obtain ⟨b1, b2, b3, b4, kvs, b5, b6, b7⟩ := this.node q x d e; exact ⟨b1, b2, b3, b4, kvs, b5, Nat.le_succ_of_le b6, b7⟩, this.inj, this.injd, this.closed, this.dom, this.vals, this.live⟩
      exact h h3 _ x2 d2 P TA R3 hP2 hn3 hLT fun b o hb hbL e => ⟨(hs3.2 b hbL).trans (k1 _ _ e), hb⟩
  · have hP2 : P (q ++ [k]) = none := by
      rw [hv] at hv1
      cases hP2 : P (q ++ [k]) with
      | none => rfl
      | some y => rw [hP2] at hv1; cases hv1
    have hdσ : d < σ := lt a2
    have e1 : h2.get? (σ + 1) = some (nodeObj (.ref (σ + 3)) .none σ) := (hs2.2 _ (Nat.ne_of_gt (Nat.lt_succ_of_lt hdσ))).trans hx1
    have e2 : h2.get? σ = some emptyDict := (hs2.2 _ (Nat.ne_of_gt hdσ)).trans hdd1
    have e3 : h2.get? (σ + 3) = some emptyDict := (hs2.2 _ (Nat.ne_of_gt (Nat.lt_succ_of_lt (Nat.lt_succ_of_lt (Nat.lt_succ_of_lt hdσ))))).trans hd1
    have R2 := R1.insert hP hP2 hk1 hl hd2 (fun b o hb e => (hs2.2 b hb).trans e) e1 e3 e2 (fun a ha => Nat.ne_of_lt (Nat.lt_succ_of_lt (lt ha))) (fun a ha => Nat.ne_of_lt (Nat.lt_succ_of_lt (Nat.lt_succ_of_lt (Nat.lt_succ_of_lt (lt ha))))) ?_
    · have hdL : L ≠ d := fun z => hLT (z ▸ a2)
      refine wpAny_storeName_local rfl (hns1.sameBut hs2 hdL) (fun h3 hn3 hs3 => ?_) rfl
      have hLT2 : L ∉ (σ + 1) :: (σ + 3) :: σ :: TA := fun z => by
        rcases List.mem_cons.mp z with z | z
        · exact absurd z (Nat.ne_of_lt (Nat.lt_succ_of_lt hLlt))
        rcases List.mem_cons.mp z with z | z
        · exact absurd z (Nat.ne_of_lt (Nat.lt_succ_of_lt (Nat.lt_succ_of_lt (Nat.lt_succ_of_lt hLlt))))
        rcases List.mem_cons.mp z with z | z
        · exact absurd z (Nat.ne_of_lt hLlt)
        · exact hLT z
      refine h h3 _ (σ + 1) (σ + 3) _ _ (R2.keep (h' := h3) fun a ha o e => (hs3.2 a fun z : a = L => hLT2 (z ▸ ha)).trans e) (if_pos rfl) hn3 hLT2 fun b o hb hbL e => ⟨(hs3.2 b hbL).trans ((hs2.2 b fun z => hb (z ▸ a2)).trans (k1 _ _ e)), fun z => ?_⟩
      have hbσ := ltb e
      rcases List.mem_cons.mp z with z | z
      · exact absurd z (Nat.ne_of_lt (Nat.lt_succ_of_lt hbσ))
      rcases List.mem_cons.mp z with z | z
      · exact absurd z (Nat.ne_of_lt (Nat.lt_succ_of_lt (Nat.lt_succ_of_lt (Nat.lt_succ_of_lt hbσ))))
      rcases List.mem_cons.mp z with z | z
      · exact absurd z (Nat.ne_of_lt hbσ)
      · exact hb z
    · have h9 : sysModules < σ := Nat.lt_trans (modules_low T.nolimit) (Nat.lt_of_le_of_lt F.above hLlt)
      exact beq_eq_false_iff_ne.mpr (Nat.ne_of_gt (Nat.lt_succ_of_lt (Nat.lt_succ_of_lt (Nat.lt_succ_of_lt h9))))
end
end
section
open PySem PySem.W PySem.Calls PySem.Spec PyProof.Rows
set_option Elab.async false
set_option maxRecDepth 100000
set_option maxHeartbeats 4000000
set_option linter.unusedVariables false
theorem fillB3 : Reg PySem.Challenge.rw_bc0018_01 hd.heap_39 := by k_fill; trivial

section
variable {prog : Program} {w : World} {A : Around} {s : Shared} {env : Env} {R : Result → Shared → Prop}
/-- a for over a list, the state in the raw -/
theorem for_list {xn : Str} {px : Pos} {body : List Stmt} {l it : Addr} {items : Array Value} (hh : A.handled = none) (I : Nat → Shared → Prop)
    (hI : ∀ i s h', I i s → Heap.ExtBut it s.heap h' → I i { s with heap := h' }) (hl : ∀ i s, I i s → s.heap.IsList l items)
    (turn : ∀ i v s, items[i]? = some v → I i s → s.heap.IsListIter it l (i + 1) → wpAny (model prog w) A (storeName env xn v) (fun _ s₂ => wpAny (model prog w) A (execs body env) (fun f s₃ => (f = .next ∧ I (i + 1) s₃ ∧ s₃.heap.IsListIter it l (i + 1)))
      (notedBy (model prog w) A env fun e s' => R (.error e) s') s₂) (notedBy (model prog w) A env fun e s' => R (.error e) s') s)
    (done : ∀ s, I items.size s → R (.ok .next) s) (h : I 0 s) (hit : s.heap.IsListIter it l 0) : codeAny (model prog w) A (.forLoop (.Name xn px) (.ref it) body [] env) R s := by
  refine codeAny_forLoop (fun n s => ∃ i, n = items.size - i ∧ i ≤ items.size ∧ I i s ∧ s.heap.IsListIter it l i) (fun n s hJ => ?_) items.size ⟨0, rfl, Nat.zero_le _, h, hit⟩
  obtain ⟨i, rfl, hi, hi0, hit⟩ := hJ
  cases hx : items[i]? with
  | none =>
    have e : i = items.size := Nat.le_antisymm hi (by simpa using hx)
    refine wpAny_pyNext_list_end hh hit (hl i s hi0) hx fun h' hs => wpAny_execs_nil (done _ ?_)
    subst e
    exact hI _ s h' hi0 hs
  | some v =>
    have hlt : i < items.size := (Array.getElem?_eq_some_iff.mp hx).1
    refine wpAny_pyNext_list_item hit (hl i s hi0) hx fun h' hit' hs => wpAny_assign_Name (wpAny_mono (turn i v _ hx (hI i s h' hi0 hs.extBut) hit') (fun _ s₂ h₂ => wpAny_mono h₂ (fun f s₃ h₃ => ?_) fun _ _ x => x) fun _ _ x => x)
    obtain ⟨rfl, h₃, h₄⟩ := h₃
    exact ⟨items.size - (i + 1), sub_lt hlt, i + 1, rfl, hlt, h₃, h₄⟩
end

/-- what others hold stays, off the trie -/
noncomputable def Step (h : Heap) (TA : List Addr) (h' : Heap) (TA' : List Addr) : Prop := ∀ b o, b ∉ TA → h.get? b = some o → h'.get? b = some o ∧ b ∉ TA'
theorem Step.refl {h : Heap} {TA : List Addr} : Step h TA h TA := fun _ _ a e => ⟨e, a⟩
theorem Step.trans {h h' h'' : Heap} {TA TA' TA'' : List Addr} (x : Step h TA h' TA') (y : Step h' TA' h'' TA'') : Step h TA h'' TA'' := fun b o a e => let ⟨e1, a1⟩ := x b o a e; y b o a1 e1
theorem Step.keeps {h h' h'' : Heap} {TA TA' : List Addr} (x : Step h TA h' TA') (k : Keeps h' h'') : Step h TA h'' TA' := fun b o a e => let ⟨e1, a1⟩ := x b o a e; ⟨k _ _ e1, a1⟩
noncomputable def MatOff (h : Heap) (M root : Addr) (TA : List Addr) : Prop := ∃ dM hs tk n, h.get? M = some (instObj 82 dM) ∧ h.get? dM = some (dictOf [⟨hs, .str (Str.ofString "_root") tk, .ref root⟩] n) ∧ M ∉ TA ∧ dM ∉ TA
theorem MatOff.at_ {h : Heap} {M root : Addr} {TA : List Addr} (x : MatOff h M root TA) : MatAt h M root := let ⟨dM, hs, tk, n, a, b, _⟩ := x; ⟨dM, hs, tk, n, a, b⟩
theorem MatOff.step {h h' : Heap} {M root : Addr} {TA TA' : List Addr} (x : MatOff h M root TA) (y : Step h TA h' TA') : MatOff h' M root TA' :=
  let ⟨dM, hs, tk, n, a, b, c, d⟩ := x; let ⟨e1, f1⟩ := y _ _ c a; let ⟨e2, f2⟩ := y _ _ d b; ⟨dM, hs, tk, n, e1, e2, f1, f2⟩

section
variable {w : World} {s : Shared} {M root L it l : Addr} {h₀ : Heap} {TA : List Addr} {C : List Str → Value} {B : Nat} {key v : Value} {levels : List Str}
/-- between two turns of __setitem__ -/
structure SetI (w : World) (h₀ : Heap) (s : Shared) (M root L it l : Addr) (TA : List Addr) (C : List Str → Value) (B : Nat) (key v : Value) (items : Array Value) (levels : List Str) (i : Nat) (s' : Shared) (P' : List Str → Option (Addr × Addr)) (TA' : List Addr) (m : Str → Option Value) (x d : Addr) : Prop where
  tr : Trie w s'.heap root P' C TA' (B + i)
  here : P' (levels.take i) = some (x, d)
  ns : s'.heap.Ns L m
  self : m (Str.ofString "self") = some (.ref M)
  node : m (Str.ofString "node") = some (.ref x)
  val : m (Str.ofString "value") = some v
  LT : L ∉ TA'
  itT : it ∉ TA'
  lT : l ∉ TA'
  ls : s'.heap.IsList l items
  eq : ∃ tk, s' = { s with heap := s'.heap, toks := tk }
  step : Step s.heap TA s'.heap TA'

noncomputable def iterS : Stmt → Expr
  | .For _ e _ _ _ => e
  | _ => default

local macro_rules | `(tactic| walk_at "getAttr ref") => `(tactic| (k_here; k_dflt (first
  | ((with_reducible show wpAny _ _ (getAttr _ (PySem.Str.ofString "_root") _) _ _ _); refine' mat_root (by k_asm) (by k_asm) (by assumption) ?_))))
local macro_rules | `(tactic| walk_at "storeName") => `(tactic| (k_here; k_dflt (refine' wpAny_storeName_local (by rfl) (Fr.ns (by k_asm)) ?_ (by rfl); intro h' hn' hs')))
local macro_rules | `(tactic| walk_at "call builtin:str.split") => `(tactic| (k_here; k_dflt (refine' split_raw (by decide) ?_ (by assumption); intro l' k' hl')))
local macro_rules | `(tactic| walk_at "setAttr ref") => `(tactic| (k_here; k_dflt ((with_reducible show wpAny _ _ (setAttr _ (PySem.Str.ofString "_content") _) _ _ _); refine' set_content (by exact Frag.In.keeps (by k_asm) (Fr.keep (by k_asm))) (by assumption) ?_)))

variable {A : Around} {E : Value → Shared → Prop} {m mg mb : Str → Option Value} {p : Program} {loose : List Str} {mean : ExcName → Option Value} {ccd : Value} {x d dd : Addr} {od : Obj} {text : Str} {t : Tok} {c : Value}
theorem set_first (F : Fr h₀ L s.heap m) (X : Frag.In (hd.heap_39 w.params) h₀) (T : Top p loose mean mg mb h₀) (hself : m (Str.ofString "self") = some (.ref M)) (I : MatAt s.heap M root)
    {Q : Flow → Shared → Prop} (h : ∀ h' tk, h'.Ns L (fun y => if y = Str.ofString "node" then some (.ref root) else m y) → Heap.SameBut L s.heap h' → Q .next { s with heap := h', toks := tk }) :
    wpAny (model PP w) A (exec (nthS setL.1 0) (envX setQ setSc.1 L 58 ccd [])) Q E s := by
  unfold setL setSc
  dsimp only [nthS, bodyS]
  have N : News h₀ L s.heap [] := .nil
  k_steps
  exact h _ _ (by assumption) (by assumption)
theorem set_iter (F : Fr h₀ L s.heap m) (X : Frag.In (hd.heap_39 w.params) h₀) (T : Top p loose mean mg mb h₀) (hkey : m (Str.ofString "key") = some (.str text t)) (hz : text.length + 2 ≤ sizeLine)
    {Q : Value → Shared → Prop} (h : ∀ l' tk, l'.map (·.1) = Txt.split text (Str.ofString "/") → Q (.ref s.heap.objs.size) { s with heap := s.heap.push (strList l'), toks := tk }) :
    wpAny (model PP w) A (eval (iterS (nthS setL.1 1)) (envX setQ setSc.1 L 58 ccd [])) Q E s := by
  unfold setL setSc
  dsimp only [nthS, bodyS, iterS]
  have N : News h₀ L s.heap [] := .nil
  k_steps
  exact h _ _ (by assumption)
theorem set_last (F : Fr h₀ L s.heap m) (X : Frag.In (hd.heap_39 w.params) h₀) (T : Top p loose mean mg mb h₀) (hnode : m (Str.ofString "node") = some (.ref x)) (hval : m (Str.ofString "value") = some v) (I : InstAt s.heap x (nodeObj (.ref d) c dd) 40 (some od))
    {Q : Flow → Shared → Prop} (h : ∀ tk, Q .next { s with heap := s.heap.update x (putSlot 1 v), toks := tk }) :
    wpAny (model PP w) A (exec (nthS setL.1 2) (envX setQ setSc.1 L 58 ccd [])) Q E s := by
  unfold setL setSc
  dsimp only [nthS, bodyS]
  have N : News h₀ L s.heap [] := .nil
  k_steps
  exact h _
end
end
section
open PySem PySem.W PySem.Calls PySem.Spec PyProof.Rows
set_option Elab.async false
set_option maxRecDepth 100000
set_option maxHeartbeats 4000000
set_option linter.unusedVariables false
theorem fillB4 : Reg PySem.Challenge.rw_bc0018_01 hd.heap_39 := by k_fill; trivial

section
variable {w : World} {A : Around} {s : Shared} {M root : Addr} {h₀ : Heap} {mg mb : Str → Option Value} {p : Program} {loose : List Str} {mean : ExcName → Option Value} {P : List Str → Option (Addr × Addr)} {C : List Str → Value} {TA : List Addr} {B : Nat} {text : Str} {t : Tok} {v : Value} {R : Result → Shared → Prop} {levels : List Str}

theorem strValues_at {l : List (Str × Tok)} {i : Nat} {v : Value} (h : (strValues l).toArray[i]? = some v) : ∃ k t, v = .str k t ∧ (l.map (·.1))[i]? = some k := by
  simp only [strValues, List.getElem?_toArray, List.getElem?_map] at h ⊢
  cases hx : l[i]? with
  | none => rw [hx] at h; cases h
  | some y => rw [hx] at h; cases h; exact ⟨y.1, y.2, rfl, rfl⟩

theorem setitem_raw (X : Frag.In (hd.heap_39 w.params) h₀) (T : Top p loose mean mg mb h₀) (kk : Keeps h₀ s.heap) (hle : h₀.objs.size ≤ s.heap.objs.size) (hh : A.handled = none) (hroom : A.depth + 20 < recursionLimit)
    (I : MatOff s.heap M root TA) (Tr : Trie w s.heap root P C TA B) (hT0 : ∀ a ∈ TA, h₀.get? a = none) (hv : v = .none ∨ ∃ k t, v = .int k t) (hsp : Txt.split text (Str.ofString "/") = levels) (hz : text.length + 2 ≤ sizeLine) (hB : B + levels.length ≤ 900)
    (h : ∀ h' tk P' TA', Trie w h' root P' (fun q => if q = levels then v else C q) TA' (B + levels.length) → Step s.heap TA h' TA' → R (.ok (.ret .none)) { s with heap := h', toks := tk }) :
    codeAny (model PP w) A (.call (.ref 58) ⟨[.ref M, .str text t, v], []⟩) R s := by
  tb_start
  case k8 => exact lim0 hroom
  intro h₁ hns hk hsz
  generalize hL : s.heap.objs.size = L at *
  show wpAny _ _ (execs [nthS setL.1 0, .For (.Name (Str.ofString "sym") ⟨16, 12, 16, 15⟩) (iterS (nthS setL.1 1)) [nthS (bodyS (nthS setL.1 1)) 0] [] ⟨16, 8, 17, 62⟩, nthS setL.1 2] (envX setQ setSc.1 L 58 (.ref 57) [])) _ _ _
  refine gen_post fun Q₀ E₀ hQ₀ hE₀ => ?_
  have hLT : L ∉ TA := fun z => absurd (hL ▸ Tr.lt z) (Nat.lt_irrefl _)
  have F1 : Fr h₀ L h₁ _ := ⟨hns, kk.trans hk, hle⟩
  refine wpAny_execs_cons (set_first F1 X T rfl (I.at_.keeps hk) fun h2 tk2 hn2 hs2 => ?_)
  have hLlt : L < h₁.objs.size := by rw [hsz]; exact Nat.lt_succ_self _
  have nh0 : ∀ {b o}, h₀.get? b = some o → b ≠ L := fun e => Nat.ne_of_lt (Nat.lt_of_lt_of_le (Heap.lt_size e) hle)
  have nS : ∀ {b o}, s.heap.get? b = some o → b ≠ L := fun e => Nat.ne_of_lt (hL ▸ Heap.lt_size e)
  have k2 : ∀ b o, s.heap.get? b = some o → h2.get? b = some o := fun b o e => (hs2.2 b (nS e)).trans (hk _ _ e)
  have F2 : Fr h₀ L h2 _ := ⟨hn2, fun b o e => k2 b o (kk b o e), hle⟩
  have sz2 : h2.objs.size = L + 1 := hs2.1.trans hsz
  refine wpAny_execs_cons (wpAny_For (set_iter (s := { s with heap := h2, toks := tk2 }) F2 X T rfl hz fun l' tk3 hl' => ?_))
  have hls : (h2.push (strList l')).IsList h2.objs.size (strValues l').toArray := ⟨_, Heap.get?_push_size _ rfl, rfl, 0, rfl⟩
  dsimp only
  refine wpAny_pyIter_list hls ?_
  dsimp only
  rw [Heap.size_push, sz2]
  rw [sz2] at hls
  generalize hh3 : (h2.push (strList l')).push { cls := .type "list_iterator", data := .fields #[.ref (L + 1), .int 0 0] } = h3
  have k3 : Keeps h2 h3 := fun b o e => by rw [← hh3]; exact Heap.get?_push_of_some _ (Heap.get?_push_of_some _ e)
  have hls3 : h3.IsList (L + 1) (strValues l').toArray := by rw [← hh3]; exact hls.push _
  have hit3 : h3.IsListIter (L + 1 + 1) (L + 1) 0 := by
    rw [← hh3, ← sz2, ← Heap.size_push (h := h2) (strList l')]
    exact ⟨_, Heap.get?_push_size _ rfl, rfl, rfl⟩
  have lt2 : ∀ {a}, a ∈ TA → a < L := fun ha => hL ▸ Tr.lt ha
  have hlen : (strValues l').toArray.size = levels.length := by
    have := congrArg List.length (hl'.trans hsp)
    simpa [strValues] using this
  obtain ⟨d0, hd0⟩ := Tr.rt
  have Tr3 : Trie w h3 root P C TA B := Tr.keep fun a _ o e => k3 _ _ (k2 _ _ e)
  refine for_list (l := L + 1) (it := L + 1 + 1) (items := (strValues l').toArray) hh (fun i s' => ∃ P' TA' m x d, SetI w h₀ s M root L (L + 1 + 1) (L + 1) TA C B (.str text t) v (strValues l').toArray levels i s' P' TA' m x d) ?_ ?_ ?_ ?_ ?_ hit3
  · rintro i s' h' ⟨P', TA', m, x, d, Z⟩ hx
    refine ⟨P', TA', m, x, d, Z.tr.keep fun a ha o e => hx a o (fun z => Z.itT (z ▸ ha)) e, Z.here, Z.ns.extBut hx (Nat.ne_of_lt (Nat.lt_succ_of_lt (Nat.lt_succ_self _))), Z.self, Z.node, Z.val, Z.LT, Z.itT, Z.lT, Z.ls.extBut hx (Nat.ne_of_lt (Nat.lt_succ_self _)), ?_, fun b o hb e => ?_⟩
    · obtain ⟨tk, e⟩ := Z.eq
      exact ⟨tk, by rw [e]⟩
    · obtain ⟨e1, e2⟩ := Z.step b o hb e
      exact ⟨hx b o (Nat.ne_of_lt (Nat.lt_succ_of_lt (Nat.lt_succ_of_lt (hL ▸ Heap.lt_size e)))) e1, e2⟩
  · rintro i s' ⟨P', TA', m, x, d, Z⟩
    exact Z.ls
  · rintro i v' s' hx ⟨P', TA', m, x, d, Z⟩ hit
    obtain ⟨k, tkk, rfl, hkk⟩ := strValues_at hx
    rw [hl', hsp] at hkk
    obtain ⟨tk0, e0⟩ := Z.eq
    have hi : i < levels.length := (List.getElem?_eq_some_iff.mp hkk).1
    refine wpAny_storeName_local rfl Z.ns (fun h4 hn4 hs4 => ?_) rfl
    have st4 : Step s.heap TA h4 TA' := fun b o hb e => let ⟨e1, e2⟩ := Z.step b o hb e; ⟨(hs4.2 b (nS e)).trans e1, e2⟩
    have F4 : Fr h₀ L h4 _ := ⟨hn4, fun b o e => (st4 b o (fun z => by have := hT0 b z; rw [e] at this; cases this) (kk b o e)).1, hle⟩
    have R4 := Z.tr.keep (h' := h4) fun a ha o e => (hs4.2 a fun z : a = L => Z.LT (z ▸ ha)).trans e
    refine wpAny_execs_cons (set_turn (q := levels.take i) (k := k) (t := tkk) (s := { s' with heap := h4, toks := s'.toks + 1 }) F4 X T (by show A.depth + 1 + 10 < _; exact lim1 hroom (by decide)) ((if_neg (by decide)).trans Z.self) ((if_neg (by decide)).trans Z.node) (if_pos rfl) (I.step st4).at_ R4 Z.here (Nat.le_trans (Nat.add_le_add_left (Nat.le_of_lt hi) _) hB) Z.LT fun h5 tk5 x2 d2 P5 TA5 R5 hP5 hn5 hL5 st5 => ?_)
    have hitL : L + 1 + 1 ≠ L := Nat.ne_of_gt (Nat.lt_succ_of_lt (Nat.lt_succ_self _))
    have hlL : L + 1 ≠ L := Nat.ne_of_gt (Nat.lt_succ_self _)
    obtain ⟨oi, hoi, ri⟩ := hit
    obtain ⟨ol, hol, rl⟩ := Z.ls
    have i5 := st5 _ oi Z.itT hitL ((hs4.2 _ hitL).trans hoi)
    have l5 := st5 _ ol Z.lT hlL ((hs4.2 _ hlL).trans hol)
    have htake : levels.take (i + 1) = levels.take i ++ [k] := by rw [List.take_add_one, hkk]; rfl
    refine wpAny_execs_nil ⟨rfl, ⟨P5, TA5, _, x2, d2, ⟨R5, by rw [htake]; exact hP5, hn5, (if_neg (by decide)).trans ((if_neg (by decide)).trans Z.self), if_pos rfl, (if_neg (by decide)).trans ((if_neg (by decide)).trans Z.val), hL5, i5.2, l5.2, ⟨ol, l5.1, rl⟩, ⟨tk5, ?_⟩, fun b o hb e => ?_⟩⟩, ⟨oi, i5.1, ri⟩⟩
    · rw [e0]
    · obtain ⟨e1, e2⟩ := st4 b o hb e
      exact st5 b o e2 (nS e) e1
  · rintro s' ⟨P', TA', m, x, d, Z⟩
    obtain ⟨tk0, e0⟩ := Z.eq
    have hhere := Z.here
    rw [hlen, List.take_length] at hhere
    obtain ⟨b1, b2, b3, ⟨dd, od, b4, hx, hdd⟩, _⟩ := Z.tr.node _ _ _ hhere
    have F4 : Fr h₀ L s'.heap m := ⟨Z.ns, fun b o e => (Z.step b o (fun z => by have := hT0 b z; rw [e] at this; cases this) (kk b o e)).1, hle⟩
    show wpAny _ _ (execs [nthS setL.1 2] (envX setQ setSc.1 L 58 (.ref 57) [])) _ _ s'
    refine wpAny_execs_cons (set_last F4 X T Z.node Z.val ⟨hx, rfl, rfl, hdd⟩ fun tk6 => wpAny_execs_nil (hQ₀ _ _ ?_))
    have R6 := Z.tr.setC hhere hv
    rw [hlen] at R6
    have := h _ tk6 P' TA' R6 fun b o hb e => by
      obtain ⟨e1, e2⟩ := Z.step b o hb e
      exact ⟨(Heap.get?_update_other _ _ (fun z : x = b => e2 (z ▸ b1))).trans e1, e2⟩
    rw [e0]
    exact this
  · exact ⟨P, TA, _, root, d0, Tr3, hd0, hn2.keeps k3, rfl, rfl, rfl, hLT, fun z => absurd (lt2 z) (Nat.not_lt.mpr (Nat.le_succ_of_le (Nat.le_succ _))), fun z => absurd (lt2 z) (Nat.not_lt.mpr (Nat.le_succ _)), hls3, ⟨_, rfl⟩, fun b o hb e => ⟨k3 _ _ (k2 _ _ e), hb⟩⟩
end
end
section
open PySem PySem.W PySem.Calls PySem.Spec PyProof.Rows
set_option Elab.async false
set_option maxRecDepth 100000
set_option maxHeartbeats 4000000
set_option linter.unusedVariables false
theorem fillI : Reg PySem.Challenge.rw_bc0018_01 hd.heap_39 := by k_fill; trivial
noncomputable def imL : { l : List Stmt // bodyS imS = l } := ⟨_, by
  dsimp only [imS, clsS, PySem.Challenge.pw_bc0018_01, nthS, bodyS]⟩
noncomputable def imSc : { l : Scope // scopeS imS = l } := ⟨_, by
  dsimp only [imS, clsS, PySem.Challenge.pw_bc0018_01, nthS, bodyS, scopeS]⟩
noncomputable abbrev imQ : Str := Str.ofString "MQTTMatcher.iter_match"
noncomputable abbrev imCl (c1 c2 c3 : Addr) : List (Str × Addr) := [(Str.ofString "rec", c3), (Str.ofString "normal", c2), (Str.ofString "lst", c1)]
noncomputable abbrev imEnv (L c1 c2 c3 : Addr) : Env := envX imQ imSc.1 L 79 (.ref 78) (imCl c1 c2 c3)
/-- the code table of iter_match -/
noncomputable def TabRec (S : List Addr) (h : Heap) : Prop := h.get? 74 = some (tabObj #[]) ∨ ∃ c', h.get? 74 = some (tabObj #[rawInt 54, rawInt 8, .ref c']) ∧ h.CodeRec (.ref c') rq ∧ c' ∉ S
section
variable {w : World} {A : Around} {E : Value → Shared → Prop} {s : Shared} {L c1 c2 c3 : Addr} {h₀ : Heap} {m mg mb : Str → Option Value} {p : Program} {loose : List Str} {mean : ExcName → Option Value}
theorem qual_rec : qualnameIn (imEnv L c1 c2 c3) (Str.ofString "rec") (Str.ofString "rec") = rq := by
  show (imQ ++ Str.ofString ".<locals>.") ++ Str.ofString "rec" = rq
  decide +kernel
theorem clos_rec : closureFor recSc.1 (imEnv L c1 c2 c3) = pure (imCl c1 c2 c3) := rfl

theorem top_builtins (T : Top p loose mean mg mb h₀) {h : Heap} (k : ∀ b o, h₀.get? b = some o → h.get? b = some o) {P : Addr} {o : Obj} (hP : h.get? P = some o) (hc : o.cls = .none) : h.BuiltinsAt mg P ∧ (mainGlobals ≠ P ∨ ∃ es n, o.data = .dict es n) := by
  obtain ⟨bm, ob, b1, b2, b3, b4, b5, b6⟩ := T.bmain
  have hbP : bm ≠ P := fun q => by
    have e := k _ _ b3
    rw [q, hP] at e; cases e; rw [hc] at b4; cases b4
  have hbG : bm ≠ mainGlobals := fun q => by
    obtain ⟨o, es, ep, e, hd, _⟩ := T.g
    rw [q, e] at b3; cases b3; rw [hd] at b6; cases b6
  refine ⟨⟨bm, ob, b1, b2, hbG, hbP, k _ _ b3, b4, b5, b6⟩, ?_⟩
  by_cases q : mainGlobals = P
  · obtain ⟨o2, es, ep, e, hd, _⟩ := T.g.keeps k
    rw [q, hP] at e; cases e
    exact .inr ⟨es, ep, hd⟩
  · exact .inl q

theorem def_rec (F : Fr h₀ L s.heap m) (T : Top p loose mean mg mb h₀) (C : CodeHd h₀ 78 74) {S : List Addr} (TR : TabRec S s.heap) (hS : ∀ a ∈ S, a < s.heap.objs.size) {v₀ : Option Value} (hc3 : s.heap.IsCell c3 v₀)
    {Q : Flow → Shared → Prop} (h : ∀ h' tk f ccd T0 t0 kV doc pm an ct, h'.IsCell c3 (some (.ref f)) → h'.get? f = some ⟨.type "function", none, .func (fnX (Str.ofString "rec") rq recPa.1 recL.1 recSc.1 (imCl c1 c2 c3) (.ref T0) kV doc pm an ccd ct), #[]⟩ →
      h'.get? T0 = some ⟨.type "tuple", none, .seq #[.int 0 t0], #[]⟩ → h'.CodeRec ccd rq → TabRec S h' → (∀ b o, b ≠ 74 → b ≠ c3 → s.heap.get? b = some o → h'.get? b = some o) → Q .next { s with heap := h', toks := tk }) :
    wpAny (model PP w) A (exec (nthS imL.1 2) (imEnv L c1 c2 c3)) Q E s := by
  show wpAny _ _ (exec (.FunctionDef (Str.ofString "rec") recPa.1 recL.1 [] none [] recSc.1 none (Str.ofString "rec") ⟨54, 8, 67, 33⟩) (imEnv L c1 c2 c3)) _ _ _
  rw [exec_def]
  refine wpAny_bind (wpAny_standAt (wpAny_bind (wpAny_holding ?_)))
  rw [defaultsOf_eq]
  show wpAny _ _ (evalAll [eval (.Constant (.int 0) 0 ⟨54, 24, 54, 25⟩) (imEnv L c1 c2 c3)] >>= _) _ _ _
  refine wpAny_bind (wpAny_evalAll_cons (wpAny_Constant_int (wpAny_evalAll_nil ?_)))
  refine wpAny_bind (wpAny_holding (wpAny_pure ?_))
  refine wpAny_holding (wpAny_bind (wpAny_pure ?_))
  rw [makeFunction_eq]
  show wpAny _ _ (newTextTuple [.int 0 s.toks] >>= fun dV => makeTail _ _ _ _ _ _ dV .none none _ _) _ _ _
  refine wpAny_bind (wpAny_newTextTuple ?_)
  rw [qual_rec]
  have kS : Keeps s.heap (s.heap.push { cls := .type "tuple", data := .seq [Value.int 0 s.toks].toArray }) := fun b o e => Heap.get?_push_of_some _ e
  have hT0 : (s.heap.push { cls := .type "tuple", data := .seq [Value.int 0 s.toks].toArray }).get? s.heap.objs.size = some { cls := .type "tuple", data := .seq [Value.int 0 s.toks].toArray } := Heap.get?_push_size _ rfl
  have hsz1 : s.heap.objs.size ≤ (s.heap.push { cls := .type "tuple", data := .seq [Value.int 0 s.toks].toArray }).objs.size := by rw [Heap.size_push]; exact Nat.le_succ _
  generalize hh1 : s.heap.push { cls := .type "tuple", data := .seq [Value.int 0 s.toks].toArray } = h1 at kS hT0 hsz1
  have k1 : Keeps h₀ h1 := fun b o e => kS _ _ (F.keep b o e)
  have hg := T.g.keeps k1
  have C1 := C.keeps k1
  have c74 : c3 ≠ 74 := fun z => by
    obtain ⟨oc, e2, d2⟩ := hc3
    rw [z] at e2
    rcases TR with TR | ⟨c', TR, _, _⟩
    · rw [TR] at e2; cases e2; cases d2
    · rw [TR] at e2; cases e2; cases d2
  have T74 : s.heap.objs.size ≠ 74 := fun z => by
    rcases TR with TR | ⟨c', TR, _, _⟩
    · exact absurd (Heap.lt_size TR) (by rw [z]; exact Nat.lt_irrefl _)
    · exact absurd (Heap.lt_size TR) (by rw [z]; exact Nat.lt_irrefl _)
  have Tc3 : s.heap.objs.size ≠ c3 := fun z => by
    obtain ⟨oc, e2, _⟩ := hc3
    exact absurd (Heap.lt_size e2) (by rw [z]; exact Nat.lt_irrefl _)
  obtain ⟨o3, ho3, hd3⟩ := id hc3
  have codeNe : ∀ {h : Heap} {c'' : Addr}, h.IsCell c3 v₀ → h.CodeRec (.ref c'') rq → c'' ≠ c3 := fun hc hr z => by
    obtain ⟨oc, e2, d2⟩ := hc
    obtain ⟨c2, o2, vs, tq, e, g, hd, _⟩ := hr
    cases e
    rw [z, e2] at g; cases g; rw [d2] at hd; cases hd
  rcases TR with TR | ⟨c', TR, hcr, hcS⟩
  · have hP := kS _ _ TR
    obtain ⟨hb, hne⟩ := top_builtins T k1 hP rfl
    have hgP : mainGlobals ≠ 74 := hne.elim id fun ⟨es, n, e⟩ => by cases e
    refine kdv_makeTail (mg := mg) clos_rec rfl hg rfl C1 hP trivial rfl hgP hb fun c' ctv doc h2 tk hx hge hlt hrec htb => ?_
    have hcell2 : (h2.push (kdv_obj (Str.ofString "rec") rq recPa.1 (.stmts recL.1) recSc.1 (imCl c1 c2 c3) (.ref s.heap.objs.size) doc ((mg (Str.ofString "__name__")).getD .none) c' ctv)).IsCell c3 v₀ := ⟨o3, Heap.get?_push_of_some _ (hx _ _ c74 (kS _ _ ho3)), hd3⟩
    refine wpAny_bind (wpAny_standAt (wpAny_bind (wpAny_bindName (wpAny_storeName_cell rfl rfl rfl hcell2 fun h3 hc hs => wpAny_pure ?_))))
    have fne : h2.objs.size ≠ c3 := fun z => absurd (Heap.lt_size (hx _ _ c74 (kS _ _ ho3))) (by rw [z]; exact Nat.lt_irrefl _)
    have hrec2 : (h2.push (kdv_obj (Str.ofString "rec") rq recPa.1 (.stmts recL.1) recSc.1 (imCl c1 c2 c3) (.ref s.heap.objs.size) doc ((mg (Str.ofString "__name__")).getD .none) c' ctv)).CodeRec (.ref c') rq := hrec.push _
    have cne := codeNe hcell2 hrec2
    have hrec3 : h3.CodeRec (.ref c') rq := hrec2.at fun o e => (hs.2 _ cne).trans e
    refine h h3 _ h2.objs.size (.ref c') s.heap.objs.size s.toks .none doc ((mg (Str.ofString "__name__")).getD .none) none ctv hc ((hs.2 _ fne).trans (Heap.get?_push_size _ rfl)) ((hs.2 _ Tc3).trans (Heap.get?_push_of_some _ (hx _ _ T74 hT0))) hrec3 (.inr ⟨c', (hs.2 _ (Ne.symm c74)).trans (Heap.get?_push_of_some _ htb), hrec3, fun z => absurd (hS c' z) (Nat.not_lt.mpr (Nat.le_trans hsz1 hge))⟩) fun b o hb hb3 e => (hs.2 b hb3).trans (Heap.get?_push_of_some _ (hx b o hb (kS _ _ e)))
  · have hP := kS _ _ TR
    obtain ⟨hb, hne⟩ := top_builtins T k1 hP rfl
    refine kdv_makeTailHit (mg := mg) (cv := .ref c') clos_rec rfl hg rfl C1 hP trivial rfl hb fun ctv doc h2 tk hx hsz => ?_
    have hcell2 : (h2.push { cls := .type "function", data := .func (kdv_fn (Str.ofString "rec") rq recPa.1 (.stmts recL.1) recSc.1 (imCl c1 c2 c3) (.ref s.heap.objs.size) doc ((mg (Str.ofString "__name__")).getD .none) (.ref c') ctv) }).IsCell c3 v₀ := ⟨o3, Heap.get?_push_of_some _ (hx _ _ (kS _ _ ho3)), hd3⟩
    refine wpAny_bind (wpAny_standAt (wpAny_bind (wpAny_bindName (wpAny_storeName_cell rfl rfl rfl hcell2 fun h3 hc hs => wpAny_pure ?_))))
    have fne : h2.objs.size ≠ c3 := fun z => absurd (Heap.lt_size (hx _ _ (kS _ _ ho3))) (by rw [z]; exact Nat.lt_irrefl _)
    have hrec2 : (h2.push { cls := .type "function", data := .func (kdv_fn (Str.ofString "rec") rq recPa.1 (.stmts recL.1) recSc.1 (imCl c1 c2 c3) (.ref s.heap.objs.size) doc ((mg (Str.ofString "__name__")).getD .none) (.ref c') ctv) }).CodeRec (.ref c') rq := ((hcr.keeps kS).keeps hx).push _
    have cne := codeNe hcell2 hrec2
    have hrec3 : h3.CodeRec (.ref c') rq := hrec2.at fun o e => (hs.2 _ cne).trans e
    refine h h3 _ h2.objs.size (.ref c') s.heap.objs.size s.toks .none doc ((mg (Str.ofString "__name__")).getD .none) none ctv hc ((hs.2 _ fne).trans (Heap.get?_push_size _ rfl)) ((hs.2 _ Tc3).trans (Heap.get?_push_of_some _ (hx _ _ hT0))) hrec3 (.inr ⟨c', (hs.2 _ (Ne.symm c74)).trans (Heap.get?_push_of_some _ (hx _ _ hP)), hrec3, hcS⟩) fun b o hb hb3 e => (hs.2 b hb3).trans (Heap.get?_push_of_some _ (hx b o (kS _ _ e)))
end
end
section
open PySem PySem.W PySem.Calls PySem.Spec PyProof.Rows
set_option Elab.async false
set_option maxRecDepth 100000
set_option maxHeartbeats 4000000
set_option linter.unusedVariables false
theorem fillI2 : Reg PySem.Challenge.rw_bc0018_01 hd.heap_39 := by k_fill; trivial
local macro_rules | `(tactic| walk_at "pad") => `(tactic| fail)
local macro_rules | `(tactic| walk_at "eval Name") => `(tactic| (k_here; k_dflt (refine' wpAny_Name (wpAny_loadName_cell (by rfl) (by rfl) (by rfl) (by assumption) ?_) (by decide))))
local macro_rules | `(tactic| walk_at "getAttr ref") => `(tactic| (k_here; k_dflt (first
  | ((with_reducible show wpAny _ _ (getAttr _ (PySem.Str.ofString "_root") _) _ _ _); refine' mat_root (by k_asm) (by k_asm) (by assumption) ?_))))
local macro_rules | `(tactic| walk_at "storeName") => `(tactic| (k_here; k_dflt (refine' wpAny_storeName_cell (by rfl) (by rfl) (by rfl) (by assumption) ?_; intro h' hc' hs')))
local macro_rules | `(tactic| walk_at "call builtin:str.split") => `(tactic| (k_here; k_dflt (refine' split_raw (by decide) ?_ (by assumption); intro l' k' hl')))
local macro_rules | `(tactic| walk_at "callWith ref") => `(tactic| (k_here; k_dflt (refine' callWith_F (by assumption) ?_)))
local macro_rules | `(tactic| walk_at "And") => `(tactic| ((with_reducible show FnAt _ _ ∧ _); refine ⟨by assumption, ?_⟩; try dsimp only [List.nil_append, List.cons_append]))
noncomputable def retS : Stmt → Expr
  | .Return (some e) _ => e
  | _ => default
section
variable {w : World} {A : Around} {E : Value → Shared → Prop} {s : Shared} {L c1 c2 c3 M root fr : Addr} {h₀ : Heap} {m mg mb : Str → Option Value} {p : Program} {loose : List Str} {mean : ExcName → Option Value} {text : Str} {t : Tok} {v₀ : Option Value}
theorem im_0 (F : Fr h₀ L s.heap m) (X : Frag.In (hd.heap_39 w.params) h₀) (T : Top p loose mean mg mb h₀) (htop : m (Str.ofString "topic") = some (.str text t)) (hz : text.length + 2 ≤ sizeLine)
    (hcc : ∀ l', (s.heap.push (strList l')).IsCell c1 v₀)
    {Q : Flow → Shared → Prop} (h : ∀ l' tk h', l'.map (·.1) = Txt.split text (Str.ofString "/") → h'.IsCell c1 (some (.ref s.heap.objs.size)) → Heap.SameBut c1 (s.heap.push (strList l')) h' → Q .next { s with heap := h', toks := tk }) :
    wpAny (model PP w) A (exec (nthS imL.1 0) (imEnv L c1 c2 c3)) Q E s := by
  unfold imL imEnv imSc
  dsimp only [nthS, bodyS]
  have N : News h₀ L s.heap [] := .nil
  k_steps
  rename_i l' k' hl'
  refine wpAny_storeName_cell rfl rfl rfl (hcc l') fun h' hc' hs' => h l' _ h' hl' hc' hs'
theorem im_1 (F : Fr h₀ L s.heap m) (X : Frag.In (hd.heap_39 w.params) h₀) (T : Top p loose mean mg mb h₀) (htop : m (Str.ofString "topic") = some (.str text t)) (hc : s.heap.IsCell c2 v₀)
    {Q : Flow → Shared → Prop} (h : ∀ tk h', h'.IsCell c2 (some (.bool (!(Txt.startswith text (Str.ofString "$"))))) → Heap.SameBut c2 s.heap h' → Q .next { s with heap := h', toks := tk }) :
    wpAny (model PP w) A (exec (nthS imL.1 1) (imEnv L c1 c2 c3)) Q E s := by
  unfold imL imEnv imSc
  dsimp only [nthS, bodyS]
  have N : News h₀ L s.heap [] := .nil
  k_steps
  exact h _ _ (by assumption) (by assumption)
theorem im_3 (F : Fr h₀ L s.heap m) (X : Frag.In (hd.heap_39 w.params) h₀) (T : Top p loose mean mg mb h₀) (hself : m (Str.ofString "self") = some (.ref M)) (I : MatAt s.heap M root) (hc : s.heap.IsCell c3 (some (.ref fr))) (hf : FnAt fr s.heap)
    {Q : Value → Shared → Prop} (h : ∀ tk, wpAny (model PP w) A (call (.ref fr) [.ref root]) Q E { s with toks := tk }) :
    wpAny (model PP w) A (eval (retS (nthS imL.1 3)) (imEnv L c1 c2 c3)) Q E s := by
  unfold imL imEnv imSc
  dsimp only [nthS, bodyS, retS]
  have N : News h₀ L s.heap [] := .nil
  k_steps
  exact h _
end

section
variable {prog : Program} {w : World} {A : Around} {s : Shared} {h₀ : Heap} {K : Frag} {R : Result → Shared → Prop} {name qual : Str} {params : Arguments} {body : List Stmt} {scope : Scope} {dV kV doc pm cdv ct oc : Value} {an od : Option Addr} {osl : Array (Option Value)} {f : Addr} {args : Args} {binds : List (Str × Value)}
/-- a call of a written def that has cells, the heap in the raw -/
theorem code_rawC (X : K.In h₀) (k : Keeps h₀ s.heap) (hlim : h₀.NoLimit) (ho : K.lookup f = some ⟨oc, od, .func (fnOf name qual params body scope dV kV doc pm an cdv ct), osl⟩) (hcd : codeIn K cdv qual = true) (hroom : A.depth < recursionLimit)
    (hbind : BindsTo s (fnOf name qual params body scope dV kV doc pm an cdv ct) args binds) (hloc : ∀ y ∈ binds, scope.names.lookup y.1 = some .local)
    (h : ∀ s', InCallC s s.heap.objs.size (bindL (envX qual scope s.heap.objs.size f cdv (cellsFrom (s.heap.objs.size + 1) scope.names [])).kindOf binds fun _ => none) (cellsFrom (s.heap.objs.size + 1) scope.names []) (bindC (envX qual scope s.heap.objs.size f cdv (cellsFrom (s.heap.objs.size + 1) scope.names [])).kindOf binds fun _ => none) s' →
      wpAny (model prog w) (A.deeper (envX qual scope s.heap.objs.size f cdv (cellsFrom (s.heap.objs.size + 1) scope.names []))) (execs body (envX qual scope s.heap.objs.size f cdv (cellsFrom (s.heap.objs.size + 1) scope.names []))) (fun fl s' => R (.ok (.ret (match fl with | .ret v => v | _ => .none))) s')
        (fun e s' => wpAny (model prog w) (A.deeper (envX qual scope s.heap.objs.size f cdv (cellsFrom (s.heap.objs.size + 1) scope.names []))) (leaving (envX qual scope s.heap.objs.size f cdv (cellsFrom (s.heap.objs.size + 1) scope.names [])) e) (fun _ s'' => R (.error e) s'') (fun e' s'' => R (.error e') s'') s') s')
    (hco : scope.isCoroutine = false) (hgen : scope.isGenerator = false) (hk : scope.kind = .function) : codeAny (model prog w) A (.call (.ref f) args) R s := by
  have X' := X.keeps k
  refine codeAny_call_function hroom (X' _ _ ho) rfl hco hgen rfl (codeRec_of X' hcd) (hbind _ _ _ _ ?_)
  refine wpAny_newFunctionEnv_cells hk (fun x hx => .inl (hloc x hx)) fun env' he s' x => ?_
  subst he
  exact ⟨(hlim.keeps k).keeps x.toInCall.keep, codeAny_func (h s' x)⟩
end
end
section
open PySem PySem.W PySem.Calls PySem.Spec PyProof.Rows
set_option Elab.async false
set_option maxRecDepth 100000
set_option maxHeartbeats 4000000
set_option linter.unusedVariables false
theorem fillI3 : Reg PySem.Challenge.rw_bc0018_01 hd.heap_39 := by k_fill; trivial
local macro_rules | `(tactic| tb_start) => `(tactic| (
  refine' code_rawC ?k1 ?k2 ?k3 ?k6 ?k7 ?k8 ?k9 ?kB ?_ ?c2 ?c3 ?c4; (case k1 => assumption); (case k2 => assumption); (case k3 => exact Top.nolimit (by assumption)); (case k6 => k_is); (case k7 => k_is); (case k9 => exact BindsTo.of_eq rfl); (case kB => exact locs rfl); (case c2 => exact rfl); (case c3 => exact rfl); (case c4 => exact rfl)))
section
variable {w : World} {A : Around} {s : Shared} {M root : Addr} {h₀ : Heap} {mg mb : Str → Option Value} {p : Program} {loose : List Str} {mean : ExcName → Option Value} {P : List Str → Option (Addr × Addr)} {C : List Str → Value} {TA : List Addr} {B : Nat} {text : Str} {t : Tok} {R : Result → Shared → Prop} {parts : List Str}
theorem iter_raw (X : Frag.In (hd.heap_39 w.params) h₀) (T : Top p loose mean mg mb h₀) (kk : Keeps h₀ s.heap) (hle : h₀.objs.size ≤ s.heap.objs.size) (hroom : A.depth + 20 < recursionLimit) (Cd : CodeHd h₀ 78 74) (h74 : h₀.get? 74 = none) {S : List Addr} (TR : TabRec S s.heap) (hS : ∀ a ∈ S, a < s.heap.objs.size)
    (I : MatAt s.heap M root) (Tr : Trie w s.heap root P C TA B) (T74 : 74 ∉ TA) (hsp : Txt.split text (Str.ofString "/") = parts) (hz : text.length + 2 ≤ sizeLine) (hpl : parts.length ≤ 1000)
    (h : ∀ h3 h4 gs tk a L4, TabRec S h3 → (∀ b o, b ≠ 74 → s.heap.get? b = some o → h3.get? b = some o) → Keeps h3 h4 → h3.NoLimit → h3.objs.size ≤ h4.objs.size → L4 < h4.objs.size →
      Draws (model PP w) h3 (40 * (parts.length + 1)) a s.gens.size (mat P C (!(Txt.startswith text (Str.ofString "$"))) parts [] 0) [L4] [] { s with heap := h4, gens := s.gens.push gs, toks := tk } →
      R (.ok (.ret (.ref a))) { s with heap := h4, gens := s.gens.push gs, toks := tk }) :
    codeAny (model PP w) A (.call (.ref 79) ⟨[.ref M, .str text t], []⟩) R s := by
  tb_start
  case k8 => exact lim0 hroom
  intro s1 IC
  obtain ⟨h1, tk1, rfl⟩ := IC.toInCall.same
  have hns := IC.toInCall.ns
  have hk := IC.toInCall.keep
  have hcell := IC.cell
  have happ := IC.above
  clear IC
  dsimp only at hns hk hcell
  generalize hL : s.heap.objs.size = L at *
  show wpAny _ _ (execs [nthS imL.1 0, nthS imL.1 1, nthS imL.1 2, .Return (some (retS (nthS imL.1 3))) ⟨68, 8, 68, 30⟩] (imEnv L (L + 1) (L + 1 + 1) (L + 1 + 1 + 1))) _ _ _
  have g1 : h1.IsCell (L + 1) none := hcell (Str.ofString "lst") _ rfl
  have g2 : h1.IsCell (L + 1 + 1) none := hcell (Str.ofString "normal") _ rfl
  have g3 : h1.IsCell (L + 1 + 1 + 1) none := hcell (Str.ofString "rec") _ rfl
  have nS : ∀ {b o}, s.heap.get? b = some o → b < L := fun e => hL ▸ Heap.lt_size e
  have n12 : L + 1 ≠ L + 1 + 1 := Nat.ne_of_lt (Nat.lt_succ_self _)
  have n13 : L + 1 ≠ L + 1 + 1 + 1 := Nat.ne_of_lt (Nat.lt_succ_of_lt (Nat.lt_succ_self _))
  have n23 : L + 1 + 1 ≠ L + 1 + 1 + 1 := Nat.ne_of_lt (Nat.lt_succ_self _)
  have nL1 : L ≠ L + 1 := Nat.ne_of_lt (Nat.lt_succ_self _)
  have nL2 : L ≠ L + 1 + 1 := Nat.ne_of_lt (Nat.lt_succ_of_lt (Nat.lt_succ_self _))
  have nL3 : L ≠ L + 1 + 1 + 1 := Nat.ne_of_lt (Nat.lt_succ_of_lt (Nat.lt_succ_of_lt (Nat.lt_succ_self _)))
  have m74 : ∃ o, s.heap.get? 74 = some o := by rcases TR with z | ⟨_, z, _⟩ <;> exact ⟨_, z⟩
  have l74 : 74 < L := let ⟨_, e⟩ := m74; nS e
  have F1 : Fr h₀ L h1 _ := ⟨hns, kk.trans hk, hle⟩
  refine wpAny_execs_cons (im_0 (s := { s with heap := h1, toks := tk1 }) F1 X T rfl hz (fun l' => g1.keeps fun b o e => Heap.get?_push_of_some _ e) fun l' tk2 h2 hl' hc2 hs2 => ?_)
  dsimp only at hc2 hs2
  generalize hσ : h1.objs.size = σ at *
  have k2 : ∀ b o, b ≠ L + 1 → h1.get? b = some o → h2.get? b = some o := fun b o hb e => (hs2.2 b hb).trans (Heap.get?_push_of_some _ e)
  have σ1 : L + 1 < σ := hσ ▸ g1.lt
  have hlist : h2.IsList σ (strValues l').toArray := by
    refine ⟨strList l', (hs2.2 σ (Nat.ne_of_gt σ1)).trans ?_, rfl, 0, rfl⟩
    rw [← hσ]; exact Heap.get?_push_size _ rfl
  have g2' : h2.IsCell (L + 1 + 1) none := let ⟨o, e, r⟩ := g2; ⟨o, k2 _ _ (Ne.symm n12) e, r⟩
  have g3' : h2.IsCell (L + 1 + 1 + 1) none := let ⟨o, e, r⟩ := g3; ⟨o, k2 _ _ (Ne.symm n13) e, r⟩
  have hns2 : h2.Ns L _ := hns.at fun o e => k2 _ _ nL1 e
  have F2 : Fr h₀ L h2 _ := ⟨hns2, fun b o e => k2 b o (Nat.ne_of_lt (Nat.lt_succ_of_lt (nS (kk b o e)))) (hk _ _ (kk b o e)), hle⟩
  refine wpAny_execs_cons (im_1 (s := { s with heap := h2, toks := tk2 }) F2 X T rfl g2' fun tk3 h3 hc3 hs3 => ?_)
  dsimp only at hs3
  have hns3 : h3.Ns L _ := hns2.at fun o e => (hs3.2 _ nL2).trans e
  have g3'' : h3.IsCell (L + 1 + 1 + 1) none := let ⟨o, e, r⟩ := g3'; ⟨o, (hs3.2 _ (Ne.symm n23)).trans e, r⟩
  have k3 : ∀ b o, s.heap.get? b = some o → h3.get? b = some o := fun b o e => (hs3.2 b (Nat.ne_of_lt (Nat.lt_succ_of_lt (Nat.lt_succ_of_lt (nS e))))).trans (k2 b o (Nat.ne_of_lt (Nat.lt_succ_of_lt (nS e))) (hk _ _ e))
  have F3 : Fr h₀ L h3 _ := ⟨hns3, fun b o e => k3 b o (kk b o e), hle⟩
  have TR3 : TabRec S h3 := TR.imp (k3 _ _) fun ⟨c', e1, e2, e3⟩ => ⟨c', k3 _ _ e1, e2.keeps k3, e3⟩
  have hS3 : ∀ a ∈ S, a < h3.objs.size := fun a ha => Nat.lt_trans (hS a ha) hns3.lt
  refine wpAny_execs_cons (def_rec (s := { s with heap := h3, toks := tk3 }) F3 T Cd TR3 hS3 g3'' fun h5 tk5 f ccd T0 t0 kV doc pm an ct q1 q2 q3 q4 q5 q6 => ?_)
  dsimp only at q6
  have k5 : ∀ b o, b ≠ 74 → s.heap.get? b = some o → h5.get? b = some o := fun b o hb e => q6 b o hb (Nat.ne_of_lt (Nat.lt_succ_of_lt (Nat.lt_succ_of_lt (Nat.lt_succ_of_lt (nS e))))) (k3 _ _ e)
  have h0ne : ∀ {b o}, h₀.get? b = some o → b ≠ 74 := fun e z => by rw [z, h74] at e; cases e
  have k50 : Keeps h₀ h5 := fun b o e => k5 b o (h0ne e) (kk b o e)
  have hns5 : h5.Ns L _ := hns3.at fun o e => q6 _ _ (Nat.ne_of_gt l74) nL3 e
  have F5 : Fr h₀ L h5 _ := ⟨hns5, k50, hle⟩
  obtain ⟨dM, hsM, tkM, nM, i1, i2⟩ := I
  have nM74 : M ≠ 74 ∧ dM ≠ 74 := by
    constructor
    · intro z
      rcases TR with y | ⟨_, y, _⟩ <;> (rw [z, y] at i1; cases i1)
    · intro z
      rcases TR with y | ⟨_, y, _⟩ <;> (rw [z, y] at i2; cases i2)
  refine wpAny_execs_cons (wpAny_Return_some (im_3 (s := { s with heap := h5, toks := tk5 }) F5 X T rfl ⟨dM, hsM, tkM, nM, k5 _ _ nM74.1 i1, k5 _ _ nM74.2 i2⟩ q1 ⟨_, _, _, _, q2⟩ fun tk6 => ?_))
  have Tr5 : Trie w h5 root P C TA B := Tr.keep fun a ha o e => k5 a o (fun z => T74 (z ▸ ha)) e
  obtain ⟨d0, hd0⟩ := Tr5.rt
  have RCx : RC w p loose mean mg mb h5 (imCl (L + 1) (L + 1 + 1) (L + 1 + 1 + 1)) ccd f parts (!(Txt.startswith text (Str.ofString "$"))) P C := by
    refine ⟨X.keeps k50, T.keeps k50, ⟨L + 1, σ, strValues l', rfl, ?_, ?_, ?_⟩, ⟨L + 1 + 1, rfl, ?_⟩, ⟨L + 1 + 1 + 1, rfl, q1⟩, ⟨_, _, _, T0, kV, doc, pm, an, ct, _, t0, 0, q2, q4, q3, rfl⟩, hpl, Tr5.read⟩
    · obtain ⟨o, e, r⟩ := hc2
      exact ⟨o, q6 _ _ (Nat.ne_of_gt (Nat.lt_succ_of_lt l74)) n13 ((hs3.2 _ n12).trans e), r⟩
    · obtain ⟨o, e, r⟩ := hlist
      exact ⟨o, q6 _ _ (Nat.ne_of_gt (Nat.lt_trans l74 (Nat.lt_trans (Nat.lt_succ_self _) σ1))) (Nat.ne_of_gt (hσ ▸ g3.lt)) ((hs3.2 _ (Nat.ne_of_gt (hσ ▸ g2.lt))).trans e), r⟩
    · have := strsAre_of_values l'
      rw [hl', hsp] at this
      exact this
    · obtain ⟨o, e, r⟩ := hc3
      exact ⟨o, q6 _ _ (Nat.ne_of_gt (Nat.lt_succ_of_lt (Nat.lt_succ_of_lt l74))) n23 e, r⟩
  refine wpAny_call (rec_made RCx (s := { s with heap := h5, toks := tk6 }) (x := root) (j := 0) (Keeps.refl _) (by show A.depth + 1 < _; exact lim hroom (by decide)) (fun T9 kV doc pm an ct oT t9 nT hT hTd => ⟨t9, BindsTo.of_defaults rfl hT hTd rfl rfl⟩) fun t9 h6 tk7 o hn6 hk6 hs6 ho hc ⟨nm, qn, hdt⟩ hsl => ?_)
  dsimp only at hn6 hk6 hs6 ho hdt
  have hmono : h5.objs.size ≤ h6.objs.size := by rw [hs6]; omega
  have goodAll : Good (model PP w) h5 (40 * (parts.length + 1)) s.gens.size (mat P C (!(Txt.startswith text (Str.ofString "$"))) parts [] 0) [h5.objs.size] [] (.fresh (rcode h5.objs.size f ccd (imCl (L + 1) (L + 1 + 1) (L + 1 + 1 + 1)))) { s with heap := h6, gens := s.gens.push (.fresh (rcode h5.objs.size f ccd (imCl (L + 1) (L + 1 + 1) (L + 1 + 1 + 1)))), toks := tk7 } := by
    cases parts with
    | nil => exact good_of_body (body_nil RCx (Nat.le_refl _) hd0 rfl) hk6 hn6 (by show _ < (s.gens.push _).size; rw [Array.size_push]; omega)
    | cons part rest =>
      refine good_of_body (body_cons RCx (Nat.le_refl _) hd0 (Int.le_refl _) (by simp only [List.length_cons]; omega) rfl (calls_of RCx rest (0 + 1) (by omega) rfl (by simp only [List.length_cons]; omega)) (by simp only [List.length_cons]; omega) rcode_weight rcode_units) hk6 hn6 (by show _ < (s.gens.push _).size; rw [Array.size_push]; omega)
  refine h h5 h6 _ tk7 (h5.objs.size + 1) h5.objs.size q5 k5 hk6 ((T.nolimit.keeps k50)) hmono (by rw [hs6]; exact Nat.lt_succ_of_lt (Nat.lt_succ_self _)) ⟨hk6, ⟨o, nm, qn, ho, hc, hdt, .inl hsl⟩, by simp, by simp, .fresh (rcode h5.objs.size f ccd (imCl (L + 1) (L + 1 + 1) (L + 1 + 1 + 1))), ?_, goodAll⟩
  show (s.gens.push _)[s.gens.size]? = _
  rw [Array.getElem?_push, if_pos rfl]
end
end
section
open PySem PySem.W PySem.Calls PySem.Spec PyProof.Rows
set_option Elab.async false
set_option linter.unusedVariables false
/-! the plain law -/
noncomputable abbrev sH : Str := Str.ofString "#"
noncomputable abbrev sP : Str := Str.ofString "+"
theorem sH_ne_sP : sH ≠ sP := by decide
noncomputable def okAt (normal : Bool) (i : Int) : Bool := normal || decide (i > 0)
noncomputable def vis (normal : Bool) : List Str → List Str → Int → List (List Str)
  | [], q, i => q :: (if okAt normal i then [q ++ [sH]] else [])
  | p :: r, q, i => (vis normal r (q ++ [p]) (i + 1) ++ (if okAt normal i then vis normal r (q ++ [sP]) (i + 1) else [])) ++ (if okAt normal i then [q ++ [sH]] else [])

theorem none_below {P : List Str → Option (Addr × Addr)} {C : List Str → Value} (closed : ∀ q k, P (q ++ [k]) ≠ none → P q ≠ none) (dom : ∀ q, P q = none → C q = .none) {q : List Str} (h : P q = none) : ∀ ext, P (q ++ ext) = none ∧ C (q ++ ext) = .none := by
  have key : ∀ (ext q : List Str), P q = none → P (q ++ ext) = none := by
    intro ext
    induction ext with
    | nil => intro q h; simpa using h
    | cons k ext ih =>
      intro q h
      have h1 : P (q ++ [k]) = none := by
        cases hz : P (q ++ [k]) with
        | none => rfl
        | some y => exact absurd h (closed q k (by rw [hz]; simp))
      have := ih (q ++ [k]) h1
      rwa [List.append_assoc] at this
  exact fun ext => ⟨key ext q h, dom _ (key ext q h)⟩
theorem optV_none {v : Value} (h : v = .none) : optV v = [] := by subst h; rfl

theorem vis_prefix {normal : Bool} : ∀ (r q : List Str) (i : Int) (x : List Str), x ∈ vis normal r q i → ∃ ext, x = q ++ ext := by
  intro r
  induction r with
  | nil =>
    intro q i x hx
    rcases List.mem_cons.mp hx with e | hx
    · exact ⟨[], by simp [e]⟩
    · split at hx
      · exact ⟨[sH], List.mem_singleton.mp hx⟩
      · cases hx
  | cons p r ih =>
    intro q i x hx
    rcases List.mem_append.mp hx with hx | hx
    · rcases List.mem_append.mp hx with hx | hx
      · obtain ⟨ext, e⟩ := ih _ _ _ hx
        exact ⟨p :: ext, by simp [e]⟩
      · split at hx
        · obtain ⟨ext, e⟩ := ih _ _ _ hx
          exact ⟨sP :: ext, by simp [e]⟩
        · cases hx
    · split at hx
      · exact ⟨[sH], List.mem_singleton.mp hx⟩
      · cases hx

theorem mat_vis {P : List Str → Option (Addr × Addr)} {C : List Str → Value} (closed : ∀ q k, P (q ++ [k]) ≠ none → P q ≠ none) (dom : ∀ q, P q = none → C q = .none) {normal : Bool} :
    ∀ (r q : List Str) (i : Int), mat P C normal r q i = (vis normal r q i).flatMap fun x => optV (C x) := by
  have hsh : ∀ q i, hashes P C normal q i = (if okAt normal i then [q ++ [sH]] else []).flatMap fun x => optV (C x) := by
    intro q i
    unfold hashes okAt
    cases hP : P (q ++ [sH]) with
    | none =>
      simp only [Option.isSome_none, Bool.false_and, Bool.false_eq_true, if_false]
      split
      · simp [optV_none (dom _ hP)]
      · rfl
    | some y =>
      simp only [Option.isSome_some, Bool.true_and]
      split <;> simp
  have zero : ∀ r q i, P q = none → (vis normal r q i).flatMap (fun x => optV (C x)) = [] := by
    intro r q i h
    rw [List.flatMap_eq_nil_iff]
    intro x hx
    obtain ⟨ext, e⟩ := vis_prefix r q i x hx
    rw [e]
    exact optV_none (none_below closed dom h ext).2
  intro r
  induction r with
  | nil =>
    intro q i
    show optV (C q) ++ hashes P C normal q i = _
    rw [hsh]
    show _ = optV (C q) ++ _
    rfl
  | cons p r ih =>
    intro q i
    show ((if (P (q ++ [p])).isSome then mat P C normal r (q ++ [p]) (i + 1) else []) ++ (if (P (q ++ [sP])).isSome && (normal || decide (i > 0)) then mat P C normal r (q ++ [sP]) (i + 1) else [])) ++ hashes P C normal q i = _
    rw [hsh]
    show _ = ((vis normal r (q ++ [p]) (i + 1) ++ (if okAt normal i then vis normal r (q ++ [sP]) (i + 1) else [])) ++ (if okAt normal i then [q ++ [sH]] else [])).flatMap _
    rw [List.flatMap_append, List.flatMap_append]
    congr 1
    congr 1
    · cases hP : P (q ++ [p]) with
      | none => simp [zero _ _ _ hP]
      | some y => simp [ih]
    · cases hP : P (q ++ [sP]) with
      | none =>
        simp only [Option.isSome_none, Bool.false_and, Bool.false_eq_true, if_false]
        split
        · exact (zero _ _ _ hP).symm
        · rfl
      | some y =>
        simp only [Option.isSome_some, Bool.true_and]
        unfold okAt
        split
        · exact ih _ _
        · rfl

noncomputable def plainP (p : Str) : Prop := p ≠ sH ∧ p ≠ sP
theorem vis_nodup {normal : Bool} : ∀ (r q : List Str) (i : Int), (∀ p ∈ r, plainP p) → (vis normal r q i).Nodup := by
  have hd : ∀ {q a b : List Str} {x y : Str}, q ++ [x] ++ a = q ++ [y] ++ b → x = y := by
    intro q a b x y h
    rw [List.append_assoc, List.append_assoc] at h
    have := List.append_cancel_left h
    simpa using (List.cons.inj this).1
  intro r
  induction r with
  | nil =>
    intro q i _
    unfold vis
    split
    · simp
    · simp
  | cons p r ih =>
    intro q i hp
    have hpp := hp p (.head _)
    have hr := fun x hx => hp x (.tail _ hx)
    unfold vis
    rw [List.nodup_append, List.nodup_append]
    refine ⟨⟨ih _ _ hr, ?_, ?_⟩, ?_, ?_⟩
    · split
      · exact ih _ _ hr
      · exact List.nodup_nil
    · intro a ha b hb
      split at hb
      · obtain ⟨e1, rfl⟩ := vis_prefix _ _ _ _ ha
        obtain ⟨e2, rfl⟩ := vis_prefix _ _ _ _ hb
        exact fun z => hpp.2 (hd z)
      · cases hb
    · split <;> simp
    · intro a ha b hb
      by_cases ok : okAt normal i = true
      · rw [if_pos ok] at hb ha
        obtain rfl := List.mem_singleton.mp hb
        rcases List.mem_append.mp ha with ha | ha
        · obtain ⟨e1, rfl⟩ := vis_prefix _ _ _ _ ha
          exact fun z => hpp.1 (hd (q := q) (a := e1) (b := []) (by rw [List.append_nil]; exact z))
        · obtain ⟨e1, rfl⟩ := vis_prefix _ _ _ _ ha
          exact fun z => sH_ne_sP (hd (q := q) (a := e1) (b := []) (by rw [List.append_nil]; exact z)).symm
      · rw [if_neg ok] at hb; cases hb

noncomputable def fitsGo : List Str → List Str → Bool
  | [], ps => ps.isEmpty
  | l :: ls, ps => if l == sH then true else match ps with
    | [] => false
    | p :: ps' => if l == sP || l == p then fitsGo ls ps' else false
theorem fitsGo_cons {x p : Str} {l r : List Str} : fitsGo (x :: l) (p :: r) = if x == sH then true else if x == sP || x == p then fitsGo l r else false := by
  rw [fitsGo]
theorem fitsGo_nil {x : Str} {l : List Str} : fitsGo (x :: l) [] = if x == sH then true else false := by
  rw [fitsGo]
noncomputable def okL : List Str → Prop
  | [] => True
  | x :: l => (x = sH → l = []) ∧ okL l

theorem in_vis_head {normal : Bool} {r q l : List Str} {x y : Str} {i : Int} : q ++ x :: l ∈ vis normal r (q ++ [y]) i ↔ x = y ∧ (q ++ [y]) ++ l ∈ vis normal r (q ++ [y]) i := by
  constructor
  · intro h
    obtain ⟨ext, e⟩ := vis_prefix _ _ _ _ h
    have e2 : x :: l = y :: ext := by
      rw [List.append_assoc] at e
      exact List.append_cancel_left e
    obtain ⟨rfl, rfl⟩ := List.cons.inj e2
    refine ⟨rfl, ?_⟩
    rwa [List.append_assoc]
  · rintro ⟨rfl, h⟩
    rwa [List.append_assoc] at h
theorem not_in_deeper {normal : Bool} {r q : List Str} {y : Str} {i : Int} : q ∉ vis normal r (q ++ [y]) i := by
  intro h
  obtain ⟨ext, e⟩ := vis_prefix _ _ _ _ h
  have := congrArg List.length e
  simp at this

theorem vis_fits {normal : Bool} : ∀ (r : List Str), (∀ p ∈ r, plainP p) → ∀ (q l : List Str) (i : Int), 0 ≤ i → okAt normal i = true → okL l → (q ++ l ∈ vis normal r q i ↔ fitsGo l r = true) := by
  have up : ∀ {i : Int}, 0 ≤ i → okAt normal (i + 1) = true := by
    intro i h
    unfold okAt
    have : decide (i + 1 > 0) = true := by simp; omega
    rw [this]; simp
  intro r
  induction r with
  | nil =>
    intro _ q l i hi ok hl
    unfold vis
    rw [if_pos ok]
    cases l with
    | nil => simp [fitsGo]
    | cons x l =>
      simp only [List.mem_cons, List.append_cancel_left_eq, List.not_mem_nil, or_false]
      rw [fitsGo_nil]
      by_cases hx : x = sH
      · subst hx
        have := hl.1 rfl
        subst this
        simp
      · simp [hx]
  | cons p r ih =>
    intro hp q l i hi ok hl
    have hpp := hp p (.head _)
    have hr := fun x hx => hp x (.tail _ hx)
    unfold vis
    rw [if_pos ok, if_pos ok, List.mem_append, List.mem_append]
    cases l with
    | nil =>
      rw [List.append_nil]
      constructor
      · rintro ((h | h) | h)
        · exact absurd h not_in_deeper
        · exact absurd h not_in_deeper
        · have := congrArg List.length (List.mem_singleton.mp h)
          simp at this
      · intro h; simp [fitsGo] at h
    | cons x l =>
      rw [in_vis_head, in_vis_head, ih hr _ _ _ (by omega) (up hi) hl.2, ih hr _ _ _ (by omega) (up hi) hl.2, List.mem_singleton]
      rw [fitsGo_cons]
      by_cases hx : x = sH
      · subst hx
        have := hl.1 rfl
        subst this
        simp
      · have h3 : ¬ (q ++ x :: l = q ++ [sH]) := fun z => hx (by have := List.append_cancel_left z; exact (List.cons.inj this).1)
        have hxb : (x == sH) = false := beq_false_of_ne hx
        rw [hxb]
        simp only [h3, or_false, Bool.false_eq_true, if_false]
        by_cases h1 : x = sP
        · subst h1
          have : ¬ sP = p := fun z => hpp.2 z.symm
          simp [this]
        · by_cases h2 : x = p
          · subst h2; simp [h1]
          · simp [h1, h2]

/-- the standard's words -/
noncomputable def fitsD (dollar : Bool) (ls ps : List Str) : Bool := if dollar && (ls.headD Str.empty == sP || ls.headD Str.empty == sH) then false else fitsGo ls ps
theorem vis_law {dollar : Bool} {r l : List Str} (hp : ∀ p ∈ r, plainP p) (hl : okL l) (hne : l ≠ []) (hr : r ≠ []) : l ∈ vis (!dollar) r [] 0 ↔ fitsD dollar l r = true := by
  unfold fitsD
  cases dollar with
  | false =>
    have := vis_fits (normal := !false) r hp [] l 0 (Int.le_refl _) rfl hl
    rw [List.nil_append] at this
    simpa using this
  | true =>
    cases r with
    | nil => exact absurd rfl hr
    | cons p r =>
      cases l with
      | nil => exact absurd rfl hne
      | cons x l =>
        have hpp := hp p (.head _)
        have hrr := fun x hx => hp x (.tail _ hx)
        have ok0 : okAt (!true) 0 = false := rfl
        unfold vis
        rw [ok0]
        simp only [Bool.false_eq_true, if_false, List.append_nil, List.nil_append]
        have e1 := in_vis_head (normal := !true) (r := r) (q := []) (l := l) (x := x) (y := p) (i := 0 + 1)
        rw [List.nil_append, List.nil_append] at e1
        have e2 := vis_fits (normal := !true) r hrr [p] l (0 + 1) (by omega) rfl hl.2
        rw [e1, e2]
        rw [fitsGo_cons]
        by_cases h1 : x = sP
        · subst h1
          have : ¬ sP = p := fun z => hpp.2 z.symm
          simp [this]
        · by_cases h2 : x = sH
          · subst h2
            have : ¬ sH = p := fun z => hpp.1 z.symm
            simp [this]
          · by_cases h3 : x = p
            · subst h3; simp [h1, h2]
            · simp [h1, h2, h3]

/-- what is held and what the trie's contents are -/
structure Holds (H : List (List Str × Int)) (C : List Str → Value) : Prop where
  nodup : (H.map (·.1)).Nodup
  at_ : ∀ e ∈ H, ∃ t, C e.1 = .int e.2 t
  off : ∀ q, q ∉ H.map (·.1) → C q = .none
  okl : ∀ e ∈ H, okL e.1 ∧ e.1 ≠ []

theorem lookup_nodup {H : List (List Str × Int)} (hn : (H.map (·.1)).Nodup) {e e' : List Str × Int} (h : e ∈ H) (h' : e' ∈ H) (he : e.1 = e'.1) : e = e' := by
  induction H with
  | nil => cases h
  | cons a H ih =>
    rw [List.map_cons, List.nodup_cons] at hn
    rcases List.mem_cons.mp h with rfl | h1 <;> rcases List.mem_cons.mp h' with rfl | h2
    · rfl
    · exact absurd (he ▸ List.mem_map_of_mem h2) hn.1
    · exact absurd (he ▸ List.mem_map_of_mem h1) hn.1
    · exact ih hn.2 h1 h2

theorem ints_flat {H : List (List Str × Int)} {C : List Str → Value} (X : Holds H C) : ∀ (V : List (List Str)), ∃ ns, IntsAre (V.flatMap fun x => optV (C x)) ns ∧ ns = V.filterMap fun x => (H.find? fun e => e.1 = x).map (·.2) := by
  intro V
  induction V with
  | nil => exact ⟨[], .nil, rfl⟩
  | cons x V ih =>
    obtain ⟨ns, h1, h2⟩ := ih
    rw [List.flatMap_cons]
    cases hf : H.find? (fun e => decide (e.1 = x)) with
    | none =>
      have hx : x ∉ H.map (·.1) := by
        intro hm
        obtain ⟨e, he, rfl⟩ := List.mem_map.mp hm
        have := List.find?_eq_none.mp hf e he
        simp at this
      refine ⟨ns, ?_, ?_⟩
      · rw [optV_none (X.off x hx)]; exact h1
      · rw [List.filterMap_cons, hf]; exact h2
    | some e =>
      have he := List.mem_of_find?_eq_some hf
      have hex : e.1 = x := by simpa using List.find?_some hf
      obtain ⟨t, ht⟩ := X.at_ e he
      rw [hex] at ht
      refine ⟨e.2 :: ns, ?_, ?_⟩
      · rw [ht]; exact .cons _ _ h1
      · rw [List.filterMap_cons, hf, ← h2]; rfl

theorem fm_congr {α β : Type} {f g : α → Option β} : ∀ {l : List α}, (∀ x ∈ l, f x = g x) → l.filterMap f = l.filterMap g
  | [], _ => rfl
  | a :: l, h => by
    rw [List.filterMap_cons, List.filterMap_cons, h a (.head _), fm_congr fun x hx => h x (.tail _ hx)]
theorem ints_unique {us : List Value} {ns ns' : List Int} (h : IntsAre us ns) (h' : IntsAre us ns') : ns = ns' := by
  induction h generalizing ns' with
  | nil => cases h'; rfl
  | cons n t _ ih => cases h' with | cons _ _ h2 => rw [ih h2]

theorem plain_law {P : List Str → Option (Addr × Addr)} {C : List Str → Value} (closed : ∀ q k, P (q ++ [k]) ≠ none → P q ≠ none) (dom : ∀ q, P q = none → C q = .none) {H : List (List Str × Int)} (X : Holds H C) {dollar : Bool} {parts : List Str} (hp : ∀ p ∈ parts, plainP p) (hne : parts ≠ []) :
    ∃ ns, IntsAre (mat P C (!dollar) parts [] 0) ns ∧ ns.Perm ((H.filter fun e => fitsD dollar e.1 parts).map (·.2)) := by
  rw [mat_vis closed dom]
  obtain ⟨ns, h1, h2⟩ := ints_flat X (vis (!dollar) parts [] 0)
  refine ⟨ns, h1, ?_⟩
  subst h2
  have hv := vis_nodup (normal := !dollar) parts [] 0 hp
  let K := H.map (·.1)
  let f : List Str → Option Int := fun x => (H.find? fun e => e.1 = x).map (·.2)
  have e1 : (vis (!dollar) parts [] 0).filterMap f = ((vis (!dollar) parts [] 0).filter (· ∈ K)).filterMap f := by
    rw [List.filterMap_filter]
    refine fm_congr fun x hx => ?_
    by_cases hm : x ∈ K
    · simp [hm]
    · have : f x = none := by
        show Option.map _ _ = none
        rw [Option.map_eq_none_iff, List.find?_eq_none]
        intro e he hd
        have : e.1 = x := by simpa using hd
        exact hm (this ▸ List.mem_map_of_mem he)
      simp [hm, this]
  have e2 : (H.filter fun e => fitsD dollar e.1 parts).map (·.2) = ((K.filter fun q => fitsD dollar q parts)).filterMap f := by
    have : K.filter (fun q => fitsD dollar q parts) = (H.filter fun e => fitsD dollar e.1 parts).map (·.1) := by
      show (H.map _).filter _ = _
      rw [List.filter_map]; rfl
    rw [this, List.filterMap_map, ← List.filterMap_eq_map]
    refine fm_congr fun e he => ?_
    have heH := (List.mem_filter.mp he).1
    show some e.2 = f e.1
    show some e.2 = Option.map _ (H.find? fun e' => e'.1 = e.1)
    cases hf : H.find? (fun e' => decide (e'.1 = e.1)) with
    | none =>
      have := List.find?_eq_none.mp hf e heH
      simp at this
    | some e' =>
      have h3 : e'.1 = e.1 := by simpa using List.find?_some hf
      rw [lookup_nodup X.nodup (List.mem_of_find?_eq_some hf) heH h3]; rfl
  show ((vis (!dollar) parts [] 0).filterMap f).Perm _
  rw [e1, e2]
  refine List.Perm.filterMap f ?_
  refine (List.perm_ext_iff_of_nodup (hv.filter _) (X.nodup.filter _)).mpr fun q => ?_
  rw [List.mem_filter, List.mem_filter]
  constructor
  · rintro ⟨a, b⟩
    have b : q ∈ K := by simpa using b
    obtain ⟨e, he, rfl⟩ := List.mem_map.mp b
    exact ⟨b, (vis_law hp (X.okl e he).1 (X.okl e he).2 hne).mp a⟩
  · rintro ⟨a, b⟩
    obtain ⟨e, he, rfl⟩ := List.mem_map.mp a
    exact ⟨(vis_law hp (X.okl e he).1 (X.okl e he).2 hne).mpr b, decide_eq_true a⟩
end
section
open PySem PySem.W PySem.Calls PySem.Spec PyProof.Rows
set_option Elab.async false
set_option maxRecDepth 100000
set_option maxHeartbeats 4000000
set_option linter.unusedVariables false
theorem fillMN : Reg PySem.Challenge.rw_bc0018_01 hd.heap_39 := by k_fill; trivial

theorem ledger_of {h₀ h : Heap} {L dx : Addr} {od : Obj} (hd : h.get? dx = some od) (hdL : dx ≠ L) (h0 : h₀.get? dx = none) :
    ∃ rest, News h₀ L h ((dx, od) :: rest) ∧ (∀ p ∈ rest, p.1 ≠ dx) ∧ ∀ b o, b ≠ L → b ≠ dx → h.get? b = some o → h₀.get? b = none → (b, o) ∈ rest := by
  refine ⟨(List.range h.objs.size).filterMap fun b => if b = L ∨ b = dx ∨ (h₀.get? b).isSome then none else (h.get? b).map fun o => (b, o), ?_, ?_, ?_⟩
  · intro p hp
    rcases List.mem_cons.mp hp with rfl | hp
    · exact ⟨hd, hdL, h0⟩
    · obtain ⟨b, _, hb⟩ := List.mem_filterMap.mp hp
      split at hb
      · cases hb
      · rename_i hc
        cases hg : h.get? b with
        | none => rw [hg] at hb; cases hb
        | some o =>
          rw [hg] at hb; cases hb
          refine ⟨hg, fun z => hc (.inl z), ?_⟩
          cases hz : h₀.get? b with
          | none => rfl
          | some o' => exact absurd (.inr (.inr (by rw [hz]; rfl))) hc
  · intro p hp z
    obtain ⟨b, _, hb⟩ := List.mem_filterMap.mp hp
    split at hb
    · cases hb
    · rename_i hc
      cases hg : h.get? b with
      | none => rw [hg] at hb; cases hb
      | some o => rw [hg] at hb; cases hb; exact hc (.inr (.inl z))
  · intro b o hL hx hg hz
    refine List.mem_filterMap.mpr ⟨b, List.mem_range.mpr (Heap.lt_size hg), ?_⟩
    rw [if_neg (by rintro (z | z | z); exact hL z; exact hx z; rw [hz] at z; cases z), hg]; rfl

section
variable {w : World} {A : Around} {E : Value → Shared → Prop} {s : Shared} {x dx L : Addr} {h₀ : Heap} {m : Str → Option Value} {v : Value}
theorem set_root {Q : Unit → Shared → Prop} (F : Fr h₀ L s.heap m) (X : Frag.In (hd.heap_39 w.params) h₀) (hx : s.heap.get? x = some (instObj 82 dx)) (hdx : s.heap.get? dx = some emptyDict) (hdL : dx ≠ L) (h0 : h₀.get? dx = none)
    (h : ∀ h' hs tk n, h'.get? dx = some (dictOf [⟨hs, .str (Str.ofString "_root") tk, v⟩] n) → (∀ b o, b ≠ L → b ≠ dx → s.heap.get? b = some o → h'.get? b = some o) → Fr h₀ L h' m → Q () { s with heap := h', toks := s.toks + 2 }) :
    wpAny (model PP w) A (setAttr (.ref x) "_root" v) Q E s := by
  obtain ⟨rest, N, hne, hall⟩ := ledger_of (h₀ := h₀) (L := L) hdx hdL h0
  refine set_dict (C := 82) (es := []) (n := 0) F X N ⟨hx, rfl, rfl, hdx⟩ rfl ?_ ?_ ?_ ?_ rfl rfl (.head hne) (Nat.le_of_ble_eq_true rfl) fun h' F' N' => ?_
  · k_is
  · k_is
  · k_is
  · k_is
  refine h h' _ _ _ (N' _ (.head _)).1 (fun b o hL hb e => ?_) F'
  cases hz : h₀.get? b with
  | none => exact (N' (b, o) (.tail _ (hall b o hL hb e hz))).1
  | some o' =>
    have := F.keep b o' hz
    rw [e] at this; cases this
    exact F'.keep b o hz
theorem mat_node0 {Q : Value × List Value → Shared → Prop} {pl : Sem Bool} (F : Fr h₀ L s.heap m) (X : Frag.In (hd.heap_39 w.params) h₀) (h1 : s.heap.get? x = some (instObj 82 dx)) (h2 : s.heap.get? dx = some emptyDict) (h : Q (.ref 40, []) { s with toks := s.toks + 1 }) : wpAny (model PP w) A (getMethod (.ref x) "Node" pl) Q E s := by
  refine method_usual (C := 82) (r := some (.ref 40)) (od := some (dictOf [] 0)) (X.keeps F.keep) ⟨h1, rfl, rfl, h2⟩ ?_ ?_ ?_ ?_ ?_
  · k_is
  · k_is
  · k_is
  · kernel_rfl
  refine get_cls (C := 82) (es := []) (n := 0) F X ⟨h1, rfl, rfl, h2⟩ ?_ ?_ ?_ ?_ rfl (by decide +kernel) ?_ h
  · k_is
  · k_is
  · k_is
  · k_is
  · k_get
end

noncomputable def minS : Stmt := nthS (bodyS clsS) 1
noncomputable def minL : { l : List Stmt // bodyS minS = l } := ⟨_, by
  dsimp only [minS, clsS, PySem.Challenge.pw_bc0018_01, nthS, bodyS]⟩
noncomputable def minSc : { l : Scope // scopeS minS = l } := ⟨_, by
  dsimp only [minS, clsS, PySem.Challenge.pw_bc0018_01, nthS, bodyS, scopeS]⟩
noncomputable def valueS : Stmt → Expr
  | .Assign _ e _ => e
  | _ => default
local macro_rules | `(tactic| walk_at "getMethod ref") => `(tactic| (k_here; k_dflt (first
  | ((with_reducible show wpAny _ _ (getMethod _ (PySem.Str.ofString "Node") _) _ _ _); refine' mat_node0 (by k_asm) (by k_asm) (by assumption) (by assumption) ?_))))
section
variable {w : World} {A : Around} {E : Value → Shared → Prop} {s : Shared} {x dx L : Addr} {h₀ : Heap} {m mg mb : Str → Option Value} {p : Program} {loose : List Str} {mean : ExcName → Option Value} {ccd : Value}
theorem min_eval (F : Fr h₀ L s.heap m) (X : Frag.In (hd.heap_39 w.params) h₀) (T : Top p loose mean mg mb h₀) (hself : m (Str.ofString "self") = some (.ref x)) (h1 : s.heap.get? x = some (instObj 82 dx)) (h2 : s.heap.get? dx = some emptyDict)
    {Q : Value → Shared → Prop} (h : ∀ tk, wpAny (model PP w) A (call (.ref 40) [] []) Q E { s with toks := tk }) :
    wpAny (model PP w) A (eval (valueS (nthS minL.1 0)) (envX (Str.ofString "MQTTMatcher.__init__") minSc.1 L 51 ccd [])) Q E s := by
  unfold minL minSc
  dsimp only [nthS, bodyS, valueS]
  have N : News h₀ L s.heap [] := .nil
  k_steps
  exact h _

theorem matcher_new (X : Frag.In (hd.heap_39 w.params) h₀) (T : Top p loose mean mg mb h₀) (k : Keeps h₀ s.heap) (hle : h₀.objs.size ≤ s.heap.objs.size) (hroom : A.depth + 15 < recursionLimit) {S : List Addr} (hS : ∀ a ∈ S, a < s.heap.objs.size) {Q : Value → Shared → Prop}
    (h : ∀ h' tk M root P TA, Keeps s.heap h' → MatOff h' M root (S ++ TA) → (∀ b ∈ TA, b ≠ M) → Trie w h' root P (fun _ => .none) TA 0 → (∀ a ∈ TA, s.heap.get? a = none) → Q (.ref M) { s with heap := h', toks := tk }) :
    wpAny (model PP w) A (call (.ref 82) [] []) Q E s := by
  obtain ⟨hh, g, dr, t, os⟩ := s
  dsimp only at *
  have X' := X.keeps k
  refine wpAny_call (make_core (init := .ref 51) (makes_of X' ?_) (looks_findIn X' ?_) (fun self => bind_fn X' self ?_) (.inl rfl) ?_)
  · k_is
  · k_is
  · k_is
  have k2 : Keeps h₀ ((hh.push emptyDict).push (instObj 82 hh.objs.size)) := fun b o e => Heap.get?_push_of_some _ (Heap.get?_push_of_some _ (k b o e))
  clear X'
  tb_start
  case k8 => 
    show A.depth + 1 < recursionLimit
    exact lim hroom (by decide)
  intro h₁ hns hk hsz
  have e0 : ((hh.push emptyDict).push (instObj 82 hh.objs.size)).objs.size = hh.objs.size + 2 := by simp only [Heap.size_push]
  dsimp only at hns hk hsz ⊢
  rw [e0] at hns hsz ⊢
  have hx : h₁.get? (hh.objs.size + 1) = some (instObj 82 hh.objs.size) := hk _ _ (by heap_get)
  have hd0 : h₁.get? hh.objs.size = some emptyDict := hk _ _ (by heap_get)
  have k3 : Keeps h₀ h₁ := k2.trans hk
  generalize hN : hh.objs.size = N at *
  have F1 : Fr h₀ (N + 2) h₁ _ := ⟨hns, k3, Nat.le_trans hle (Nat.le_add_right _ _)⟩
  show wpAny _ _ (execs [.Assign [.Attribute (.Name (Str.ofString "self") ⟨12, 8, 12, 12⟩) (Str.ofString "_root") ⟨12, 8, 12, 18⟩] (valueS (nthS minL.1 0)) ⟨12, 8, 12, 32⟩] (envX (Str.ofString "MQTTMatcher.__init__") minSc.1 (N + 2) 51 (.ref 50) [])) _ _ _
  refine wpAny_execs_cons (plainObj_wpAny_Assign_Attribute (min_eval F1 X T rfl hx hd0 fun tk2 => ?_))
  refine node_new X k3 T.nolimit (show A.depth + 7 < _ from lim hroom (by decide)) (fun h2 tk3 k4 hsz2 hx2 hdd2 hd2 => ?_)
  dsimp only at k4 hsz2 hx2 hdd2 hd2 ⊢
  generalize hσ : h₁.objs.size = σ at *
  have hns2 := hns.keeps k4
  have F2 : Fr h₀ (N + 2) h2 _ := ⟨hns2, k3.trans k4, Nat.le_trans hle (Nat.le_add_right _ _)⟩
  refine nameR (cl := []) hns2 rfl ?_
  have nN : ∀ {b o}, h₀.get? b = some o → b < N := fun e => hN ▸ Heap.lt_size (k _ _ e)
  refine set_root (dx := N) (s := ⟨h2, g, dr, tk3, os⟩) F2 X (k4 _ _ hx) (k4 _ _ hd0) (Nat.ne_of_lt (Nat.lt_succ_of_lt (Nat.lt_succ_self _))) ?_ fun h3 hs tk n q1 q2 q3 => ?_
  · cases hz : h₀.get? N with
    | none => rfl
    | some o => exact absurd (nN hz) (Nat.lt_irrefl _)
  refine wpAny_execs_nil ⟨rfl, ?_⟩
  have hσ' : σ = N + 2 + 1 := hsz
  have keep3 : ∀ b o, b ≠ N + 2 → b ≠ N → h2.get? b = some o → h3.get? b = some o := q2
  have lo : ∀ {b : Nat}, σ ≤ b → b ≠ N + 2 ∧ b ≠ N := fun hb => ⟨by omega, by omega⟩
  have n1 := keep3 (σ + 1) _ (lo (Nat.le_succ _)).1 (lo (Nat.le_succ _)).2 hx2
  have n2 := keep3 σ _ (lo (Nat.le_refl _)).1 (lo (Nat.le_refl _)).2 hdd2
  have n3 := keep3 (σ + 3) _ (lo (Nat.le_add_right _ _)).1 (lo (Nat.le_add_right _ _)).2 hd2
  have nS : ∀ {b o}, hh.get? b = some o → b < N := fun e => hN ▸ Heap.lt_size e
  have no3 : ∀ {a : Nat}, a < σ → ¬ a ∈ ([σ + 1, σ + 3, σ] : List Nat) := fun ha z => by
    simp only [List.mem_cons, List.not_mem_nil, or_false] at z
    omega
  refine h h3 _ (N + 1) (σ + 1) (fun q => if q = [] then some (σ + 1, σ + 3) else none) [σ + 1, σ + 3, σ] (fun b o e => keep3 b o (Nat.ne_of_lt (Nat.lt_succ_of_lt (Nat.lt_succ_of_lt (nS e)))) (Nat.ne_of_lt (nS e)) (k4 _ _ (hk _ _ (Heap.get?_push_of_some _ (Heap.get?_push_of_some _ e))))) ⟨N, hs, tk, n, keep3 _ _ (by omega) (by omega) (k4 _ _ hx), q1, ?_, ?_⟩ ?_ ?_ ?_
  · exact fun z => (List.mem_append.mp z).elim (fun z => absurd (hS _ z) (by rw [Nat.not_lt]; exact Nat.le_succ _)) (no3 (by omega))
  · exact fun z => (List.mem_append.mp z).elim (fun z => absurd (hS _ z) (Nat.lt_irrefl _)) (no3 (by omega))
  · exact fun b hb z => no3 (a := N + 1) (by omega) (z ▸ hb)
  · have hmod : (σ + 3 == sysModules) = false := by
      have h9 : (sysModules : Nat) < σ := Nat.lt_of_lt_of_le (modules_low T.nolimit) (Nat.le_trans hle (by omega))
      exact beq_eq_false_iff_ne.mpr (Nat.ne_of_gt (Nat.lt_of_lt_of_le h9 (Nat.le_add_right _ _)))
    refine ⟨⟨σ + 3, rfl⟩, fun q a b hq => ?_, fun q q' a b b' hq hq' => ?_, fun q q' a a' b hq hq' => ?_, fun q j hq => ?_, fun _ _ => rfl, fun _ => .inl rfl, fun a ha => ?_⟩
    · by_cases z : q = []
      · rw [if_pos z] at hq; cases hq
        refine ⟨.head _, .tail _ (.head _), hmod, ⟨σ, _, .tail _ (.tail _ (.head _)), n1, n2⟩, [], ⟨_, #[], 0, n3, ⟨rfl, rfl, rfl⟩, rfl, fun _ he => by simp at he, .nil, List.nodup_nil⟩, Nat.le_refl _, fun j => ?_⟩
        rw [valueAt_nil, if_neg (by simp)]; rfl
      · rw [if_neg z] at hq; cases hq
    · by_cases z : q = [] <;> by_cases z' : q' = [] <;> simp_all
    · by_cases z : q = [] <;> by_cases z' : q' = [] <;> simp_all
    · rw [if_neg (by simp)] at hq; exact absurd rfl hq
    · rcases List.mem_cons.mp ha with z | ha
      · exact ⟨_, z ▸ n1⟩
      rcases List.mem_cons.mp ha with z | ha
      · exact ⟨_, z ▸ n3⟩
      · exact ⟨_, (List.mem_singleton.mp ha) ▸ n2⟩
  · intro a ha
    cases hz : hh.get? a with
    | none => rfl
    | some o => exact absurd ha (no3 (Nat.lt_of_lt_of_le (nS hz) (by omega)))
end
end
section
open PySem PySem.W PySem.Calls PySem.Spec PyProof.Rows
set_option Elab.async false
set_option maxRecDepth 100000
set_option maxHeartbeats 4000000
set_option linter.unusedVariables false
theorem fillLv : Reg PySem.Challenge.rw_bc0018_01 hd.heap_39 := by k_fill; trivial

noncomputable def lvS : Stmt := nthS PySem.Challenge.pw_bc0018_01.main.body 5
noncomputable def lvL : { l : List Stmt // bodyS lvS = l } := ⟨_, by
  dsimp only [lvS, PySem.Challenge.pw_bc0018_01, nthS, bodyS]⟩
noncomputable def lvSc : { l : Scope // scopeS lvS = l } := ⟨_, by
  dsimp only [lvS, PySem.Challenge.pw_bc0018_01, nthS, bodyS, scopeS]⟩
noncomputable abbrev lvQ : Str := Str.ofString "_law_levels"

section
variable {w : World} {A : Around} {E : Value → Shared → Prop} {s : Shared} {l : Addr} {its : Array Value} {x : Value}
theorem append_method {Q : Value × List Value → Shared → Prop} {pl : Sem Bool} (hl : PlainL s.heap l its) (h : Q (.builtin "list.append", [.ref l]) s) : wpAny (model PP w) A (getMethod (.ref l) "append" pl) Q E s := by
  obtain ⟨o, n, ho, hc, hdn, hd⟩ := hl
  exact getMethod_list_append ho hc hdn h
end

local macro_rules | `(tactic| walk_at "getMethod ref") => `(tactic| (k_here; k_dflt (
  (with_reducible show wpAny _ _ (getMethod _ (PySem.Str.ofString "append") _) _ _ _); refine' append_method (by assumption) ?_)))
local macro_rules | `(tactic| walk_at "newList") => `(tactic| (k_here; k_dflt (refine' wpAny_newList ?_)))
local macro_rules | `(tactic| walk_at "storeName") => `(tactic| (k_here; k_dflt (refine' wpAny_storeName_local (by rfl) (by first | with_reducible assumption | exact Heap.Ns.push _ (by with_reducible assumption)) ?_ (by rfl); intro h' hn' hs')))
local macro_rules | `(tactic| walk_at "call builtin:list.append") => `(tactic| (k_here; k_dflt (refine' list_append_plainL (by assumption) ?_ (by assumption); intro h' hl' hs')))
local macro_rules | `(tactic| walk_at "call type:range") => `(tactic| (k_here; k_dflt (refine' call_range_1 ?_)))
local macro_rules | `(tactic| walk_at "call builtin:len") => `(tactic| (k_here; k_dflt (refine' len_strsA (by assumption) (by assumption) (by omega) ?_)))
local macro_rules | `(tactic| walk_at "binaryOp Mod int int") => `(tactic| (k_here; (with_reducible refine mod_int' ?kbe ?_); (case kbe => omega)))
local macro_rules | `(tactic| walk_at "binaryOp FloorDiv int int") => `(tactic| (k_here; (with_reducible refine floordiv_int ?kbe ?_ (Or.inl (PyProof.noPylong_small ?kbp))); (case kbe => omega); (case kbp => omega)))

section
variable {w : World} {A : Around} {E : Value → Shared → Prop} {s : Shared} {L a ws : Addr} {h₀ : Heap} {m mg mb : Str → Option Value} {p : Program} {loose : List Str} {mean : ExcName → Option Value} {ccd : Value} {n c : Int} {t : Tok} {vs : List Value} {ys : List Str} {its : Array Value}
theorem lv_new (F : Fr h₀ L s.heap m) (X : Frag.In (hd.heap_39 w.params) h₀) (T : Top p loose mean mg mb h₀)
    {Q : Flow → Shared → Prop} (h : ∀ h' tk, h'.Ns L (fun y => if y = Str.ofString "levels" then some (.ref s.heap.objs.size) else m y) → PlainL h' s.heap.objs.size #[] → Heap.ExtBut L s.heap h' → Q .next { s with heap := h', toks := tk }) :
    wpAny (model PP w) A (exec (nthS lvL.1 0) (envX lvQ lvSc.1 L 95 ccd [])) Q E s := by
  unfold lvL lvSc
  dsimp only [nthS, bodyS]
  have N : News h₀ L s.heap [] := .nil
  have hns := F.ns
  k_steps
  refine wpAny_storeName_local rfl (hns.push _) (fun h' hn' hs' => ?_) rfl
  refine h h' _ hn' ⟨_, _, (hs'.2 _ (Nat.ne_of_gt F.ns.lt)).trans (Heap.get?_push_size _ rfl), rfl, rfl, rfl⟩ fun b o hb e => (hs'.2 b hb).trans (Heap.get?_push_of_some _ e)
theorem lv_count (F : Fr h₀ L s.heap m) (X : Frag.In (hd.heap_39 w.params) h₀) (T : Top p loose mean mg mb h₀) (hn : m (Str.ofString "n") = some (.int n t))
    {Q : Flow → Shared → Prop} (h : ∀ h' tk tk', h'.Ns L (fun y => if y = Str.ofString "count" then some (.int (n.fmod 4 + 1) tk') else m y) → Heap.SameBut L s.heap h' → Q .next { s with heap := h', toks := tk }) :
    wpAny (model PP w) A (exec (nthS lvL.1 1) (envX lvQ lvSc.1 L 95 ccd [])) Q E s := by
  unfold lvL lvSc
  dsimp only [nthS, bodyS]
  have N : News h₀ L s.heap [] := .nil
  have hns := F.ns
  k_steps
  exact h _ _ _ (by assumption) (by assumption)
theorem lv_div (F : Fr h₀ L s.heap m) (X : Frag.In (hd.heap_39 w.params) h₀) (T : Top p loose mean mg mb h₀) (hn : m (Str.ofString "n") = some (.int n t))
    {Q : Flow → Shared → Prop} (h : ∀ h' tk tk', h'.Ns L (fun y => if y = Str.ofString "n" then some (.int (n.fdiv 4) tk') else m y) → Heap.SameBut L s.heap h' → Q .next { s with heap := h', toks := tk }) :
    wpAny (model PP w) A (exec (nthS lvL.1 2) (envX lvQ lvSc.1 L 95 ccd [])) Q E s := by
  unfold lvL lvSc
  dsimp only [nthS, bodyS]
  have N : News h₀ L s.heap [] := .nil
  have hns := F.ns
  k_steps
  exact h _ _ _ (by assumption) (by assumption)
theorem lv_range (F : Fr h₀ L s.heap m) (X : Frag.In (hd.heap_39 w.params) h₀) (T : Top p loose mean mg mb h₀) (hn : m (Str.ofString "count") = some (.int c t))
    {Q : Value → Shared → Prop} (h : ∀ tk t1 t2, Q (.ref s.heap.objs.size) { s with heap := s.heap.push { cls := .type "range", data := .fields #[.int 0 t1, .int c t, .int 1 t2] }, toks := tk }) :
    wpAny (model PP w) A (eval (iterS (nthS lvL.1 3)) (envX lvQ lvSc.1 L 95 ccd [])) Q E s := by
  unfold lvL lvSc
  dsimp only [nthS, bodyS, iterS]
  have N : News h₀ L s.heap [] := .nil
  k_steps
  exact h _ _ _
theorem lv_append (F : Fr h₀ L s.heap m) (X : Frag.In (hd.heap_39 w.params) h₀) (T : Top p loose mean mg mb h₀) (hsz : its.size ≤ sizeLine) (hn : m (Str.ofString "n") = some (.int n t)) (hl : m (Str.ofString "levels") = some (.ref a)) (hw : m (Str.ofString "words") = some (.ref ws))
    (hws : s.heap.IsList ws vs.toArray) (hys : StrsAre vs ys) (h1 : 0 < ys.length) (h2 : ys.length < 100) (ha : PlainL s.heap a its) (hm0 : 0 ≤ n.fmod ys.length) (hm1 : n.fmod ys.length < ys.length)
    {Q : Flow → Shared → Prop} (h : ∀ h' tk tk', PlainL h' a (its.push (.str (ys.getD (n.fmod ys.length).toNat Str.empty) tk')) → Heap.SameBut a s.heap h' → Q .next { s with heap := h', toks := tk }) :
    wpAny (model PP w) A (exec (nthS (bodyS (nthS lvL.1 3)) 0) (envX lvQ lvSc.1 L 95 ccd [])) Q E s := by
  unfold lvL lvSc
  dsimp only [nthS, bodyS]
  have N : News h₀ L s.heap [] := .nil
  k_steps
  exact h _ _ _ (by assumption) (by assumption)
theorem lv_next (F : Fr h₀ L s.heap m) (X : Frag.In (hd.heap_39 w.params) h₀) (T : Top p loose mean mg mb h₀) (hn : m (Str.ofString "n") = some (.int n t)) (hw : m (Str.ofString "words") = some (.ref ws))
    (hws : s.heap.IsList ws vs.toArray) (hys : StrsAre vs ys) (h1 : 0 < ys.length) (h2 : ys.length < 100)
    {Q : Flow → Shared → Prop} (h : ∀ h' tk tk', h'.Ns L (fun y => if y = Str.ofString "n" then some (.int (n.fdiv ys.length) tk') else m y) → Heap.SameBut L s.heap h' → Q .next { s with heap := h', toks := tk }) :
    wpAny (model PP w) A (exec (nthS (bodyS (nthS lvL.1 3)) 1) (envX lvQ lvSc.1 L 95 ccd [])) Q E s := by
  unfold lvL lvSc
  dsimp only [nthS, bodyS]
  have N : News h₀ L s.heap [] := .nil
  have hns := F.ns
  k_steps
  exact h _ _ _ (by assumption) (by assumption)
theorem lv_ret (F : Fr h₀ L s.heap m) (X : Frag.In (hd.heap_39 w.params) h₀) (T : Top p loose mean mg mb h₀) (hl : m (Str.ofString "levels") = some (.ref a))
    {Q : Flow → Shared → Prop} (h : ∀ tk, Q (.ret (.ref a)) { s with toks := tk }) :
    wpAny (model PP w) A (exec (nthS lvL.1 4) (envX lvQ lvSc.1 L 95 ccd [])) Q E s := by
  unfold lvL lvSc
  dsimp only [nthS, bodyS]
  have N : News h₀ L s.heap [] := .nil
  k_steps
  exact h _
end

theorem isList_keeps {h h' : Heap} {a : Addr} {vs : Array Value} (x : h.IsList a vs) (k : Keeps h h') : h'.IsList a vs := let ⟨o, e, r⟩ := x; ⟨o, k _ _ e, r⟩
theorem StrsAre.snoc {us : List Value} {zs : List Str} {y : Str} {t : Tok} (h : StrsAre us zs) : StrsAre (us ++ [.str y t]) (zs ++ [y]) := by
  induction h with
  | nil => exact .cons _ _ .nil
  | cons a b _ ih => exact .cons _ _ ih
section
variable {prog : Program} {w : World} {A : Around} {s : Shared} {env : Env} {R : Result → Shared → Prop}
/-- a for over range(N), the state in the raw -/
theorem for_range {xn : Str} {px : Pos} {body : List Stmt} {it : Addr} {N : Nat} (hh : A.handled = none) (I : Nat → Shared → Prop)
    (hI : ∀ i s h' tk, I i s → Heap.ExtBut it s.heap h' → I i { s with heap := h', toks := tk })
    (turn : ∀ (i : Nat) tk s, i < N → I i s → IsRangeIter s.heap it ((i : Int) + 1) ((N : Int) - i - 1) 1 → wpAny (model prog w) A (storeName env xn (.int i tk)) (fun _ s₂ => wpAny (model prog w) A (execs body env)
      (fun f s₃ => (f = .next ∧ I (i + 1) s₃ ∧ IsRangeIter s₃.heap it ((i : Int) + 1) ((N : Int) - i - 1) 1) ∨ ∃ v, f = .ret v ∧ R (.ok (.ret v)) s₃)
      (notedBy (model prog w) A env fun e s' => R (.error e) s') s₂) (notedBy (model prog w) A env fun e s' => R (.error e) s') s)
    (done : ∀ s, I N s → R (.ok .next) s) (h : I 0 s) (hit : IsRangeIter s.heap it 0 N 1) : codeAny (model prog w) A (.forLoop (.Name xn px) (.ref it) body [] env) R s := by
  refine codeAny_forLoop (fun n s => ∃ i : Nat, n = N - i ∧ i ≤ N ∧ I i s ∧ IsRangeIter s.heap it i ((N : Int) - i) 1) (fun n s hJ => ?_) N ⟨0, rfl, Nat.zero_le _, h, by simpa using hit⟩
  obtain ⟨i, rfl, hi, hi0, hit⟩ := hJ
  by_cases hlt : i < N
  · refine wpAny_pyNext_range_item hit (by omega) fun h' hit' hs => wpAny_assign_Name (wpAny_mono (turn i _ _ hlt (hI i s h' _ hi0 hs.extBut) hit') (fun _ s₂ h₂ => wpAny_mono h₂ (fun f s₃ h₃ => ?_) fun _ _ x => x) fun _ _ x => x)
    rcases h₃ with ⟨rfl, h₃, h₄⟩ | ⟨v, rfl, h₃⟩
    · refine ⟨N - (i + 1), sub_lt hlt, i + 1, rfl, hlt, h₃, ?_⟩
      have e1 : ((i + 1 : Nat) : Int) = (i : Int) + 1 := by omega
      have e2 : (N : Int) - ((i + 1 : Nat) : Int) = (N : Int) - i - 1 := by omega
      rw [e1]; rw [show (N : Int) - ((i : Int) + 1) = (N : Int) - i - 1 by omega]
      exact h₄
    · exact h₃
  · have e : i = N := by omega
    subst e
    exact wpAny_pyNext_range_end hh hit (by omega) fun h' hs => wpAny_execs_nil (done _ (hI _ s h' _ hi0 hs))
end

noncomputable def lvGo (ys : List Str) : Nat → Int → List Str
  | 0, _ => []
  | k + 1, n => ys.getD (n.fmod ys.length).toNat Str.empty :: lvGo ys k (n.fdiv ys.length)
noncomputable def levelsOf (ys : List Str) (n : Int) : List Str := lvGo ys (n.fmod 4 + 1).toNat (n.fdiv 4)


inductive LvI (s : Shared) (L ws : Addr) (ys : List Str) (n : Int) (i : Nat) (s' : Shared) : Prop
  | mk (m : Str → Option Value) (us : List Value) (zs : List Str) (ni : Int) (tk : Nat) (tn : Tok) (e0 : s' = { s with heap := s'.heap, toks := tk }) (q1 : s'.heap.Ns L m) (q2 : m (Str.ofString "n") = some (.int ni tn)) (q3 : m (Str.ofString "levels") = some (.ref (L + 1))) (q4 : m (Str.ofString "words") = some (.ref ws))
    (q5 : PlainL s'.heap (L + 1) (List.toArray us)) (q6 : StrsAre us zs) (q7 : zs ++ lvGo ys ((n.fmod 4 + 1).toNat - i) ni = levelsOf ys n) (q8 : us.length = i) (q9 : Keeps s.heap s'.heap) : LvI s L ws ys n i s'
section
variable {w : World} {A : Around} {s : Shared} {ws : Addr} {h₀ : Heap} {mg mb : Str → Option Value} {p : Program} {loose : List Str} {mean : ExcName → Option Value} {R : Result → Shared → Prop} {n : Int} {t : Tok} {vs : List Value} {ys : List Str}
theorem levels_raw (X : Frag.In (hd.heap_39 w.params) h₀) (T : Top p loose mean mg mb h₀) (kk : Keeps h₀ s.heap) (hle : h₀.objs.size ≤ s.heap.objs.size) (hh : A.handled = none) (hroom : A.depth + 20 < recursionLimit)
    (hws : s.heap.IsList ws vs.toArray) (hys : StrsAre vs ys) (hy1 : 0 < ys.length) (hy2 : ys.length < 100)
    (h : ∀ h' tk a us, Keeps s.heap h' → s.heap.get? a = none → PlainL h' a (List.toArray us) → StrsAre us (levelsOf ys n) → R (.ok (.ret (.ref a))) { s with heap := h', toks := tk }) :
    codeAny (model PP w) A (.call (.ref 95) ⟨[.int n t, .ref ws], []⟩) R s := by
  tb_start
  case k8 => exact lim0 hroom
  intro h₁ hns hk hsz
  generalize hL : s.heap.objs.size = L at *
  have nS : ∀ {b o}, s.heap.get? b = some o → b ≠ L := fun e => Nat.ne_of_lt (hL ▸ Heap.lt_size e)
  show wpAny _ _ (execs [nthS lvL.1 0, nthS lvL.1 1, nthS lvL.1 2, .For (.Name (Str.ofString "place") ⟨76, 8, 76, 13⟩) (iterS (nthS lvL.1 3)) [nthS (bodyS (nthS lvL.1 3)) 0, nthS (bodyS (nthS lvL.1 3)) 1] [] ⟨76, 4, 78, 27⟩, nthS lvL.1 4] (envX lvQ lvSc.1 L 95 (.ref 94) [])) _ _ _
  refine gen_post fun Q₀ E₀ hQ₀ hE₀ => ?_
  have F1 : Fr h₀ L h₁ _ := ⟨hns, kk.trans hk, hle⟩
  refine wpAny_execs_cons (lv_new F1 X T fun h2 tk2 hn2 hp2 hx2 => ?_)
  dsimp only at hn2 hp2 hx2 ⊢
  rw [hsz] at hn2 hp2
  have k2 : Keeps s.heap h2 := fun b o e => hx2 b o (nS e) (hk _ _ e)
  have F2 : Fr h₀ L h2 _ := ⟨hn2, kk.trans k2, hle⟩
  refine wpAny_execs_cons (lv_count (n := n) (t := t) (s := { s with heap := h2, toks := tk2 }) F2 X T rfl fun h3 tk3 tc hn3 hs3 => ?_)
  dsimp only at hn3 hs3 ⊢
  have k3 : Keeps s.heap h3 := fun b o e => (hs3.2 b (nS e)).trans (k2 _ _ e)
  have F3 : Fr h₀ L h3 _ := ⟨hn3, kk.trans k3, hle⟩
  refine wpAny_execs_cons (lv_div (n := n) (t := t) (s := { s with heap := h3, toks := tk3 }) F3 X T rfl fun h4 tk4 td hn4 hs4 => ?_)
  dsimp only at hn4 hs4 ⊢
  have k4 : Keeps s.heap h4 := fun b o e => (hs4.2 b (nS e)).trans (k3 _ _ e)
  have F4 : Fr h₀ L h4 _ := ⟨hn4, kk.trans k4, hle⟩
  have hfm : 0 ≤ n.fmod 4 ∧ n.fmod 4 < 4 := fmod4_range n
  refine wpAny_execs_cons (wpAny_For (lv_range (c := n.fmod 4 + 1) (t := tc) (s := { s with heap := h4, toks := tk4 }) F4 X T rfl fun tk5 t1 t2 => ?_))
  dsimp only
  have hlt4 : L < h4.objs.size := F4.ns.lt
  have p4 : PlainL h4 (L + 1) #[] := by
    obtain ⟨o, n', e, r⟩ := hp2
    have hne : L + 1 ≠ L := Nat.ne_of_gt (Nat.lt_succ_self _)
    exact ⟨o, n', (hs4.2 _ hne).trans ((hs3.2 _ hne).trans e), r⟩
  have hlt4' : L + 1 < h4.objs.size := p4.lt
  have hc : Builtin.Range.rangeSize 0 (n.fmod 4 + 1) 1 = ((n.fmod 4 + 1).toNat : Int) := by rw [rangeSize_one]; split <;> omega
  refine wpAny_pyIter_range (IsRange.new ..) (small_one (by omega) (by omega) (by omega) (by omega)) ?_
  rw [hc]
  dsimp only
  have kN : ∀ r q, Keeps h4 ((h4.push r).push q) := fun r q b o e => Heap.get?_push_of_some _ (Heap.get?_push_of_some _ e)
  generalize hr5 : ({ cls := .type "range", data := .fields #[.int 0 t1, .int (n.fmod 4 + 1) tc, .int 1 t2] } : Obj) = r5
  generalize hq5 : ({ cls := .type "range_iterator", data := .fields #[rawInt 0, rawInt ((n.fmod 4 + 1).toNat : Int), rawInt 1] } : Obj) = q5
  have k6 := kN r5 q5
  have hit : IsRangeIter ((h4.push r5).push q5) (h4.push r5).objs.size 0 ((n.fmod 4 + 1).toNat : Int) 1 := by rw [← hq5]; exact Heap.get?_push_size _ rfl
  have hits : (h4.push r5).objs.size = h4.objs.size + 1 := Heap.size_push ..
  generalize (h4.push r5).objs.size = it at *
  generalize (h4.push r5).push q5 = h6 at *
  have hitL : it ≠ L := by rw [hits]; exact Nat.ne_of_gt (Nat.lt_succ_of_lt hlt4)
  have hita : it ≠ L + 1 := by rw [hits]; exact Nat.ne_of_gt (Nat.lt_succ_of_lt hlt4')
  have nit : ∀ {b o}, s.heap.get? b = some o → b ≠ it := fun e => by rw [hits]; exact Nat.ne_of_lt (Nat.lt_succ_of_lt (Heap.lt_size (k4 _ _ e)))
  have na : ∀ {b o}, s.heap.get? b = some o → b ≠ L + 1 := fun e => Nat.ne_of_lt (Nat.lt_succ_of_lt (hL ▸ Heap.lt_size e))
  have haL : L + 1 ≠ L := Nat.ne_of_gt (Nat.lt_succ_self _)
  refine for_range (N := (n.fmod 4 + 1).toNat) hh (LvI s L ws ys n) ?_ ?_ ?_ ?_ hit
  · rintro i s' h' tk' ⟨m, us, zs, ni, tk, tn, e0, q1, q2, q3, q4, q5, q6, q7, q8, q9⟩ hx
    exact ⟨m, us, zs, ni, tk', tn, by rw [e0], q1.extBut hx (Ne.symm hitL), q2, q3, q4, q5.extBut hx (Ne.symm hita), q6, q7, q8, fun b o e => hx b o (nit e) (q9 b o e)⟩
  · rintro i tki s' hi ⟨m, us, zs, ni, tk, tn, e0, q1, q2, q3, q4, q5, q6, q7, q8, q9⟩ hit
    refine wpAny_storeName_local rfl q1 (fun h7 hn7 hs7 => ?_) rfl
    have k7 : Keeps s.heap h7 := fun b o e => (hs7.2 b (nS e)).trans (q9 b o e)
    have p7 := q5.extBut hs7.extBut haL
    have F7 : Fr h₀ L h7 _ := ⟨hn7, kk.trans k7, hle⟩
    have hf : 0 ≤ ni.fmod ys.length ∧ ni.fmod ys.length < ys.length := ⟨Int.fmod_nonneg_of_pos _ (by omega), Int.fmod_lt_of_pos _ (by omega)⟩
    have hsz8 : us.toArray.size ≤ sizeLine := by
      rw [List.size_toArray, q8, sizeLine_eq]; exact Nat.le_trans (Nat.le_of_lt hi) (Nat.le_trans (fmod4_nat n) (by decide))
    refine wpAny_execs_cons (lv_append (s := { s' with heap := h7, toks := s'.toks + 1 }) F7 X T hsz8 ((if_neg (by decide)).trans q2) ((if_neg (by decide)).trans q3) ((if_neg (by decide)).trans q4) (isList_keeps hws k7) hys hy1 hy2 p7 hf.1 hf.2 fun h8 tk8 ts p8 hs8 => ?_)
    dsimp only at p8 hs8 ⊢
    have k8 : Keeps s.heap h8 := fun b o e => (hs8.2 b (na e)).trans (k7 _ _ e)
    have hn8 := hn7.sameBut hs8 haL.symm
    have F8 : Fr h₀ L h8 _ := ⟨hn8, kk.trans k8, hle⟩
    refine wpAny_execs_cons (lv_next (s := { s' with heap := h8, toks := tk8 }) F8 X T ((if_neg (by decide)).trans q2) ((if_neg (by decide)).trans q4) (isList_keeps hws k8) hys hy1 hy2 fun h9 tk9 tn9 hn9 hs9 => ?_)
    dsimp only at hn9 hs9 ⊢
    refine wpAny_execs_nil (.inl ⟨rfl, ⟨_, us ++ [.str (ys.getD (ni.fmod ys.length).toNat Str.empty) ts], zs ++ [ys.getD (ni.fmod ys.length).toNat Str.empty], _, tk9, tn9, ?_, hn9, if_pos rfl, (if_neg (by decide)).trans ((if_neg (by decide)).trans q3), (if_neg (by decide)).trans ((if_neg (by decide)).trans q4), ?_, StrsAre.snoc q6, ?_, ?_, fun b o e => (hs9.2 b (nS e)).trans (k8 _ _ e)⟩, ?_⟩)
    · rw [e0]
    · have := PlainL.extBut p8 hs9.extBut haL
      simpa using this
    · rw [← q7, List.append_assoc]
      rw [sub_step hi]; rfl
    · simp [q8]
    · exact (hs9.2 _ hitL).trans ((hs8.2 _ hita).trans ((hs7.2 _ hitL).trans hit))
  · rintro s' ⟨m, us, zs, ni, tk, tn, e0, q1, q2, q3, q4, q5, q6, q7, q8, q9⟩
    have F9 : Fr h₀ L s'.heap m := ⟨q1, kk.trans q9, hle⟩
    show wpAny _ _ (execs [nthS lvL.1 4] (envX lvQ lvSc.1 L 95 (.ref 94) [])) _ _ s'
    refine wpAny_execs_cons (lv_ret F9 X T q3 fun tk10 => hQ₀ _ _ ?_)
    rw [Nat.sub_self] at q7
    rw [show zs = levelsOf ys n from by simpa [lvGo] using q7] at q6
    have := h _ tk10 (L + 1) us q9 (by
      cases hz : s.heap.get? (L + 1) with
      | none => rfl
      | some o => exact absurd rfl (na hz)) q5 q6
    rw [e0]
    exact this
  · exact ⟨_, [], [], _, _, _, rfl, F4.ns.keeps k6, rfl, rfl, rfl, p4.keeps k6, .nil, by rw [Nat.sub_zero]; rfl, rfl, fun b o e => k6 _ _ (k4 _ _ e)⟩
end
end
section
open PySem PySem.W PySem.Calls PySem.Spec PyProof.Rows
set_option Elab.async false
set_option maxRecDepth 100000
set_option maxHeartbeats 4000000
set_option linter.unusedVariables false
theorem fillFt : Reg PySem.Challenge.rw_bc0018_01 hd.heap_39 := by k_fill; trivial

noncomputable def ftS : Stmt := nthS PySem.Challenge.pw_bc0018_01.main.body 6
noncomputable def ftL : { l : List Stmt // bodyS ftS = l } := ⟨_, by
  dsimp only [ftS, PySem.Challenge.pw_bc0018_01, nthS, bodyS]⟩
noncomputable def ftSc : { l : Scope // scopeS ftS = l } := ⟨_, by
  dsimp only [ftS, PySem.Challenge.pw_bc0018_01, nthS, scopeS]⟩
noncomputable abbrev ftQ : Str := Str.ofString "_law_fits"

section
variable {w : World} {A : Around} {E : Value → Shared → Prop} {s : Shared} {L : Addr} {h₀ : Heap} {m : Str → Option Value} {x : Str} {t : Tok} {value slice : Expr}
theorem slice_raw {Q : Value → Shared → Prop} {j : Int} {uj : Tok} (F : Fr h₀ L s.heap m) (h : ∀ h' t' k, Fr h₀ L h' m → Keeps s.heap h' → Q (.str (Txt.slice x none (some j)) t') { s with heap := h', toks := k }) (hsz : x.length ≤ sizeLine)
    (hs : subscripted slice false (.str x t) (.ref s.heap.objs.size) = operate [.ref s.heap.objs.size, .str x t] (getItem (.str x t) (.ref s.heap.objs.size)) := by with_unfolding_all rfl)
    (ht : ∀ r, letTemporaryGo value (.str x t) r = pure () := by intro _; with_unfolding_all rfl) :
    wpAny (model PP w) A (subscriptTail value slice (.str x t) (.ref s.heap.objs.size)) Q E { s with heap := s.heap.push { cls := .type "slice", data := .fields #[.none, .int j uj, .none] } } :=
  tail_of_ItemOn (SBH.sliceItem_ns (P := fun h' => Fr h₀ L h' m ∧ Keeps s.heap h') (fun h ob hx => ⟨keptFrH h ob hx.1, fun b o e => Heap.get?_push_of_some _ (hx.2 b o e)⟩) ⟨F, fun _ _ e => e⟩ (fun h' t' k hx => h h' t' k hx.1 hx.2) hsz) hs ht
end
local macro_rules | `(tactic| walk_at "pad") => `(tactic| fail)
local macro_rules | `(tactic| walk_at "last subscriptTail") => `(tactic| (k_here; (with_reducible show wpAny _ _ (subscriptTail _ _ (Value.str _ _) (Value.ref _)) _ _ _); (refine' slice_raw (s := ⟨_, _, _, _, _⟩) (by k_asm) ?_ (by with_reducible assumption); intro h' t' k' F' K')))
local macro_rules | `(tactic| walk_at "call type:range") => `(tactic| (k_here; k_dflt (refine' call_range_1 ?_)))
local macro_rules | `(tactic| walk_at "subscriptTail") => `(tactic| (k_here; (with_reducible show wpAny _ _ (subscriptTail _ _ (Value.ref _) (Value.int _ _)) _ _ _); k_dflt (refine' item_strsA (by first | assumption | exact isList_keeps (by assumption) (by assumption)) (by assumption) (by first | with_reducible assumption | decide) (by first | with_reducible assumption | omega) (by (omega)) ?_; intro tS)))
local macro_rules | `(tactic| walk_at "call builtin:len") => `(tactic| (k_here; k_dflt (refine' len_strsA (by first | (with_reducible assumption; done) | assumption) (by assumption) (by omega) ?_)))

section
variable {w : World} {A : Around} {E : Value → Shared → Prop} {s : Shared} {L al ap : Addr} {h₀ : Heap} {m mg mb : Str → Option Value} {p : Program} {loose : List Str} {mean : ExcName → Option Value} {ccd : Value} {t : Tok} {vl vp : List Value} {ls ps : List Str} {i : Int}
theorem ft_test (F : Fr h₀ L s.heap m) (X : Frag.In (hd.heap_39 w.params) h₀) (T : Top p loose mean mg mb h₀) (hl : m (Str.ofString "levels") = some (.ref al)) (hp : m (Str.ofString "parts") = some (.ref ap))
    (hal : s.heap.IsList al vl.toArray) (hls : StrsAre vl ls) (hap : s.heap.IsList ap vp.toArray) (hps : StrsAre vp ps) (h1 : 0 < ls.length) (h2 : 0 < ps.length) (hsz : (ps.getD (Int.toNat 0) Str.empty).length ≤ sizeLine)
    {Q : Bool → Shared → Prop} (h : ∀ h' tk b, Fr h₀ L h' m → Keeps s.heap h' → b = (Txt.slice (ps.getD (Int.toNat 0) Str.empty) none (some 1) == Str.ofString "$" && (ls.getD (Int.toNat 0) Str.empty == Str.ofString "+" || ls.getD (Int.toNat 0) Str.empty == Str.ofString "#")) → Q b { s with heap := h', toks := tk }) :
    wpAny (model PP w) A (isTrue (testS (nthS ftL.1 0)) (envX ftQ ftSc.1 L 102 ccd []) (eval (testS (nthS ftL.1 0)) (envX ftQ ftSc.1 L 102 ccd []))) Q E s := by
  unfold ftL ftSc
  dsimp only [nthS, bodyS, testS]
  have N : News h₀ L s.heap [] := .nil
  k_steps
  all_goals refine h _ _ _ (by assumption) (by assumption) ?_
  all_goals simp_all
theorem ft_range (F : Fr h₀ L s.heap m) (X : Frag.In (hd.heap_39 w.params) h₀) (T : Top p loose mean mg mb h₀) (hl : m (Str.ofString "levels") = some (.ref al))
    (hal : s.heap.IsList al vl.toArray) (hls : StrsAre vl ls) (h1 : ls.length < 100)
    {Q : Value → Shared → Prop} (h : ∀ tk t1 t2 t3, Q (.ref s.heap.objs.size) { s with heap := s.heap.push { cls := .type "range", data := .fields #[.int 0 t1, .int ls.length t3, .int 1 t2] }, toks := tk }) :
    wpAny (model PP w) A (eval (iterS (nthS ftL.1 1)) (envX ftQ ftSc.1 L 102 ccd [])) Q E s := by
  unfold ftL ftSc
  dsimp only [nthS, bodyS, iterS]
  have N : News h₀ L s.heap [] := .nil
  k_steps
  exact h _ _ _ _
theorem ft_hash (F : Fr h₀ L s.heap m) (X : Frag.In (hd.heap_39 w.params) h₀) (T : Top p loose mean mg mb h₀) (hl : m (Str.ofString "levels") = some (.ref al)) (hi : m (Str.ofString "place") = some (.int i t))
    (hal : s.heap.IsList al vl.toArray) (hls : StrsAre vl ls) (h0 : 0 ≤ i) (h1 : i < ls.length) (h2 : ls.length < 100)
    {Q : Bool → Shared → Prop} (h : ∀ tk, Q (ls.getD i.toNat Str.empty == Str.ofString "#") { s with toks := tk }) :
    wpAny (model PP w) A (isTrue (testS (nthS (bodyS (nthS ftL.1 1)) 0)) (envX ftQ ftSc.1 L 102 ccd []) (eval (testS (nthS (bodyS (nthS ftL.1 1)) 0)) (envX ftQ ftSc.1 L 102 ccd []))) Q E s := by
  unfold ftL ftSc
  dsimp only [nthS, bodyS, testS]
  have N : News h₀ L s.heap [] := .nil
  k_steps
  exact h _
theorem ft_out (F : Fr h₀ L s.heap m) (X : Frag.In (hd.heap_39 w.params) h₀) (T : Top p loose mean mg mb h₀) (hl : m (Str.ofString "levels") = some (.ref al)) (hp : m (Str.ofString "parts") = some (.ref ap)) (hi : m (Str.ofString "place") = some (.int i t))
    (hal : s.heap.IsList al vl.toArray) (hls : StrsAre vl ls) (hap : s.heap.IsList ap vp.toArray) (hps : StrsAre vp ps) (h0 : 0 ≤ i) (h1 : i < ls.length) (h2 : ls.length < 100) (h3 : ps.length < 100)
    {Q : Bool → Shared → Prop} (h : ∀ tk b, b = (decide (i ≥ ps.length) || (ls.getD i.toNat Str.empty != Str.ofString "+" && ls.getD i.toNat Str.empty != ps.getD i.toNat Str.empty)) → Q b { s with toks := tk }) :
    wpAny (model PP w) A (isTrue (testS (nthS (bodyS (nthS ftL.1 1)) 1)) (envX ftQ ftSc.1 L 102 ccd []) (eval (testS (nthS (bodyS (nthS ftL.1 1)) 1)) (envX ftQ ftSc.1 L 102 ccd []))) Q E s := by
  unfold ftL ftSc
  dsimp only [nthS, bodyS, testS]
  have N : News h₀ L s.heap [] := .nil
  k_steps
  all_goals refine h _ _ ?_
  all_goals simp_all
theorem ft_ret (F : Fr h₀ L s.heap m) (X : Frag.In (hd.heap_39 w.params) h₀) (T : Top p loose mean mg mb h₀) (hl : m (Str.ofString "levels") = some (.ref al)) (hp : m (Str.ofString "parts") = some (.ref ap))
    (hal : s.heap.IsList al vl.toArray) (hls : StrsAre vl ls) (hap : s.heap.IsList ap vp.toArray) (hps : StrsAre vp ps) (h2 : ls.length < 100) (h3 : ps.length < 100)
    {Q : Flow → Shared → Prop} (h : ∀ tk, Q (.ret (.bool ((ls.length : Int) == ps.length))) { s with toks := tk }) :
    wpAny (model PP w) A (exec (nthS ftL.1 2) (envX ftQ ftSc.1 L 102 ccd [])) Q E s := by
  unfold ftL ftSc
  dsimp only [nthS, bodyS]
  have N : News h₀ L s.heap [] := .nil
  k_steps
  exact h _
end
end
section
open PySem PySem.W PySem.Calls PySem.Spec PyProof.Rows
set_option Elab.async false
set_option maxRecDepth 100000
set_option maxHeartbeats 4000000
set_option linter.unusedVariables false
theorem fillFt2 : Reg PySem.Challenge.rw_bc0018_01 hd.heap_39 := by k_fill; trivial

section
variable {w : World} {A : Around} {E : Value → Shared → Prop} {s : Shared} {env : Env} {b : Bool} {k : Nat} {q q' : Pos}
theorem ret_bool {Q : Flow → Shared → Prop} (h : Q (.ret (.bool b)) s) : wpAny (model PP w) A (execs [.Return (some (.Constant (.bool b) k q)) q'] env) Q E s :=
  wpAny_execs_cons (wpAny_Return_some (fun _ _ _ => h))
end

theorem fitsGo_at {ls ps : List Str} {i : Nat} (hi : i < ls.length) : fitsGo (ls.drop i) (ps.drop i) =
    if ls.getD i Str.empty == sH then true else if i ≥ ps.length then false else if ls.getD i Str.empty == sP || ls.getD i Str.empty == ps.getD i Str.empty then fitsGo (ls.drop (i + 1)) (ps.drop (i + 1)) else false := by
  have e1 : ls.drop i = ls.getD i Str.empty :: ls.drop (i + 1) := by
    rw [List.drop_eq_getElem_cons hi]; simp [List.getD, hi]
  rw [e1]
  by_cases h : i ≥ ps.length
  · rw [List.drop_eq_nil_of_le h, fitsGo_nil, if_pos h]
  · have e2 : ps.drop i = ps.getD i Str.empty :: ps.drop (i + 1) := by
      rw [List.drop_eq_getElem_cons (by omega)]; simp [List.getD, Nat.lt_of_not_le h]
    rw [e2, fitsGo_cons, if_neg h]
theorem fitsGo_end {ls ps : List Str} (h : ls.length ≤ ps.length) : fitsGo (ls.drop ls.length) (ps.drop ls.length) = ((ls.length : Int) == ps.length) := by
  rw [List.drop_length, fitsGo]
  by_cases e : ls.length = ps.length
  · rw [e, List.drop_length]; simp
  · have : ps.drop ls.length ≠ [] := by
      intro z; have := List.drop_eq_nil_iff.mp z; omega
    cases hz : ps.drop ls.length with
    | nil => exact absurd hz this
    | cons a b => simp; omega

noncomputable abbrev dollarOf (ps : List Str) : Bool := Txt.slice (ps.getD 0 Str.empty) none (some 1) == Str.ofString "$"
inductive FtI (s : Shared) (L al ap : Addr) (ls ps : List Str) (i : Nat) (s' : Shared) : Prop
  | mk (m : Str → Option Value) (tk : Nat) (e0 : s' = { s with heap := s'.heap, toks := tk }) (q1 : s'.heap.Ns L m) (q2 : m (Str.ofString "levels") = some (.ref al)) (q3 : m (Str.ofString "parts") = some (.ref ap)) (q4 : i ≤ ps.length)
    (q5 : fitsGo ls ps = fitsGo (ls.drop i) (ps.drop i)) (q6 : Keeps s.heap s'.heap) : FtI s L al ap ls ps i s'
section
variable {w : World} {A : Around} {s : Shared} {al ap : Addr} {h₀ : Heap} {mg mb : Str → Option Value} {p : Program} {loose : List Str} {mean : ExcName → Option Value} {R : Result → Shared → Prop} {vl vp : List Value} {ls ps : List Str}
theorem fits_raw (X : Frag.In (hd.heap_39 w.params) h₀) (T : Top p loose mean mg mb h₀) (kk : Keeps h₀ s.heap) (hle : h₀.objs.size ≤ s.heap.objs.size) (hh : A.handled = none) (hroom : A.depth + 20 < recursionLimit)
    (hal : s.heap.IsList al vl.toArray) (hls : StrsAre vl ls) (hap : s.heap.IsList ap vp.toArray) (hps : StrsAre vp ps) (hy1 : 0 < ls.length) (hy2 : 0 < ps.length) (hy3 : ls.length < 100) (hy4 : ps.length < 100) (hsz : (ps.getD 0 Str.empty).length ≤ sizeLine)
    (h : ∀ h' tk, Keeps s.heap h' → R (.ok (.ret (.bool (fitsD (dollarOf ps) ls ps)))) { s with heap := h', toks := tk }) :
    codeAny (model PP w) A (.call (.ref 102) ⟨[.ref al, .ref ap], []⟩) R s := by
  tb_start
  case k8 => exact lim0 hroom
  intro h₁ hns hk hsz1
  generalize hL : s.heap.objs.size = L at *
  have nS : ∀ {b o}, s.heap.get? b = some o → b ≠ L := fun e => Nat.ne_of_lt (hL ▸ Heap.lt_size e)
  show wpAny _ _ (execs [.If (testS (nthS ftL.1 0)) [.Return (some (.Constant (.bool false) 0 ⟨82, 15, 82, 20⟩)) ⟨82, 8, 82, 20⟩] [] ⟨81, 4, 82, 20⟩, .For (.Name (Str.ofString "place") ⟨83, 8, 83, 13⟩) (iterS (nthS ftL.1 1))
    [.If (testS (nthS (bodyS (nthS ftL.1 1)) 0)) [.Return (some (.Constant (.bool true) 0 ⟨85, 19, 85, 23⟩)) ⟨85, 12, 85, 23⟩] [] ⟨84, 8, 85, 23⟩, .If (testS (nthS (bodyS (nthS ftL.1 1)) 1)) [.Return (some (.Constant (.bool false) 0 ⟨87, 19, 87, 24⟩)) ⟨87, 12, 87, 24⟩] [] ⟨86, 8, 87, 24⟩] [] ⟨83, 4, 87, 24⟩, nthS ftL.1 2] (envX ftQ ftSc.1 L 102 (.ref 101) [])) _ _ _
  refine gen_post fun Q₀ E₀ hQ₀ hE₀ => ?_
  have F1 : Fr h₀ L h₁ _ := ⟨hns, kk.trans hk, hle⟩
  have hhead : ls.headD Str.empty = ls.getD 0 Str.empty := by cases ls <;> rfl
  refine wpAny_execs_cons (wpAny_If (ft_test F1 X T rfl rfl (isList_keeps hal hk) hls (isList_keeps hap hk) hps hy1 hy2 hsz fun h2 tk2 b F2 k2 hb => ?_))
  have k02 : Keeps s.heap h2 := hk.trans k2
  cases b with
  | true =>
    rw [if_pos rfl]
    refine ret_bool (hQ₀ _ _ ?_)
    have := h h2 tk2 k02
    rw [fitsD, hhead, if_pos (show (dollarOf ps && (ls.getD 0 Str.empty == sP || ls.getD 0 Str.empty == sH)) = true from hb.symm)] at this
    exact this
  | false =>
    rw [if_neg Bool.false_ne_true]
    have hD : fitsD (dollarOf ps) ls ps = fitsGo ls ps := by
      rw [fitsD, hhead]
      exact if_neg (by rw [show (dollarOf ps && (ls.getD 0 Str.empty == sP || ls.getD 0 Str.empty == sH)) = false from hb.symm]; simp)
    rw [hD] at h
    refine wpAny_execs_nil ?_
    refine wpAny_execs_cons (wpAny_For (ft_range (s := { s with heap := h2, toks := tk2 }) F2 X T rfl (isList_keeps hal k02) hls hy3 fun tk3 t1 t2 t3 => ?_))
    dsimp only
    have hc : Builtin.Range.rangeSize 0 (ls.length : Int) 1 = (ls.length : Int) := by rw [rangeSize_one]; split <;> omega
    refine wpAny_pyIter_range (IsRange.new ..) (small_one (by omega) (by omega) (by omega) (by omega)) ?_
    rw [hc]
    dsimp only
    generalize hr5 : ({ cls := .type "range", data := .fields #[.int 0 t1, .int (ls.length : Int) t3, .int 1 t2] } : Obj) = r5
    generalize hq5 : ({ cls := .type "range_iterator", data := .fields #[rawInt 0, rawInt (ls.length : Int), rawInt 1] } : Obj) = q5
    have k6 : Keeps h2 ((h2.push r5).push q5) := fun b o e => Heap.get?_push_of_some _ (Heap.get?_push_of_some _ e)
    have hit : IsRangeIter ((h2.push r5).push q5) (h2.push r5).objs.size 0 (ls.length : Int) 1 := by rw [← hq5]; exact Heap.get?_push_size _ rfl
    have hits : (h2.push r5).objs.size = h2.objs.size + 1 := Heap.size_push ..
    generalize (h2.push r5).objs.size = it at *
    generalize (h2.push r5).push q5 = h6 at *
    have hitL : it ≠ L := by rw [hits]; exact Nat.ne_of_gt (Nat.lt_succ_of_lt F2.ns.lt)
    have nit : ∀ {b o}, s.heap.get? b = some o → b ≠ it := fun e => by rw [hits]; exact Nat.ne_of_lt (Nat.lt_succ_of_lt (Heap.lt_size (k02 _ _ e)))
    refine for_range (N := ls.length) hh (FtI s L al ap ls ps) ?_ ?_ ?_ ?_ hit
    · rintro i s' h' tk' ⟨m, tk, e0, q1, q2, q3, q4, q5, q6⟩ hx
      exact ⟨m, tk', by rw [e0], q1.extBut hx (Ne.symm hitL), q2, q3, q4, q5, fun b o e => hx b o (nit e) (q6 b o e)⟩
    · rintro i tki s' hi ⟨m, tk, e0, q1, q2, q3, q4, q5, q6⟩ hit
      refine wpAny_storeName_local rfl q1 (fun h7 hn7 hs7 => ?_) rfl
      have k7 : Keeps s.heap h7 := fun b o e => (hs7.2 b (nS e)).trans (q6 b o e)
      have F7 : Fr h₀ L h7 _ := ⟨hn7, kk.trans k7, hle⟩
      have hst := fitsGo_at (ps := ps) hi
      refine wpAny_execs_cons (wpAny_If (ft_hash (i := i) (t := tki) (s := { s' with heap := h7, toks := s'.toks + 1 }) F7 X T ((if_neg (by decide)).trans q2) (if_pos rfl) (isList_keeps hal k7) hls (Int.natCast_nonneg _) (by omega) hy3 fun tk8 => ?_))
      dsimp only
      rw [Int.toNat_natCast]
      cases hb1 : (ls.getD i Str.empty == Str.ofString "#") with
      | true =>
        rw [if_pos rfl]
        refine ret_bool (.inr ⟨_, rfl, hQ₀ _ _ ?_⟩)
        rw [if_pos hb1] at hst
        have := h h7 tk8 k7
        rw [q5, hst] at this
        rw [e0]
        exact this
      | false =>
        rw [if_neg Bool.false_ne_true]
        rw [if_neg (by rw [show (ls.getD i Str.empty == sH) = false from hb1]; simp)] at hst
        refine wpAny_execs_nil (wpAny_execs_cons (wpAny_If (ft_out (i := i) (t := tki) (s := { s' with heap := h7, toks := tk8 }) F7 X T ((if_neg (by decide)).trans q2) ((if_neg (by decide)).trans q3) (if_pos rfl) (isList_keeps hal k7) hls (isList_keeps hap k7) hps (Int.natCast_nonneg _) (by omega) hy3 hy4 fun tk9 b hb => ?_)))
        dsimp only
        rw [Int.toNat_natCast] at hb
        cases b with
        | true =>
          rw [if_pos rfl]
          refine ret_bool (.inr ⟨_, rfl, hQ₀ _ _ ?_⟩)
          have hst2 : fitsGo (ls.drop i) (ps.drop i) = false := by
            rw [hst]
            by_cases hg : i ≥ ps.length
            · rw [if_pos hg]
            · rw [if_neg hg, if_neg]
              intro z
              have hg' : decide ((i : Int) ≥ ps.length) = false := decide_eq_false (by omega)
              rw [hg', Bool.false_or] at hb
              have hb' := Bool.and_eq_true_iff.mp hb.symm
              rcases Bool.or_eq_true_iff.mp z with z | z
              · have := hb'.1
                rw [bne, show (ls.getD i Str.empty == Str.ofString "+") = true from z] at this; cases this
              · have := hb'.2
                rw [bne, z] at this; cases this
          have := h h7 tk9 k7
          rw [q5, hst2] at this
          rw [e0]
          exact this
        | false =>
          rw [if_neg Bool.false_ne_true]
          have hor := Bool.or_eq_false_iff.mp hb.symm
          have hg : ¬ i ≥ ps.length := by have := of_decide_eq_false hor.1; omega
          have hz : (ls.getD i Str.empty == sP || ls.getD i Str.empty == ps.getD i Str.empty) = true := by
            rcases Bool.and_eq_false_iff.mp hor.2 with z | z
            · rw [bne, Bool.not_eq_false'] at z; rw [show (ls.getD i Str.empty == sP) = true from z]; rfl
            · rw [bne, Bool.not_eq_false'] at z; rw [z, Bool.or_true]
          rw [if_neg hg, if_pos hz] at hst
          exact wpAny_execs_nil (wpAny_execs_nil (.inl ⟨rfl, ⟨_, tk9, by rw [e0], hn7, (if_neg (by decide)).trans q2, (if_neg (by decide)).trans q3, by omega, q5.trans hst, k7⟩, (hs7.2 _ hitL).trans hit⟩))
    · rintro s' ⟨m, tk, e0, q1, q2, q3, q4, q5, q6⟩
      have F9 : Fr h₀ L s'.heap m := ⟨q1, kk.trans q6, hle⟩
      show wpAny _ _ (execs [nthS ftL.1 2] (envX ftQ ftSc.1 L 102 (.ref 101) [])) _ _ s'
      refine wpAny_execs_cons (ft_ret F9 X T q2 q3 (isList_keeps hal q6) hls (isList_keeps hap q6) hps hy3 hy4 fun tk10 => hQ₀ _ _ ?_)
      have := h _ tk10 q6
      rw [q5, fitsGo_end q4] at this
      rw [e0]
      exact this
    · exact ⟨_, _, rfl, F2.ns.keeps k6, rfl, rfl, Nat.zero_le _, rfl, fun b o e => k6 _ _ (k02 _ _ e)⟩
end
end
section
open PySem PySem.W PySem.Calls PySem.Spec PyProof.Rows
set_option Elab.async false
set_option maxRecDepth 100000
set_option maxHeartbeats 4000000
set_option linter.unusedVariables false
/-! an exception on its road, its parts known -/
noncomputable def TrX (base h : Heap) (e : Addr) (c2 : Value) (fl : Option Value) : Prop :=
  ∃ oe vs, h.get? e = some oe ∧ oe.cls = .type "KeyError" ∧ oe.data = .fields vs ∧ 5 < vs.size ∧ vs[2]? = some c2 ∧
    match fl with
    | none => vs[1]? = some .none
    | some f => ∃ T oT ts, vs[1]? = some (.ref T) ∧ base.get? T = none ∧ T ≠ e ∧ h.get? T = some oT ∧ oT.data = .fields ts ∧ ts[3]? = some f
noncomputable def XS (base : Heap) (l : List Env) (e : Addr) (c2 : Value) (fl : Option Value) (h : Heap) : Prop :=
  base.StaysIn h ∧ base.get? e = none ∧ h.FunFrames base l ∧ TrX base h e c2 fl

section
variable {M : Model} {A : Around} {E : Value → Shared → Prop} {s : Shared} {base : Heap} {env : Env} {outer : List Env} {L e : Addr} {c2 : Value} {l : List Env}

theorem notRec {h : Heap} {x : Addr} {o : Obj} {ws : Array Value} (hx : h.get? x = some o) (hd : o.data = .fields ws) {b : Addr} {ob : Obj} (hb : h.get? b = some ob) (hn : ∀ vs, ob.data ≠ .fields vs) : x ≠ b := fun z => by
  subst z; rw [hx] at hb; cases hb; exact hn _ hd
theorem notIn {h : Heap} {x b : Addr} {o : Obj} (hx : h.get? x = none) (hb : h.get? b = some o) : x ≠ b := fun z => by
  subst z; rw [hx] at hb; cases hb

theorem x_entry {oe : Obj} {vs : Array Value} {head : Value} {hadNext : Bool} {Q : Unit → Shared → Prop} (hfr : A.frames = some (env :: outer)) (hf : env.frame = some L) (hkb : base.StaysIn s.heap) (hen : base.get? e = none) (hl : s.heap.FunFrames base (env :: outer))
    (he : s.heap.get? e = some oe) (hcls : oe.cls = .type "KeyError") (hd : oe.data = .fields vs) (hsz : 5 < vs.size) (h2 : vs[2]? = some c2)
    (h : ∀ h', XS base (env :: outer) e c2 (some (rawInt L)) h' → s.heap.UpToSlots h' → Q () { s with heap := h' }) :
    wpAny M A (do let a ← frameOf env; let pl ← entryPlaceOf L hadNext; let b ← EntryCells.newEntry head a .none (rawInt L) .none pl; setField (.ref e) 1 b) Q E s := by
  refine wpAny_bind (wpAny_frameOf_fun hfr hl hf fun h₁ hs₁ => ?_)
  have up1 : s.heap.UpToSlots h₁ := fun b o hb _ => hs₁.2.2 b o hb
  have kb1 : base.StaysIn h₁ := fun b o hb => (hs₁.2.1 b fun hm => by rw [(hl.mem hm).1] at hb; cases hb).trans (hkb b o hb)
  have hl1 : h₁.FunFrames base (env :: outer) := hl.of_slotsOnly hs₁
  obtain ⟨sl, he1⟩ := hs₁.2.2 e oe he
  refine wpAny_bind (wpAny_entryPlaceOf fun pl hpl => ?_)
  unfold EntryCells.newEntry newFields
  refine wpAny_bind (wpAny_newObj_type ?_ (hpl.sizeOk5 _ _ _ _ _))
  have hts : ([head, .ref L, .none, rawInt L, .none] ++ (if pl.isEmpty then List.replicate 6 Value.none else pl)).toArray[3]? = some (rawInt L) := by
    simp
  generalize ([head, .ref L, .none, rawInt L, .none] ++ (if pl.isEmpty then List.replicate 6 Value.none else pl)).toArray = ts at hts
  have hT : (h₁.push { cls := .type "traceback", dict := none, data := .fields ts }).get? h₁.objs.size = some { cls := .type "traceback", dict := none, data := .fields ts } := Heap.get?_push_size _ rfl
  have he2 := Heap.get?_push_of_some (h := h₁) { cls := .type "traceback", dict := none, data := .fields ts } he1
  have kp : ∀ b o, h₁.get? b = some o → (h₁.push { cls := .type "traceback", dict := none, data := .fields ts }).get? b = some o := fun b o hb => Heap.get?_push_of_some _ hb
  have hTe : h₁.objs.size ≠ e := Nat.ne_of_gt (Heap.lt_size he1)
  have hTb : base.get? h₁.objs.size = none := kb1.fresh
  generalize h₁.push { cls := .type "traceback", dict := none, data := .fields ts } = h₂ at *
  have hd' : ({ oe with slots := sl } : Obj).data = .fields vs := hd
  refine wpAny_setField he2 hd' (by omega) (h _ ⟨fun b o hb => ?_, hen, ?_, ?_⟩ fun b o hb hn => ?_)
  · exact (Heap.get?_update_other _ _ (notIn hen hb)).trans (kp _ _ (kb1 b o hb))
  · exact hl1.of_keeps fun b o hb hn => ⟨o, (Heap.get?_update_other _ _ (notRec he1 hd' hb hn)).trans (kp _ _ hb), rfl⟩
  · refine ⟨_, _, Heap.get?_update_self _ he2 (Obj.isFreed_of_fields (Obj.data_mapFields hd' _)), (Obj.cls_mapFields _ _).trans hcls, Obj.data_mapFields hd' _, ?_, ?_, ⟨_, _, ts, ?_, hTb, hTe, (Heap.get?_update_other _ _ hTe.symm).trans hT, rfl, hts⟩⟩
    · simpa using hsz
    · rw [Array.getElem?_setIfInBounds_ne (by decide)]; exact h2
    · simp [show 1 < vs.size by omega]
  · obtain ⟨sl', e'⟩ := up1 b o hb hn
    exact ⟨sl', (Heap.get?_update_other _ _ (notRec he1 hd' e' hn)).trans (kp _ _ e')⟩

theorem x_flight {fl : Option Value} {fr : Option Addr} {Q : Unit → Shared → Prop} (X : XS base l e c2 fl s.heap)
    (h : ∀ h', XS base l e c2 (fl.map fun _ => fr.elim .none fun f => rawInt f) h' → s.heap.UpToSlots h' → Q () { s with heap := h' }) : wpAny M A (setFlight (.ref e) fr) Q E s := by
  obtain ⟨hkb, hen, hl, oe, vs, he, hc, hd, hsz, h2, hx⟩ := X
  unfold setFlight
  cases fl with
  | none =>
    refine wpAny_bind (wpAny_field he hd hx ?_)
    rw [if_neg (by decide)]
    exact wpAny_pure (h s.heap ⟨hkb, hen, hl, oe, vs, he, hc, hd, hsz, h2, hx⟩ (.refl _))
  | some f =>
    obtain ⟨T, oT, ts, h1, hTb, hTe, hT, hdT, h3⟩ := hx
    refine wpAny_bind (wpAny_field he hd h1 ?_)
    rw [if_pos (show (Value.ref T != Value.none) = true from by simp)]
    have h3s : 3 < ts.size := (Array.getElem?_eq_some_iff.mp h3).1
    refine wpAny_setField hT hdT h3s (h _ ⟨fun b o hb => ?_, hen, ?_, ?_⟩ fun b o hb hn => ?_)
    · exact (Heap.get?_update_other _ _ (notIn hTb hb)).trans (hkb b o hb)
    · exact hl.of_keeps fun b o hb hn => ⟨o, (Heap.get?_update_other _ _ (notRec hT hdT hb hn)).trans hb, rfl⟩
    · exact ⟨oe, vs, (Heap.get?_update_other _ _ hTe).trans he, hc, hd, hsz, h2, T, _, _, h1, hTb, hTe, Heap.get?_update_self _ hT (Obj.isFreed_of_fields (Obj.data_mapFields hdT _)), Obj.data_mapFields hdT _, by simp [h3s]⟩
    · exact ⟨o.slots, (Heap.get?_update_other _ _ (notRec hT hdT hb hn)).trans hb⟩

theorem x_note {fl : Option Value} {Q : Unit → Shared → Prop} (hfr : A.frames = some (env :: outer)) (hf : env.frame = some L) (X : XS base (env :: outer) e c2 fl s.heap)
    (h : ∀ h', XS base (env :: outer) e c2 (some (rawInt L)) h' → s.heap.UpToSlots h' → Q () { s with heap := h' }) : wpAny M A (noteFrame (.ref e) env) Q E s := by
  have X' := X
  obtain ⟨hkb, hen, hl, oe, vs, he, hc, hd, hsz, h2, hx⟩ := X
  unfold noteFrame
  simp only [hf]
  cases fl with
  | none =>
    refine wpAny_bind (wpAny_field he hd hx ?_)
    rw [if_neg (by decide)]
    exact x_entry hfr hf hkb hen hl he hc hd hsz h2 h
  | some f =>
    obtain ⟨T, oT, ts, h1, hTb, hTe, hT, hdT, h3⟩ := hx
    refine wpAny_bind (wpAny_field he hd h1 ?_)
    rw [if_pos (show (Value.ref T != Value.none) = true from by simp)]
    refine wpAny_bind (wpAny_field hT hdT h3 ?_)
    by_cases hq : (f == rawInt L) = true
    · rw [if_pos hq]
      have : f = rawInt L := eq_of_beq hq
      subst this
      exact wpAny_pure (h s.heap X' (.refl _))
    · rw [if_neg hq]
      have h3s : 3 < ts.size := (Array.getElem?_eq_some_iff.mp h3).1
      refine wpAny_bind (wpAny_setField hT hdT h3s ?_)
      refine x_entry (oe := oe) (vs := vs) hfr hf (fun b o hb => (Heap.get?_update_other _ _ (notIn hTb hb)).trans (hkb b o hb)) hen (hl.of_keeps fun b o hb hn => ⟨o, (Heap.get?_update_other _ _ (notRec hT hdT hb hn)).trans hb, rfl⟩)
        ((Heap.get?_update_other _ _ hTe).trans he) hc hd hsz h2 fun h' Y up => h h' Y fun b o hb hn => up b o ((Heap.get?_update_other _ _ (notRec hT hdT hb hn)).trans hb) hn

theorem x_field1 {f : Value} {Q : Value → Shared → Prop} (X : XS base l e c2 (some f) s.heap) (h : ∀ T, Q (.ref T) s) : wpAny M A (field (.ref e) 1) Q E s := by
  obtain ⟨hkb, hen, hl, oe, vs, he, hc, hd, hsz, h2, T, oT, ts, h1, r⟩ := X
  exact wpAny_field he hd h1 (h T)

theorem x_leaving {fl : Option Value} {Q : Unit → Shared → Prop} (hfr : A.frames = some (env :: outer)) (hf : env.frame = some L) (X : XS base (env :: outer) e c2 fl s.heap)
    (h : ∀ h', XS base outer e c2 (some .none) h' → s.heap.UpToSlots h' → Q () { s with heap := h' }) : wpAny M A (leaving env (.ref e)) Q E s := by
  unfold leaving
  refine wpAny_bind (x_note hfr hf X fun h1 X1 u1 => ?_)
  refine x_flight (s := { s with heap := h1 }) X1 fun h2 X2 u2 => h h2 ⟨X2.1, X2.2.1, X2.2.2.1.2.2, X2.2.2.2⟩ (u1.trans u2)
end
end
section
open PySem PySem.W PySem.Calls PySem.Spec PyProof.Rows
set_option Elab.async false
set_option maxRecDepth 100000
set_option maxHeartbeats 4000000
set_option linter.unusedVariables false
theorem fillXr : Reg PySem.Challenge.rw_bc0018_01 hd.heap_39 := by k_fill; trivial
section
variable {M : Model} {A : Around} {E : Value → Shared → Prop} {s : Shared} {base : Heap} {env : Env} {e e1 : Addr} {oe : Obj} {vs : Array Value}
theorem x_excValue {msg : String} {Q : Value → Shared → Prop} (he : s.heap.get? e = some oe) (hc : oe.cls = .type "KeyError") (hd : oe.data = .fields vs) (h : Q (.ref e) s) : wpAny M A (excFromValue (.ref e) msg) Q E s := by
  obtain ⟨hp, g, d, tk, os⟩ := s
  obtain ⟨cls, dict, data, slots⟩ := oe
  dsimp only at hc he hd
  subst hc hd
  have hsub := (show isSubtype (.type "KeyError") (.type "BaseException") = pure true by rw [isSubtype_type]; kernel_rfl)
  unfold excFromValue isExcClass isType isInstance
  repeat (first | refine wpAny_loadPart he ?_ | wp_step)
  exact h
theorem x_raisedInst {Q : Value → Shared → Prop} (he : s.heap.get? e = some oe) (hc : oe.cls = .type "KeyError") (h : Q (.ref e) s) : wpAny M A (raisedInstance (.ref e)) Q E s := by
  obtain ⟨hp, g, d, tk, os⟩ := s
  obtain ⟨cls, dict, data, slots⟩ := oe
  dsimp only at hc he
  subst hc
  have hmeta := (show (Value.type ((Manifest.find? "KeyError").elim "type" fun x => x.metatype) == Value.type "type") = true by kernel_rfl)
  unfold raisedInstance
  repeat (first | refine wpAny_loadPart he ?_ | wp_step)
  exact h

theorem x_unchain {prog : Program} {w : World} {x : Value} {Q : Value → Shared → Prop} (he : s.heap.get? e1 = some oe) (hd : oe.data = .fields vs) (h2 : vs[2]? = some .none) (h : Q .none s) :
    wpAny (model prog w) A (runValue (.builtin "proto.unchain" ⟨[x, .ref e1, .ref e1, .bool false], []⟩)) Q E s := by
  refine wpAny_runValue (codeAny_builtin (b := Builtin.«proto.unchain») (entryFor_of_tree (by kernel_rfl)) ?_)
  unfold Builtin.«proto.unchain»
  refine wpAny_bind (wpAny_field he hd h2 ?_)
  rw [if_pos (by decide)]
  first | exact wpAny_of_eq (a := Fin.done (.ret .none)) rfl h | exact wpAny_bind (wpAny_of_eq (a := Fin.done (.ret .none)) rfl (wpAny_pure h))
theorem x_raiseFrom {prog : Program} {w : World} {x c : Expr} {pos : Pos} {Q : Flow → Shared → Prop} (hh : A.handled = some (.ref e1))
    (h : wpAny (model prog w) A (eval x env) (fun v s₁ => ∃ e2, v = .ref e2 ∧ wpAny (model prog w) A (eval c env) (fun cv s₂ => cv = .ref e1 ∧ e1 ≠ e2 ∧ (∃ ob t, s₂.heap.get? e2 = some ob ∧ ob.cls = .type "KeyError" ∧ ob.data = .fields #[t, .none, .none, .none, .bool false, .none]) ∧
      (∃ oe vs, s₂.heap.get? e1 = some oe ∧ oe.cls = .type "KeyError" ∧ oe.data = .fields vs ∧ vs[2]? = some .none) ∧
      ∀ h' ob t, Heap.SameBut e2 s₂.heap h' → h'.get? e2 = some ob → ob.cls = .type "KeyError" → ob.data = .fields #[t, .none, .ref e1, .ref e1, .bool true, .none] → E (.ref e2) { s₂ with heap := h' }) E s₁) E s) :
    wpAny (model prog w) A (exec (.Raise (some x) (some c) pos) env) Q E s := by
  rw [arm_exec_Raise]
  show wpAny _ A (do standAt pos; raiseStmt env (some (do let v ← eval x env; standAt pos; pure v)) (some (do let v ← eval c env; standAt pos; pure v))) Q E s
  refine wpAny_bind (wpAny_standAt ?_)
  unfold raiseStmt
  refine wpAny_bind (wpAny_bind (wpAny_mono h (fun v s₁ h₁ => ?_) fun _ _ x => x))
  obtain ⟨e2, rfl, h₁⟩ := h₁
  refine wpAny_bind (wpAny_standAt (wpAny_pure ?_))
  refine wpAny_bind (wpAny_holding (wpAny_bind (wpAny_mono h₁ (fun cv s₂ h₂ => ?_) fun _ _ x => x)))
  obtain ⟨rfl, hne, ⟨ob, t, he2, hc2, hd2⟩, ⟨oe, vs, he1, hc1, hd1, h12⟩, hE⟩ := h₂
  refine wpAny_bind (wpAny_standAt (wpAny_pure ?_))
  refine wpAny_bind (wpAny_pure ?_)
  refine wpAny_bind (wpAny_holding (x_excValue he2 hc2 hd2 ?_))
  dsimp only
  rw [if_neg (by simp)]
  refine wpAny_bind (wpAny_holding (x_excValue he1 hc1 hd1 ?_))
  refine wpAny_bind (wpAny_setField he2 hd2 (by simp) ?_)
  have hdA := Obj.data_mapFields hd2 (·.setIfInBounds 3 (Value.ref e1))
  have heA := Heap.get?_update_self (Obj.mapFields (·.setIfInBounds 3 (Value.ref e1))) he2 (Obj.isFreed_of_fields hdA)
  have hsA : Heap.SameBut e2 s₂.heap (s₂.heap.update e2 (Obj.mapFields (·.setIfInBounds 3 (Value.ref e1)))) := Heap.SameBut.update ..
  generalize s₂.heap.update e2 (Obj.mapFields (·.setIfInBounds 3 (Value.ref e1))) = hA at *
  refine wpAny_bind (wpAny_setField heA hdA (by simp) ?_)
  have hdB := Obj.data_mapFields hdA (·.setIfInBounds 4 (Value.bool true))
  have heB := Heap.get?_update_self (Obj.mapFields (·.setIfInBounds 4 (Value.bool true))) heA (Obj.isFreed_of_fields hdB)
  have hsB : Heap.SameBut e2 hA (hA.update e2 (Obj.mapFields (·.setIfInBounds 4 (Value.bool true)))) := Heap.SameBut.update ..
  dsimp only
  generalize hA.update e2 (Obj.mapFields (·.setIfInBounds 4 (Value.bool true))) = hB at *
  have hnt : ∀ {Q' : Bool → Shared → Prop}, Q' false { s₂ with heap := hB } → wpAny (model prog w) A (isType (.ref e2)) Q' E { s₂ with heap := hB } := by
    intro Q' hq
    simp only [isType, loadHead]
    refine wpAny_bind (wpAny_loadPart heB ?_)
    rw [hdB]; exact wpAny_pure hq
  refine wpAny_bind (hnt ?_)
  simp only [Bool.false_eq_true, if_false]
  have hcB : (Obj.mapFields (·.setIfInBounds 4 (Value.bool true)) (Obj.mapFields (·.setIfInBounds 3 (Value.ref e1)) ob)).cls = .type "KeyError" := (Obj.cls_mapFields _ _).trans ((Obj.cls_mapFields _ _).trans hc2)
  generalize Obj.mapFields (·.setIfInBounds 4 (Value.bool true)) (Obj.mapFields (·.setIfInBounds 3 (Value.ref e1)) ob) = obB at *
  refine wpAny_bind (x_raisedInst heB hcB ?_)
  unfold setFlight raiseNew
  refine wpAny_bind (wpAny_bind (wpAny_field heB hdB (x := .none) (by simp) ?_))
  rw [if_neg (by decide)]
  refine wpAny_pure (wpAny_bind (wpAny_handled ?_))
  rw [hh]
  dsimp only
  rw [if_pos (by simpa using hne)]
  have he1B : hB.get? e1 = some oe := (hsB.2 _ hne).trans ((hsA.2 _ hne).trans he1)
  refine wpAny_bind (wpAny_holding (x_unchain he1B hd1 h12 ?_))
  have hdC := Obj.data_mapFields hdB (·.setIfInBounds 2 (Value.ref e1))
  have heC := Heap.get?_update_self (Obj.mapFields (·.setIfInBounds 2 (Value.ref e1))) heB (Obj.isFreed_of_fields hdC)
  have hsC : Heap.SameBut e2 hB (hB.update e2 (Obj.mapFields (·.setIfInBounds 2 (Value.ref e1)))) := Heap.SameBut.update ..
  have hf := wpAny_setField (M := model prog w) (A := A) (E := E) (s := { s₂ with heap := hB }) (i := 2) (x := .ref e1) (Q := fun _ s' => wpAny (model prog w) A (throw (Value.ref e2) : Sem Flow) Q E s') heB hdB (by simp) (wpAny_throw (hE _ _ t ((hsA.trans hsB).trans hsC) heC ((Obj.cls_mapFields _ _).trans hcB) (by rw [hdC]; rfl)))
  exact wpAny_bind hf
end
end
section
local macro_rules | `(tactic| walk_at "pad") => `(tactic| fail)
local macro_rules | `(tactic| walk_at "getAttr ref") => `(tactic| (k_here; k_dflt (first
  | ((with_reducible show wpAny _ _ (getAttr _ (PySem.Str.ofString "_content") _) _ _ _); refine' get_content (by k_asm) (by k_asm) (by assumption) ?_)
  | ((with_reducible show wpAny _ _ (getAttr _ (PySem.Str.ofString "_children") _) _ _ _); refine' get_children (by k_asm) (by k_asm) (by assumption) ?_)
  | ((with_reducible show wpAny _ _ (getAttr _ (PySem.Str.ofString "_root") _) _ _ _); refine' mat_root (by k_asm) (by k_asm) (by assumption) ?_))))
section
open PySem PySem.W PySem.Calls PySem.Spec PyProof.Rows
set_option Elab.async false
set_option maxRecDepth 100000
set_option maxHeartbeats 4000000
set_option linter.unusedVariables false
theorem fillGi : Reg PySem.Challenge.rw_bc0018_01 hd.heap_39 := by k_fill; trivial
noncomputable def tryB : Stmt → List Stmt
  | .Try b _ _ _ _ => b
  | _ => []
noncomputable def tryO : Stmt → List Stmt
  | .Try _ _ o _ _ => o
  | _ => []
noncomputable def tryH : Stmt → List Stmt
  | .Try _ (.ExceptHandler _ _ b _ :: _) _ _ _ => b
  | _ => []
noncomputable def excE : Stmt → Expr
  | .Raise (some e) _ _ => e
  | _ => default
noncomputable def giS : Stmt := nthS (bodyS clsS) 3
noncomputable def giL : { l : List Stmt // bodyS giS = l } := ⟨_, by
  dsimp only [giS, clsS, PySem.Challenge.pw_bc0018_01, nthS, bodyS]⟩
noncomputable def giSc : { l : Scope // scopeS giS = l } := ⟨_, by
  dsimp only [giS, clsS, PySem.Challenge.pw_bc0018_01, nthS, bodyS, scopeS]⟩
noncomputable abbrev giQ : Str := Str.ofString "MQTTMatcher.__getitem__"

section
variable {w : World} {A : Around} {E : Value → Shared → Prop} {s : Shared} {d : Addr} {f : Str → Option Value} {k : Str} {t : Tok} {Q : Value → Shared → Prop}
theorem item_map_miss {value slice : Expr} (hdm : (d == sysModules) = false) (hh : A.handled = none) (hm : s.heap.MapOf (SK w) d f) (hv : f k = none)
    (h : ∀ h' e, Heap.NewExc s.heap h' e "KeyError" → E (.ref e) { s with heap := h', toks := s.toks + 1 })
    (hs : subscripted slice false (.ref d) (.str k t) = operate [.ref d, .str k t] (getItem (.ref d) (.str k t)) := by with_unfolding_all rfl) :
    wpAny (model PP w) A (subscriptTail value slice (.ref d) (.str k t)) Q E s :=
  subscriptTail_builtinR (x := .none) hm.typeIs slot_dict_getitem.lookup (wpAny_getItem_missing_of (strKind_is PP w k t) hdm hh hm hv h) hs
end

local macro_rules | `(tactic| walk_at "pad") => `(tactic| fail)
local macro_rules | `(tactic| walk_at "storeName") => `(tactic| (k_here; k_dflt (refine' wpAny_storeName_local (by rfl) (Fr.ns (by k_asm)) ?_ (by rfl); intro h' hn' hs')))
local macro_rules | `(tactic| walk_at "call builtin:str.split") => `(tactic| (k_here; k_dflt (refine' split_raw (by decide) ?_ (by assumption); intro l' k' hl')))
local macro_rules | `(tactic| walk_at "subscriptTail") => `(tactic| (k_here; (with_reducible show wpAny _ _ (subscriptTail _ _ (Value.ref _) (Value.str _ _)) _ _ _); k_dflt (first | (refine' item_map (by assumption) (by with_reducible assumption) ?_) | (refine' item_map_miss (by assumption) (by assumption) (by assumption) (by with_reducible assumption) ?_))))

section
variable {w : World} {A : Around} {E : Value → Shared → Prop} {s : Shared} {M root L x d : Addr} {h₀ : Heap} {m mg mb : Str → Option Value} {p : Program} {loose : List Str} {mean : ExcName → Option Value} {ccd v vc : Value} {k text : Str} {t : Tok} {f : Str → Option Value}
noncomputable abbrev genv (L : Addr) (ccd : Value) : Env := envX giQ giSc.1 L 65 ccd []
theorem gi_first (F : Fr h₀ L s.heap m) (X : Frag.In (hd.heap_39 w.params) h₀) (T : Top p loose mean mg mb h₀) (hself : m (Str.ofString "self") = some (.ref M)) (I : MatAt s.heap M root)
    {Q : Flow → Shared → Prop} (h : ∀ h' tk, h'.Ns L (fun y => if y = Str.ofString "node" then some (.ref root) else m y) → Heap.SameBut L s.heap h' → Q .next { s with heap := h', toks := tk }) :
    wpAny (model PP w) A (exec (nthS (tryB (nthS giL.1 0)) 0) (genv L ccd)) Q E s := by
  unfold genv giL giSc
  dsimp only [nthS, bodyS, tryB]
  have N : News h₀ L s.heap [] := .nil
  k_steps
  exact h _ _ (by assumption) (by assumption)
theorem gi_iter (F : Fr h₀ L s.heap m) (X : Frag.In (hd.heap_39 w.params) h₀) (T : Top p loose mean mg mb h₀) (hkey : m (Str.ofString "key") = some (.str text t)) (hz : text.length + 2 ≤ sizeLine)
    {Q : Value → Shared → Prop} (h : ∀ l' tk, l'.map (·.1) = Txt.split text (Str.ofString "/") → Q (.ref s.heap.objs.size) { s with heap := s.heap.push (strList l'), toks := tk }) :
    wpAny (model PP w) A (eval (iterS (nthS (tryB (nthS giL.1 0)) 1)) (genv L ccd)) Q E s := by
  unfold genv giL giSc
  dsimp only [nthS, bodyS, tryB, iterS]
  have N : News h₀ L s.heap [] := .nil
  k_steps
  exact h _ _ (by assumption)
theorem gi_turn (F : Fr h₀ L s.heap m) (X : Frag.In (hd.heap_39 w.params) h₀) (T : Top p loose mean mg mb h₀) (hh : A.handled = none) (hnode : m (Str.ofString "node") = some (.ref x)) (hsym : m (Str.ofString "sym") = some (.str k t)) (I : NodeAt s.heap x vc (.ref d)) (hd : (d == sysModules) = false) (hm : s.heap.MapOf (SK w) d f)
    {Q : Flow → Shared → Prop} (h1 : ∀ h' tk v, f k = some v → h'.Ns L (fun y => if y = Str.ofString "node" then some v else m y) → Heap.SameBut L s.heap h' → Q .next { s with heap := h', toks := tk })
    (h2 : f k = none → ∀ h' e tk, Heap.NewExc s.heap h' e "KeyError" → E (.ref e) { s with heap := h', toks := tk }) :
    wpAny (model PP w) A (exec (nthS (bodyS (nthS (tryB (nthS giL.1 0)) 1)) 0) (genv L ccd)) Q E s := by
  unfold genv giL giSc
  dsimp only [nthS, bodyS, tryB]
  have N : News h₀ L s.heap [] := .nil
  cases hf : f k with
  | some v =>
    k_steps
    exact h1 _ _ v hf (by assumption) (by assumption)
  | none =>
    k_steps
    exact h2 hf _ _ _ (by assumption)
theorem gi_none (F : Fr h₀ L s.heap m) (X : Frag.In (hd.heap_39 w.params) h₀) (T : Top p loose mean mg mb h₀) (hnode : m (Str.ofString "node") = some (.ref x)) (I : NodeAt s.heap x v (.ref d)) (hv : v = .none ∨ ∃ k t, v = .int k t)
    {Q : Bool → Shared → Prop} (h : ∀ tk, Q (v == .none) { s with toks := tk }) :
    wpAny (model PP w) A (isTrue (testS (nthS (tryO (nthS giL.1 0)) 0)) (genv L ccd) (eval (testS (nthS (tryO (nthS giL.1 0)) 0)) (genv L ccd))) Q E s := by
  unfold genv giL giSc
  dsimp only [nthS, bodyS, tryO, testS]
  have N : News h₀ L s.heap [] := .nil
  rcases hv with rfl | ⟨k, t', rfl⟩
  · k_steps
    exact h _
  · k_steps
    exact h _
theorem gi_ret (F : Fr h₀ L s.heap m) (X : Frag.In (hd.heap_39 w.params) h₀) (T : Top p loose mean mg mb h₀) (hnode : m (Str.ofString "node") = some (.ref x)) (I : NodeAt s.heap x v (.ref d))
    {Q : Flow → Shared → Prop} (h : ∀ tk, Q (.ret v) { s with toks := tk }) :
    wpAny (model PP w) A (exec (nthS (tryO (nthS giL.1 0)) 1) (genv L ccd)) Q E s := by
  unfold genv giL giSc
  dsimp only [nthS, bodyS, tryO]
  have N : News h₀ L s.heap [] := .nil
  k_steps
  exact h _
theorem exc_expr {p1 p2 p3 : Pos} (F : Fr h₀ L s.heap m) (X : Frag.In (hd.heap_39 w.params) h₀) (T : Top p loose mean mg mb h₀) (hkey : m (Str.ofString "key") = some (.str text t))
    {Q : Value → Shared → Prop} (h : ∀ h' e, Heap.NewExc s.heap h' e "KeyError" → Q (.ref e) { s with heap := h' }) :
    wpAny (model PP w) A (eval (.Call (.Name (Str.ofString "KeyError") p1) [.Name (Str.ofString "key") p2] [] p3) (envX giQ giSc.1 L 65 ccd [])) Q E s := by
  unfold giSc
  refine Call_Name1 (name_B F X (topRead_of T) ?_ PyProof.Rows.Boot.«KeyError» (by decide) ?_) rfl
  · k_is
  exact PyProof.Rows.callWith_type rfl (evalArgs_plain (Calls.spliced_cons (nameX_L F hkey (Calls.spliced_nil (call_exc (rest := [.str text t]) excClass_KeyError h)) rfl rfl)))
theorem gi_exc1 (F : Fr h₀ L s.heap m) (X : Frag.In (hd.heap_39 w.params) h₀) (T : Top p loose mean mg mb h₀) (hkey : m (Str.ofString "key") = some (.str text t))
    {Q : Value → Shared → Prop} (h : ∀ h' e, Heap.NewExc s.heap h' e "KeyError" → Q (.ref e) { s with heap := h' }) :
    wpAny (model PP w) A (eval (excE (nthS (tryH (nthS giL.1 0)) 0)) (genv L ccd)) Q E s := by
  unfold genv giL giSc
  dsimp only [nthS, bodyS, tryH, excE]
  exact exc_expr F X T hkey h
theorem gi_err {e1 : Addr} (F : Fr h₀ L s.heap m) (X : Frag.In (hd.heap_39 w.params) h₀) (T : Top p loose mean mg mb h₀) (herr : m (Str.ofString "err") = some (.ref e1))
    {Q : Value → Shared → Prop} (h : Q (.ref e1) s) {pos : Pos} :
    wpAny (model PP w) A (eval (.Name (Str.ofString "err") pos) (genv L ccd)) Q E s := by
  unfold genv giSc
  exact nameX_L F herr h rfl rfl
end
end
section
open PySem PySem.W PySem.Calls PySem.Spec PyProof.Rows
set_option Elab.async false
set_option maxRecDepth 100000
set_option maxHeartbeats 4000000
set_option linter.unusedVariables false
section
variable {M : Model} {A : Around} {E : Value → Shared → Prop} {s : Shared} {base : Heap} {env : Env} {outer : List Env} {L e : Addr} {c2 : Value}
theorem mark_frames {h : Option Value} : (A.mark h).frames = A.frames := rfl
theorem mark_handled : (A.mark (some (.ref e))).handled = some (.ref e) := rfl
theorem x_cameBack {f : Value} (hf : env.frame = some L) (X : XS base (env :: outer) e c2 (some f) s.heap)
    (h : ∀ h', XS base (env :: outer) e c2 (some (rawInt L)) h' → s.heap.UpToSlots h' → E (.ref e) { s with heap := h' }) : cameBackBy M A env E (.ref e) s := by
  unfold cameBackBy
  refine wpAny_bind (x_field1 X fun T => ?_)
  rw [if_neg (by simp), hf]
  exact x_flight X h
theorem x_body_err {fl : Option Value} (hfr : A.frames = some (env :: outer)) (hf : env.frame = some L) (X : XS base (env :: outer) e c2 fl s.heap)
    (h : ∀ h', XS base (env :: outer) e c2 (some (rawInt L)) h' → s.heap.UpToSlots h' → E (.ref e) { s with heap := h' }) : notedBy M A env (cameBackBy M A env E) (.ref e) s := by
  unfold notedBy
  refine x_note hfr hf X fun h1 X1 u1 => ?_
  exact x_cameBack (s := { s with heap := h1 }) hf X1 fun h2 X2 u2 => h h2 X2 (u1.trans u2)
theorem x_passOn {what : String} {f : Value} {Q : Flow → Shared → Prop} (hf : env.frame = some L) (X : XS base (env :: outer) e c2 (some f) s.heap)
    (h : ∀ h', XS base (env :: outer) e c2 (some (rawInt L)) h' → s.heap.UpToSlots h' → E (.ref e) { s with heap := h' }) : wpAny M A (PySem.passOn what (.ref e) env : Sem Flow) Q E s := by
  unfold PySem.passOn
  refine wpAny_bind (x_field1 X fun T => ?_)
  rw [if_neg (by simp), hf]
  exact wpAny_bind (x_flight X fun h' X' u => wpAny_throw (h h' X' u))
end

theorem frames_same {h h' base : Heap} (k : ∀ b o, h.get? b = some o → (∀ vs, o.data ≠ .fields vs) → ∃ o', h'.get? b = some o' ∧ ∀ vs, o'.data ≠ .fields vs) : ∀ {l : List Env}, h.FunFrames base l → h'.FunFrames base l
  | [], _ => trivial
  | env :: rest, ⟨hk, ⟨L, o, hf, hn, ho, hd⟩, hr⟩ => let ⟨o', ho', hd'⟩ := k L o ho hd; ⟨hk, ⟨L, o', hf, hn, ho', hd'⟩, frames_same k hr⟩
theorem XS.store {base h h' : Heap} {l : List Env} {e L : Addr} {c2 : Value} {fl : Option Value} {m : Str → Option Value} (X : XS base l e c2 fl h) (hn : h'.Ns L m) (hn0 : h.Ns L m0) (hb : base.get? L = none) (hs : Heap.SameBut L h h') : XS base l e c2 fl h' := by
  obtain ⟨hkb, hen, hl, oe, vs, he, hc, hd, hsz, h2, hx⟩ := X
  obtain ⟨oL, _, _, hoL, hdL, _⟩ := hn0
  have ne : ∀ {x : Addr} {o : Obj} {ws : Array Value}, h.get? x = some o → o.data = .fields ws → x ≠ L := fun hx hd z => by
    subst z; rw [hoL] at hx; cases hx; rw [hdL] at hd; cases hd
  refine ⟨fun b o e => (hs.2 b (fun z => by subst z; rw [hb] at e; cases e)).trans (hkb b o e), hen, frames_same (fun b o e hd => ?_) hl, oe, vs, (hs.2 e (ne he hd)).trans he, hc, hd, hsz, h2, ?_⟩
  · by_cases z : b = L
    · obtain ⟨o', _, _, ho', hd', _⟩ := hn
      exact ⟨o', z ▸ ho', fun vs q => by rw [hd'] at q; cases q⟩
    · exact ⟨o, (hs.2 b z).trans e, hd⟩
  · cases fl with
    | none => exact hx
    | some f =>
      obtain ⟨T, oT, ts, h1, hTb, hTe, hT, hdT, h3⟩ := hx
      exact ⟨T, oT, ts, h1, hTb, hTe, (hs.2 T (ne hT hdT)).trans hT, hdT, h3⟩
section
variable {prog : Program} {w : World} {A : Around} {E : Value → Shared → Prop} {s : Shared} {base : Heap} {env : Env} {outer : List Env} {L e : Addr}
/-- except KeyError as n: (a suite that raises) -/
theorem x_caught_as {fl : Option Value} {t : Expr} {n : Str} {b₀ : Stmt} {suite : List Stmt} {pos : Pos} {m : Str → Option Value} {Q : Flow → Shared → Prop} (hfr : A.frames = some (env :: outer)) (hf : env.frame = some L) (hloc : env.locals = L) (hout : ∀ b ∈ outer.filterMap (·.frame), b ≠ L) (X : XS base (env :: outer) e .none fl s.heap)
    (hl : env.kindOf n = some .local) (hp : (env.scope.kind == .class || (env.scope.kind == .module && env.locals != env.globals)) = false) (hn : s.heap.Ns L m)
    (ht : ∀ s₁, s.heap.UpToSlots s₁.heap → base.StaysIn s₁.heap → wpAny (model prog w) (A.mark (some (.ref e))) (eval t env) (fun c s₂ => c = .type "KeyError" ∧ s₂ = s₁) (fun _ _ => False) s₁)
    (hb : ∀ s₁, XS base (env :: outer) e .none (some .none) s₁.heap → s₁.heap.Ns L (fun y => if y = n then some (.ref e) else m y) → (∀ b ∈ outer.filterMap (·.frame), ∀ o, s.heap.get? b = some o → ∃ sl, s₁.heap.get? b = some { o with slots := sl }) → s₁.gens = s.gens → s₁.drawn = s.drawn → s₁.os = s.os →
      wpAny (model prog w) (A.mark (some (.ref e))) (execs (b₀ :: suite) env) (fun _ _ => False) (fun x s₂ => ∃ e2 c2, x = .ref e2 ∧ XS base (env :: outer) e2 c2 none s₂.heap ∧ (∃ m2, s₂.heap.Ns L m2) ∧ (∀ b ∈ outer.filterMap (·.frame), ∀ o, s.heap.get? b = some o → ∃ sl, s₂.heap.get? b = some { o with slots := sl }) ∧
        ∀ s₃ , XS base (env :: outer) e2 c2 (some (rawInt L)) s₃.heap → (∀ b ∈ outer.filterMap (·.frame), ∀ o, s.heap.get? b = some o → ∃ sl, s₃.heap.get? b = some { o with slots := sl }) → s₃.gens = s₂.gens → s₃.drawn = s₂.drawn → s₃.os = s₂.os → E (.ref e2) s₃) s₁) :
    wpAny (model prog w) A (noteFrame (.ref e) env) (fun _ s₂ => wpAny (model prog w) A (setFlight (.ref e) none) (fun _ s₃ => wpAny (model prog w) A (handleBy (.ref e) env [.ExceptHandler (some t) (some n) (b₀ :: suite) pos]) Q E s₃) E s₂) E s := by
  refine x_note hfr hf X fun h1 X1 u1 => ?_
  refine x_flight (s := { s with heap := h1 }) X1 fun h2 X2 u2 => ?_
  refine wpAny_handleBy_builtin_as (T := "KeyError") (X := "KeyError") (b := true) kr_isExc_KeyError kr_notTuple_KeyError (by rw [isSubtype_type]; kernel_rfl) ?_
  refine wpAny_mono (ht _ (u1.trans u2) X2.1) (fun c s₂ hc => ?_) fun _ _ z => z.elim
  obtain ⟨rfl, rfl⟩ := hc
  refine ⟨rfl, ?_, ?_⟩
  · obtain ⟨_, _, _, oe, vs, he, hce, _⟩ := X2
    exact ⟨oe, he, hce⟩
  rw [if_pos rfl]
  refine x_flight (s := { s with heap := h2 }) X2 fun h3 X3 u3 => ?_
  subst hloc
  have hbL : base.get? env.locals = none := by
    obtain ⟨_, ⟨L', _, hf', hb', _⟩, _⟩ := X3.2.2.1
    rw [hf] at hf'; cases hf'; exact hb'
  have up3 : s.heap.UpToSlots h3 := (u1.trans u2).trans u3
  have hn3 : h3.Ns env.locals m := up3.ns hn
  have hfn : ∀ b ∈ outer.filterMap (·.frame), b ≠ env.locals ∧ ∀ o, s.heap.get? b = some o → ∀ vs, o.data ≠ .fields vs := fun b hbm => ⟨hout b hbm, fun o e => by
    obtain ⟨_, o', e', r⟩ := X.2.2.1.mem (b := b) (by rw [List.filterMap_cons, hf]; exact .tail _ hbm)
    rw [e] at e'; cases e'; exact r⟩
  refine wpAny_storeName_local hl hn3 (fun h4 hn4 hs4 => ?_) hp
  have X4 := X3.store hn4 hn3 hbL hs4
  refine wpAny_mono (hb { s with heap := h4, toks := _ } X4 hn4 (fun b hbm o e => ?_) rfl rfl rfl) (fun _ _ z => z.elim) fun x s₂ hx => ?_
  · obtain ⟨sl, e'⟩ := up3 b o e ((hfn b hbm).2 o e)
    exact ⟨sl, (hs4.2 b (hfn b hbm).1).trans e'⟩
  obtain ⟨e2, c2, rfl, X5, ⟨m2, hn5⟩, up5, hE⟩ := hx
  refine x_note (A := A.mark (some (.ref e))) hfr hf X5 fun h6 X6 u6 => ?_
  refine wpAny_nameGoes hl (u6.ns hn5) hp fun h7 m7 hn7 hs7 => ?_
  have X7 := X6.store hn7 (u6.ns hn5) hbL hs7
  refine x_passOn hf X7 fun h8 X8 u8 => ?_
  unfold notedBy
  refine x_note (A := A.mark (some (.ref e))) hfr hf X8 fun h9 X9 u9 => ?_
  refine x_cameBack hf X9 fun h10 X10 u10 => hE _ X10 (fun b hbm o e => ?_) rfl rfl rfl
  obtain ⟨s5, e5⟩ := up5 b hbm o e
  have hnf := (hfn b hbm).2 o e
  obtain ⟨s6, e6⟩ := u6 b _ e5 hnf
  have e7 := (hs7.2 b (hfn b hbm).1).trans e6
  obtain ⟨s8, e8⟩ := ((u8.trans u9).trans u10) b _ e7 hnf
  exact ⟨s8, e8⟩
end
end
section
open PySem PySem.W PySem.Calls PySem.Spec PyProof.Rows
set_option Elab.async false
set_option maxRecDepth 100000
set_option maxHeartbeats 4000000
set_option linter.unusedVariables false
theorem fillGi2 : Reg PySem.Challenge.rw_bc0018_01 hd.heap_39 := by k_fill; trivial

/-- the frames of the callers, up to their slots -/
noncomputable def FrUp (l : List Env) (h h' : Heap) : Prop := ∀ b ∈ l.filterMap (·.frame), ∀ o, h.get? b = some o → ∃ sl, h'.get? b = some { o with slots := sl }
theorem newXS {base h h' : Heap} {l : List Env} {e : Addr} (x : Heap.NewExc h h' e "KeyError") (hb : base.StaysIn h) (hl : h.FunFrames base l) : XS base l e .none none h' := by
  obtain ⟨ob, t, he, hc, hd⟩ := x.there
  refine ⟨fun b o e => x.keeps b o (hb b o e), ?_, frames_same (fun b o e hd => ⟨o, x.keeps b o e, hd⟩) hl, ob, _, he, hc, hd, by simp, rfl, rfl⟩
  cases hz : base.get? e with
  | none => rfl
  | some o => have := hb e o hz; rw [x.new] at this; cases this
inductive GiI (s : Shared) (L : Addr) (text : Str) (t : Tok) (P : List Str → Option (Addr × Addr)) (levels : List Str) (its : Array Value) (i : Nat) (s' : Shared) : Prop
  | mk (m : Str → Option Value) (x d : Addr) (tk : Nat) (e0 : s' = { s with heap := s'.heap, toks := tk }) (q1 : Keeps s.heap s'.heap) (q2 : s'.heap.Ns L m) (q3 : m (Str.ofString "key") = some (.str text t)) (q4 : m (Str.ofString "node") = some (.ref x)) (q5 : P (levels.take i) = some (x, d)) (q6 : s'.heap.IsList (L + 1) its) : GiI s L text t P levels its i s'
section
variable {w : World} {A : Around} {s : Shared} {M root : Addr} {h₀ base : Heap} {mg mb : Str → Option Value} {p : Program} {loose : List Str} {mean : ExcName → Option Value} {P : List Str → Option (Addr × Addr)} {C : List Str → Value} {TA : List Addr} {B : Nat} {text : Str} {t : Tok} {R : Result → Shared → Prop} {levels : List Str} {outer : List Env}
theorem getitem_raw (X : Frag.In (hd.heap_39 w.params) h₀) (T : Top p loose mean mg mb h₀) (kk : Keeps h₀ s.heap) (hle : h₀.objs.size ≤ s.heap.objs.size) (hh : A.handled = none) (hroom : A.depth + 20 < recursionLimit)
    (hfr : A.frames = some outer) (hkb : base.StaysIn s.heap) (hbs : base.objs.size ≤ s.heap.objs.size) (hX : Frag.In (hd.heap_39 w.params) base) (hT : Top p loose mean mg mb base) (hfo : s.heap.FunFrames base outer)
    (I : MatAt s.heap M root) (Tr : Trie w s.heap root P C TA B) (hsp : Txt.split text (Str.ofString "/") = levels) (hz : text.length + 2 ≤ sizeLine)
    (h : C levels ≠ .none → ∀ h' tk, Keeps s.heap h' → R (.ok (.ret (C levels))) { s with heap := h', toks := tk })
    (hE : C levels = .none → ∀ h' tk e c2, XS base outer e c2 (some .none) h' → FrUp outer s.heap h' → R (.error (.ref e)) { s with heap := h', toks := tk }) :
    codeAny (model PP w) A (.call (.ref 65) ⟨[.ref M, .str text t], []⟩) R s := by
  tb_start
  case k8 => exact lim0 hroom
  intro h₁ hns hk hsz
  generalize hL : s.heap.objs.size = L at *
  have nS : ∀ {b o}, s.heap.get? b = some o → b ≠ L := fun e => Nat.ne_of_lt (hL ▸ Heap.lt_size e)
  show wpAny _ _ (execs [.Try [nthS (tryB (nthS giL.1 0)) 0, .For (.Name (Str.ofString "sym") ⟨23, 16, 23, 19⟩) (iterS (nthS (tryB (nthS giL.1 0)) 1)) [nthS (bodyS (nthS (tryB (nthS giL.1 0)) 1)) 0] [] ⟨23, 12, 24, 42⟩]
    [.ExceptHandler (some (.Name (Str.ofString "KeyError") ⟨25, 15, 25, 23⟩)) (some (Str.ofString "err")) [.Raise (some (excE (nthS (tryH (nthS giL.1 0)) 0))) (some (.Name (Str.ofString "err") ⟨26, 37, 26, 40⟩)) ⟨26, 12, 26, 40⟩] ⟨25, 8, 26, 40⟩]
    [.If (testS (nthS (tryO (nthS giL.1 0)) 0)) [.Raise (some (excE (nthS (bodyS (nthS (tryO (nthS giL.1 0)) 0)) 0))) none ⟨29, 16, 29, 35⟩] [] ⟨28, 12, 29, 35⟩, nthS (tryO (nthS giL.1 0)) 1] [] ⟨21, 8, 30, 32⟩] (genv L (.ref 64))) _ _ _
  have hbL : base.get? L = none := by
    cases hz : base.get? L with
    | none => rfl
    | some o => exact absurd rfl (nS (hkb L o hz))
  have hfr2 : (A.deeper (genv L (.ref 64))).frames = some (genv L (.ref 64) :: outer) := Around.frames_deeper hfr
  have F1 : Fr h₀ L h₁ _ := ⟨hns, kk.trans hk, hle⟩
  refine wpAny_execs_cons (wpAny_Try_except (gen_post fun Q₀ E₀ hQ₀ hE₀ => ?_))
  refine wpAny_execs_cons (gi_first F1 X T rfl (I.keeps hk) fun h2 tk2 hn2 hs2 => ?_)
  have k2 : Keeps s.heap h2 := fun b o e => (hs2.2 b (nS e)).trans (hk _ _ e)
  have F2 : Fr h₀ L h2 _ := ⟨hn2, kk.trans k2, hle⟩
  have sz2 : h2.objs.size = L + 1 := hs2.1.trans hsz
  refine wpAny_execs_cons (wpAny_For (gi_iter (s := { s with heap := h2, toks := tk2 }) F2 X T rfl hz fun l' tk3 hl' => ?_))
  have hls : (h2.push (strList l')).IsList h2.objs.size (strValues l').toArray := ⟨_, Heap.get?_push_size _ rfl, rfl, 0, rfl⟩
  dsimp only
  refine wpAny_pyIter_list hls ?_
  dsimp only
  rw [Heap.size_push, sz2]
  rw [sz2] at hls
  generalize hh3 : (h2.push (strList l')).push { cls := .type "list_iterator", data := .fields #[.ref (L + 1), .int 0 0] } = h3
  have k3 : Keeps h2 h3 := fun b o e => by rw [← hh3]; exact Heap.get?_push_of_some _ (Heap.get?_push_of_some _ e)
  have hls3 : h3.IsList (L + 1) (strValues l').toArray := by rw [← hh3]; exact hls.push _
  have hit3 : h3.IsListIter (L + 1 + 1) (L + 1) 0 := by
    rw [← hh3, ← sz2, ← Heap.size_push (h := h2) (strList l')]
    exact ⟨_, Heap.get?_push_size _ rfl, rfl, rfl⟩
  have hlen : (strValues l').toArray.size = levels.length := by
    have := congrArg List.length (hl'.trans hsp)
    simpa [strValues] using this
  obtain ⟨d0, hd0⟩ := Tr.rt
  have hhD : (A.deeper (genv L (.ref 64))).handled = none := hh
  refine for_list (l := L + 1) (it := L + 1 + 1) (items := (strValues l').toArray) hhD (GiI s L text t P levels (strValues l').toArray) ?_ ?_ ?_ ?_ ?_ hit3
  · rintro i s' h' ⟨m, x, d, tk, e0, q1, q2, q3, q4, q5, q6⟩ hx
    exact ⟨m, x, d, tk, by rw [e0], fun b o e => hx b o (Nat.ne_of_lt (Nat.lt_succ_of_lt (Nat.lt_succ_of_lt (hL ▸ Heap.lt_size e)))) (q1 b o e), q2.extBut hx (Nat.ne_of_lt (Nat.lt_succ_of_lt (Nat.lt_succ_self _))), q3, q4, q5, q6.extBut hx (Nat.ne_of_lt (Nat.lt_succ_self _))⟩
  · rintro i s' ⟨m, x, d, tk, e0, q1, q2, q3, q4, q5, q6⟩
    exact q6
  · rintro i v' s' hx ⟨m, x, d, tk, e0, q1, q2, q3, q4, q5, q6⟩ hit
    obtain ⟨k, tkk, rfl, hkk⟩ := strValues_at hx
    rw [hl', hsp] at hkk
    have hi : i < levels.length := (List.getElem?_eq_some_iff.mp hkk).1
    have htake : levels.take (i + 1) = levels.take i ++ [k] := by rw [List.take_add_one, hkk]; rfl
    refine wpAny_storeName_local rfl q2 (fun h4 hn4 hs4 => ?_) rfl
    have k4 : Keeps s.heap h4 := fun b o e => (hs4.2 b (nS e)).trans (q1 b o e)
    have F4 : Fr h₀ L h4 _ := ⟨hn4, kk.trans k4, hle⟩
    have Tr4 : Trie w h4 root P C TA B := Tr.keep fun a _ o e => k4 _ _ e
    obtain ⟨_, _, lo, _, kvs, hkv, _, hv⟩ := Tr4.node _ x d q5
    refine wpAny_execs_cons (gi_turn (k := k) (t := tkk) (s := { s' with heap := h4, toks := s'.toks + 1 }) F4 X T hhD ((if_neg (by decide)).trans q4) (if_pos rfl) (Tr4.nodeAt q5) lo hkv.mapOf (fun h5 tk5 v hv5 hn5 hs5 => ?_) fun hv5 h5 e tk5 hx5 => ?_)
    · have hvk := hv k
      rw [hv5] at hvk
      cases hP2 : P (levels.take i ++ [k]) with
      | none => rw [hP2] at hvk; cases hvk
      | some y =>
        obtain ⟨x2, d2⟩ := y
        rw [hP2] at hvk; cases hvk
        obtain ⟨oi, hoi, ri⟩ := hit
        obtain ⟨ol, hol, rl⟩ := q6
        have hitL : L + 1 + 1 ≠ L := Nat.ne_of_gt (Nat.lt_succ_of_lt (Nat.lt_succ_self _))
        have hlL : L + 1 ≠ L := Nat.ne_of_gt (Nat.lt_succ_self _)
        refine wpAny_execs_nil ⟨rfl, ⟨_, x2, d2, tk5, by rw [e0], fun b o e => (hs5.2 b (nS e)).trans (k4 _ _ e), hn5, (if_neg (by decide)).trans ((if_neg (by decide)).trans q3), if_pos rfl, by rw [htake]; exact hP2, ⟨ol, (hs5.2 _ hlL).trans ((hs4.2 _ hlL).trans hol), rl⟩⟩, ⟨oi, (hs5.2 _ hitL).trans ((hs4.2 _ hitL).trans hoi), ri⟩⟩
    · have hC : C levels = .none := by
        have hvk := hv k
        rw [hv5] at hvk
        have hP2 : P (levels.take (i + 1)) = none := by
          rw [htake]
          cases hP2 : P (levels.take i ++ [k]) with
          | none => rfl
          | some y => rw [hP2] at hvk; cases hvk
        have := (none_below Tr.closed Tr.dom hP2 (levels.drop (i + 1))).2
        rwa [List.take_append_drop] at this
      have hfo4 : h4.FunFrames base (genv L (.ref 64) :: outer) := Heap.FunFrames.cons (show ScopeKind.function ≠ .module by decide) rfl hn4 hbL (frames_same (fun b o e hd => ⟨o, k4 _ _ e, hd⟩) hfo)
      have X5 := newXS hx5 (fun b o e => k4 _ _ (hkb b o e)) hfo4
      refine x_body_err (s := { s' with heap := h5, toks := tk5 }) hfr2 rfl X5 fun h6 X6 u6 => hE₀ _ _ ?_
      have hn5 := hn4.keeps hx5.keeps
      have hout : ∀ b ∈ outer.filterMap (·.frame), b ≠ L := fun b hb => let ⟨_, o, e, _⟩ := hfo.mem hb; nS e
      have up6 : ∀ b o, s.heap.get? b = some o → (∀ vs, o.data ≠ .fields vs) → ∃ sl, h6.get? b = some { o with slots := sl } := fun b o e hd => u6 b o (hx5.keeps _ _ (k4 _ _ e)) hd
      refine x_caught_as (s := { s' with heap := h6, toks := tk5 }) (L := L) hfr2 rfl rfl hout X6 rfl rfl (u6.ns hn5) (fun s₁ us1 st1 => ?_) fun s₁ X7 hn7 up7 g7 d7 o7 => ?_
      · have Fb : Fr base L s₁.heap _ := ⟨us1.ns (u6.ns hn5), st1, hbs⟩
        refine name_B Fb hX (topRead_of hT) ?_ PyProof.Rows.Boot.«KeyError» (by decide) ⟨rfl, rfl⟩
        k_is
      · have Fb : Fr base L s₁.heap _ := ⟨hn7, X7.1, hbs⟩
        refine wpAny_execs_cons (x_raiseFrom (e1 := e) mark_handled (gi_exc1 Fb hX hT ((if_neg (by decide)).trans ((if_neg (by decide)).trans q3)) fun h8 e2 hx8 => ⟨e2, rfl, gi_err (s := { s₁ with heap := h8 }) ⟨hn7.keeps hx8.keeps, fun b o e => hx8.keeps _ _ (X7.1 b o e), hbs⟩ hX hT (if_pos rfl) ⟨rfl, ?_, ?_, ?_, fun h9 ob9 t9 hs9 he9 hc9 hd9 => ?_⟩⟩))
        · obtain ⟨_, _, _, oe, vs, he, _⟩ := X7
          intro z; subst z; rw [hx8.new] at he; cases he
        · obtain ⟨ob, t, a, b, c⟩ := hx8.there
          exact ⟨ob, t, a, b, c⟩
        · obtain ⟨_, _, _, oe, vs, he, hc, hd, _, h2, _⟩ := X7
          exact ⟨oe, vs, hx8.keeps _ _ he, hc, hd, h2⟩
        · have X8 := newXS hx8 X7.1 X7.2.2.1
          have hLe : L ≠ e2 := fun z => by
            have := hn7.lt
            obtain ⟨oL, _, _, hoL, _⟩ := hn7
            rw [z, hx8.new] at hoL; cases hoL
          obtain ⟨ob8, t8, he8, _, hd8⟩ := hx8.there
          refine ⟨e2, .ref e, rfl, ⟨fun b o eb => (hs9.2 b (fun z => by rw [z, X8.2.1] at eb; cases eb)).trans (X8.1 b o eb), X8.2.1, frames_same (fun b o eb hd => ⟨o, (hs9.2 b (fun z => by subst z; dsimp only at eb; rw [he8] at eb; cases eb; exact hd _ hd8)).trans eb, hd⟩) X8.2.2.1, ob9, _, he9, hc9, hd9, by simp, rfl, rfl⟩, ⟨_, (hn7.keeps hx8.keeps).sameBut hs9 hLe⟩, fun b hbm o eb => ?_, fun s₃ X10 up10 g10 d10 o10 => ?_⟩
          · obtain ⟨sl, e1⟩ := up7 b hbm o eb
            exact ⟨sl, (hs9.2 b (fun z => by rw [z, hx8.new] at e1; cases e1)).trans (hx8.keeps _ _ e1)⟩
          · refine x_leaving (s := s₃) hfr2 rfl X10 fun h11 X11 u11 => ?_
            have := hE hC h11 s₃.toks e2 _ X11 fun b hbm o eb => by
              obtain ⟨_, o', eb', hd'⟩ := hfo.mem hbm
              rw [eb] at eb'; cases eb'
              obtain ⟨s6, e6⟩ := up6 b o eb hd'
              obtain ⟨s7, e7⟩ := up10 b hbm _ e6
              obtain ⟨s8, e8⟩ := u11 b _ e7 hd'
              exact ⟨s8, e8⟩
            rw [g10, d10, o10]
            dsimp only
            rw [g7, d7, o7, e0]
            exact this
  · rintro s' ⟨m, x, d, tk, e0, q1, q2, q3, q4, q5, q6⟩
    rw [hlen, List.take_length] at q5
    have F4 : Fr h₀ L s'.heap m := ⟨q2, kk.trans q1, hle⟩
    have Tr4 : Trie w s'.heap root P C TA B := Tr.keep fun a _ o e => q1 _ _ e
    refine wpAny_execs_nil (hQ₀ _ _ ?_)
    refine (wpAny_execs_cons (wpAny_If (gi_none F4 X T q4 (Tr4.nodeAt q5) (Tr.vals _) fun tk5 => ?_)))
    by_cases hc : C levels = .none
    · rw [if_pos (by rw [hc]; rfl)]
      refine wpAny_execs_cons (Raise_new hhD (exc_expr (s := { s' with toks := tk5 }) F4 X T q3 fun h8 e2 hx8 => raisable_of_new excClass_KeyError hx8 ?_))
      have hfo4 : s'.heap.FunFrames base (genv L (.ref 64) :: outer) := Heap.FunFrames.cons (show ScopeKind.function ≠ .module by decide) rfl q2 hbL (frames_same (fun b o e hd => ⟨o, q1 _ _ e, hd⟩) hfo)
      refine x_leaving (s := { s' with heap := h8, toks := tk5 }) hfr2 rfl (newXS hx8 (fun b o e => q1 _ _ (hkb b o e)) hfo4) fun h11 X11 u11 => ?_
      have := hE hc h11 tk5 e2 _ X11 fun b hbm o eb => by
        obtain ⟨_, o', eb', hd'⟩ := hfo.mem hbm
        rw [eb] at eb'; cases eb'
        exact u11 b o (hx8.keeps _ _ (q1 _ _ eb)) hd'
      rw [e0]
      exact this
    · rw [if_neg (by simpa using hc)]
      refine wpAny_execs_nil (wpAny_execs_cons (gi_ret (s := { s' with toks := tk5 }) F4 X T q4 (Tr4.nodeAt q5) fun tk6 => ?_))
      have := h hc s'.heap tk6 q1
      rw [e0]
      exact this
  · exact ⟨_, root, d0, tk3, rfl, fun b o e => k3 _ _ (k2 _ _ e), hn2.keeps k3, rfl, rfl, hd0, hls3⟩
end
end
section
open PySem PySem.W PySem.Calls PySem.Spec PyProof.Rows
set_option Elab.async false
set_option maxRecDepth 100000
set_option maxHeartbeats 4000000
set_option linter.unusedVariables false
theorem fillDe : Reg PySem.Challenge.rw_bc0018_01 hd.heap_39 := by k_fill; trivial
noncomputable def deS : Stmt := nthS (bodyS clsS) 4
noncomputable def deL : { l : List Stmt // bodyS deS = l } := ⟨_, by
  dsimp only [deS, clsS, PySem.Challenge.pw_bc0018_01, nthS, bodyS]⟩
noncomputable def deSc : { l : Scope // scopeS deS = l } := ⟨_, by
  dsimp only [deS, clsS, PySem.Challenge.pw_bc0018_01, nthS, bodyS, scopeS]⟩
noncomputable abbrev deQ : Str := Str.ofString "MQTTMatcher.__delitem__"
noncomputable abbrev denv (L : Addr) (ccd : Value) : Env := envX deQ deSc.1 L 72 ccd []

local macro_rules | `(tactic| walk_at "newTuple") => `(tactic| (k_here; k_dflt (refine' wpAny_newTuple ?_)))
section
variable {prog : Program} {w : World} {A : Around} {E : Value → Shared → Prop} {s : Shared} {env : Env} {L : Addr} {m : Str → Option Value}
theorem unpack_names {n : Nat} {t : Addr} {items : Array Value} {Q : List Value → Shared → Prop} (hh : A.handled = none) (ht : s.heap.IsTuple t items) (hn : n = items.size)
    (hQ : ∀ h', Heap.ExtBut s.heap.objs.size s.heap h' → Q items.toList { s with heap := h' }) : wpAny (model prog w) A (unpackItems (.ref t) n none) Q E s := by
  subst hn
  exact wpAny_unpackItems_tuple hh ht hQ
theorem bind_two {a b : Str} {u v : Value} {Q : Unit → Shared → Prop} (hn : s.heap.Ns env.locals m) (ha : env.kindOf a = some .local) (hb : env.kindOf b = some .local) (hp : (env.scope.kind == .class || (env.scope.kind == .module && env.locals != env.globals)) = false)
    (h : ∀ h' tk, h'.Ns env.locals (fun y => if y = b then some v else if y = a then some u else m y) → Heap.SameBut env.locals s.heap h' → Q () { s with heap := h', toks := tk }) :
    wpAny (model prog w) A (assignInOrder [bindName env a, bindName env b] [u, v]) Q E s := by
  unfold assignInOrder
  refine wpAny_bind (wpAny_holding (wpAny_bindName (wpAny_storeName_local ha hn (fun h1 hn1 hs1 => ?_) hp)))
  unfold assignInOrder
  refine wpAny_bind (wpAny_holding (wpAny_bindName (wpAny_storeName_local hb hn1 (fun h2 hn2 hs2 => ?_) hp)))
  exact wpAny_pure (h _ _ hn2 (hs1.trans hs2))
end
section
variable {w : World} {A : Around} {E : Value → Shared → Prop} {s : Shared} {M root L x d : Addr} {h₀ : Heap} {m mg mb : Str → Option Value} {p : Program} {loose : List Str} {mean : ExcName → Option Value} {ccd v vc : Value} {k text : Str} {t : Tok} {f : Str → Option Value}
theorem de_first (F : Fr h₀ L s.heap m) (X : Frag.In (hd.heap_39 w.params) h₀) (T : Top p loose mean mg mb h₀) (hh : A.handled = none) (hself : m (Str.ofString "self") = some (.ref M)) (I : MatAt s.heap M root)
    {Q : Flow → Shared → Prop} (h : ∀ h' tk, h'.Ns L (fun y => if y = Str.ofString "parent" then some .none else if y = Str.ofString "node" then some (.ref root) else m y) → Heap.ExtBut L s.heap h' → Q .next { s with heap := h', toks := tk }) :
    wpAny (model PP w) A (exec (nthS (tryB (nthS deL.1 1)) 0) (denv L ccd)) Q E s := by
  unfold denv deL deSc
  dsimp only [nthS, bodyS, tryB]
  have N : News h₀ L s.heap [] := .nil
  k_steps
  refine unpack_names (items := #[.none, .ref root]) hh ⟨_, Heap.get?_push_size _ rfl, rfl, _, rfl⟩ rfl fun h1 hx1 => ?_
  dsimp only at hx1 ⊢
  rw [Heap.size_push] at hx1
  have nb : ∀ {b o}, s.heap.get? b = some o → b ≠ s.heap.objs.size + 1 := fun e => Nat.ne_of_lt (Nat.lt_succ_of_lt (Heap.lt_size e))
  have hns1 := (F.ns.push (o := { cls := .type "tuple", data := .seq [Value.none, .ref root].toArray })).extBut hx1 (Nat.ne_of_lt (Nat.lt_succ_of_lt F.ns.lt))
  refine bind_two (m := m) hns1 rfl rfl rfl fun h2 tk2 hn2 hs2 => h _ _ hn2 fun b o hb e => (hs2.2 b hb).trans (hx1 b o (nb e) (Heap.get?_push_of_some _ e))
end
end
section
open PySem PySem.W PySem.Calls PySem.Spec PyProof.Rows
set_option Elab.async false
set_option maxRecDepth 100000
set_option maxHeartbeats 4000000
set_option linter.unusedVariables false
theorem fillDe2 : Reg PySem.Challenge.rw_bc0018_01 hd.heap_39 := by k_fill; trivial
section
variable {w : World} {A : Around} {E : Value → Shared → Prop} {s : Shared} {d : Addr} {kvs : List (Str × Value)} {k : Str} {t : Tok}
theorem delItem_raw {Q : Unit → Shared → Prop} (hD : s.heap.DictOf (SK w) d kvs) (hl : kvs.length ≤ 1000) (hk : (valueAt kvs k).isSome = true)
    (h : ∀ h', h'.DictOf (SK w) d (without kvs k) → Heap.SameBut d s.heap h' → Q () { s with heap := h', toks := s.toks + 1 }) : wpAny (model PP w) A (delItem (.ref d) (.str k t)) Q E s := by
  unfold delItem
  try with_reducible refine wpAny_holding ?_
  refine wpAny_bind (wpAny_sequenceKey hD.typeIs (by decide) ?_)
  exact wpAny_bind (wpAny_callSpecial?_slot (name := Str.ofString "__delitem__") hD.typeIs PySem.F.slot_dict_delitem
    (call_meetsIn PySem.F.slot_dict_delitem hD.typeIs PySem.F.entry_dict_delitem (PySem.F.args_dict_delitem_2 _ _) (meets_dict_delitem_pairs (SK w) d (strKind_is PP w k t)) ⟨kvs, hD, Nat.le_trans hl (by decide), hk, fun h' hmm hs => wpAny_pure (h h' hmm hs)⟩))
theorem truthy_raw {Q : Bool → Shared → Prop} (hD : s.heap.DictOf (SK w) d kvs) (hl : kvs.length ≤ 1000) (lo : (d == sysModules) = false)
    (h : Q (!kvs.isEmpty) { s with toks := s.toks + 1 + 1 }) : wpAny (model PP w) A (truthy (.ref d)) Q E s :=
  wpAny_truthy_dict lo hD (by omega) h
end

local macro_rules | `(tactic| walk_at "newTuple") => `(tactic| (k_here; k_dflt (refine' wpAny_newTuple ?_)))
local macro_rules | `(tactic| walk_at "newList") => `(tactic| (k_here; k_dflt (refine' wpAny_newList ?_)))
local macro_rules | `(tactic| walk_at "getMethod ref") => `(tactic| (k_here; k_dflt (
  (with_reducible show wpAny _ _ (getMethod _ (PySem.Str.ofString "append") _) _ _ _); refine' append_method (by assumption) ?_)))
local macro_rules | `(tactic| walk_at "call builtin:list.append") => `(tactic| (k_here; k_dflt (refine' list_append_plainL (by first | assumption | exact PlainL.keeps (by assumption) (fun _ _ e => Heap.get?_push_of_some _ e)) ?_ (by assumption); intro h' hl' hs')))
local macro_rules | `(tactic| walk_at "call builtin:str.split") => `(tactic| (k_here; k_dflt (refine' split_raw (by decide) ?_ (by assumption); intro l' k' hl')))
local macro_rules | `(tactic| walk_at "subscriptTail") => `(tactic| (k_here; (with_reducible show wpAny _ _ (subscriptTail _ _ (Value.ref _) (Value.str _ _)) _ _ _); k_dflt (first | (refine' item_map (by assumption) (by with_reducible assumption) ?_) | (refine' item_map_miss (by assumption) (by assumption) (by assumption) (by with_reducible assumption) ?_))))
local macro_rules | `(tactic| walk_at "setAttr ref") => `(tactic| (k_here; k_dflt ((with_reducible show wpAny _ _ (setAttr _ (PySem.Str.ofString "_content") _) _ _ _); refine' set_content (by exact Frag.In.keeps (by k_asm) (Fr.keep (by k_asm))) (by assumption) ?_)))
local macro_rules | `(tactic| walk_at "call type:reversed") => `(tactic| (k_here; k_dflt (refine' call_reversed_list (by assumption) ?_)))
local macro_rules | `(tactic| walk_at "truthy ref") => `(tactic| (k_here; k_dflt (refine' truthy_raw (by assumption) (by assumption) (by assumption) ?_)))
local macro_rules | `(tactic| walk_at "delItem ref str") => `(tactic| (k_here; k_dflt (refine' delItem_raw (by assumption) (by assumption) (by assumption) ?_; intro h' hd' hs')))
section
variable {w : World} {A : Around} {E : Value → Shared → Prop} {s : Shared} {M root L x d dd a lst : Addr} {od : Obj} {h₀ : Heap} {m mg mb : Str → Option Value} {p : Program} {loose : List Str} {mean : ExcName → Option Value} {ccd v vc pv : Value} {k text : Str} {t : Tok} {f : Str → Option Value} {its : Array Value} {kvs : List (Str × Value)}
theorem de_lst (F : Fr h₀ L s.heap m) (X : Frag.In (hd.heap_39 w.params) h₀) (T : Top p loose mean mg mb h₀)
    {Q : Flow → Shared → Prop} (h : ∀ h' tk, h'.Ns L (fun y => if y = Str.ofString "lst" then some (.ref s.heap.objs.size) else m y) → PlainL h' s.heap.objs.size #[] → Heap.ExtBut L s.heap h' → h'.objs.size = s.heap.objs.size + 1 → Q .next { s with heap := h', toks := tk }) :
    wpAny (model PP w) A (exec (nthS deL.1 0) (denv L ccd)) Q E s := by
  unfold denv deL deSc
  dsimp only [nthS, bodyS]
  have N : News h₀ L s.heap [] := .nil
  have hns := F.ns
  k_steps
  refine wpAny_storeName_local rfl (hns.push _) (fun h' hn' hs' => ?_) rfl
  exact h h' _ hn' ⟨_, _, (hs'.2 _ (Nat.ne_of_gt F.ns.lt)).trans (Heap.get?_push_size _ rfl), rfl, rfl, rfl⟩ (fun b o hb e => (hs'.2 b hb).trans (Heap.get?_push_of_some _ e)) (hs'.1.trans (Heap.size_push ..))
theorem de_iter (F : Fr h₀ L s.heap m) (X : Frag.In (hd.heap_39 w.params) h₀) (T : Top p loose mean mg mb h₀) (hkey : m (Str.ofString "key") = some (.str text t)) (hz : text.length + 2 ≤ sizeLine)
    {Q : Value → Shared → Prop} (h : ∀ l' tk, l'.map (·.1) = Txt.split text (Str.ofString "/") → Q (.ref s.heap.objs.size) { s with heap := s.heap.push (strList l'), toks := tk }) :
    wpAny (model PP w) A (eval (iterS (nthS (tryB (nthS deL.1 1)) 1)) (denv L ccd)) Q E s := by
  unfold denv deL deSc
  dsimp only [nthS, bodyS, tryB, iterS]
  have N : News h₀ L s.heap [] := .nil
  k_steps
  exact h _ _ (by assumption)
theorem de_turn (F : Fr h₀ L s.heap m) (X : Frag.In (hd.heap_39 w.params) h₀) (T : Top p loose mean mg mb h₀) (hh : A.handled = none) (hnode : m (Str.ofString "node") = some (.ref x)) (hsym : m (Str.ofString "k") = some (.str k t)) (I : NodeAt s.heap x vc (.ref d)) (hd : (d == sysModules) = false) (hm : s.heap.MapOf (SK w) d f)
    {Q : Flow → Shared → Prop} (h1 : ∀ h' tk v, f k = some v → h'.Ns L (fun y => if y = Str.ofString "parent" then some (.ref x) else if y = Str.ofString "node" then some v else m y) → Heap.ExtBut L s.heap h' → Q .next { s with heap := h', toks := tk })
    (h2 : f k = none → ∀ h' e tk, Heap.NewExc s.heap h' e "KeyError" → E (.ref e) { s with heap := h', toks := tk }) :
    wpAny (model PP w) A (exec (nthS (bodyS (nthS (tryB (nthS deL.1 1)) 1)) 0) (denv L ccd)) Q E s := by
  unfold denv deL deSc
  dsimp only [nthS, bodyS, tryB]
  have N : News h₀ L s.heap [] := .nil
  cases hf : f k with
  | some v =>
    k_steps
    refine unpack_names (items := #[.ref x, v]) hh ⟨_, Heap.get?_push_size _ rfl, rfl, _, rfl⟩ rfl fun h1' hx1 => ?_
    dsimp only at hx1 ⊢
    rw [Heap.size_push] at hx1
    have nb : ∀ {b o}, s.heap.get? b = some o → b ≠ s.heap.objs.size + 1 := fun e => Nat.ne_of_lt (Nat.lt_succ_of_lt (Heap.lt_size e))
    have hns1 := (F.ns.push (o := { cls := .type "tuple", data := .seq [Value.ref x, v].toArray })).extBut hx1 (Nat.ne_of_lt (Nat.lt_succ_of_lt F.ns.lt))
    refine bind_two (m := m) hns1 rfl rfl rfl fun h2 tk2 hn2 hs2 => h1 _ _ v hf hn2 fun b o hb e => (hs2.2 b hb).trans (hx1 b o (nb e) (Heap.get?_push_of_some _ e))
  | none =>
    k_steps
    exact h2 hf _ _ _ (by assumption)
theorem de_app (F : Fr h₀ L s.heap m) (X : Frag.In (hd.heap_39 w.params) h₀) (T : Top p loose mean mg mb h₀) (hlst : m (Str.ofString "lst") = some (.ref lst)) (hpar : m (Str.ofString "parent") = some pv) (hk : m (Str.ofString "k") = some (.str k t)) (hnode : m (Str.ofString "node") = some v) (hl : PlainL s.heap lst its) (hsz : its.size ≤ sizeLine)
    {Q : Flow → Shared → Prop} (h : ∀ h' tk u, PlainL h' lst (its.push (.ref u)) → h'.IsTuple u #[pv, .str k t, v] → s.heap.get? u = none → Heap.ExtBut lst s.heap h' → Q .next { s with heap := h', toks := tk }) :
    wpAny (model PP w) A (exec (nthS (bodyS (nthS (tryB (nthS deL.1 1)) 1)) 1) (denv L ccd)) Q E s := by
  unfold denv deL deSc
  dsimp only [nthS, bodyS, tryB]
  have N : News h₀ L s.heap [] := .nil
  k_steps
  rename_i h' hl' hs'
  have hlt := hl.lt
  refine h h' _ s.heap.objs.size hl' ⟨_, (hs'.2 _ (Nat.ne_of_gt hlt)).trans (Heap.get?_push_size _ rfl), rfl, 0, rfl⟩ (Heap.StaysIn.fresh (base := s.heap) fun _ _ e => e) fun b o hb e => (hs'.2 b hb).trans (Heap.get?_push_of_some _ e)
theorem de_none (F : Fr h₀ L s.heap m) (X : Frag.In (hd.heap_39 w.params) h₀) (T : Top p loose mean mg mb h₀) (hnode : m (Str.ofString "node") = some (.ref x)) (I : NodeAt s.heap x v (.ref d)) (hv : v = .none ∨ ∃ k t, v = .int k t)
    {Q : Bool → Shared → Prop} (h : ∀ tk, Q (v == .none) { s with toks := tk }) :
    wpAny (model PP w) A (isTrue (testS (nthS (tryO (nthS deL.1 1)) 0)) (denv L ccd) (eval (testS (nthS (tryO (nthS deL.1 1)) 0)) (denv L ccd))) Q E s := by
  unfold denv deL deSc
  dsimp only [nthS, bodyS, tryO, testS]
  have N : News h₀ L s.heap [] := .nil
  rcases hv with rfl | ⟨k, t', rfl⟩
  · k_steps
    exact h _
  · k_steps
    exact h _
theorem de_clear (F : Fr h₀ L s.heap m) (X : Frag.In (hd.heap_39 w.params) h₀) (T : Top p loose mean mg mb h₀) (hnode : m (Str.ofString "node") = some (.ref x)) (I : InstAt s.heap x (nodeObj (.ref d) vc dd) 40 (some od))
    {Q : Flow → Shared → Prop} (h : ∀ tk, Q .next { s with heap := s.heap.update x (putSlot 1 .none), toks := tk }) :
    wpAny (model PP w) A (exec (nthS (tryO (nthS deL.1 1)) 1) (denv L ccd)) Q E s := by
  unfold denv deL deSc
  dsimp only [nthS, bodyS, tryO]
  have N : News h₀ L s.heap [] := .nil
  k_steps
  exact h _
theorem de_rev (F : Fr h₀ L s.heap m) (X : Frag.In (hd.heap_39 w.params) h₀) (T : Top p loose mean mg mb h₀) (hlst : m (Str.ofString "lst") = some (.ref lst)) (hl : s.heap.IsList lst its)
    {Q : Value → Shared → Prop} (h : ∀ tk, Q (.ref s.heap.objs.size) { s with heap := s.heap.push (revObj lst ((its.size : Int) - 1)), toks := tk }) :
    wpAny (model PP w) A (eval (iterS (nthS (tryO (nthS deL.1 1)) 2)) (denv L ccd)) Q E s := by
  unfold denv deL deSc
  dsimp only [nthS, bodyS, tryO, iterS]
  have N : News h₀ L s.heap [] := .nil
  k_steps
  exact h _
theorem de_test (F : Fr h₀ L s.heap m) (X : Frag.In (hd.heap_39 w.params) h₀) (T : Top p loose mean mg mb h₀) (hnode : m (Str.ofString "node") = some (.ref x)) (I : NodeAt s.heap x v (.ref d)) (hv : v = .none ∨ ∃ k t, v = .int k t) (hD : s.heap.DictOf (SK w) d kvs) (hkl : kvs.length ≤ 1000) (lo : (d == sysModules) = false)
    {Q : Bool → Shared → Prop} (h : ∀ tk b, b = (!kvs.isEmpty || v != .none) → Q b { s with toks := tk }) :
    wpAny (model PP w) A (isTrue (testS (nthS (bodyS (nthS (tryO (nthS deL.1 1)) 2)) 0)) (denv L ccd) (eval (testS (nthS (bodyS (nthS (tryO (nthS deL.1 1)) 2)) 0)) (denv L ccd))) Q E s := by
  unfold denv deL deSc
  dsimp only [nthS, bodyS, tryO, testS]
  have N : News h₀ L s.heap [] := .nil
  rcases hv with rfl | ⟨k, t', rfl⟩
  · k_steps
    all_goals refine h _ _ ?_
    all_goals simp_all
  · k_steps
    all_goals refine h _ _ ?_
    all_goals simp_all
theorem de_del (F : Fr h₀ L s.heap m) (X : Frag.In (hd.heap_39 w.params) h₀) (T : Top p loose mean mg mb h₀) (hpar : m (Str.ofString "parent") = some (.ref x)) (hk : m (Str.ofString "k") = some (.str k t)) (I : NodeAt s.heap x v (.ref d)) (hD : s.heap.DictOf (SK w) d kvs) (hkl : kvs.length ≤ 1000) (hin : (valueAt kvs k).isSome = true)
    {Q : Flow → Shared → Prop} (h : ∀ h' tk, h'.DictOf (SK w) d (without kvs k) → Heap.SameBut d s.heap h' → Q .next { s with heap := h', toks := tk }) :
    wpAny (model PP w) A (exec (nthS (bodyS (nthS (tryO (nthS deL.1 1)) 2)) 1) (denv L ccd)) Q E s := by
  unfold denv deL deSc
  dsimp only [nthS, bodyS, tryO]
  have N : News h₀ L s.heap [] := .nil
  k_steps
  exact h _ _ (by assumption) (by assumption)
end
end
section
open PySem PySem.W PySem.Calls PySem.Spec PyProof.Rows
set_option Elab.async false
set_option maxRecDepth 100000
set_option maxHeartbeats 4000000
set_option linter.unusedVariables false
theorem fillDe3 : Reg PySem.Challenge.rw_bc0018_01 hd.heap_39 := by k_fill; trivial
noncomputable def refs (us : List Addr) : List Value := us.map .ref
theorem refs_at {us : List Addr} {j : Nat} {v : Value} (h : (List.toArray (refs us))[j]? = some v) : ∃ u, us[j]? = some u ∧ v = .ref u := by
  rw [List.getElem?_toArray, refs, List.getElem?_map, Option.map_eq_some_iff] at h
  obtain ⟨u, a, b⟩ := h
  exact ⟨u, a, b.symm⟩

section
variable {prog : Program} {w : World} {A : Around} {E : Value → Shared → Prop} {s : Shared} {env : Env} {R : Result → Shared → Prop} {m : Str → Option Value}
theorem bind_three {a b c : Str} {pa pb pc : Pos} {u v z : Value} {Q : Unit → Shared → Prop} (hn : s.heap.Ns env.locals m) (ha : env.kindOf a = some .local) (hb : env.kindOf b = some .local) (hc : env.kindOf c = some .local) (hp : (env.scope.kind == .class || (env.scope.kind == .module && env.locals != env.globals)) = false)
    (h : ∀ h' tk, h'.Ns env.locals (fun y => if y = c then some z else if y = b then some v else if y = a then some u else m y) → Heap.SameBut env.locals s.heap h' → Q () { s with heap := h', toks := tk }) :
    wpAny (model prog w) A (assignInOrder [assign (.Name a pa) env, assign (.Name b pb) env, assign (.Name c pc) env] [u, v, z]) Q E s := by
  refine assignInOrder_cons (wpAny_assign_Name (wpAny_storeName_local ha hn (fun h1 hn1 hs1 => ?_) hp))
  refine assignInOrder_cons (wpAny_assign_Name (wpAny_storeName_local hb hn1 (fun h2 hn2 hs2 => ?_) hp))
  refine assignInOrder_cons (wpAny_assign_Name (wpAny_storeName_local hc hn2 (fun h3 hn3 hs3 => ?_) hp))
  exact assignInOrder_nil (h _ _ hn3 ((hs1.trans hs2).trans hs3))
theorem letOwned_rev {elts : List Expr} {x1} {pos : Pos} {I l T : Addr} {i : Int} {Q : Unit → Shared → Prop} (hit : s.heap.IsRevIter I l i) (hQ : Q () s) :
    wpAny (model prog w) A (letOwnedTupleGo (.Tuple elts x1 pos) (.ref I) (.ref T)) Q E s := by
  obtain ⟨o, ho, hc, hd⟩ := hit
  unfold letOwnedTupleGo
  refine wpAny_bind (wpAny_load ho ?_)
  rw [hc, hd]
  show wpAny _ A (if (["enumerate", "zip", "dict_itemiterator", "dict_reverseitemiterator", "odict_iterator", "itertools.zip_longest", "itertools.pairwise"].contains "list_reverseiterator" &&
      (#[.ref l, rawInt i] : Array Value)[0]? == some (rawInt T)) = true then _ else _) Q E s
  rw [if_neg (by
    intro h
    rw [show (["enumerate", "zip", "dict_itemiterator", "dict_reverseitemiterator", "odict_iterator", "itertools.zip_longest", "itertools.pairwise"].contains "list_reverseiterator") = false from by decide, Bool.false_and] at h
    cases h)]
  exact wpAny_pure hQ
/-- a for over reversed(list), the state in the raw; the body may break -/
theorem for_rev {elts : List Expr} {x1 : Nat} {pt : Pos} {body : List Stmt} {l it : Addr} {us : List Addr} (hh : A.handled = none) (I : Nat → Shared → Prop)
    (hI : ∀ i s h', I i s → Heap.ExtBut it s.heap h' → I i { s with heap := h' }) (hl : ∀ i s, I i s → s.heap.IsList l (List.toArray (refs us)))
    (turn : ∀ (i : Nat) v s, us[i]? = some v → I (i + 1) s → s.heap.IsRevIter it l ((i : Int) - 1) → wpAny (model prog w) A (assign (.Tuple elts x1 pt) env (.ref v)) (fun _ s₂ => wpAny (model prog w) A (execs body env) (fun f s₃ => (f = .next ∧ I i s₃ ∧ s₃.heap.IsRevIter it l ((i : Int) - 1)) ∨ (f = .brk ∧ R (.ok .next) s₃))
      (notedBy (model prog w) A env fun e s' => R (.error e) s') s₂) (notedBy (model prog w) A env fun e s' => R (.error e) s') s)
    (done : ∀ s, I 0 s → R (.ok .next) s) (h : I us.length s) (hit : s.heap.IsRevIter it l ((us.length : Int) - 1)) : codeAny (model prog w) A (.forLoop (.Tuple elts x1 pt) (.ref it) body [] env) R s := by
  refine codeAny_forLoop_any (fun n s => n ≤ us.length ∧ I n s ∧ s.heap.IsRevIter it l ((n : Int) - 1)) (fun n s hJ => ?_) us.length ⟨Nat.le_refl _, h, hit⟩
  obtain ⟨hi, hi0, hit⟩ := hJ
  cases n with
  | zero => exact wpAny_pyNext_rev_end hh hit fun h' hs => wpAny_execs_nil (done _ (hI _ s h' hi0 hs))
  | succ i =>
    have e1 : ((i + 1 : Nat) : Int) - 1 = (i : Int) := by omega
    rw [e1] at hit
    have hx : us[i]? = some us[i] := List.getElem?_eq_getElem (by omega)
    have hx' : (List.toArray (refs us))[i]? = some (.ref us[i]) := by rw [List.getElem?_toArray, refs, List.getElem?_map, hx]; rfl
    refine wpAny_pyNext_rev_item hit (hl _ s hi0) hx' fun h' hit' hs => letOwned_rev (s := { s with heap := h' }) hit' (wpAny_mono (turn i _ _ hx (hI _ s h' hi0 hs.extBut) hit') (fun _ s₂ h₂ => wpAny_mono h₂ (fun f s₃ h₃ => ?_) fun _ _ x => x) fun _ _ x => x)
    rcases h₃ with ⟨rfl, h₃, h₄⟩ | ⟨rfl, h₃⟩
    · exact ⟨i, Nat.lt_succ_self _, Nat.le_of_succ_le hi, h₃, h₄⟩
    · exact h₃
end

inductive ChainAt (h : Heap) (P : List Str → Option (Addr × Addr)) (levels : List Str) (j : Nat) (u : Addr) : Prop
  | mk (k : Str) (t : Tok) (x d x' d' : Addr) (h1 : levels[j]? = some k) (h2 : P (levels.take j) = some (x, d)) (h3 : P (levels.take (j + 1)) = some (x', d')) (h4 : h.IsTuple u #[.ref x, .str k t, .ref x']) : ChainAt h P levels j u
noncomputable def Chain (h : Heap) (P : List Str → Option (Addr × Addr)) (levels : List Str) (us : List Addr) : Prop :=
  ∀ j u, us[j]? = some u → ChainAt h P levels j u
theorem Chain.keep {h h' : Heap} {P : List Str → Option (Addr × Addr)} {levels : List Str} {us : List Addr} (x : Chain h P levels us) (k : ∀ u ∈ us, ∀ o, h.get? u = some o → h'.get? u = some o) : Chain h' P levels us := fun j u e => by
  obtain ⟨k', t, x1, d, x', d', a, b, c, o, ho, r⟩ := x j u e
  exact ⟨k', t, x1, d, x', d', a, b, c, o, k u (List.mem_of_getElem? e) _ ho, r⟩
section
variable {w : World} {A : Around} {E : Value → Shared → Prop} {s : Shared} {L : Addr} {h₀ : Heap} {m mg mb : Str → Option Value} {p : Program} {loose : List Str} {mean : ExcName → Option Value} {ccd : Value} {text : Str} {t : Tok}
theorem de_exc {p1 p2 p3 : Pos} (F : Fr h₀ L s.heap m) (X : Frag.In (hd.heap_39 w.params) h₀) (T : Top p loose mean mg mb h₀) (hkey : m (Str.ofString "key") = some (.str text t))
    {Q : Value → Shared → Prop} (h : ∀ h' e, Heap.NewExc s.heap h' e "KeyError" → Q (.ref e) { s with heap := h' }) :
    wpAny (model PP w) A (eval (.Call (.Name (Str.ofString "KeyError") p1) [.Name (Str.ofString "key") p2] [] p3) (denv L ccd)) Q E s := by
  unfold denv deSc
  refine Call_Name1 (name_B F X (topRead_of T) ?_ PyProof.Rows.Boot.«KeyError» (by decide) ?_) rfl
  · k_is
  exact PyProof.Rows.callWith_type rfl (evalArgs_plain (Calls.spliced_cons (nameX_L F hkey (Calls.spliced_nil (call_exc (rest := [.str text t]) excClass_KeyError h)) rfl rfl)))
theorem de_err {e1 : Addr} (F : Fr h₀ L s.heap m) (herr : m (Str.ofString "err") = some (.ref e1))
    {Q : Value → Shared → Prop} (h : Q (.ref e1) s) {pos : Pos} :
    wpAny (model PP w) A (eval (.Name (Str.ofString "err") pos) (denv L ccd)) Q E s := by
  unfold denv deSc
  exact nameX_L F herr h rfl rfl
end

inductive RlI (w : World) (s : Shared) (L it root : Addr) (P : List Str → Option (Addr × Addr)) (C' : List Str → Value) (TA : List Addr) (B : Nat) (levels : List Str) (us : List Addr) (r : Nat) (s' : Shared) : Prop
  | mk (hi : r ≤ us.length) (m : Str → Option Value) (P' : List Str → Option (Addr × Addr)) (tk : Nat) (e0 : s' = { s with heap := s'.heap, toks := tk }) (q1 : s'.heap.Ns L m) (q2 : Trie w s'.heap root P' C' TA B) (q3 : ∀ j, j ≤ r → P' (levels.take j) = P (levels.take j))
    (q4 : ∀ b o, b ∉ TA → b ≠ L → b ≠ it → s.heap.get? b = some o → s'.heap.get? b = some o) : RlI w s L it root P C' TA B levels us r s'
section
variable {w : World} {A : Around} {s : Shared} {root L it lst : Addr} {h₀ : Heap} {mg mb : Str → Option Value} {p : Program} {loose : List Str} {mean : ExcName → Option Value} {P : List Str → Option (Addr × Addr)} {C C' : List Str → Value} {TA : List Addr} {B : Nat} {R : Result → Shared → Prop} {levels : List Str} {us : List Addr} {ccd : Value}
/-- the clearing loop -/
theorem de_loop {p1 p2 p3 p4 p5 p6 : Pos} {x1 : Nat} {m0 : Str → Option Value} (X : Frag.In (hd.heap_39 w.params) h₀) (T : Top p loose mean mg mb h₀) (hh : A.handled = none)
    (kk : Keeps h₀ s.heap) (hle : h₀.objs.size ≤ L) (hk0 : ∀ b ∈ TA, h₀.get? b = none) (hB : B ≤ 900)
    (offL : L ∉ TA) (offi : it ∉ TA) (offl : lst ∉ TA) (offu : ∀ u ∈ us, u ∉ TA ∧ u ≠ L ∧ u ≠ it) (hli : lst ≠ it) (hlL : lst ≠ L) (hiL : it ≠ L) (h0i : h₀.objs.size ≤ it)
    (hn : s.heap.Ns L m0) (Tr : Trie w s.heap root P C' TA B) (hc : Chain s.heap P levels us) (hl : s.heap.IsList lst (List.toArray (refs us))) (hlen : us.length = levels.length)
    (hit : s.heap.IsRevIter it lst ((us.length : Int) - 1))
    (h : ∀ h' tk P', Trie w h' root P' C' TA B → (∀ b o, b ∉ TA → b ≠ L → b ≠ it → s.heap.get? b = some o → h'.get? b = some o) → R (.ok .next) { s with heap := h', toks := tk }) :
    codeAny (model PP w) A (.forLoop (.Tuple [.Name (Str.ofString "parent") p1, .Name (Str.ofString "k") p2, .Name (Str.ofString "node") p3] x1 p4) (.ref it)
      [.If (testS (nthS (bodyS (nthS (tryO (nthS deL.1 1)) 2)) 0)) [.Break p5] [] p6, nthS (bodyS (nthS (tryO (nthS deL.1 1)) 2)) 1] [] (denv L ccd)) R s := by
  have keepL : ∀ {h' : Heap}, (∀ b o, b ∉ TA → b ≠ L → b ≠ it → s.heap.get? b = some o → h'.get? b = some o) → h'.IsList lst (List.toArray (refs us)) := fun k => let ⟨o, e, r⟩ := hl; ⟨o, k _ _ offl hlL hli e, r⟩
  have keepC : ∀ {h' : Heap}, (∀ b o, b ∉ TA → b ≠ L → b ≠ it → s.heap.get? b = some o → h'.get? b = some o) → Chain h' P levels us := fun k => hc.keep fun u hu o e => k _ _ (offu u hu).1 (offu u hu).2.1 (offu u hu).2.2 e
  have keep0 : ∀ {h' : Heap}, (∀ b o, b ∉ TA → b ≠ L → b ≠ it → s.heap.get? b = some o → h'.get? b = some o) → Keeps h₀ h' := fun k b o e => k b o (fun z => by rw [hk0 b z] at e; cases e) (Nat.ne_of_lt (Nat.lt_of_lt_of_le (Heap.lt_size e) hle)) (Nat.ne_of_lt (Nat.lt_of_lt_of_le (Heap.lt_size e) h0i)) (kk b o e)
  have hsz : (List.toArray (refs us)).size = us.length := by simp [refs]
  refine for_rev (l := lst) (it := it) (us := us) hh (RlI w s L it root P C' TA B levels us) ?_ ?_ ?_ ?_ ?_ hit
  · rintro i s' h' ⟨hi, m, P', tk, e0, q1, q2, q3, q4⟩ hx
    exact ⟨hi, m, P', tk, by rw [e0], q1.extBut hx (Ne.symm hiL), q2.keep fun a ha o e => hx a o (fun z => offi (z ▸ ha)) e, q3, fun b o h1 h2 h3 e => hx b o h3 (q4 b o h1 h2 h3 e)⟩
  · rintro i s' ⟨hi, m, P', tk, e0, q1, q2, q3, q4⟩
    exact keepL q4
  · rintro i u s' hu ⟨hi, m, P', tk, e0, q1, q2, q3, q4⟩ hit'
    obtain ⟨k, t, x, d, x', d', hk, hP1, hP2, hT⟩ := keepC q4 i u hu
    have htake : levels.take (i + 1) = levels.take i ++ [k] := by rw [List.take_add_one, hk]; rfl
    refine wpAny_assign_Tuple hh hT rfl rfl fun h1 hx1 => ?_
    have hxs : ∀ b o, s'.heap.get? b = some o → h1.get? b = some o := fun b o e => hx1 b o (Nat.ne_of_lt (Heap.lt_size e)) e
    show wpAny _ _ (assignInOrder [assign (.Name (Str.ofString "parent") p1) (denv L ccd), assign (.Name (Str.ofString "k") p2) (denv L ccd), assign (.Name (Str.ofString "node") p3) (denv L ccd)] [.ref x, .str k t, .ref x']) _ _ _
    refine bind_three (s := { s' with heap := h1 }) (env := denv L ccd) (a := Str.ofString "parent") (b := Str.ofString "k") (c := Str.ofString "node") (m := m) (q1.keeps hxs) rfl rfl rfl rfl fun h2 tk2 hn2 hs2 => ?_
    dsimp only at hn2 hs2 ⊢
    have k2 : ∀ b o, b ∉ TA → b ≠ L → b ≠ it → s.heap.get? b = some o → h2.get? b = some o := fun b o a1 a2 a3 e => (hs2.2 b a2).trans (hxs _ _ (q4 b o a1 a2 a3 e))
    have Tr2 : Trie w h2 root P' C' TA B := q2.keep fun a ha o e => (hs2.2 a (fun z => offL (show L ∈ TA from z ▸ ha))).trans (hxs _ _ e)
    have F2 : Fr h₀ L h2 _ := ⟨hn2, keep0 k2, hle⟩
    have hit2 : h2.IsRevIter it lst ((i : Int) - 1) := hit'.at fun o e => (hs2.2 it hiL).trans (hxs _ _ e)
    rw [← q3 (i + 1) (Nat.le_refl _)] at hP2
    rw [← q3 i (Nat.le_succ _)] at hP1
    obtain ⟨_, _, lo', _, kvs', hkv', hkl', hv'⟩ := Tr2.node _ x' d' hP2
    obtain ⟨_, hdT, lo1, _, kvs1, hkv1, hkl1, hv1⟩ := Tr2.node _ x d hP1
    refine wpAny_execs_cons (wpAny_If (de_test (x := x') (d := d') (v := C' (levels.take (i + 1))) (s := { s' with heap := h2, toks := tk2 }) F2 X T (if_pos rfl) (Tr2.nodeAt hP2) (Tr.vals _) hkv' (by omega) lo' fun tk3 b hb => ?_))
    cases hbb : b with
    | true =>
      rw [if_pos rfl]
      refine wpAny_execs_cons (wpAny_Break (.inr ⟨rfl, ?_⟩))
      have := h h2 tk3 P' Tr2 k2
      rw [e0]; exact this
    | false =>
      rw [if_neg (by decide)]
      rw [hbb] at hb
      have hb' := hb.symm
      rw [Bool.or_eq_false_iff] at hb'
      have hkn : kvs' = [] := by simpa using hb'.1
      have hcn : C' (levels.take (i + 1)) = .none := by simpa using hb'.2
      refine wpAny_execs_nil (wpAny_execs_cons (de_del (x := x) (d := d) (k := k) (t := t) (s := { s' with heap := h2, toks := tk3 }) F2 X T ((if_neg (by decide)).trans ((if_neg (by decide)).trans (if_pos rfl))) ((if_neg (by decide)).trans (if_pos rfl)) (Tr2.nodeAt hP1) hkv1 (by omega) ?_ fun h3 tk4 hd3 hs3 => ?_))
      · rw [hv1, ← htake, hP2]; rfl
      · dsimp only at hs3
        have hdL : d ≠ L := fun z => offL (z ▸ hdT)
        have hdi : d ≠ it := fun z => offi (z ▸ hdT)
        have Tr3 := Tr2.remove (h' := h3) hP1 (k := k) (by rw [← htake]; exact hcn) (fun j => by
          have := hv' j
          rw [hkn, valueAt_nil, htake] at this
          cases hz : P' (levels.take i ++ [k] ++ [j]) with
          | none => rfl
          | some y => rw [hz] at this; cases this) hkv1 hkl1 hd3 (fun b o hb e => (hs3.2 b hb).trans e)
        refine wpAny_execs_nil (.inl ⟨rfl, ⟨Nat.le_of_succ_le hi, _, _, tk4, ?_, hn2.sameBut hs3 (Ne.symm hdL), Tr3, fun j hj => ?_, fun b o a1 a2 a3 e => (hs3.2 b fun z => a1 (z ▸ hdT)).trans (k2 b o a1 a2 a3 e)⟩, hit2.at fun o e => (hs3.2 it (Ne.symm hdi)).trans e⟩)
        · rw [e0]
        · have hne : levels.take j ≠ levels.take i ++ [k] := fun z => by
            have := congrArg List.length z
            rw [List.length_append, List.length_take, List.length_take, List.length_singleton] at this
            exact absurd this (Nat.ne_of_lt (Nat.lt_succ_of_le (Nat.le_min.mpr ⟨Nat.le_trans (Nat.min_le_left ..) hj, Nat.min_le_right ..⟩)))
          rw [if_neg hne]
          exact q3 j (Nat.le_succ_of_le hj)
  · rintro s' ⟨hi, m, P', tk, e0, q1, q2, q3, q4⟩
    have := h s'.heap tk P' q2 q4
    rw [e0]; exact this
  · exact ⟨Nat.le_refl _, m0, P, s.toks, rfl, hn, Tr, fun j _ => rfl, fun b o _ _ _ e => e⟩
end
end
section
open PySem PySem.W PySem.Calls PySem.Spec PyProof.Rows
set_option Elab.async false
set_option maxRecDepth 100000
set_option maxHeartbeats 4000000
set_option linter.unusedVariables false
theorem fillDe4 : Reg PySem.Challenge.rw_bc0018_01 hd.heap_39 := by k_fill; trivial

inductive DeI (s : Shared) (L σ : Addr) (text : Str) (t : Tok) (P : List Str → Option (Addr × Addr)) (levels : List Str) (its : Array Value) (TA : List Addr) (i : Nat) (s' : Shared) : Prop
  | mk (m : Str → Option Value) (x d : Addr) (tk : Nat) (us : List Addr) (e0 : s' = { s with heap := s'.heap, toks := tk }) (q1 : Keeps s.heap s'.heap) (q2 : s'.heap.Ns L m) (q3 : m (Str.ofString "key") = some (.str text t)) (q4 : m (Str.ofString "node") = some (.ref x)) (q5 : P (levels.take i) = some (x, d)) (q6 : s'.heap.IsList σ its)
    (q7 : m (Str.ofString "lst") = some (.ref (L + 1))) (q8 : PlainL s'.heap (L + 1) (List.toArray (refs us))) (q9 : us.length = i) (q10 : Chain s'.heap P levels us) (q11 : ∀ u ∈ us, u ∉ TA ∧ u ≠ L ∧ u ≠ L + 1 ∧ u ≠ σ + 1) (q12 : i ≤ levels.length) : DeI s L σ text t P levels its TA i s'
section
variable {w : World} {A : Around} {s : Shared} {M root : Addr} {h₀ base : Heap} {mg mb : Str → Option Value} {p : Program} {loose : List Str} {mean : ExcName → Option Value} {P : List Str → Option (Addr × Addr)} {C : List Str → Value} {TA : List Addr} {B : Nat} {text : Str} {t : Tok} {R : Result → Shared → Prop} {levels : List Str} {outer : List Env}
theorem delitem_raw (X : Frag.In (hd.heap_39 w.params) h₀) (T : Top p loose mean mg mb h₀) (kk : Keeps h₀ s.heap) (hle : h₀.objs.size ≤ s.heap.objs.size) (hh : A.handled = none) (hroom : A.depth + 20 < recursionLimit)
    (hfr : A.frames = some outer) (hkb : base.StaysIn s.heap) (hbs : base.objs.size ≤ s.heap.objs.size) (hX : Frag.In (hd.heap_39 w.params) base) (hT : Top p loose mean mg mb base) (hfo : s.heap.FunFrames base outer)
    (I : MatOff s.heap M root TA) (Tr : Trie w s.heap root P C TA B) (hT0 : ∀ a ∈ TA, h₀.get? a = none) (hB : B ≤ 900) (hsp : Txt.split text (Str.ofString "/") = levels) (hz : text.length + 2 ≤ sizeLine) (hlv : levels.length ≤ 900)
    (h : C levels ≠ .none → ∀ h' tk P', Trie w h' root P' (fun q => if q = levels then .none else C q) TA B → Step s.heap TA h' TA → R (.ok (.ret .none)) { s with heap := h', toks := tk })
    (hE : C levels = .none → ∀ h' tk e c2, XS base outer e c2 (some .none) h' → FrUp outer s.heap h' → R (.error (.ref e)) { s with heap := h', toks := tk }) :
    codeAny (model PP w) A (.call (.ref 72) ⟨[.ref M, .str text t], []⟩) R s := by
  tb_start
  case k8 => exact lim0 hroom
  intro h₁ hns hk hsz
  generalize hL : s.heap.objs.size = L at *
  have nS : ∀ {b o}, s.heap.get? b = some o → b ≠ L := fun e => Nat.ne_of_lt (hL ▸ Heap.lt_size e)
  show wpAny _ _ (execs [nthS deL.1 0, .Try [nthS (tryB (nthS deL.1 1)) 0, .For (.Name (Str.ofString "k") ⟨36, 16, 36, 17⟩) (iterS (nthS (tryB (nthS deL.1 1)) 1)) [nthS (bodyS (nthS (tryB (nthS deL.1 1)) 1)) 0, nthS (bodyS (nthS (tryB (nthS deL.1 1)) 1)) 1] [] ⟨36, 12, 38, 45⟩]
    [.ExceptHandler (some (.Name (Str.ofString "KeyError") ⟨39, 15, 39, 23⟩)) (some (Str.ofString "err")) [.Raise (some (.Call (.Name (Str.ofString "KeyError") ⟨40, 18, 40, 26⟩) [.Name (Str.ofString "key") ⟨40, 27, 40, 30⟩] [] ⟨40, 18, 40, 31⟩)) (some (.Name (Str.ofString "err") ⟨40, 37, 40, 40⟩)) ⟨40, 12, 40, 40⟩] ⟨39, 8, 40, 40⟩]
    [.If (testS (nthS (tryO (nthS deL.1 1)) 0)) [.Raise (some (.Call (.Name (Str.ofString "KeyError") ⟨43, 22, 43, 30⟩) [.Name (Str.ofString "key") ⟨43, 31, 43, 34⟩] [] ⟨43, 22, 43, 35⟩)) none ⟨43, 16, 43, 35⟩] [] ⟨42, 12, 43, 35⟩, nthS (tryO (nthS deL.1 1)) 1,
      .For (.Tuple [.Name (Str.ofString "parent") ⟨45, 16, 45, 22⟩, .Name (Str.ofString "k") ⟨45, 24, 45, 25⟩, .Name (Str.ofString "node") ⟨45, 27, 45, 31⟩] 0 ⟨45, 16, 45, 31⟩) (iterS (nthS (tryO (nthS deL.1 1)) 2))
        [.If (testS (nthS (bodyS (nthS (tryO (nthS deL.1 1)) 2)) 0)) [.Break ⟨47, 20, 47, 25⟩] [] ⟨46, 16, 47, 25⟩, nthS (bodyS (nthS (tryO (nthS deL.1 1)) 2)) 1] [] ⟨45, 12, 48, 39⟩] [] ⟨34, 8, 48, 39⟩] (denv L (.ref 71))) _ _ _
  have hbL : base.get? L = none := by
    cases hz : base.get? L with
    | none => rfl
    | some o => exact absurd rfl (nS (hkb L o hz))
  have hfr2 : (A.deeper (denv L (.ref 71))).frames = some (denv L (.ref 71) :: outer) := Around.frames_deeper hfr
  have hhD : (A.deeper (denv L (.ref 71))).handled = none := hh
  have hLT : L ∉ TA := fun z => absurd (hL ▸ Tr.lt z) (Nat.lt_irrefl _)
  have hlT : L + 1 ∉ TA := fun z => by
    have := Tr.lt z
    rw [hL] at this
    exact absurd this (Nat.not_lt.mpr (Nat.le_succ _))
  have F1 : Fr h₀ L h₁ _ := ⟨hns, kk.trans hk, hle⟩
  refine wpAny_execs_cons (de_lst F1 X T fun h2 tk2 hn2 hp2 hx2 sz2 => ?_)
  dsimp only at hn2 hp2 hx2 sz2 ⊢
  rw [hsz] at hn2 hp2 sz2
  have k2 : Keeps s.heap h2 := fun b o e => hx2 b o (nS e) (hk _ _ e)
  have F2 : Fr h₀ L h2 _ := ⟨hn2, kk.trans k2, hle⟩
  refine wpAny_execs_cons (wpAny_Try_except (gen_post fun Q₀ E₀ hQ₀ hE₀ => ?_))
  refine wpAny_execs_cons (de_first (s := { s with heap := h2, toks := tk2 }) F2 X T hhD rfl (I.at_.keeps k2) fun h3 tk3 hn3 hx3 => ?_)
  dsimp only at hn3 hx3 ⊢
  have hlL : L + 1 ≠ L := Nat.ne_of_gt (Nat.lt_succ_self _)
  have hp3 := hp2.extBut hx3 hlL
  have k3 : Keeps s.heap h3 := fun b o e => hx3 b o (nS e) (k2 _ _ e)
  have F3 : Fr h₀ L h3 _ := ⟨hn3, kk.trans k3, hle⟩
  refine wpAny_execs_cons (wpAny_For (de_iter (s := { s with heap := h3, toks := tk3 }) F3 X T rfl hz fun l' tk4 hl' => ?_))
  have hls : (h3.push (strList l')).IsList h3.objs.size (strValues l').toArray := ⟨_, Heap.get?_push_size _ rfl, rfl, 0, rfl⟩
  have hσL : L < h3.objs.size := hn3.lt
  have hσl : L + 1 < h3.objs.size := hp3.lt
  dsimp only
  refine wpAny_pyIter_list hls ?_
  dsimp only
  rw [Heap.size_push]
  generalize hσ : h3.objs.size = σ at *
  generalize hh4 : (h3.push (strList l')).push { cls := .type "list_iterator", data := .fields #[.ref σ, .int 0 0] } = h4
  have k34 : Keeps h3 h4 := fun b o e => by rw [← hh4]; exact Heap.get?_push_of_some _ (Heap.get?_push_of_some _ e)
  have hls4 : h4.IsList σ (strValues l').toArray := by rw [← hh4]; exact hls.push _
  have hit4 : h4.IsListIter (σ + 1) σ 0 := by
    rw [← hh4, ← hσ, ← Heap.size_push (h := h3) (strList l')]
    exact ⟨_, Heap.get?_push_size _ rfl, rfl, rfl⟩
  have hlen : (strValues l').toArray.size = levels.length := by
    have := congrArg List.length (hl'.trans hsp)
    simpa [strValues] using this
  have nσ : ∀ {b o}, s.heap.get? b = some o → b < σ := fun e => hσ ▸ Heap.lt_size (k3 _ _ e)
  have ltT : ∀ {a}, a ∈ TA → a < σ := fun ha => let ⟨o, e⟩ := Tr.live _ ha; nσ e
  have hLi : L ≠ σ + 1 := Nat.ne_of_lt (Nat.lt_succ_of_lt hσL)
  have hli : L + 1 ≠ σ + 1 := Nat.ne_of_lt (Nat.lt_succ_of_lt hσl)
  obtain ⟨d0, hd0⟩ := Tr.rt
  refine for_list (l := σ) (it := σ + 1) (items := (strValues l').toArray) hhD (DeI s L σ text t P levels (strValues l').toArray TA) ?_ ?_ ?_ ?_ ?_ hit4
  · rintro i s' h' ⟨m, x, d, tk, us, e0, q1, q2, q3, q4, q5, q6, q7, q8, q9, q10, q11, q12⟩ hx
    exact ⟨m, x, d, tk, us, by rw [e0], fun b o e => hx b o (Nat.ne_of_lt (Nat.lt_succ_of_lt (nσ e))) (q1 b o e), q2.extBut hx hLi, q3, q4, q5, q6.extBut hx (Nat.ne_of_lt (Nat.lt_succ_self _)), q7, q8.extBut hx hli, q9, q10.keep fun u hu o e => hx u o (q11 u hu).2.2.2 e, q11, q12⟩
  · rintro i s' ⟨m, x, d, tk, us, e0, q1, q2, q3, q4, q5, q6, _⟩
    exact q6
  · rintro i v' s' hx ⟨m, x, d, tk, us, e0, q1, q2, q3, q4, q5, q6, q7, q8, q9, q10, q11, q12⟩ hit
    obtain ⟨k, tkk, rfl, hkk⟩ := strValues_at hx
    rw [hl', hsp] at hkk
    have hi : i < levels.length := (List.getElem?_eq_some_iff.mp hkk).1
    have htake : levels.take (i + 1) = levels.take i ++ [k] := by rw [List.take_add_one, hkk]; rfl
    refine wpAny_storeName_local rfl q2 (fun h5 hn5 hs5 => ?_) rfl
    have k5 : Keeps s.heap h5 := fun b o e => (hs5.2 b (nS e)).trans (q1 b o e)
    have F5 : Fr h₀ L h5 _ := ⟨hn5, kk.trans k5, hle⟩
    have Tr5 : Trie w h5 root P C TA B := Tr.keep fun a _ o e => k5 _ _ e
    obtain ⟨_, _, lo, _, kvs, hkv, _, hv⟩ := Tr5.node _ x d q5
    refine wpAny_execs_cons (de_turn (k := k) (t := tkk) (s := { s' with heap := h5, toks := s'.toks + 1 }) F5 X T hhD ((if_neg (by decide)).trans q4) (if_pos rfl) (Tr5.nodeAt q5) lo hkv.mapOf (fun h6 tk6 v hv6 hn6 hx6 => ?_) fun hv6 h6 e tk6 hx6 => ?_)
    · have hvk := hv k
      rw [hv6] at hvk
      dsimp only at hx6
      cases hP2 : P (levels.take i ++ [k]) with
      | none => rw [hP2] at hvk; cases hvk
      | some y =>
        obtain ⟨x2, d2⟩ := y
        rw [hP2] at hvk; cases hvk
        have k6 : Keeps s.heap h6 := fun b o e => hx6 b o (nS e) (k5 _ _ e)
        have F6 : Fr h₀ L h6 _ := ⟨hn6, kk.trans k6, hle⟩
        have p6 : PlainL h6 (L + 1) (List.toArray (refs us)) := (q8.extBut hs5.extBut hlL).extBut hx6 hlL
        have usz : (List.toArray (refs us)).size ≤ sizeLine := by
          have h900 : 900 ≤ sizeLine := by decide
          rw [List.size_toArray, refs, List.length_map, q9]; exact Nat.le_trans (Nat.le_of_lt hi) (Nat.le_trans hlv h900)
        refine wpAny_execs_cons (de_app (k := k) (t := tkk) (v := .ref x2) (pv := .ref x) (s := { s' with heap := h6, toks := tk6 }) F6 X T ((if_neg (by decide)).trans ((if_neg (by decide)).trans ((if_neg (by decide)).trans q7))) (if_pos rfl) ((if_neg (by decide)).trans ((if_neg (by decide)).trans (if_pos rfl))) ((if_neg (by decide)).trans (if_pos rfl)) p6 usz fun h7 tk7 u p7 hu7 hun hx7 => ?_)
        dsimp only at p7 hu7 hun hx7 ⊢
        obtain ⟨oi, hoi, ri⟩ := hit
        obtain ⟨ol, hol, rl⟩ := q6
        have hitL : σ + 1 ≠ L := Ne.symm hLi
        have hσL' : σ ≠ L := Nat.ne_of_gt hσL
        have hσl' : σ ≠ L + 1 := Nat.ne_of_gt hσl
        have i6 := hx6 _ _ hitL ((hs5.2 _ hitL).trans hoi)
        have l6 := hx6 _ _ hσL' ((hs5.2 _ hσL').trans hol)
        have hl1s : ∀ {b o}, s.heap.get? b = some o → b ≠ L + 1 := fun e => Nat.ne_of_lt (Nat.lt_succ_of_lt (hL ▸ Heap.lt_size e))
        have notu : ∀ {b o}, h6.get? b = some o → u ≠ b := fun e z => by subst z; rw [hun] at e; cases e
        have c7 : Chain h7 P levels us := q10.keep fun u' hu' o e => hx7 u' o (q11 u' hu').2.2.1 (hx6 u' o (q11 u' hu').2.1 ((hs5.2 u' (q11 u' hu').2.1).trans e))
        refine wpAny_execs_nil ⟨rfl, ⟨_, x2, d2, tk7, us ++ [u], by rw [e0], fun b o e => hx7 b o (hl1s e) (k6 _ _ e), hn6.extBut hx7 (Ne.symm hlL), (if_neg (by decide)).trans ((if_neg (by decide)).trans ((if_neg (by decide)).trans q3)), (if_neg (by decide)).trans (if_pos rfl), by rw [htake]; exact hP2, ⟨ol, hx7 _ _ hσl' l6, rl⟩, (if_neg (by decide)).trans ((if_neg (by decide)).trans ((if_neg (by decide)).trans q7)), ?_, by simp [q9], ?_, ?_, hi⟩, ⟨oi, hx7 _ _ (Ne.symm hli) i6, ri⟩⟩
        · have : List.toArray (refs (us ++ [u])) = (List.toArray (refs us)).push (.ref u) := by simp [refs]
          rw [this]; exact p7
        · intro j u' hu'
          by_cases hj : j < us.length
          · rw [List.getElem?_append_left hj] at hu'
            exact c7 j u' hu'
          · have hj' : j = us.length := by
              have := (List.getElem?_eq_some_iff.mp hu').1
              simp at this; exact Nat.le_antisymm (Nat.le_of_lt_succ this) (Nat.not_lt.mp hj)
            subst hj'
            rw [List.getElem?_append_right (Nat.le_refl _), Nat.sub_self] at hu'
            cases hu'
            rw [q9]
            exact ⟨k, tkk, x, d, x2, d2, hkk, q5, by rw [htake]; exact hP2, hu7⟩
        · intro u' hu'
          rcases List.mem_append.mp hu' with z | z
          · exact q11 u' z
          · rw [List.mem_singleton] at z
            subst z
            refine ⟨fun z => ?_, ?_, ?_, notu i6⟩
            · obtain ⟨o, e⟩ := Tr.live _ z
              exact notu (k6 _ _ e) rfl
            · obtain ⟨_, _, _, e, _⟩ := hn6
              exact notu e
            · obtain ⟨_, _, e, _⟩ := p6
              exact notu e
    · have hC : C levels = .none := by
        have hvk := hv k
        rw [hv6] at hvk
        have hP2 : P (levels.take (i + 1)) = none := by
          rw [htake]
          cases hP2 : P (levels.take i ++ [k]) with
          | none => rfl
          | some y => rw [hP2] at hvk; cases hvk
        have := (none_below Tr.closed Tr.dom hP2 (levels.drop (i + 1))).2
        rwa [List.take_append_drop] at this
      have hfo4 : h5.FunFrames base (denv L (.ref 71) :: outer) := Heap.FunFrames.cons (show ScopeKind.function ≠ .module by decide) rfl hn5 hbL (frames_same (fun b o e hd => ⟨o, k5 _ _ e, hd⟩) hfo)
      have X5 := newXS hx6 (fun b o e => k5 _ _ (hkb b o e)) hfo4
      refine x_body_err (s := { s' with heap := h6, toks := tk6 }) hfr2 rfl X5 fun h7 X6 u6 => hE₀ _ _ ?_
      have hn6 := hn5.keeps hx6.keeps
      have hout : ∀ b ∈ outer.filterMap (·.frame), b ≠ L := fun b hb => let ⟨_, o, e, _⟩ := hfo.mem hb; nS e
      have up6 : ∀ b o, s.heap.get? b = some o → (∀ vs, o.data ≠ .fields vs) → ∃ sl, h7.get? b = some { o with slots := sl } := fun b o e hd => u6 b o (hx6.keeps _ _ (k5 _ _ e)) hd
      refine x_caught_as (s := { s' with heap := h7, toks := tk6 }) (L := L) hfr2 rfl rfl hout X6 rfl rfl (u6.ns hn6) (fun s₁ us1 st1 => ?_) fun s₁ X7 hn7 up7 g7 d7 o7 => ?_
      · have Fb : Fr base L s₁.heap _ := ⟨us1.ns (u6.ns hn6), st1, hbs⟩
        refine name_B Fb hX (topRead_of hT) ?_ PyProof.Rows.Boot.«KeyError» (by decide) ⟨rfl, rfl⟩
        k_is
      · have Fb : Fr base L s₁.heap _ := ⟨hn7, X7.1, hbs⟩
        refine wpAny_execs_cons (x_raiseFrom (e1 := e) mark_handled (de_exc Fb hX hT ((if_neg (by decide)).trans ((if_neg (by decide)).trans q3)) fun h8 e2 hx8 => ⟨e2, rfl, de_err (s := { s₁ with heap := h8 }) ⟨hn7.keeps hx8.keeps, fun b o e => hx8.keeps _ _ (X7.1 b o e), hbs⟩ (if_pos rfl) ⟨rfl, ?_, ?_, ?_, fun h9 ob9 t9 hs9 he9 hc9 hd9 => ?_⟩⟩))
        · obtain ⟨_, _, _, oe, vs, he, _⟩ := X7
          intro z; subst z; rw [hx8.new] at he; cases he
        · obtain ⟨ob, t, a, b, c⟩ := hx8.there
          exact ⟨ob, t, a, b, c⟩
        · obtain ⟨_, _, _, oe, vs, he, hc, hd, _, h2, _⟩ := X7
          exact ⟨oe, vs, hx8.keeps _ _ he, hc, hd, h2⟩
        · have X8 := newXS hx8 X7.1 X7.2.2.1
          have hLe : L ≠ e2 := fun z => by
            have := hn7.lt
            obtain ⟨oL, _, _, hoL, _⟩ := hn7
            rw [z, hx8.new] at hoL; cases hoL
          obtain ⟨ob8, t8, he8, _, hd8⟩ := hx8.there
          refine ⟨e2, .ref e, rfl, ⟨fun b o eb => (hs9.2 b (fun z => by rw [z, X8.2.1] at eb; cases eb)).trans (X8.1 b o eb), X8.2.1, frames_same (fun b o eb hd => ⟨o, (hs9.2 b (fun z => by subst z; dsimp only at eb; rw [he8] at eb; cases eb; exact hd _ hd8)).trans eb, hd⟩) X8.2.2.1, ob9, _, he9, hc9, hd9, by simp, rfl, rfl⟩, ⟨_, (hn7.keeps hx8.keeps).sameBut hs9 hLe⟩, fun b hbm o eb => ?_, fun s₃ X10 up10 g10 d10 o10 => ?_⟩
          · obtain ⟨sl, e1⟩ := up7 b hbm o eb
            exact ⟨sl, (hs9.2 b (fun z => by rw [z, hx8.new] at e1; cases e1)).trans (hx8.keeps _ _ e1)⟩
          · refine x_leaving (s := s₃) hfr2 rfl X10 fun h11 X11 u11 => ?_
            have := hE hC h11 s₃.toks e2 _ X11 fun b hbm o eb => by
              obtain ⟨_, o', eb', hd'⟩ := hfo.mem hbm
              rw [eb] at eb'; cases eb'
              obtain ⟨s6, e6⟩ := up6 b o eb hd'
              obtain ⟨s7, e7⟩ := up10 b hbm _ e6
              obtain ⟨s8, e8⟩ := u11 b _ e7 hd'
              exact ⟨s8, e8⟩
            rw [g10, d10, o10]
            dsimp only
            rw [g7, d7, o7, e0]
            exact this
  · rintro s' ⟨m, x, d, tk, us, e0, q1, q2, q3, q4, q5, q6, q7, q8, q9, q10, q11, q12⟩
    rw [hlen, List.take_length] at q5
    rw [hlen] at q9
    have F4 : Fr h₀ L s'.heap m := ⟨q2, kk.trans q1, hle⟩
    have Tr4 : Trie w s'.heap root P C TA B := Tr.keep fun a _ o e => q1 _ _ e
    refine wpAny_execs_nil (hQ₀ _ _ ?_)
    refine (wpAny_execs_cons (wpAny_If (de_none F4 X T q4 (Tr4.nodeAt q5) (Tr.vals _) fun tk5 => ?_)))
    by_cases hc : C levels = .none
    · rw [if_pos (by rw [hc]; rfl)]
      refine wpAny_execs_cons (Raise_new hhD (de_exc (s := { s' with toks := tk5 }) F4 X T q3 fun h8 e2 hx8 => raisable_of_new excClass_KeyError hx8 ?_))
      have hfo4 : s'.heap.FunFrames base (denv L (.ref 71) :: outer) := Heap.FunFrames.cons (show ScopeKind.function ≠ .module by decide) rfl q2 hbL (frames_same (fun b o e hd => ⟨o, q1 _ _ e, hd⟩) hfo)
      refine x_leaving (s := { s' with heap := h8, toks := tk5 }) hfr2 rfl (newXS hx8 (fun b o e => q1 _ _ (hkb b o e)) hfo4) fun h11 X11 u11 => ?_
      have := hE hc h11 tk5 e2 _ X11 fun b hbm o eb => by
        obtain ⟨_, o', eb', hd'⟩ := hfo.mem hbm
        rw [eb] at eb'; cases eb'
        exact u11 b o (hx8.keeps _ _ (q1 _ _ eb)) hd'
      rw [e0]
      exact this
    · rw [if_neg (by simpa using hc)]
      obtain ⟨b1, b2, b3, ⟨dd, od, b4, hx, hdd⟩, _⟩ := Tr4.node _ _ _ q5
      refine wpAny_execs_nil (wpAny_execs_cons (de_clear (s := { s' with toks := tk5 }) F4 X T q4 ⟨hx, rfl, rfl, hdd⟩ fun tk6 => ?_))
      have Tr8 := Tr4.setC q5 (v := .none) (.inl rfl)
      have hs8 : Heap.SameBut x s'.heap (s'.heap.update x (putSlot 1 .none)) := Heap.SameBut.update ..
      dsimp only
      generalize s'.heap.update x (putSlot 1 .none) = h8 at *
      have xL : x ≠ L := fun z => hLT (z ▸ b1)
      have xl : x ≠ L + 1 := fun z => hlT (z ▸ b1)
      have n8 := q2.sameBut hs8 (Ne.symm xL)
      have k8 : Keeps h₀ h8 := fun b o e => (hs8.2 b (fun z => by have := hT0 x b1; rw [← z, e] at this; cases this)).trans (q1 _ _ (kk _ _ e))
      have F8 : Fr h₀ L h8 m := ⟨n8, k8, hle⟩
      have p8 : PlainL h8 (L + 1) (List.toArray (refs us)) := q8.extBut hs8.extBut (Ne.symm xl)
      refine wpAny_execs_cons (wpAny_For (de_rev (s := { s' with heap := h8, toks := tk6 }) F8 X T q7 p8.isList fun tk7 => ?_))
      dsimp only
      generalize hr : revObj (L + 1) _ = ro
      have k9 : Keeps h8 (h8.push ro) := fun b o e => Heap.get?_push_of_some _ e
      have hit9 : (h8.push ro).IsRevIter h8.objs.size (L + 1) ((us.length : Int) - 1) := ⟨_, Heap.get?_push_size _ (by rw [← hr]; rfl), by rw [← hr]; rfl, by rw [← hr]; simp [revObj, refs]⟩
      have off8 : ∀ {b o}, h8.get? b = some o → b ≠ h8.objs.size := fun e => Nat.ne_of_lt (Heap.lt_size e)
      have hL8 : L < h8.objs.size := n8.lt
      refine wpAny_pyIter_revIter (s := { s' with heap := h8.push ro, toks := tk7 }) hit9 ?_
      have offi : h8.objs.size ∉ TA := fun z => by obtain ⟨o, e⟩ := Tr8.live _ z; exact off8 e rfl
      have live8 : ∀ {b} o, s.heap.get? b = some o → b ∉ TA → h8.get? b = some o := fun {b} o e hb => (hs8.2 b (fun z => hb ((show b = x from z) ▸ b1))).trans (q1 _ _ e)
      refine de_loop (s := { s' with heap := h8.push ro, toks := tk7 }) (us := us) (P := P) (C' := fun p => if p = levels then .none else C p) X T hhD (k8.trans k9) hle hT0 hB hLT offi hlT (fun u hu => ⟨(q11 u hu).1, (q11 u hu).2.1, ?_⟩) (Nat.ne_of_lt p8.lt) hlL (Nat.ne_of_gt hL8) (Nat.le_trans hle (Nat.le_of_lt hL8)) (n8.keeps k9) (Tr8.keep fun a _ o e => k9 _ _ e) (q10.keep fun u hu o e => k9 _ _ ((hs8.2 u (fun z => (q11 u hu).1 (z ▸ b1))).trans e)) (isList_keeps p8.isList k9) q9 hit9 fun h9 tk9 P9 Tr9 k10 => ?_
      · obtain ⟨j, hj⟩ := List.getElem?_of_mem hu
        obtain ⟨_, _, _, _, _, _, _, _, _, ou, hou, _⟩ := q10 j u hj
        exact off8 ((hs8.2 u (fun z => (q11 u hu).1 (z ▸ b1))).trans hou)
      · refine wpAny_execs_nil (wpAny_execs_nil ?_)
        have := h hc h9 tk9 P9 Tr9 fun b o hb e => ⟨k10 b o hb (nS e) (off8 (live8 o e hb)) (k9 _ _ (live8 o e hb)), hb⟩
        rw [e0]
        exact this
  · exact ⟨_, root, d0, tk4, [], rfl, fun b o e => k34 _ _ (k3 _ _ e), hn3.keeps k34, rfl, rfl, hd0, hls4, rfl, hp3.keeps k34, rfl, (fun j u e => by simp at e : Chain h4 P levels []), fun u hu => by simp at hu, Nat.zero_le _⟩
end
end
end
end Mine
end
section
open PySem PySem.W PySem.Calls PySem.Spec PyProof.Rows
set_option Elab.async false
set_option maxRecDepth 100000
set_option maxHeartbeats 4000000
set_option linter.unusedVariables false
namespace Mine
theorem fillLa : Reg PySem.Challenge.rw_bc0018_01 hd.heap_39 := by k_fill; trivial

inductive All2 {α β : Type} (R : α → β → Prop) : List α → List β → Prop
  | nil : All2 R [] []
  | cons {a b l l'} : R a b → All2 R l l' → All2 R (a :: l) (b :: l')
namespace All2
variable {α β : Type} {R R' : α → β → Prop}
theorem mono (h : ∀ a b, R a b → R' a b) {l l'} (x : All2 R l l') : All2 R' l l' := by
  induction x with
  | nil => exact .nil
  | cons a _ ih => exact .cons (h _ _ a) ih
theorem append {l l' k k'} (x : All2 R l l') (y : All2 R k k') : All2 R (l ++ k) (l' ++ k') := by
  induction x with
  | nil => exact y
  | cons a _ ih => exact .cons a ih
theorem snoc {l l' a b} (x : All2 R l l') (y : R a b) : All2 R (l ++ [a]) (l' ++ [b]) := x.append (.cons y .nil)
theorem length {l l'} (x : All2 R l l') : l.length = l'.length := by
  induction x with
  | nil => rfl
  | cons _ _ ih => rw [List.length_cons, List.length_cons, ih]
end All2

/-- the law's own addresses -/
structure Ad where
  L : Addr
  c1 : Addr
  c2 : Addr
  aT : Addr
  aD : Addr
  aA : Addr
  dh : Addr
  it : Addr
  M : Addr
  root : Addr
noncomputable def Ad.fix (a : Ad) : List Addr := [a.L, a.c1, a.c2, a.aT, a.aD, a.aA, a.dh, 74, a.it]

structure LS (w : World) (h₀ : Heap) (a : Ad) (TA : List Addr) (B : Nat) (P : List Str → Option (Addr × Addr)) (C : List Str → Value) (kvs : List (Str × Value)) (tv dv av : List Value) (v2 : Option Value) (oi : Obj) (m : Str → Option Value) (h : Heap) : Prop where
  ns : h.Ns a.L m
  cell1 : h.IsCell a.c1 (some (.ref a.dh))
  cell2 : h.IsCell a.c2 v2
  told : PlainL h a.aT (List.toArray tv)
  due : PlainL h a.aD (List.toArray dv)
  asked : PlainL h a.aA (List.toArray av)
  held : h.DictOf (SK w) a.dh kvs
  tab : TabRec (a.fix ++ TA) h
  itv : h.get? a.it = some oi
  mat : MatOff h a.M a.root (a.fix ++ TA)
  tr : Trie w h a.root P C TA B
  k0 : Keeps h₀ h
  le0 : h₀.objs.size ≤ a.L
  apart : a.fix.Nodup
  offT : ∀ x ∈ a.fix, x ∉ TA
  new0 : ∀ x ∈ a.fix, h₀.get? x = none
  hT0 : ∀ x ∈ TA, h₀.get? x = none

theorem Ad.mem {a : Ad} (i : Nat) {x : Addr} (hi : a.fix[i]? = some x := by rfl) : x ∈ a.fix := List.mem_of_getElem? hi

theorem nodup_ne {l : List Addr} (hn : l.Nodup) {i j : Nat} {x y : Addr} (hi : l[i]? = some x) (hj : l[j]? = some y) (hij : i ≠ j) : x ≠ y := fun z => by
  subst z
  obtain ⟨li, ei⟩ := List.getElem?_eq_some_iff.mp hi
  obtain ⟨lj, ej⟩ := List.getElem?_eq_some_iff.mp hj
  have f := List.pairwise_iff_getElem.mp hn
  rcases Nat.lt_or_gt_of_ne hij with h | h
  · exact f i j li lj h (ei.trans ej.symm)
  · exact f j i lj li h (ej.trans ei.symm)

section
variable {w : World} {h₀ h h' : Heap} {a : Ad} {TA : List Addr} {B : Nat} {P : List Str → Option (Addr × Addr)} {C : List Str → Value} {kvs : List (Str × Value)} {tv dv av : List Value} {v2 : Option Value} {oi : Obj} {m : Str → Option Value}
theorem LS.ne (S : LS w h₀ a TA B P C kvs tv dv av v2 oi m h) (i j : Nat) {x y : Addr} (hi : a.fix[i]? = some x := by rfl) (hj : a.fix[j]? = some y := by rfl) (hij : i ≠ j := by decide) : x ≠ y := nodup_ne S.apart hi hj hij
theorem LS.fr (S : LS w h₀ a TA B P C kvs tv dv av v2 oi m h) : Fr h₀ a.L h m := ⟨S.ns, S.k0, S.le0⟩
theorem LS.inFix (S : LS w h₀ a TA B P C kvs tv dv av v2 oi m h) {x : Addr} (hx : x ∈ a.fix) : ∃ o, h.get? x = some o := by
  simp only [Ad.fix, List.mem_cons, List.not_mem_nil, or_false] at hx
  rcases hx with rfl | rfl | rfl | rfl | rfl | rfl | rfl | rfl | rfl
  · obtain ⟨o, _, _, e, _⟩ := S.ns; exact ⟨o, e⟩
  · obtain ⟨o, e, _⟩ := S.cell1; exact ⟨o, e⟩
  · obtain ⟨o, e, _⟩ := S.cell2; exact ⟨o, e⟩
  · obtain ⟨o, _, e, _⟩ := S.told; exact ⟨o, e⟩
  · obtain ⟨o, _, e, _⟩ := S.due; exact ⟨o, e⟩
  · obtain ⟨o, _, e, _⟩ := S.asked; exact ⟨o, e⟩
  · obtain ⟨o, _, _, e, _⟩ := S.held; exact ⟨o, e⟩
  · rcases S.tab with e | ⟨_, e, _⟩ <;> exact ⟨_, e⟩
  · exact ⟨_, S.itv⟩
theorem TabRec.step {S S' : List Addr} (x : TabRec S h) (k74 : ∀ o, h.get? 74 = some o → h'.get? 74 = some o) (st : Step h S h' S') : TabRec S' h' := by
  rcases x with e | ⟨c', e, r, n⟩
  · exact .inl (k74 _ e)
  · obtain ⟨c2, oc, vs, tq, hc, hoc, r⟩ := r
    cases hc
    have := st _ oc n hoc
    exact .inr ⟨_, k74 _ e, ⟨_, oc, vs, tq, rfl, this.1, r⟩, this.2⟩
theorem stepBut {S : List Addr} {x : Addr} (hx : Heap.ExtBut x h h') (hm : x ∈ S) : Step h S h' S := fun b o hb e => ⟨hx b o (fun z => hb (z ▸ hm)) e, hb⟩
theorem stepKeeps {S : List Addr} (k : Keeps h h') : Step h S h' S := fun b o hb e => ⟨k b o e, hb⟩
theorem k0But {x : Addr} (k0 : Keeps h₀ h) (hx : Heap.ExtBut x h h') (h0 : h₀.get? x = none) : Keeps h₀ h' := fun b o e => hx b o (fun z => by subst z; rw [h0] at e; cases e) (k0 b o e)
theorem LS.keeps (S : LS w h₀ a TA B P C kvs tv dv av v2 oi m h) (k : Keeps h h') : LS w h₀ a TA B P C kvs tv dv av v2 oi m h' :=
  { S with ns := S.ns.keeps k, cell1 := S.cell1.keeps k, cell2 := S.cell2.keeps k, told := S.told.keeps k, due := S.due.keeps k, asked := S.asked.keeps k, held := S.held.at (k _), tab := S.tab.step (k _) (stepKeeps k), itv := k _ _ S.itv, mat := S.mat.step (stepKeeps k), tr := S.tr.keep fun a _ o e => k a o e, k0 := S.k0.trans k }
theorem LS.onL (S : LS w h₀ a TA B P C kvs tv dv av v2 oi m h) {m' : Str → Option Value} (hp : h'.Ns a.L m') (hx : Heap.ExtBut a.L h h') : LS w h₀ a TA B P C kvs tv dv av v2 oi m' h' :=
  have hin : a.L ∈ a.fix ++ TA := List.mem_append_left _ (Ad.mem 0)
  have hif : a.L ∈ a.fix := Ad.mem 0
  { S with ns := hp, cell1 := (let ⟨o, e, r⟩ := S.cell1; ⟨o, hx _ _ (S.ne 1 0) e, r⟩), cell2 := (let ⟨o, e, r⟩ := S.cell2; ⟨o, hx _ _ (S.ne 2 0) e, r⟩), told := S.told.extBut hx (S.ne 3 0), due := S.due.extBut hx (S.ne 4 0), asked := S.asked.extBut hx (S.ne 5 0), held := S.held.at fun o e => hx _ o (S.ne 6 0) e, tab := S.tab.step (fun o e => hx _ o (S.ne 7 0) e) (stepBut hx hin), itv := hx _ _ (S.ne 8 0) S.itv, mat := S.mat.step (stepBut hx hin), tr := S.tr.keep fun b hb o e => hx b o (fun z => S.offT _ hif (z ▸ hb)) e, k0 := k0But S.k0 hx (S.new0 _ hif) }
theorem LS.onC2 (S : LS w h₀ a TA B P C kvs tv dv av v2 oi m h) {v2' : Option Value} (hp : h'.IsCell a.c2 v2') (hx : Heap.ExtBut a.c2 h h') : LS w h₀ a TA B P C kvs tv dv av v2' oi m h' :=
  have hin : a.c2 ∈ a.fix ++ TA := List.mem_append_left _ (Ad.mem 2)
  have hif : a.c2 ∈ a.fix := Ad.mem 2
  { S with ns := S.ns.extBut hx (S.ne 0 2), cell1 := (let ⟨o, e, r⟩ := S.cell1; ⟨o, hx _ _ (S.ne 1 2) e, r⟩), cell2 := hp, told := S.told.extBut hx (S.ne 3 2), due := S.due.extBut hx (S.ne 4 2), asked := S.asked.extBut hx (S.ne 5 2), held := S.held.at fun o e => hx _ o (S.ne 6 2) e, tab := S.tab.step (fun o e => hx _ o (S.ne 7 2) e) (stepBut hx hin), itv := hx _ _ (S.ne 8 2) S.itv, mat := S.mat.step (stepBut hx hin), tr := S.tr.keep fun b hb o e => hx b o (fun z => S.offT _ hif (z ▸ hb)) e, k0 := k0But S.k0 hx (S.new0 _ hif) }
theorem LS.onT (S : LS w h₀ a TA B P C kvs tv dv av v2 oi m h) {tv' : List Value} (hp : PlainL h' a.aT (List.toArray tv')) (hx : Heap.ExtBut a.aT h h') : LS w h₀ a TA B P C kvs tv' dv av v2 oi m h' :=
  have hin : a.aT ∈ a.fix ++ TA := List.mem_append_left _ (Ad.mem 3)
  have hif : a.aT ∈ a.fix := Ad.mem 3
  { S with ns := S.ns.extBut hx (S.ne 0 3), cell1 := (let ⟨o, e, r⟩ := S.cell1; ⟨o, hx _ _ (S.ne 1 3) e, r⟩), cell2 := (let ⟨o, e, r⟩ := S.cell2; ⟨o, hx _ _ (S.ne 2 3) e, r⟩), told := hp, due := S.due.extBut hx (S.ne 4 3), asked := S.asked.extBut hx (S.ne 5 3), held := S.held.at fun o e => hx _ o (S.ne 6 3) e, tab := S.tab.step (fun o e => hx _ o (S.ne 7 3) e) (stepBut hx hin), itv := hx _ _ (S.ne 8 3) S.itv, mat := S.mat.step (stepBut hx hin), tr := S.tr.keep fun b hb o e => hx b o (fun z => S.offT _ hif (z ▸ hb)) e, k0 := k0But S.k0 hx (S.new0 _ hif) }
theorem LS.onD (S : LS w h₀ a TA B P C kvs tv dv av v2 oi m h) {dv' : List Value} (hp : PlainL h' a.aD (List.toArray dv')) (hx : Heap.ExtBut a.aD h h') : LS w h₀ a TA B P C kvs tv dv' av v2 oi m h' :=
  have hin : a.aD ∈ a.fix ++ TA := List.mem_append_left _ (Ad.mem 4)
  have hif : a.aD ∈ a.fix := Ad.mem 4
  { S with ns := S.ns.extBut hx (S.ne 0 4), cell1 := (let ⟨o, e, r⟩ := S.cell1; ⟨o, hx _ _ (S.ne 1 4) e, r⟩), cell2 := (let ⟨o, e, r⟩ := S.cell2; ⟨o, hx _ _ (S.ne 2 4) e, r⟩), told := S.told.extBut hx (S.ne 3 4), due := hp, asked := S.asked.extBut hx (S.ne 5 4), held := S.held.at fun o e => hx _ o (S.ne 6 4) e, tab := S.tab.step (fun o e => hx _ o (S.ne 7 4) e) (stepBut hx hin), itv := hx _ _ (S.ne 8 4) S.itv, mat := S.mat.step (stepBut hx hin), tr := S.tr.keep fun b hb o e => hx b o (fun z => S.offT _ hif (z ▸ hb)) e, k0 := k0But S.k0 hx (S.new0 _ hif) }
theorem LS.onA (S : LS w h₀ a TA B P C kvs tv dv av v2 oi m h) {av' : List Value} (hp : PlainL h' a.aA (List.toArray av')) (hx : Heap.ExtBut a.aA h h') : LS w h₀ a TA B P C kvs tv dv av' v2 oi m h' :=
  have hin : a.aA ∈ a.fix ++ TA := List.mem_append_left _ (Ad.mem 5)
  have hif : a.aA ∈ a.fix := Ad.mem 5
  { S with ns := S.ns.extBut hx (S.ne 0 5), cell1 := (let ⟨o, e, r⟩ := S.cell1; ⟨o, hx _ _ (S.ne 1 5) e, r⟩), cell2 := (let ⟨o, e, r⟩ := S.cell2; ⟨o, hx _ _ (S.ne 2 5) e, r⟩), told := S.told.extBut hx (S.ne 3 5), due := S.due.extBut hx (S.ne 4 5), asked := hp, held := S.held.at fun o e => hx _ o (S.ne 6 5) e, tab := S.tab.step (fun o e => hx _ o (S.ne 7 5) e) (stepBut hx hin), itv := hx _ _ (S.ne 8 5) S.itv, mat := S.mat.step (stepBut hx hin), tr := S.tr.keep fun b hb o e => hx b o (fun z => S.offT _ hif (z ▸ hb)) e, k0 := k0But S.k0 hx (S.new0 _ hif) }
theorem LS.onH (S : LS w h₀ a TA B P C kvs tv dv av v2 oi m h) {kvs' : List (Str × Value)} (hp : h'.DictOf (SK w) a.dh kvs') (hx : Heap.ExtBut a.dh h h') : LS w h₀ a TA B P C kvs' tv dv av v2 oi m h' :=
  have hin : a.dh ∈ a.fix ++ TA := List.mem_append_left _ (Ad.mem 6)
  have hif : a.dh ∈ a.fix := Ad.mem 6
  { S with ns := S.ns.extBut hx (S.ne 0 6), cell1 := (let ⟨o, e, r⟩ := S.cell1; ⟨o, hx _ _ (S.ne 1 6) e, r⟩), cell2 := (let ⟨o, e, r⟩ := S.cell2; ⟨o, hx _ _ (S.ne 2 6) e, r⟩), told := S.told.extBut hx (S.ne 3 6), due := S.due.extBut hx (S.ne 4 6), asked := S.asked.extBut hx (S.ne 5 6), held := hp, tab := S.tab.step (fun o e => hx _ o (S.ne 7 6) e) (stepBut hx hin), itv := hx _ _ (S.ne 8 6) S.itv, mat := S.mat.step (stepBut hx hin), tr := S.tr.keep fun b hb o e => hx b o (fun z => S.offT _ hif (z ▸ hb)) e, k0 := k0But S.k0 hx (S.new0 _ hif) }
theorem LS.onTab (S : LS w h₀ a TA B P C kvs tv dv av v2 oi m h) (hp : TabRec (a.fix ++ TA) h') (hx : Heap.ExtBut 74 h h') : LS w h₀ a TA B P C kvs tv dv av v2 oi m h' :=
  have hin : 74 ∈ a.fix ++ TA := List.mem_append_left _ (Ad.mem 7)
  have hif : 74 ∈ a.fix := Ad.mem 7
  { S with ns := S.ns.extBut hx (S.ne 0 7), cell1 := (let ⟨o, e, r⟩ := S.cell1; ⟨o, hx _ _ (S.ne 1 7) e, r⟩), cell2 := (let ⟨o, e, r⟩ := S.cell2; ⟨o, hx _ _ (S.ne 2 7) e, r⟩), told := S.told.extBut hx (S.ne 3 7), due := S.due.extBut hx (S.ne 4 7), asked := S.asked.extBut hx (S.ne 5 7), held := S.held.at fun o e => hx _ o (S.ne 6 7) e, tab := hp, itv := hx _ _ (S.ne 8 7) S.itv, mat := S.mat.step (stepBut hx hin), tr := S.tr.keep fun b hb o e => hx b o (fun z => S.offT _ hif (z ▸ hb)) e, k0 := k0But S.k0 hx (S.new0 _ hif) }
theorem LS.onIt (S : LS w h₀ a TA B P C kvs tv dv av v2 oi m h) {oi' : Obj} (hp : h'.get? a.it = some oi') (hx : Heap.ExtBut a.it h h') : LS w h₀ a TA B P C kvs tv dv av v2 oi' m h' :=
  have hin : a.it ∈ a.fix ++ TA := List.mem_append_left _ (Ad.mem 8)
  have hif : a.it ∈ a.fix := Ad.mem 8
  { S with ns := S.ns.extBut hx (S.ne 0 8), cell1 := (let ⟨o, e, r⟩ := S.cell1; ⟨o, hx _ _ (S.ne 1 8) e, r⟩), cell2 := (let ⟨o, e, r⟩ := S.cell2; ⟨o, hx _ _ (S.ne 2 8) e, r⟩), told := S.told.extBut hx (S.ne 3 8), due := S.due.extBut hx (S.ne 4 8), asked := S.asked.extBut hx (S.ne 5 8), held := S.held.at fun o e => hx _ o (S.ne 6 8) e, tab := S.tab.step (fun o e => hx _ o (S.ne 7 8) e) (stepBut hx hin), itv := hp, mat := S.mat.step (stepBut hx hin), tr := S.tr.keep fun b hb o e => hx b o (fun z => S.offT _ hif (z ▸ hb)) e, k0 := k0But S.k0 hx (S.new0 _ hif) }
/-- the trie turns -/
theorem LS.onTrie {TA' : List Addr} {B' : Nat} {P' : List Str → Option (Addr × Addr)} {C' : List Str → Value} (S : LS w h₀ a TA B P C kvs tv dv av v2 oi m h) (T : Trie w h' a.root P' C' TA' B') (st : Step h TA h' TA') : LS w h₀ a TA' B' P' C' kvs tv dv av v2 oi m h' ∧ Step h (a.fix ++ TA) h' (a.fix ++ TA') := by
  have kf : ∀ x ∈ a.fix, ∀ o, h.get? x = some o → h'.get? x = some o := fun x hx o e => (st x o (S.offT x hx) e).1
  have stM : Step h (a.fix ++ TA) h' (a.fix ++ TA') := fun b o hb e => by
    rw [List.mem_append, not_or] at hb
    obtain ⟨e1, e2⟩ := st b o hb.2 e
    exact ⟨e1, fun z => (List.mem_append.mp z).elim hb.1 e2⟩
  have offT' : ∀ x ∈ a.fix, x ∉ TA' := fun x hx => by
    obtain ⟨o, e⟩ := S.inFix hx
    exact (st x o (S.offT x hx) e).2
  have hT0' : ∀ x ∈ TA', h₀.get? x = none := fun x hx => by
    cases hz : h₀.get? x with
    | none => rfl
    | some o => exact absurd hx (st x o (fun z => by rw [S.hT0 x z] at hz; cases hz) (S.k0 x o hz)).2
  refine ⟨{ S with ns := S.ns.at (kf _ (Ad.mem 0)), cell1 := (let ⟨o, e, r⟩ := S.cell1; ⟨o, kf _ (Ad.mem 1) _ e, r⟩), cell2 := (let ⟨o, e, r⟩ := S.cell2; ⟨o, kf _ (Ad.mem 2) _ e, r⟩), told := (let ⟨o, n, e, r⟩ := S.told; ⟨o, n, kf _ (Ad.mem 3) _ e, r⟩), due := (let ⟨o, n, e, r⟩ := S.due; ⟨o, n, kf _ (Ad.mem 4) _ e, r⟩), asked := (let ⟨o, n, e, r⟩ := S.asked; ⟨o, n, kf _ (Ad.mem 5) _ e, r⟩), held := S.held.at (kf _ (Ad.mem 6)), tab := S.tab.step (kf _ (Ad.mem 7)) stM, itv := kf _ (Ad.mem 8) _ S.itv, mat := S.mat.step stM, tr := T, k0 := fun b o e => (st b o (fun z => by rw [S.hT0 b z] at e; cases e) (S.k0 b o e)).1, offT := offT', hT0 := hT0' }, stM⟩
end

/-! what no one changes any more -/
noncomputable abbrev GG (h : Heap) (S : List Addr) : Addr → Obj → Prop := fun b o => b ∉ S ∧ h.get? b = some o
theorem Step.gg {h h' : Heap} {S S' : List Addr} (st : Step h S h' S') : ∀ b o, GG h S b o → GG h' S' b o := fun b o ⟨x, e⟩ => let ⟨e', x'⟩ := st b o x e; ⟨x', e'⟩
noncomputable def GList (G : Addr → Obj → Prop) (b : Addr) (vs : List Value) : Prop := ∃ o n, G b o ∧ o.cls = .type "list" ∧ o.data = .seq (List.toArray vs) n
noncomputable def GTup (G : Addr → Obj → Prop) (b : Addr) (vs : List Value) : Prop := ∃ o n, G b o ∧ o.cls = .type "tuple" ∧ o.data = .seq (List.toArray vs) n
noncomputable def StrL (G : Addr → Obj → Prop) (b : Addr) (ls : List Str) : Prop := ∃ us, GList G b us ∧ StrsAre us ls
noncomputable def IntL (G : Addr → Obj → Prop) (b : Addr) (ns : List Int) : Prop := ∃ us, GList G b us ∧ IntsAre us ns
noncomputable abbrev slashJ (ls : List Str) : Str := Txt.join (Str.ofString "/") ls
noncomputable def HeldE (G : Addr → Obj → Prop) (kv : Str × Value) (e : List Str × Int) : Prop := ∃ u t al, kv.2 = .ref u ∧ GTup G u [.int e.2 t, .ref al] ∧ StrL G al e.1 ∧ kv.1 = slashJ e.1
noncomputable def PairE (G : Addr → Obj → Prop) (x y : Value) : Prop := (x = .none ∧ y = .none) ∨ (∃ b, x = .bool b ∧ y = .bool b) ∨ ∃ p q ns, x = .ref p ∧ y = .ref q ∧ IntL G p ns ∧ IntL G q ns ∧ ns.length ≤ 40
section
variable {G G' : Addr → Obj → Prop} (k : ∀ b o, G b o → G' b o)
include k
theorem GList.mono {b : Addr} {vs : List Value} (x : GList G b vs) : GList G' b vs := let ⟨o, n, e, r⟩ := x; ⟨o, n, k _ _ e, r⟩
theorem GTup.mono {b : Addr} {vs : List Value} (x : GTup G b vs) : GTup G' b vs := let ⟨o, n, e, r⟩ := x; ⟨o, n, k _ _ e, r⟩
theorem StrL.mono {b : Addr} {ls : List Str} (x : StrL G b ls) : StrL G' b ls := let ⟨us, a, r⟩ := x; ⟨us, a.mono k, r⟩
theorem IntL.mono {b : Addr} {ns : List Int} (x : IntL G b ns) : IntL G' b ns := let ⟨us, a, r⟩ := x; ⟨us, a.mono k, r⟩
theorem HeldE.mono {kv : Str × Value} {e : List Str × Int} (x : HeldE G kv e) : HeldE G' kv e := let ⟨u, t, al, a, b, c, d⟩ := x; ⟨u, t, al, a, b.mono k, c.mono k, d⟩
theorem PairE.mono {x y : Value} (z : PairE G x y) : PairE G' x y := by
  rcases z with z | z | ⟨p, q, ns, a, b, c, d, e⟩
  · exact .inl z
  · exact .inr (.inl z)
  · exact .inr (.inr ⟨p, q, ns, a, b, c.mono k, d.mono k, e⟩)
end
theorem GList.isList {h : Heap} {S : List Addr} {b : Addr} {vs : List Value} (x : GList (GG h S) b vs) : h.IsList b (List.toArray vs) := let ⟨o, n, e, c, d⟩ := x; ⟨o, e.2, c, n, d⟩
theorem GTup.isTuple {h : Heap} {S : List Addr} {b : Addr} {vs : List Value} (x : GTup (GG h S) b vs) : h.IsTuple b (List.toArray vs) := let ⟨o, n, e, c, d⟩ := x; ⟨o, e.2, c, n, d⟩
end Mine
end
section
open PySem PySem.W PySem.Calls PySem.Spec PyProof.Rows
set_option Elab.async false
set_option maxRecDepth 100000
set_option maxHeartbeats 4000000
set_option linter.unusedVariables false
namespace Mine
theorem fillLb : Reg PySem.Challenge.rw_bc0018_01 hd.heap_39 := by k_fill; trivial
noncomputable def lwS : Stmt := nthS PySem.Challenge.pw_bc0018_01.main.body 7
noncomputable def lwL : { l : List Stmt // bodyS lwS = l } := ⟨_, by
  dsimp only [lwS, PySem.Challenge.pw_bc0018_01, nthS, bodyS]⟩
noncomputable def lwSc : { l : Scope // scopeS lwS = l } := ⟨_, by
  dsimp only [lwS, PySem.Challenge.pw_bc0018_01, nthS, scopeS]⟩
noncomputable abbrev lwQ : Str := Str.ofString "law"
noncomputable abbrev lwCl (c1 c2 : Addr) : List (Str × Addr) := [(Str.ofString "parts", c2), (Str.ofString "held", c1)]
noncomputable abbrev lenv (L fa : Addr) (cd : Value) (c1 c2 : Addr) : Env := envX lwQ lwSc.1 L fa cd (lwCl c1 c2)
noncomputable def delE : Stmt → Expr
  | .Delete [e] _ => e
  | _ => default
/-- the loop's body -/
noncomputable def lb (i : Nat) : Stmt := nthS (bodyS (nthS lwL.1 6)) i
noncomputable def l5 : Stmt := lb 7
noncomputable def l6 : Stmt := nthS (elseS l5) 0
noncomputable def l7 : Stmt := nthS (elseS l6) 0

section
variable {M : Model} {A : Around} {E : Value → Shared → Prop} {s : Shared} {x C f : Addr} {K : Frag} {ox : Obj} {od : Option Obj} {i : Value} {L : Addr} {h₀ : Heap} {m : Str → Option Value}
theorem delItem_K {Q : Unit → Shared → Prop} (F : Fr h₀ L s.heap m) (X₀ : K.In h₀) (I : InstAt s.heap x ox C od) (hq : noSeq K C = true) (hs : findIn K (.ref C) "__delitem__" = some (some (.ref f))) (hf : isFn K (.ref f) = true)
    (h : wpAny M A (call (.ref f) [.ref x, i]) (fun _ s' => Q () s') E s) : wpAny M A (delItem (.ref x) i) Q E s := by
  have X := X₀.keeps F.keep
  unfold delItem sequenceKey
  refine wpAny_holding (wpAny_bind (wpAny_bind (I.type.here ?_)))
  refine wpAny_bind ((anyM_none X hq).here ?_)
  rw [if_pos (show (!false) = true from rfl)]
  exact wpAny_pure (wpAny_bind (special_fn X I hs (beq_iff_eq.mp hf) (wpAny_mono h (fun _ _ z => wpAny_pure z) fun _ _ z => z)))
end
section
variable {w : World} {A : Around} {E : Value → Shared → Prop} {s : Shared} {d : Addr} {kvs : List (Str × Value)} {k : Str} {t : Tok} {v : Value}
theorem in_raw {Q : Value → Shared → Prop} (hD : s.heap.DictOf (SK w) d kvs) (lo : (d == sysModules) = false) (h : Q (.bool (valueAt kvs k).isSome) { s with toks := s.toks + 1 }) : wpAny (model PP w) A (compareOp .In (.str k t) (.ref d)) Q E s :=
  wpAny_in_of (strKind_is PP w k t) lo hD.mapOf h
theorem notIn_raw {Q : Value → Shared → Prop} (hD : s.heap.DictOf (SK w) d kvs) (lo : (d == sysModules) = false) (h : Q (.bool (!(valueAt kvs k).isSome)) { s with toks := s.toks + 1 }) : wpAny (model PP w) A (compareOp .NotIn (.str k t) (.ref d)) Q E s :=
  wpAny_notIn_of (strKind_is PP w k t) lo hD.mapOf h
theorem pop_raw {Q : Value → Shared → Prop} (hD : s.heap.DictOf (SK w) d kvs) (hl : kvs.length ≤ 1000) (hv : valueAt kvs k = some v)
    (h : ∀ h', h'.DictOf (SK w) d (without kvs k) → Heap.SameBut d s.heap h' → Q v { s with heap := h', toks := s.toks + 1 }) : wpAny (model PP w) A (call (.builtin "dict.pop") [.ref d, .str k t]) Q E s :=
  call_meetsIn PySem.F.slot_dict_pop hD.typeIs PySem.F.entry_dict_pop (PySem.F.args_dict_pop_2 _ _) (meets_dict_pop_there (SK w) d (strKind_is PP w k t) [] (.inl rfl) rfl) ⟨kvs, v, hD, Nat.le_trans hl (by decide), hv, fun h' hmm hs => h h' hmm hs⟩
theorem pop_method {Q : Value × List Value → Shared → Prop} {pl : Sem Bool} (hd : s.heap.DictOf (SK w) d kvs) (h : Q (.builtin "dict.pop", [.ref d]) s) : wpAny (model PP w) A (getMethod (.ref d) "pop" pl) Q E s :=
  getMethod_builtin hd.typeIs PySem.F.plainAttrs_dict PySem.F.slot_dict_pop PySem.F.type_dict_pop hd.mapOf.noDict h
theorem setItem_raw {Q : Unit → Shared → Prop} (hD : s.heap.DictOf (SK w) d kvs) (hl : kvs.length ≤ 1000)
    (h : ∀ h', h'.DictOf (SK w) d (stored kvs k v) → Heap.SameBut d s.heap h' → Q () { s with heap := h', toks := s.toks + 1 }) : wpAny (model PP w) A (setItem (.ref d) (.str k t) v) Q E s := by
  unfold setItem
  try with_reducible refine wpAny_holding ?_
  refine wpAny_bind (wpAny_sequenceKey hD.typeIs (by decide) ?_)
  exact wpAny_bind (wpAny_callSpecial?_slot (name := Str.ofString "__setitem__") hD.typeIs PySem.F.slot_dict_setitem
    (call_meetsIn PySem.F.slot_dict_setitem hD.typeIs PySem.F.entry_dict_setitem (PySem.F.args_dict_setitem_3 _ _ _) (meets_dict_setitem_pairs (SK w) d (strKind_is PP w k t) v) ⟨kvs, hD, Nat.le_trans hl (by decide), fun h' hmm hs => wpAny_pure (h h' hmm hs)⟩))
end
end Mine
end
section
open PySem PySem.W PySem.Calls PySem.Spec PyProof.Rows
set_option Elab.async false
set_option maxRecDepth 100000
set_option maxHeartbeats 4000000
set_option linter.unusedVariables false
namespace Mine
theorem fillLc : Reg PySem.Challenge.rw_bc0018_01 hd.heap_39 := by k_fill; trivial
theorem tupBut {h h' : Heap} {a b : Addr} {items : Array Value} (x : h.IsTuple a items) (hs : Heap.SameBut b h h') (hne : a ≠ b) : h'.IsTuple a items := x.extBut hs.extBut hne
theorem plBut {h h' : Heap} {a b : Addr} {items : Array Value} (x : PlainL h a items) (hs : Heap.SameBut b h h') (hne : a ≠ b) : PlainL h' a items := x.extBut hs.extBut hne
theorem plPush {h : Heap} {a : Addr} {o : Obj} {items : Array Value} (x : PlainL h a items) : PlainL (h.push o) a items := x.keeps fun _ _ e => Heap.get?_push_of_some _ e
theorem cellPush {h : Heap} {a : Addr} {o : Obj} {v : Option Value} (x : h.IsCell a v) : (h.push o).IsCell a v := x.keeps fun _ _ e => Heap.get?_push_of_some _ e
theorem frPush {h₀ h : Heap} {L : Addr} {m : Str → Option Value} {o : Obj} (F : Fr h₀ L h m) : Fr h₀ L (h.push o) m := F.keeps fun _ _ e => Heap.get?_push_of_some _ e
theorem dicPush {h : Heap} {w : World} {a : Addr} {o : Obj} {kvs : List (Str × Value)} (x : h.DictOf (SK w) a kvs) : (h.push o).DictOf (SK w) a kvs := x.at fun _ e => Heap.get?_push_of_some _ e
local macro_rules | `(tactic| walk_at "eval Name") => `(tactic| (k_here; k_dflt (refine' nameX_L (by first | k_asm | exact frPush (by k_asm)) (by with_reducible assumption) ?_ (by rfl) (by rfl); k_whole)))
local macro_rules | `(tactic| walk_at "eval Name") => `(tactic| (k_here; k_dflt (refine' wpAny_Name (wpAny_loadName_cell (by rfl) (by rfl) (by rfl) (by first | with_reducible assumption | exact cellPush (by with_reducible assumption)) ?_) (by decide))))
local macro_rules | `(tactic| walk_at "compareOp In str ref") => `(tactic| (k_here; k_dflt (refine' in_raw (by with_reducible assumption) (by with_reducible assumption) ?_)))
local macro_rules | `(tactic| walk_at "compareOp NotIn str ref") => `(tactic| (k_here; k_dflt (refine' notIn_raw (by with_reducible assumption) (by with_reducible assumption) ?_)))
local macro_rules | `(tactic| walk_at "getMethod ref") => `(tactic| (k_here; k_dflt (first
  | ((with_reducible show wpAny _ _ (getMethod _ (PySem.Str.ofString "append") _) _ _ _); refine' append_method (by first | with_reducible assumption | exact plPush (by with_reducible assumption)) ?_)
  | ((with_reducible show wpAny _ _ (getMethod _ (PySem.Str.ofString "pop") _) _ _ _); refine' pop_method (by with_reducible assumption) ?_))))
local macro_rules | `(tactic| walk_at "newList") => `(tactic| (k_here; k_dflt (refine' wpAny_newList ?_)))
local macro_rules | `(tactic| walk_at "newTuple") => `(tactic| (k_here; k_dflt (refine' wpAny_newTuple ?_)))
local macro_rules | `(tactic| walk_at "call builtin:list.append") => `(tactic| (k_here; k_dflt (refine' list_append_plainL (by first | with_reducible assumption | exact plPush (by with_reducible assumption) | exact plPush (plBut (by with_reducible assumption) (by with_reducible assumption) (by with_reducible assumption))) ?_ (by with_reducible assumption))))
local macro_rules | `(tactic| walk_at "call builtin:dict.pop") => `(tactic| (k_here; k_dflt (refine' pop_raw (by with_reducible assumption) (by with_reducible assumption) (by with_reducible assumption) ?_; intro h' hd' hs')))
local macro_rules | `(tactic| walk_at "subscriptTail") => `(tactic| (k_here; (with_reducible show wpAny _ _ (subscriptTail _ _ (Value.ref _) (Value.str _ _)) _ _ _); k_dflt (first | (refine' item_map (by exact Heap.DictOf.mapOf (by with_reducible assumption)) (by with_reducible assumption) ?_) )))
local macro_rules | `(tactic| walk_at "subscriptTail") => `(tactic| (k_here; (with_reducible show wpAny _ _ (subscriptTail _ _ (Value.ref _) (Value.int _ _)) _ _ _); k_dflt (refine' item_tuple (by first | with_reducible assumption | exact tupBut (by with_reducible assumption) (by with_reducible assumption) (by with_reducible assumption)) (by decide) (by decide) (by exact rfl) (by exact rfl) ?_)))
local macro_rules | `(tactic| walk_at "setItem ref str") => `(tactic| (k_here; k_dflt (refine' setItem_raw (by first | with_reducible assumption | exact dicPush (by with_reducible assumption)) (by with_reducible assumption) ?_)))
section
variable {w : World} {A : Around} {E : Value → Shared → Prop} {s : Shared} {M L fa c1 c2 u dh aT aD aA al ap : Addr} {h₀ : Heap} {m mg mb : Str → Option Value} {p : Program} {loose : List Str} {mean : ExcName → Option Value} {cd v : Value} {text : Str} {t ta : Tok} {i : Int} {its : Array Value} {kvs : List (Str × Value)}
theorem d5_set {ox : Obj} {od : Option Obj} (F : Fr h₀ L s.heap m) (X : Frag.In (hd.heap_39 w.params) h₀) (T : Top p loose mean mg mb h₀) (hM : m (Str.ofString "matcher") = some (.ref M)) (ht : m (Str.ofString "text") = some (.str text t)) (hat : m (Str.ofString "at") = some (.int i ta)) (I : InstAt s.heap M ox 82 od)
    {Q : Flow → Shared → Prop} (h : wpAny (model PP w) A (call (.ref 58) [.ref M, .str text t, .int i ta]) (fun _ s' => Q .next s') E s) :
    wpAny (model PP w) A (exec (nthS (bodyS l5) 0) (lenv L fa cd c1 c2)) Q E s := by
  unfold l5 lb lwL lenv lwSc
  dsimp only [nthS, bodyS]
  have N : News h₀ L s.heap [] := .nil
  k_steps
  refine ksp_setItem (K := hd.heap_39 w.params) (C := 82) (f := 58) F X I ?_ ?_ ?_ h
  all_goals k_is
theorem d5_held (F : Fr h₀ L s.heap m) (X : Frag.In (hd.heap_39 w.params) h₀) (T : Top p loose mean mg mb h₀) (ht : m (Str.ofString "text") = some (.str text t)) (hat : m (Str.ofString "at") = some (.int i ta)) (hlv : m (Str.ofString "levels") = some (.ref al)) (hc : s.heap.IsCell c1 (some (.ref dh))) (hD : s.heap.DictOf (SK w) dh kvs) (hkl : kvs.length ≤ 1000)
    {Q : Flow → Shared → Prop} (h : ∀ h' tk u, s.heap.get? u = none → h'.IsTuple u #[.int i ta, .ref al] → h'.DictOf (SK w) dh (stored kvs text (.ref u)) → Heap.ExtBut dh s.heap h' → Q .next { s with heap := h', toks := tk }) :
    wpAny (model PP w) A (exec (nthS (bodyS l5) 1) (lenv L fa cd c1 c2)) Q E s := by
  unfold l5 lb lwL lenv lwSc
  dsimp only [nthS, bodyS]
  have N : News h₀ L s.heap [] := .nil
  k_steps
  have hdl : dh ≠ s.heap.objs.size := fun z => by
    obtain ⟨o, _, _, e, _⟩ := hD
    exact absurd (Heap.lt_size e) (by rw [z]; exact Nat.lt_irrefl _)
  rename_i h' hd' hs'
  refine h h' _ s.heap.objs.size (Heap.StaysIn.fresh (base := s.heap) fun _ _ e => e) ⟨_, (hs'.2 _ (Ne.symm hdl)).trans (Heap.get?_push_size _ rfl), rfl, 0, rfl⟩ hd' fun b o hb e => (hs'.2 b hb).trans (Heap.get?_push_of_some _ e)
theorem d5_ask (F : Fr h₀ L s.heap m) (X : Frag.In (hd.heap_39 w.params) h₀) (T : Top p loose mean mg mb h₀) (ha : m (Str.ofString "asked") = some (.ref aA)) (hc : s.heap.IsCell c2 (some v)) (hl : PlainL s.heap aA its) (hsz : its.size ≤ sizeLine)
    {Q : Flow → Shared → Prop} (h : ∀ h' tk, PlainL h' aA (its.push v) → Heap.SameBut aA s.heap h' → Q .next { s with heap := h', toks := tk }) :
    wpAny (model PP w) A (exec (nthS (bodyS l5) 2) (lenv L fa cd c1 c2)) Q E s := by
  unfold l5 lb lwL lenv lwSc
  dsimp only [nthS, bodyS]
  have N : News h₀ L s.heap [] := .nil
  k_steps
  exact h _ _ (by assumption) (by assumption)
/-- due.append([held.pop(text)[0]] if text in held else None) -/
theorem d6_due (F : Fr h₀ L s.heap m) (X : Frag.In (hd.heap_39 w.params) h₀) (T : Top p loose mean mg mb h₀) (ht : m (Str.ofString "text") = some (.str text t)) (hdu : m (Str.ofString "due") = some (.ref aD)) (hc : s.heap.IsCell c1 (some (.ref dh))) (hD : s.heap.DictOf (SK w) dh kvs) (hkl : kvs.length ≤ 1000) (lo : (dh == sysModules) = false) (hl : PlainL s.heap aD its) (hsz : its.size ≤ sizeLine) (hne : aD ≠ dh)
    {Q : Flow → Shared → Prop} (h1 : valueAt kvs text = none → ∀ h' tk, PlainL h' aD (its.push .none) → Heap.SameBut aD s.heap h' → Q .next { s with heap := h', toks := tk })
    (ku : valueAt kvs text = none ∨ ∃ u al i ta, valueAt kvs text = some (.ref u) ∧ s.heap.IsTuple u #[.int i ta, .ref al] ∧ u ≠ dh)
    (h2 : ∀ u al i ta, valueAt kvs text = some (.ref u) → s.heap.IsTuple u #[.int i ta, .ref al] → ∀ h' tk q, s.heap.get? q = none → h'.IsList q #[.int i ta] → PlainL h' aD (its.push (.ref q)) → h'.DictOf (SK w) dh (without kvs text) → (∀ b o, b ≠ aD → b ≠ dh → s.heap.get? b = some o → h'.get? b = some o) → Q .next { s with heap := h', toks := tk }) :
    wpAny (model PP w) A (exec (nthS (bodyS l6) 0) (lenv L fa cd c1 c2)) Q E s := by
  unfold l6 l5 lb lwL lenv lwSc
  dsimp only [nthS, bodyS, elseS]
  have N : News h₀ L s.heap [] := .nil
  rcases ku with hk | ⟨u, al, i, ta, hk, htu, hun⟩
  · k_steps
    · rename_i hb; rw [hk] at hb; cases hb
    · exact h1 hk _ _ (by assumption) (by assumption)
  · k_steps
    · rename_i hb h3 hd3 hs3 h4 hp4 hs4
      dsimp only at hs3 hs4
      have hlt : aD < h3.objs.size := (plBut hl hs3 hne).lt
      refine h2 u al i ta hk htu h4 _ h3.objs.size ?_ ⟨_, (hs4.2 _ (Ne.symm (Nat.ne_of_lt hlt))).trans (Heap.get?_push_size _ rfl), rfl, 0, rfl⟩ hp4 ?_ ?_
      · rw [hs3.1]; exact Heap.StaysIn.fresh (base := s.heap) fun _ _ e => e
      · exact (dicPush hd3).at fun o e => (hs4.2 _ (Ne.symm hne)).trans e
      · intro b o h5 h6 e
        exact (hs4.2 b h5).trans (Heap.get?_push_of_some _ ((hs3.2 b h6).trans e))
    · rename_i hb h4 hp4 hs4; rw [hk] at hb; cases hb
/-- due.append([held[text][0]] if text in held else None) -/
theorem d7_due (F : Fr h₀ L s.heap m) (X : Frag.In (hd.heap_39 w.params) h₀) (T : Top p loose mean mg mb h₀) (ht : m (Str.ofString "text") = some (.str text t)) (hdu : m (Str.ofString "due") = some (.ref aD)) (hc : s.heap.IsCell c1 (some (.ref dh))) (hD : s.heap.DictOf (SK w) dh kvs) (hkl : kvs.length ≤ 1000) (lo : (dh == sysModules) = false) (hl : PlainL s.heap aD its) (hsz : its.size ≤ sizeLine)
    {Q : Flow → Shared → Prop} (h1 : valueAt kvs text = none → ∀ h' tk, PlainL h' aD (its.push .none) → Heap.SameBut aD s.heap h' → Q .next { s with heap := h', toks := tk })
    (ku : valueAt kvs text = none ∨ ∃ u al i ta, valueAt kvs text = some (.ref u) ∧ s.heap.IsTuple u #[.int i ta, .ref al])
    (h2 : ∀ u al i ta, valueAt kvs text = some (.ref u) → s.heap.IsTuple u #[.int i ta, .ref al] → ∀ h' tk q, s.heap.get? q = none → h'.IsList q #[.int i ta] → PlainL h' aD (its.push (.ref q)) → Heap.ExtBut aD s.heap h' → Q .next { s with heap := h', toks := tk }) :
    wpAny (model PP w) A (exec (nthS (bodyS l7) 0) (lenv L fa cd c1 c2)) Q E s := by
  unfold l7 l6 l5 lb lwL lenv lwSc
  dsimp only [nthS, bodyS, elseS]
  have N : News h₀ L s.heap [] := .nil
  rcases ku with hk | ⟨u, al, i, ta, hk, htu⟩
  · k_steps
    · rename_i hb; rw [hk] at hb; cases hb
    · exact h1 hk _ _ (by assumption) (by assumption)
  · k_steps
    · rename_i hb h4 hp4 hs4
      dsimp only at hs4
      have hlt : aD < s.heap.objs.size := hl.lt
      exact h2 u al i ta hk htu h4 _ s.heap.objs.size (Heap.StaysIn.fresh (base := s.heap) fun _ _ e => e) ⟨_, (hs4.2 _ (Ne.symm (Nat.ne_of_lt hlt))).trans (Heap.get?_push_size _ rfl), rfl, 0, rfl⟩ hp4 fun b o h5 e => (hs4.2 b h5).trans (Heap.get?_push_of_some _ e)
    · rename_i hb h4 hp4 hs4; rw [hk] at hb; cases hb
theorem d7_in (F : Fr h₀ L s.heap m) (X : Frag.In (hd.heap_39 w.params) h₀) (T : Top p loose mean mg mb h₀) (ht : m (Str.ofString "text") = some (.str text t)) (hdu : m (Str.ofString "due") = some (.ref aD)) (hc : s.heap.IsCell c1 (some (.ref dh))) (hD : s.heap.DictOf (SK w) dh kvs) (lo : (dh == sysModules) = false) (hl : PlainL s.heap aD its) (hsz : its.size ≤ sizeLine)
    {Q : Flow → Shared → Prop} (h : ∀ h' tk, PlainL h' aD (its.push (.bool (valueAt kvs text).isSome)) → Heap.SameBut aD s.heap h' → Q .next { s with heap := h', toks := tk }) :
    wpAny (model PP w) A (exec (nthS (bodyS l7) 2) (lenv L fa cd c1 c2)) Q E s := by
  unfold l7 l6 l5 lb lwL lenv lwSc
  dsimp only [nthS, bodyS, elseS]
  have N : News h₀ L s.heap [] := .nil
  k_steps
  exact h _ _ (by assumption) (by assumption)
theorem d7_test (F : Fr h₀ L s.heap m) (X : Frag.In (hd.heap_39 w.params) h₀) (T : Top p loose mean mg mb h₀) (ht : m (Str.ofString "text") = some (.str text t)) (hc : s.heap.IsCell c1 (some (.ref dh))) (hD : s.heap.DictOf (SK w) dh kvs) (lo : (dh == sysModules) = false)
    {Q : Bool → Shared → Prop} (h : ∀ tk b, b = !(valueAt kvs text).isSome → Q b { s with toks := tk }) :
    wpAny (model PP w) A (isTrue (testS (nthS (bodyS l7) 3)) (lenv L fa cd c1 c2) (eval (testS (nthS (bodyS l7) 3)) (lenv L fa cd c1 c2))) Q E s := by
  unfold l7 l6 l5 lb lwL lenv lwSc
  dsimp only [nthS, bodyS, elseS, testS]
  have N : News h₀ L s.heap [] := .nil
  k_steps
  all_goals refine h _ _ ?_
  all_goals simp_all
end
section
open PySem PySem.W PySem.Calls PySem.Spec PyProof.Rows
set_option Elab.async false
set_option maxRecDepth 100000
set_option maxHeartbeats 4000000
set_option linter.unusedVariables false
theorem fillLd : Reg PySem.Challenge.rw_bc0018_01 hd.heap_39 := by k_fill; trivial
section
variable {w : World} {A : Around} {E : Value → Shared → Prop} {s : Shared} {M L fa c1 c2 u dh aT aD aA al ap : Addr} {h₀ : Heap} {m mg mb : Str → Option Value} {p : Program} {loose : List Str} {mean : ExcName → Option Value} {cd v : Value} {text : Str} {t ta : Tok} {i : Int} {its : Array Value} {kvs : List (Str × Value)}
/-- matcher[text] in the first Try -/
noncomputable def told1 (l : Stmt) : Stmt := nthS (tryB (nthS (bodyS l) 1)) 0
theorem d6_get {ox : Obj} {od : Option Obj} (F : Fr h₀ L s.heap m) (X : Frag.In (hd.heap_39 w.params) h₀) (T : Top p loose mean mg mb h₀) (hM : m (Str.ofString "matcher") = some (.ref M)) (ht : m (Str.ofString "text") = some (.str text t)) (hto : m (Str.ofString "told") = some (.ref aT)) (I : InstAt s.heap M ox 82 od) (hl : PlainL s.heap aT its) (hsz : its.size ≤ sizeLine)
    {Q : Flow → Shared → Prop} (h : wpAny (model PP w) A.in1 (call (.ref 65) [.ref M, .str text t]) (fun v s' => Keeps s.heap s'.heap ∧ ∀ h' tk q, s'.heap.get? q = none → h'.IsList q #[v] → PlainL h' aT (its.push (.ref q)) → Heap.ExtBut aT s'.heap h' → Q .next { s' with heap := h', toks := tk }) E s) :
    wpAny (model PP w) A (exec (told1 l6) (lenv L fa cd c1 c2)) Q E s := by
  unfold told1 l6 l5 lb lwL lenv lwSc
  dsimp only [nthS, bodyS, elseS, tryB]
  have N : News h₀ L s.heap [] := .nil
  k_steps
  refine sub_K (K := hd.heap_39 w.params) (C := 82) (f := 65) F X I ?_ ?_ ?_ (wpAny_mono h (fun v s' hq => ?_) fun _ _ z => z)
  · k_is
  · k_is
  · k_is
  obtain ⟨k, hq⟩ := hq
  have hl' : PlainL s'.heap aT its := hl.keeps k
  have hlt := hl'.lt
  k_steps
  rename_i h4 hp4 hs4
  exact hq h4 _ s'.heap.objs.size (Heap.StaysIn.fresh (base := s'.heap) fun _ _ e => e) ⟨_, (hs4.2 _ (Ne.symm (Nat.ne_of_lt hlt))).trans (Heap.get?_push_size _ rfl), rfl, 0, rfl⟩ hp4 fun b o h5 e => (hs4.2 b h5).trans (Heap.get?_push_of_some _ e)
theorem d7_get {ox : Obj} {od : Option Obj} (F : Fr h₀ L s.heap m) (X : Frag.In (hd.heap_39 w.params) h₀) (T : Top p loose mean mg mb h₀) (hM : m (Str.ofString "matcher") = some (.ref M)) (ht : m (Str.ofString "text") = some (.str text t)) (hto : m (Str.ofString "told") = some (.ref aT)) (I : InstAt s.heap M ox 82 od) (hl : PlainL s.heap aT its) (hsz : its.size ≤ sizeLine)
    {Q : Flow → Shared → Prop} (h : wpAny (model PP w) A.in1 (call (.ref 65) [.ref M, .str text t]) (fun v s' => Keeps s.heap s'.heap ∧ ∀ h' tk q, s'.heap.get? q = none → h'.IsList q #[v] → PlainL h' aT (its.push (.ref q)) → Heap.ExtBut aT s'.heap h' → Q .next { s' with heap := h', toks := tk }) E s) :
    wpAny (model PP w) A (exec (told1 l7) (lenv L fa cd c1 c2)) Q E s := by
  unfold told1 l7 l6 l5 lb lwL lenv lwSc
  dsimp only [nthS, bodyS, elseS, tryB]
  have N : News h₀ L s.heap [] := .nil
  k_steps
  refine sub_K (K := hd.heap_39 w.params) (C := 82) (f := 65) F X I ?_ ?_ ?_ (wpAny_mono h (fun v s' hq => ?_) fun _ _ z => z)
  · k_is
  · k_is
  · k_is
  obtain ⟨k, hq⟩ := hq
  have hl' : PlainL s'.heap aT its := hl.keeps k
  have hlt := hl'.lt
  k_steps
  rename_i h4 hp4 hs4
  exact hq h4 _ s'.heap.objs.size (Heap.StaysIn.fresh (base := s'.heap) fun _ _ e => e) ⟨_, (hs4.2 _ (Ne.symm (Nat.ne_of_lt hlt))).trans (Heap.get?_push_size _ rfl), rfl, 0, rfl⟩ hp4 fun b o h5 e => (hs4.2 b h5).trans (Heap.get?_push_of_some _ e)
theorem d6_del {ox : Obj} {od : Option Obj} (F : Fr h₀ L s.heap m) (X : Frag.In (hd.heap_39 w.params) h₀) (T : Top p loose mean mg mb h₀) (hM : m (Str.ofString "matcher") = some (.ref M)) (ht : m (Str.ofString "text") = some (.str text t)) (I : InstAt s.heap M ox 82 od)
    {Q : Flow → Shared → Prop} (h : wpAny (model PP w) A (call (.ref 72) [.ref M, .str text t]) (fun _ s' => Q .next s') E s) :
    wpAny (model PP w) A (exec (nthS (tryB (nthS (bodyS l6) 1)) 1) (lenv L fa cd c1 c2)) Q E s := by
  unfold l6 l5 lb lwL lenv lwSc
  dsimp only [nthS, bodyS, elseS, tryB]
  have N : News h₀ L s.heap [] := .nil
  k_steps
  refine delItem_K (K := hd.heap_39 w.params) (C := 82) (f := 72) F X I ?_ ?_ ?_ (wpAny_mono h (fun _ _ z => wpAny_deleteEach_nil z) fun _ _ z => z)
  all_goals k_is
theorem d7_del {ox : Obj} {od : Option Obj} (F : Fr h₀ L s.heap m) (X : Frag.In (hd.heap_39 w.params) h₀) (T : Top p loose mean mg mb h₀) (hM : m (Str.ofString "matcher") = some (.ref M)) (ht : m (Str.ofString "text") = some (.str text t)) (I : InstAt s.heap M ox 82 od)
    {Q : Flow → Shared → Prop} (h : wpAny (model PP w) A (call (.ref 72) [.ref M, .str text t]) (fun _ s' => Q .next s') E s) :
    wpAny (model PP w) A (exec (nthS (tryB (nthS (bodyS (nthS (bodyS l7) 3)) 0)) 0) (lenv L fa cd c1 c2)) Q E s := by
  unfold l7 l6 l5 lb lwL lenv lwSc
  dsimp only [nthS, bodyS, elseS, tryB]
  have N : News h₀ L s.heap [] := .nil
  k_steps
  refine delItem_K (K := hd.heap_39 w.params) (C := 82) (f := 72) F X I ?_ ?_ ?_ (wpAny_mono h (fun _ _ z => wpAny_deleteEach_nil z) fun _ _ z => z)
  all_goals k_is
theorem d6_exc (F : Fr h₀ L s.heap m) (X : Frag.In (hd.heap_39 w.params) h₀) (T : Top p loose mean mg mb h₀) (hto : m (Str.ofString "told") = some (.ref aT)) (hl : PlainL s.heap aT its) (hsz : its.size ≤ sizeLine)
    {Q : Flow → Shared → Prop} (h : ∀ h' tk, PlainL h' aT (its.push .none) → Heap.SameBut aT s.heap h' → Q .next { s with heap := h', toks := tk }) :
    wpAny (model PP w) A (exec (nthS (tryH (nthS (bodyS l6) 1)) 0) (lenv L fa cd c1 c2)) Q E s := by
  unfold l6 l5 lb lwL lenv lwSc
  dsimp only [nthS, bodyS, elseS, tryB, tryH]
  have N : News h₀ L s.heap [] := .nil
  k_steps
  exact h _ _ (by assumption) (by assumption)
theorem d7_exc (F : Fr h₀ L s.heap m) (X : Frag.In (hd.heap_39 w.params) h₀) (T : Top p loose mean mg mb h₀) (hto : m (Str.ofString "told") = some (.ref aT)) (hl : PlainL s.heap aT its) (hsz : its.size ≤ sizeLine)
    {Q : Flow → Shared → Prop} (h : ∀ h' tk, PlainL h' aT (its.push .none) → Heap.SameBut aT s.heap h' → Q .next { s with heap := h', toks := tk }) :
    wpAny (model PP w) A (exec (nthS (tryH (nthS (bodyS l7) 1)) 0) (lenv L fa cd c1 c2)) Q E s := by
  unfold l7 l6 l5 lb lwL lenv lwSc
  dsimp only [nthS, bodyS, elseS, tryB, tryH]
  have N : News h₀ L s.heap [] := .nil
  k_steps
  exact h _ _ (by assumption) (by assumption)
theorem d7_true (F : Fr h₀ L s.heap m) (X : Frag.In (hd.heap_39 w.params) h₀) (T : Top p loose mean mg mb h₀) (hto : m (Str.ofString "told") = some (.ref aT)) (hl : PlainL s.heap aT its) (hsz : its.size ≤ sizeLine)
    {Q : Flow → Shared → Prop} (h : ∀ h' tk, PlainL h' aT (its.push (.bool true)) → Heap.SameBut aT s.heap h' → Q .next { s with heap := h', toks := tk }) :
    wpAny (model PP w) A (exec (nthS (tryB (nthS (bodyS (nthS (bodyS l7) 3)) 0)) 1) (lenv L fa cd c1 c2)) Q E s := by
  unfold l7 l6 l5 lb lwL lenv lwSc
  dsimp only [nthS, bodyS, elseS, tryB, tryH]
  have N : News h₀ L s.heap [] := .nil
  k_steps
  exact h _ _ (by assumption) (by assumption)
theorem d7_false (F : Fr h₀ L s.heap m) (X : Frag.In (hd.heap_39 w.params) h₀) (T : Top p loose mean mg mb h₀) (hto : m (Str.ofString "told") = some (.ref aT)) (hl : PlainL s.heap aT its) (hsz : its.size ≤ sizeLine)
    {Q : Flow → Shared → Prop} (h : ∀ h' tk, PlainL h' aT (its.push (.bool false)) → Heap.SameBut aT s.heap h' → Q .next { s with heap := h', toks := tk }) :
    wpAny (model PP w) A (exec (nthS (tryH (nthS (bodyS (nthS (bodyS l7) 3)) 0)) 0) (lenv L fa cd c1 c2)) Q E s := by
  unfold l7 l6 l5 lb lwL lenv lwSc
  dsimp only [nthS, bodyS, elseS, tryB, tryH]
  have N : News h₀ L s.heap [] := .nil
  k_steps
  exact h _ _ (by assumption) (by assumption)
theorem d7_else (F : Fr h₀ L s.heap m) (X : Frag.In (hd.heap_39 w.params) h₀) (T : Top p loose mean mg mb h₀) (hto : m (Str.ofString "told") = some (.ref aT)) (hl : PlainL s.heap aT its) (hsz : its.size ≤ sizeLine)
    {Q : Flow → Shared → Prop} (h : ∀ h' tk, PlainL h' aT (its.push (.bool true)) → Heap.SameBut aT s.heap h' → Q .next { s with heap := h', toks := tk }) :
    wpAny (model PP w) A (exec (nthS (elseS (nthS (bodyS l7) 3)) 0) (lenv L fa cd c1 c2)) Q E s := by
  unfold l7 l6 l5 lb lwL lenv lwSc
  dsimp only [nthS, bodyS, elseS, tryB, tryH]
  have N : News h₀ L s.heap [] := .nil
  k_steps
  exact h _ _ (by assumption) (by assumption)
end
end
section
local macro_rules | `(tactic| walk_at "storeName") => `(tactic| (k_here; k_dflt (refine' wpAny_storeName_local (by rfl) (Fr.ns (by k_asm)) ?_ (by rfl); intro h' hn' hs')))
section
open PySem PySem.W PySem.Calls PySem.Spec PyProof.Rows
set_option Elab.async false
set_option maxRecDepth 100000
set_option maxHeartbeats 4000000
set_option linter.unusedVariables false
theorem fillLe : Reg PySem.Challenge.rw_bc0018_01 hd.heap_39 := by k_fill; trivial
noncomputable def wordsL : List Str := [Str.ofString "a", Str.ofString "b", Str.ofString "", Str.ofString "+", Str.ofString "$x"]
noncomputable def topicsL : List Str := [Str.ofString "a", Str.ofString "b", Str.ofString "", Str.ofString "$x"]
theorem words_at (w : World) : ∃ us n, (hd.heap_39 w.params).lookup 87 = some ⟨.type "list", none, .seq (List.toArray us) n, #[]⟩ ∧ StrsAre us wordsL := by
  apply Exists.intro
  apply Exists.intro
  constructor
  · k_is
  · unfold wordsL
    repeat constructor
theorem topics_at (w : World) : ∃ us n, (hd.heap_39 w.params).lookup 88 = some ⟨.type "list", none, .seq (List.toArray us) n, #[]⟩ ∧ StrsAre us topicsL := by
  apply Exists.intro
  apply Exists.intro
  constructor
  · k_is
  · unfold topicsL
    repeat constructor

local macro_rules | `(tactic| walk_at "binaryOp Mod int int") => `(tactic| (k_here; (with_reducible refine mod_int' ?kbe ?_); (case kbe => omega)))
local macro_rules | `(tactic| walk_at "binaryOp FloorDiv int int") => `(tactic| (k_here; (with_reducible refine floordiv_int ?kbe ?_ (Or.inl (PyProof.noPylong_small ?kbp))); (case kbe => omega); (case kbp => omega)))
theorem strsCarried : ∀ {vs : List Value} {ls : List Str}, StrsAre vs ls → CarriedAll vs (ls.map PyData.str)
  | _, _, .nil => .nil
  | _, _, .cons _ t r => .cons (.str _ t) (strsCarried r)
theorem strsLay : ∀ ls : List Str, (∀ x ∈ ls, PyData.strOk x = true) → PyData.canLayAll0 (ls.map PyData.str) = true
  | [], _ => rfl
  | _ :: r, h => by simp [PyData.canLayAll0, PyData.canLay0, strsLay r fun x hx => h x (.tail _ hx), h _ (.head _)]
theorem strsDepth : ∀ ls : List Str, PyData.depthAll (ls.map PyData.str) = 0
  | [] => rfl
  | _ :: r => by simp [PyData.depthAll, PyData.depth, strsDepth r]
theorem strsEqv : ∀ ns ms : List Str, PyData.eqvAll (ns.map PyData.str) (ms.map PyData.str) = decide (ns = ms)
  | [], [] => by simp [PyData.eqvAll]
  | [], _ :: _ => by simp [PyData.eqvAll]
  | _ :: _, [] => by simp [PyData.eqvAll]
  | a :: r, b :: t => by
    simp only [List.map_cons, PyData.eqvAll, PyData.eqv, strsEqv r t]
    by_cases h : a = b <;> by_cases h' : r = t <;> simp [h, h']
section
variable {prog : Program} {w : World} {A : Around} {E : Value → Shared → Prop} {s : Shared} {a b : Addr} {xs ys : List Value} {ns ms : List Str} {Q : Value → Shared → Prop}
theorem eq_strs (ha : s.heap.IsList a xs.toArray) (hb : s.heap.IsList b ys.toArray) (hi : StrsAre xs ns) (hj : StrsAre ys ms) (o1 : ∀ x ∈ ns, PyData.strOk x = true) (o2 : ∀ x ∈ ms, PyData.strOk x = true) (hu : A.units + 64 < cLine) (h : Q (.bool (decide (ns = ms))) s) :
    wpAny (model prog w) A (compareOp .Eq (.ref a) (.ref b)) Q E s :=
  eq_dataH (reads_newData ha (strsCarried hi)) (reads_newData hb (strsCarried hj)) (by simp [SeqAt.shaped, PyData.canLay0, PyData.depth, strsLay _ o1, strsDepth]) (by simp [SeqAt.shaped, PyData.canLay0, PyData.depth, strsLay _ o2, strsDepth]) hu (by
    rw [show PyData.eqv (.list (ns.map PyData.str)) (.list (ms.map PyData.str)) = decide (ns = ms) from by simp only [PyData.eqv]; exact strsEqv ns ms]; exact h)
theorem add_raw {l b : Addr} {vs ws : List Value} (hl : s.heap.IsList l vs.toArray) (hb : s.heap.IsList b ws.toArray)
    (h : Q (.ref s.heap.objs.size) { s with heap := s.heap.push { cls := .type "list", data := .seq (vs ++ ws).toArray } })
    (hsz : vs.length + ws.length ≤ sizeLine) : wpAny (model prog w) A (binaryOp .Add (.ref l) (.ref b)) Q E s := by
  obtain ⟨⟨cls, dd, data, sl⟩, ho, hc, n, hd⟩ := id hl
  obtain ⟨⟨cls2, dd2, data2, sl2⟩, ho2, hc2, n2, hd2⟩ := id hb
  simp only at hc hd hc2 hd2
  subst hc hd hc2 hd2
  have e : vs.toArray ++ ws.toArray = (vs ++ ws).toArray := by simp
  refine concat_meets ⟨_, ho, rfl⟩ ⟨_, ho2, rfl⟩ noFill_list_add seq_list_add PySem.F.slot_list_add PySem.F.entry_list_add (PySem.F.args_list_add_2 _ _) (list_addW l b vs.toArray ws.toArray n n2 dd dd2 sl sl2 (by simpa using hsz)) ⟨ho, ho2, ?_⟩
  rw [e]
  exact h
end
theorem blankOk : ∀ x ∈ [Str.ofString ""], PyData.strOk x = true := fun x hx => by
  rw [List.mem_singleton] at hx
  subst hx
  decide +kernel
theorem lsPush {h : Heap} {a : Addr} {o : Obj} {vs : Array Value} (x : h.IsList a vs) : (h.push o).IsList a vs := x.push _
local macro_rules | `(tactic| walk_at "compareOp Eq ref ref") => `(tactic| (k_here; k_dflt (refine' eq_strs (by exact lsPush (by with_reducible assumption)) (by exact ⟨_, Heap.get?_push_size _ rfl, rfl, 0, rfl⟩) (by with_reducible assumption) (by exact .cons _ _ .nil) (by with_reducible assumption) (by exact blankOk) (by with_reducible assumption) ?_)))
local macro_rules | `(tactic| walk_at "call builtin:str.join") => `(tactic| (k_here; k_dflt (refine' join_listW (by with_reducible assumption) (by with_reducible assumption) (by decide) (by with_reducible assumption) ?_; intro t' k')))
section
variable {w : World} {A : Around} {E : Value → Shared → Prop} {s : Shared} {M L fa c1 c2 u dh aT aD aA al ap aS : Addr} {h₀ : Heap} {m mg mb : Str → Option Value} {p : Program} {loose : List Str} {mean : ExcName → Option Value} {cd v : Value} {text : Str} {t ta : Tok} {i n : Int} {its : Array Value} {kvs : List (Str × Value)} {vs : List Value} {ns : List Int}
theorem b0 (F : Fr h₀ L s.heap m) (X : Frag.In (hd.heap_39 w.params) h₀) (T : Top p loose mean mg mb h₀) (hsc : m (Str.ofString "script") = some (.ref aS)) (hat : m (Str.ofString "at") = some (.int i ta)) (hl : s.heap.IsList aS vs.toArray) (hi : IntsAre vs ns) (h0 : 0 ≤ i) (h1 : i < ns.length) (h2 : ns.length < 100)
    {Q : Flow → Shared → Prop} (h : ∀ h' tk tk', h'.Ns L (fun y => if y = Str.ofString "deed" then some (.int ((ns.getD i.toNat 0).fmod 9) tk') else m y) → Heap.SameBut L s.heap h' → Q .next { s with heap := h', toks := tk }) :
    wpAny (model PP w) A (exec (lb 0) (lenv L fa cd c1 c2)) Q E s := by
  unfold lb lwL lenv lwSc
  dsimp only [nthS, bodyS]
  have N : News h₀ L s.heap [] := .nil
  k_steps
  exact h _ _ _ (by assumption) (by assumption)
theorem b1 (F : Fr h₀ L s.heap m) (X : Frag.In (hd.heap_39 w.params) h₀) (T : Top p loose mean mg mb h₀) (hsc : m (Str.ofString "script") = some (.ref aS)) (hat : m (Str.ofString "at") = some (.int i ta)) (hl : s.heap.IsList aS vs.toArray) (hi : IntsAre vs ns) (h0 : 0 ≤ i) (h1 : i + 1 < ns.length) (h2 : ns.length < 100)
    {Q : Flow → Shared → Prop} (h : ∀ h' tk tk', h'.Ns L (fun y => if y = Str.ofString "n" then some (.int (ns.getD (i + 1).toNat 0) tk') else m y) → Heap.SameBut L s.heap h' → Q .next { s with heap := h', toks := tk }) :
    wpAny (model PP w) A (exec (lb 1) (lenv L fa cd c1 c2)) Q E s := by
  unfold lb lwL lenv lwSc
  dsimp only [nthS, bodyS]
  have N : News h₀ L s.heap [] := .nil
  k_steps
  exact h _ _ _ (by assumption) (by assumption)
noncomputable def binL : Expr → Expr
  | .BinOp l _ _ _ => l
  | _ => default
noncomputable def binR : Expr → Expr
  | .BinOp _ _ r _ => r
  | _ => default
theorem b2l (F : Fr h₀ L s.heap m) (X : Frag.In (hd.heap_39 w.params) h₀) (T : Top p loose mean mg mb h₀) (hn : m (Str.ofString "n") = some (.int n ta))
    {Q : Value → Shared → Prop} (h : ∀ tk, wpAny (model PP w) A (call (.ref 95) [.int n ta, .ref 87]) Q E { s with toks := tk }) :
    wpAny (model PP w) A (eval (binL (valueS (lb 2))) (lenv L fa cd c1 c2)) Q E s := by
  unfold lb lwL lenv lwSc
  dsimp only [nthS, bodyS, binL, valueS]
  have N : News h₀ L s.heap [] := .nil
  k_steps
  exact h _
theorem b2r (F : Fr h₀ L s.heap m) (X : Frag.In (hd.heap_39 w.params) h₀) (T : Top p loose mean mg mb h₀) (hsc : m (Str.ofString "script") = some (.ref aS)) (hat : m (Str.ofString "at") = some (.int i ta)) (hl : s.heap.IsList aS vs.toArray) (hi : IntsAre vs ns) (h0 : 0 ≤ i) (h1 : i < ns.length) (h2 : ns.length < 100)
    {Q : Value → Shared → Prop} (h : ∀ tk us, StrsAre us (if ((ns.getD i.toNat 0).fdiv 9).fmod 3 = 1 then [Str.ofString "#"] else []) → Q (.ref s.heap.objs.size) { s with heap := s.heap.push { cls := .type "list", data := .seq (List.toArray us) }, toks := tk }) :
    wpAny (model PP w) A (eval (binR (valueS (lb 2))) (lenv L fa cd c1 c2)) Q E s := by
  unfold lb lwL lenv lwSc
  dsimp only [nthS, bodyS, binR, valueS]
  have N : News h₀ L s.heap [] := .nil
  k_steps
  · rename_i he
    exact h _ [.str (Str.ofString "#") _] (by rw [if_pos he]; exact .cons _ _ .nil)
  · rename_i he
    exact h _ [] (by rw [if_neg he]; exact .nil)
/-- script[at] // 9 % 9 == 8 or levels == [''] -/
theorem b3t (F : Fr h₀ L s.heap m) (X : Frag.In (hd.heap_39 w.params) h₀) (T : Top p loose mean mg mb h₀) (hu : A.units + 64 < cLine) (hsc : m (Str.ofString "script") = some (.ref aS)) (hat : m (Str.ofString "at") = some (.int i ta)) (hlv : m (Str.ofString "levels") = some (.ref al)) (hl : s.heap.IsList aS vs.toArray) (hi : IntsAre vs ns) (h0 : 0 ≤ i) (h1 : i < ns.length) (h2 : ns.length < 100) {us : List Value} {ls : List Str} (hal : s.heap.IsList al us.toArray) (hus : StrsAre us ls) (hls : ∀ x ∈ ls, PyData.strOk x = true)
    {Q : Bool → Shared → Prop} (h : ∀ h' tk b, Keeps s.heap h' → b = (decide (((ns.getD i.toNat 0).fdiv 9).fmod 9 = 8) || decide (ls = [Str.ofString ""])) → Q b { s with heap := h', toks := tk }) :
    wpAny (model PP w) A (isTrue (testS (lb 3)) (lenv L fa cd c1 c2) (eval (testS (lb 3)) (lenv L fa cd c1 c2))) Q E s := by
  unfold lb lwL lenv lwSc
  dsimp only [nthS, bodyS, testS]
  have N : News h₀ L s.heap [] := .nil
  k_steps
  · rename_i e1
    exact h _ _ _ (fun b o e => e) (by rw [decide_eq_true e1]; rfl)
  · rename_i e1 e2
    exact h _ _ _ (fun b o e => Heap.get?_push_of_some _ e) (by rw [decide_eq_false e1, decide_eq_true e2]; rfl)
  · rename_i e1 e2
    exact h _ _ _ (fun b o e => Heap.get?_push_of_some _ e) (by rw [decide_eq_false e1, decide_eq_false e2]; rfl)
theorem b3b (F : Fr h₀ L s.heap m) (X : Frag.In (hd.heap_39 w.params) h₀) (T : Top p loose mean mg mb h₀)
    {Q : Flow → Shared → Prop} (h : ∀ h' tk us q, s.heap.get? q = none → h'.IsList q (List.toArray us) → StrsAre us [Str.ofString "#"] → h'.Ns L (fun y => if y = Str.ofString "levels" then some (.ref q) else m y) → Heap.ExtBut L s.heap h' → Q .next { s with heap := h', toks := tk }) :
    wpAny (model PP w) A (exec (nthS (bodyS (lb 3)) 0) (lenv L fa cd c1 c2)) Q E s := by
  unfold lb lwL lenv lwSc
  dsimp only [nthS, bodyS]
  have N : News h₀ L s.heap [] := .nil
  have hns := F.ns
  have hlt := hns.lt
  k_steps
  refine wpAny_storeName_local rfl (hns.push _) (fun h' hn' hs' => ?_) rfl
  exact h h' _ [.str (Str.ofString "#") _] s.heap.objs.size (Heap.StaysIn.fresh (base := s.heap) fun _ _ e => e) ⟨_, (hs'.2 _ (Ne.symm (Nat.ne_of_lt hlt))).trans (Heap.get?_push_size _ rfl), rfl, 0, rfl⟩ (.cons _ _ .nil) hn' fun b o hb e => (hs'.2 b hb).trans (Heap.get?_push_of_some _ e)
theorem b4 (F : Fr h₀ L s.heap m) (X : Frag.In (hd.heap_39 w.params) h₀) (T : Top p loose mean mg mb h₀) (hlv : m (Str.ofString "levels") = some (.ref al)) {us : List Value} {ls : List Str} (hal : s.heap.IsList al us.toArray) (hus : StrsAre us ls) (hw : (ls.map (·.length)).sum + ls.length ≤ 1048576)
    {Q : Flow → Shared → Prop} (h : ∀ h' tk t, h'.Ns L (fun y => if y = Str.ofString "text" then some (.str (Txt.join (Str.ofString "/") ls) t) else m y) → Heap.SameBut L s.heap h' → Q .next { s with heap := h', toks := tk }) :
    wpAny (model PP w) A (exec (lb 4) (lenv L fa cd c1 c2)) Q E s := by
  unfold lb lwL lenv lwSc
  dsimp only [nthS, bodyS]
  have N : News h₀ L s.heap [] := .nil
  k_steps
  exact h _ _ _ (by assumption) (by assumption)
theorem b5v (F : Fr h₀ L s.heap m) (X : Frag.In (hd.heap_39 w.params) h₀) (T : Top p loose mean mg mb h₀) (hn : m (Str.ofString "n") = some (.int n ta))
    {Q : Value → Shared → Prop} (h : ∀ tk, wpAny (model PP w) A (call (.ref 95) [.int n ta, .ref 88]) Q E { s with toks := tk }) :
    wpAny (model PP w) A (eval (valueS (lb 5)) (lenv L fa cd c1 c2)) Q E s := by
  unfold lb lwL lenv lwSc
  dsimp only [nthS, bodyS, valueS]
  have N : News h₀ L s.heap [] := .nil
  k_steps
  exact h _
theorem b6t (F : Fr h₀ L s.heap m) (X : Frag.In (hd.heap_39 w.params) h₀) (T : Top p loose mean mg mb h₀) (hu : A.units + 64 < cLine) (hc : s.heap.IsCell c2 (some (.ref ap))) {us : List Value} {ls : List Str} (hal : s.heap.IsList ap us.toArray) (hus : StrsAre us ls) (hls : ∀ x ∈ ls, PyData.strOk x = true)
    {Q : Bool → Shared → Prop} (h : ∀ h' tk b, Keeps s.heap h' → b = decide (ls = [Str.ofString ""]) → Q b { s with heap := h', toks := tk }) :
    wpAny (model PP w) A (isTrue (testS (lb 6)) (lenv L fa cd c1 c2) (eval (testS (lb 6)) (lenv L fa cd c1 c2))) Q E s := by
  unfold lb lwL lenv lwSc
  dsimp only [nthS, bodyS, testS]
  have N : News h₀ L s.heap [] := .nil
  k_steps
  exact h _ _ _ (fun b o e => Heap.get?_push_of_some _ e) rfl
theorem b6b (F : Fr h₀ L s.heap m) (X : Frag.In (hd.heap_39 w.params) h₀) (T : Top p loose mean mg mb h₀) {v₀ : Option Value} (hc : s.heap.IsCell c2 v₀)
    {Q : Flow → Shared → Prop} (h : ∀ h' tk us q, s.heap.get? q = none → h'.IsList q (List.toArray us) → StrsAre us [Str.ofString "", Str.ofString ""] → h'.IsCell c2 (some (.ref q)) → Heap.ExtBut c2 s.heap h' → Q .next { s with heap := h', toks := tk }) :
    wpAny (model PP w) A (exec (nthS (bodyS (lb 6)) 0) (lenv L fa cd c1 c2)) Q E s := by
  unfold lb lwL lenv lwSc
  dsimp only [nthS, bodyS]
  have N : News h₀ L s.heap [] := .nil
  have hlt := hc.lt
  k_steps
  refine wpAny_storeName_cell rfl rfl rfl (cellPush hc) fun h' hn' hs' => ?_
  exact h h' _ [.str (Str.ofString "") _, .str (Str.ofString "") _] s.heap.objs.size (Heap.StaysIn.fresh (base := s.heap) fun _ _ e => e) ⟨_, (hs'.2 _ (Ne.symm (Nat.ne_of_lt hlt))).trans (Heap.get?_push_size _ rfl), rfl, 0, rfl⟩ (.cons _ _ (.cons _ _ .nil)) hn' fun b o hb e => (hs'.2 b hb).trans (Heap.get?_push_of_some _ e)
end
end
section
open PySem PySem.W PySem.Calls PySem.Spec PyProof.Rows
set_option Elab.async false
set_option maxRecDepth 100000
set_option maxHeartbeats 4000000
set_option linter.unusedVariables false
theorem fillLf : Reg PySem.Challenge.rw_bc0018_01 hd.heap_39 := by k_fill; trivial
section
variable {prog : Program} {w : World} {A : Around} {E : Value → Shared → Prop} {s : Shared} {value slice : Expr} {l : Addr} {items : Array Value} {vl vu : Value} {lo hi : Option Int} {Q : Value → Shared → Prop}
theorem slice_rawL (hl : s.heap.IsList l items) (pl : IsPart vl lo) (pu : IsPart vu hi)
    (h : ∀ so, Q (.ref (s.heap.objs.size + 1)) { s with heap := (s.heap.push so).push { cls := .type "list", data := .seq (slicePick items lo hi none) } }) (hsz : items.size ≤ sizeLine)
    (hs : subscripted slice false (.ref l) (.ref s.heap.objs.size) = operate [.ref s.heap.objs.size, .ref l] (getItem (.ref l) (.ref s.heap.objs.size)) := by with_unfolding_all rfl)
    (ht : ∀ r, letTemporaryGo value (.ref l) r = pure () := by intro _; with_unfolding_all rfl) :
    wpAny (model prog w) A (subscriptTail value slice (.ref l) (.ref s.heap.objs.size)) Q E { s with heap := s.heap.push { cls := .type "slice", data := .fields #[vl, vu, .none] } } := by
  refine subscriptTail_ops (Heap.IsList.typeIs (s := { s with heap := s.heap.push { cls := .type "slice", data := .fields #[vl, vu, .none] } }) (hl.push _)) list_getitem_lookup
    (wpAny_getItem_list_slice (hl.push _) (Heap.IsSliceOf.new ..) pl pu .none (by simp) ?_ hsz) hs ht
  show Q (.ref (s.heap.push _).objs.size) _
  rw [Heap.size_push]
  exact h _
theorem pick_upto {items : Array Value} {y : Nat} : slicePick items none (some (y : Int)) none = (items.toList.take y).toArray := by
  have h0 : ¬ ((y : Int) < 0) := Int.not_lt.mpr (Int.natCast_nonneg y)
  by_cases h : y ≤ items.size
  · rw [kmk_pick_nat (lo := none) (hi := some (y : Int)) items (a := 0) (b := y) (by unfold sliceBounds; simp [h0, Int.min_eq_left (Int.ofNat_le.mpr h), Int.max_eq_right (Int.natCast_nonneg y)])]
    simp
  · rw [kmk_pick_nat (lo := none) (hi := some (y : Int)) items (a := 0) (b := items.size) (by unfold sliceBounds; simp [h0, Int.min_eq_right (Int.ofNat_le.mpr (Nat.le_of_not_le h)), Int.max_eq_right (Int.natCast_nonneg items.size)])]
    simp
    omega
end
theorem ledger_all (h₀ h : Heap) (L : Addr) : ∃ rest, News h₀ L h rest ∧ ∀ b o, b ≠ L → h.get? b = some o → h₀.get? b = none → (b, o) ∈ rest := by
  refine ⟨(List.range h.objs.size).filterMap fun b => if b = L ∨ (h₀.get? b).isSome then none else (h.get? b).map fun o => (b, o), ?_, ?_⟩
  · intro p hp
    obtain ⟨b, _, hb⟩ := List.mem_filterMap.mp hp
    split at hb
    · cases hb
    · rename_i hc
      cases hg : h.get? b with
      | none => rw [hg] at hb; cases hb
      | some o =>
        rw [hg] at hb; cases hb
        refine ⟨hg, fun z => hc (.inl z), ?_⟩
        cases hz : h₀.get? b with
        | none => rfl
        | some o' => exact absurd (.inr (by rw [hz]; rfl)) hc
  · intro b o hL hg hz
    refine List.mem_filterMap.mpr ⟨b, List.mem_range.mpr (Heap.lt_size hg), ?_⟩
    rw [if_neg (by rintro (z | z); exact hL z; rw [hz] at z; cases z), hg]; rfl
theorem ledger_ext {h₀ h h' : Heap} {L : Addr} {m : Str → Option Value} {rest news : List (Addr × Obj)} (F : Fr h₀ L h m) (hall : ∀ b o, b ≠ L → h.get? b = some o → h₀.get? b = none → (b, o) ∈ rest) (F' : Fr h₀ L h' m) (N' : News h₀ L h' news) (hsub : ∀ p ∈ rest, p ∈ news) : Heap.ExtBut L h h' := fun b o hb e => by
  cases hz : h₀.get? b with
  | none => exact (N' (b, o) (hsub _ (hall b o hb e hz))).1
  | some o' =>
    have := F.keep b o' hz
    rw [e] at this; cases this
    exact F'.keep b o hz


local macro_rules | `(tactic| walk_at "eval Dict nil nil") => `(tactic| (k_here; k_dflt (refine' wpAny_Dict_empty ?_)))
section
variable {w : World} {A : Around} {E : Value → Shared → Prop} {s : Shared} {M L fa c1 c2 u dh aT aD aA al ap aS : Addr} {h₀ : Heap} {m mg mb : Str → Option Value} {p : Program} {loose : List Str} {mean : ExcName → Option Value} {cd v : Value} {text : Str} {t ta : Tok} {i n : Int} {its : Array Value} {kvs : List (Str × Value)} {vs : List Value} {ns : List Int}
theorem p0 (F : Fr h₀ L s.heap m) (X : Frag.In (hd.heap_39 w.params) h₀) (T : Top p loose mean mg mb h₀) (hsc : m (Str.ofString "script") = some (.ref aS)) (hl : s.heap.IsList aS its) (hz : its.size ≤ sizeLine)
    {Q : Flow → Shared → Prop} (h : ∀ h' tk q, s.heap.get? q = none → h'.IsList q (its.toList.take 20).toArray → h'.Ns L (fun y => if y = Str.ofString "script" then some (.ref q) else m y) → Heap.ExtBut L s.heap h' → Q .next { s with heap := h', toks := tk }) :
    wpAny (model PP w) A (exec (nthS lwL.1 0) (lenv L fa cd c1 c2)) Q E s := by
  unfold lwL lenv lwSc
  dsimp only [nthS, bodyS]
  obtain ⟨rest, N, hall⟩ := ledger_all h₀ s.heap L
  have hns := F.ns
  have hlt := hns.lt
  k_steps
  rename_i h1 F1 N1 h2 hn2 hs2
  have hx := ledger_ext F hall F1 N1 fun p hp => .tail _ hp
  dsimp only at N1 hn2 hs2
  have hne := (N1 _ (.head _)).2.1
  refine h h2 _ (s.heap.objs.size + 1) (Heap.get?_none_of_le (Nat.le_succ _)) ⟨_, (hs2.2 _ hne).trans (N1 _ (.head _)).1, rfl, 0, ?_⟩ hn2 fun b o hb e => (hs2.2 b hb).trans (hx b o hb e)
  rw [show (some (20 : Int)) = some ((20 : Nat) : Int) from rfl, pick_upto]
theorem p1 (F : Fr h₀ L s.heap m) (X : Frag.In (hd.heap_39 w.params) h₀) (T : Top p loose mean mg mb h₀)
    {Q : Value → Shared → Prop} (h : ∀ tk, wpAny (model PP w) A (call (.ref 82) [] []) Q E { s with toks := tk }) :
    wpAny (model PP w) A (eval (valueS (nthS lwL.1 1)) (lenv L fa cd c1 c2)) Q E s := by
  unfold lwL lenv lwSc
  dsimp only [nthS, bodyS, valueS]
  have N : News h₀ L s.heap [] := .nil
  k_steps
  exact h _
theorem p2 (F : Fr h₀ L s.heap m) (X : Frag.In (hd.heap_39 w.params) h₀) (T : Top p loose mean mg mb h₀) {v₀ : Option Value} (hc : s.heap.IsCell c1 v₀)
    {Q : Flow → Shared → Prop} (h : ∀ h' tk q, s.heap.objs.size ≤ q → s.heap.get? q = none → h'.DictOf (SK w) q [] → h'.IsCell c1 (some (.ref q)) → Heap.ExtBut c1 s.heap h' → Q .next { s with heap := h', toks := tk }) :
    wpAny (model PP w) A (exec (nthS lwL.1 2) (lenv L fa cd c1 c2)) Q E s := by
  unfold lwL lenv lwSc
  dsimp only [nthS, bodyS, valueS]
  have N : News h₀ L s.heap [] := .nil
  k_steps
  refine wpAny_storeName_cell rfl rfl rfl (cellPush hc) fun h' hc' hs' => ?_
  have hlt := hc.lt
  exact h h' _ s.heap.objs.size (Nat.le_refl _) (Heap.StaysIn.fresh (base := s.heap) fun _ _ e => e) ⟨_, #[], 0, (hs'.2 _ (Ne.symm (Nat.ne_of_lt hlt))).trans (Heap.get?_push_size _ rfl), ⟨rfl, rfl, rfl⟩, rfl, fun _ he => by simp at he, .nil, List.nodup_nil⟩ hc' fun b o hb e => (hs'.2 b hb).trans (Heap.get?_push_of_some _ e)
theorem p3 (F : Fr h₀ L s.heap m) (X : Frag.In (hd.heap_39 w.params) h₀) (T : Top p loose mean mg mb h₀)
    {Q : Flow → Shared → Prop} (h : ∀ h' tk q, s.heap.get? q = none → PlainL h' q #[] → h'.Ns L (fun y => if y = Str.ofString "told" then some (.ref q) else m y) → Heap.ExtBut L s.heap h' → Q .next { s with heap := h', toks := tk }) :
    wpAny (model PP w) A (exec (nthS lwL.1 3) (lenv L fa cd c1 c2)) Q E s := by
  unfold lwL lenv lwSc
  dsimp only [nthS, bodyS, valueS]
  have N : News h₀ L s.heap [] := .nil
  have hns := F.ns
  have hlt := hns.lt
  k_steps
  refine wpAny_storeName_local rfl (hns.push _) (fun h' hn' hs' => ?_) rfl
  exact h h' _ s.heap.objs.size (Heap.StaysIn.fresh (base := s.heap) fun _ _ e => e) ⟨_, 0, (hs'.2 _ (Ne.symm (Nat.ne_of_lt hlt))).trans (Heap.get?_push_size _ rfl), rfl, rfl, rfl⟩ hn' fun b o hb e => (hs'.2 b hb).trans (Heap.get?_push_of_some _ e)
theorem p4 (F : Fr h₀ L s.heap m) (X : Frag.In (hd.heap_39 w.params) h₀) (T : Top p loose mean mg mb h₀)
    {Q : Flow → Shared → Prop} (h : ∀ h' tk q, s.heap.get? q = none → PlainL h' q #[] → h'.Ns L (fun y => if y = Str.ofString "due" then some (.ref q) else m y) → Heap.ExtBut L s.heap h' → Q .next { s with heap := h', toks := tk }) :
    wpAny (model PP w) A (exec (nthS lwL.1 4) (lenv L fa cd c1 c2)) Q E s := by
  unfold lwL lenv lwSc
  dsimp only [nthS, bodyS, valueS]
  have N : News h₀ L s.heap [] := .nil
  have hns := F.ns
  have hlt := hns.lt
  k_steps
  refine wpAny_storeName_local rfl (hns.push _) (fun h' hn' hs' => ?_) rfl
  exact h h' _ s.heap.objs.size (Heap.StaysIn.fresh (base := s.heap) fun _ _ e => e) ⟨_, 0, (hs'.2 _ (Ne.symm (Nat.ne_of_lt hlt))).trans (Heap.get?_push_size _ rfl), rfl, rfl, rfl⟩ hn' fun b o hb e => (hs'.2 b hb).trans (Heap.get?_push_of_some _ e)
noncomputable def asked0 : List (List Str) := [[Str.ofString "a", Str.ofString "b"], [Str.ofString "a", Str.ofString "b", Str.ofString "a", Str.ofString "b", Str.ofString "a", Str.ofString "b"], [Str.ofString "", Str.ofString "a"], [Str.ofString "$x", Str.ofString "a"]]
noncomputable def AskF (h0 h' : Heap) (v : Value) : Prop := ∃ q us ps, v = .ref q ∧ h0.get? q = none ∧ h'.IsList q (List.toArray us) ∧ StrsAre us ps ∧ ps ∈ asked0
theorem p5 {st : Stmt} (hst : st = nthS lwL.1 5) (F : Fr h₀ L s.heap m) (X : Frag.In (hd.heap_39 w.params) h₀) (T : Top p loose mean mg mb h₀)
    {Q : Flow → Shared → Prop} (h : ∀ h' tk av q, av.length = 4 → (∀ v ∈ av, AskF s.heap h' v ∧ v ≠ .ref q) → s.heap.get? q = none → PlainL h' q (List.toArray av) → h'.Ns L (fun y => if y = Str.ofString "asked" then some (.ref q) else m y) → Heap.ExtBut L s.heap h' → Q .next { s with heap := h', toks := tk }) :
    wpAny (model PP w) A (exec st (lenv L fa cd c1 c2)) Q E s := by
  subst hst
  unfold lwL lenv lwSc
  dsimp only [nthS, bodyS, valueS]
  have N : News h₀ L s.heap [] := .nil
  have hns := F.ns
  have hlt := hns.lt
  k_steps
  dsimp only
  refine wpAny_storeName_local rfl (((((hns.push _).push _).push _).push _).push _) (fun h' hn' hs' => ?_) rfl
  have z1 : ∀ (h : Heap) (o : Obj), L < h.objs.size → L < (h.push o).objs.size := fun h o hl => by rw [Heap.size_push]; exact Nat.lt_succ_of_lt hl
  have z0 : ∀ (h : Heap) (o : Obj), s.heap.objs.size ≤ h.objs.size → s.heap.objs.size ≤ (h.push o).objs.size := fun h o hl => by rw [Heap.size_push]; exact Nat.le_succ_of_le hl
  have fresh : ∀ {a : Addr}, s.heap.objs.size ≤ a → s.heap.get? a = none := fun ha => Heap.get?_none_of_le ha
  have zz : ∀ (h : Heap) (o : Obj), h.objs.size < (h.push o).objs.size := fun h o => by rw [Heap.size_push]; exact Nat.lt_succ_self _
  have zt : ∀ {a : Addr} (h : Heap) (o : Obj), a < h.objs.size → a < (h.push o).objs.size := fun h o hl => by rw [Heap.size_push]; exact Nat.lt_succ_of_lt hl
  refine h h' _ [.ref _, .ref _, .ref _, .ref _] _ rfl (fun v hv => ?_) (fresh (z0 _ _ (z0 _ _ (z0 _ _ (z0 _ _ (Nat.le_refl _)))))) ⟨_, 0, (hs'.2 _ (Ne.symm (Nat.ne_of_lt (z1 _ _ (z1 _ _ (z1 _ _ (z1 _ _ hlt))))))).trans (Heap.get?_push_size _ rfl), rfl, rfl, rfl⟩ hn' fun b o hb e => (hs'.2 b hb).trans (Heap.get?_push_of_some _ (Heap.get?_push_of_some _ (Heap.get?_push_of_some _ (Heap.get?_push_of_some _ (Heap.get?_push_of_some _ e)))))
  have neq : ∀ {a b : Addr}, a < b → (Value.ref a) ≠ .ref b := fun hab z => by cases z; exact Nat.lt_irrefl _ hab
  simp only [List.mem_cons, List.not_mem_nil, or_false] at hv
  rcases hv with rfl | rfl | rfl | rfl
  · exact ⟨⟨_, [.str (Str.ofString "a") _, .str (Str.ofString "b") _], [Str.ofString "a", Str.ofString "b"], rfl, fresh (Nat.le_refl _), ⟨_, (hs'.2 _ (Ne.symm (Nat.ne_of_lt hlt))).trans (Heap.get?_push_of_some _ (Heap.get?_push_of_some _ (Heap.get?_push_of_some _ (Heap.get?_push_of_some _ (Heap.get?_push_size _ rfl))))), rfl, 0, rfl⟩, .cons _ _ (.cons _ _ .nil), by unfold asked0; exact .head _⟩, neq (zt _ _ (zt _ _ (zt _ _ (zz _ _))))⟩
  · exact ⟨⟨_, [.str (Str.ofString "a") _, .str (Str.ofString "b") _, .str (Str.ofString "a") _, .str (Str.ofString "b") _, .str (Str.ofString "a") _, .str (Str.ofString "b") _], [Str.ofString "a", Str.ofString "b", Str.ofString "a", Str.ofString "b", Str.ofString "a", Str.ofString "b"], rfl, fresh (z0 _ _ (Nat.le_refl _)), ⟨_, (hs'.2 _ (Ne.symm (Nat.ne_of_lt (z1 _ _ hlt)))).trans (Heap.get?_push_of_some _ (Heap.get?_push_of_some _ (Heap.get?_push_of_some _ (Heap.get?_push_size _ rfl)))), rfl, 0, rfl⟩, .cons _ _ (.cons _ _ (.cons _ _ (.cons _ _ (.cons _ _ (.cons _ _ .nil))))), by unfold asked0; exact .tail _ (.head _)⟩, neq (zt _ _ (zt _ _ (zz _ _)))⟩
  · exact ⟨⟨_, [.str (Str.ofString "") _, .str (Str.ofString "a") _], [Str.ofString "", Str.ofString "a"], rfl, fresh (z0 _ _ (z0 _ _ (Nat.le_refl _))), ⟨_, (hs'.2 _ (Ne.symm (Nat.ne_of_lt (z1 _ _ (z1 _ _ hlt))))).trans (Heap.get?_push_of_some _ (Heap.get?_push_of_some _ (Heap.get?_push_size _ rfl))), rfl, 0, rfl⟩, .cons _ _ (.cons _ _ .nil), by unfold asked0; exact .tail _ (.tail _ (.head _))⟩, neq (zt _ _ (zz _ _))⟩
  · exact ⟨⟨_, [.str (Str.ofString "$x") _, .str (Str.ofString "a") _], [Str.ofString "$x", Str.ofString "a"], rfl, fresh (z0 _ _ (z0 _ _ (z0 _ _ (Nat.le_refl _)))), ⟨_, (hs'.2 _ (Ne.symm (Nat.ne_of_lt (z1 _ _ (z1 _ _ (z1 _ _ hlt)))))).trans (Heap.get?_push_of_some _ (Heap.get?_push_size _ rfl)), rfl, 0, rfl⟩, .cons _ _ (.cons _ _ .nil), by unfold asked0; exact .tail _ (.tail _ (.tail _ (.head _)))⟩, neq (zz _ _)⟩
theorem i1 (F : Fr h₀ L s.heap m) (X : Frag.In (hd.heap_39 w.params) h₀) (T : Top p loose mean mg mb h₀) (hsc : m (Str.ofString "script") = some (.ref aS)) (hl : s.heap.IsList aS vs.toArray) (hi : IntsAre vs ns) (h2 : ns.length < 100)
    {Q : Value → Shared → Prop} (h : ∀ h' tk t u v, IsRange h' s.heap.objs.size 0 ((ns.length : Int) - 1) 2 t u v → Keeps s.heap h' → Q (.ref s.heap.objs.size) { s with heap := h', toks := tk }) :
    wpAny (model PP w) A (eval (iterS (nthS lwL.1 6)) (lenv L fa cd c1 c2)) Q E s := by
  unfold lwL lenv lwSc
  dsimp only [nthS, bodyS, iterS]
  have N : News h₀ L s.heap [] := .nil
  k_steps
  rename_i h1 tk t u v hr F1 N1 k1
  exact h h1 tk t u v hr k1
theorem i2 (F : Fr h₀ L s.heap m) (X : Frag.In (hd.heap_39 w.params) h₀) (T : Top p loose mean mg mb h₀) (hsc : m (Str.ofString "asked") = some (.ref aA)) (hl : s.heap.IsList aA its) (hz : its.size ≤ sizeLine)
    {Q : Value → Shared → Prop} (h : ∀ h' tk q, s.heap.get? q = none → h'.IsList q (its.toList.take 9).toArray → Heap.ExtBut L s.heap h' → h'.Ns L m → Q (.ref q) { s with heap := h', toks := tk }) :
    wpAny (model PP w) A (eval (iterS (nthS lwL.1 7)) (lenv L fa cd c1 c2)) Q E s := by
  unfold lwL lenv lwSc
  dsimp only [nthS, bodyS, iterS]
  obtain ⟨rest, N, hall⟩ := ledger_all h₀ s.heap L
  k_steps
  rename_i h1 F1 N1
  have hx := ledger_ext F hall F1 N1 fun p hp => .tail _ hp
  dsimp only at N1
  refine h h1 _ (s.heap.objs.size + 1) (Heap.get?_none_of_le (Nat.le_succ _)) ⟨_, (N1 _ (.head _)).1, rfl, 0, ?_⟩ hx F1.ns
  rw [show (some (9 : Int)) = some ((9 : Nat) : Int) from rfl, pick_upto]
end
end
end
section
open PySem PySem.W PySem.Calls PySem.Spec PyProof.Rows
set_option Elab.async false
set_option maxRecDepth 100000
set_option maxHeartbeats 4000000
set_option linter.unusedVariables false
theorem fillLg : Reg PySem.Challenge.rw_bc0018_01 hd.heap_39 := by k_fill; trivial
noncomputable def argS : Stmt → Expr
  | .Expr (.Call _ [e] _ _) _ => e
  | _ => default
noncomputable def argE : Expr → Expr
  | .Call _ [e] _ _ => e
  | _ => default
noncomputable def lcElt : Expr → Expr
  | .ListComp e _ _ _ => e
  | _ => default
noncomputable def lcTest : Expr → Expr
  | .ListComp _ (⟨_, _, [c], _⟩ :: _) _ _ => c
  | _ => default
noncomputable def lcScope : Expr → Scope
  | .ListComp _ _ s _ => s
  | _ => default
noncomputable def due8 : Stmt := nthS (elseS l7) 1
noncomputable def due9 : Stmt := nthS (bodyS (nthS lwL.1 7)) 1
noncomputable def lc8 : { l : Scope // lcScope (argE (argS due8)) = l } := ⟨_, by
  unfold due8 l7 l6 l5 lb lwL
  dsimp only [nthS, bodyS, elseS, argS, argE, lcScope]⟩
noncomputable abbrev cenv (C L fa : Addr) (cd : Value) (c1 c2 : Addr) : Env := compEnvC lc8.1 (lwCl c1 c2) C (lenv L fa cd c1 c2)
theorem clos8 {L fa c1 c2 : Addr} {cd : Value} : closureFor lc8.1 (lenv L fa cd c1 c2) = pure (lwCl c1 c2) := rfl

section
variable {w : World} {A : Around} {E : Value → Shared → Prop} {s : Shared} {M L Cc fa c1 c2 u dh aT aD aA al ap : Addr} {h₀ : Heap} {m mg mb : Str → Option Value} {p : Program} {loose : List Str} {mean : ExcName → Option Value} {cd v : Value} {text k : Str} {t ta : Tok} {i : Int} {its : Array Value} {kvs : List (Str × Value)}
theorem c8t (F : Fr h₀ Cc s.heap m) (X : Frag.In (hd.heap_39 w.params) h₀) (T : Top p loose mean mg mb h₀) (hk : m (Str.ofString "key") = some (.str k t)) (hc1 : s.heap.IsCell c1 (some (.ref dh))) (hc2 : s.heap.IsCell c2 (some (.ref ap))) (hD : s.heap.DictOf (SK w) dh kvs) (hv : valueAt kvs k = some (.ref u)) (htu : s.heap.IsTuple u #[.int i ta, .ref al])
    {Q : Bool → Shared → Prop} (h : ∀ tk, wpAny (model PP w) A (call (.ref 102) [.ref al, .ref ap]) (fun v s' => ∃ b, v = .bool b ∧ Q b s') E { s with toks := tk }) :
    wpAny (model PP w) A (isTrue (lcTest (argE (argS due8))) (cenv Cc L fa cd c1 c2) (eval (lcTest (argE (argS due8))) (cenv Cc L fa cd c1 c2))) Q E s := by
  unfold cenv lenv due8 l7 l6 l5 lb lwL lwSc lc8
  dsimp only [nthS, bodyS, elseS, argS, argE, lcTest]
  have N : News h₀ Cc s.heap [] := .nil
  k_steps
  all_goals (try k_data)
  refine wpAny_mono (h _) (fun v s' hq => ?_) fun _ _ z => z
  obtain ⟨b, rfl, hq⟩ := hq
  exact wpAny_truthy_bool hq
theorem c8e (F : Fr h₀ Cc s.heap m) (X : Frag.In (hd.heap_39 w.params) h₀) (T : Top p loose mean mg mb h₀) (hk : m (Str.ofString "key") = some (.str k t)) (hc1 : s.heap.IsCell c1 (some (.ref dh))) (hD : s.heap.DictOf (SK w) dh kvs) (hv : valueAt kvs k = some (.ref u)) (htu : s.heap.IsTuple u #[.int i ta, .ref al])
    {Q : Value → Shared → Prop} (h : ∀ tk, Q (.int i ta) { s with toks := tk }) :
    wpAny (model PP w) A (eval (lcElt (argE (argS due8))) (cenv Cc L fa cd c1 c2)) Q E s := by
  unfold cenv lenv due8 l7 l6 l5 lb lwL lwSc lc8
  dsimp only [nthS, bodyS, elseS, argS, argE, lcElt]
  have N : News h₀ Cc s.heap [] := .nil
  k_steps
  all_goals (try k_data)
  exact h _
end
end
section
open PySem PySem.W PySem.Calls PySem.Spec PyProof.Rows
set_option Elab.async false
set_option maxRecDepth 100000
set_option maxHeartbeats 4000000
set_option linter.unusedVariables false
theorem fillLh : Reg PySem.Challenge.rw_bc0018_01 hd.heap_39 := by k_fill; trivial

noncomputable def fitOf (H : List (List Str × Int)) (ps : List Str) (k : Str) : Bool := match H.find? fun e => slashJ e.1 == k with
  | some e => fitsD (dollarOf ps) e.1 ps
  | none => false
noncomputable def valOf (H : List (List Str × Int)) (k : Str) : Int := match H.find? fun e => slashJ e.1 == k with
  | some e => e.2
  | none => 0
theorem find_nodup {H : List (List Str × Int)} (hn : (H.map fun e => slashJ e.1).Nodup) {e : List Str × Int} (h : e ∈ H) : (H.find? fun e' => slashJ e'.1 == slashJ e.1) = some e := by
  induction H with
  | nil => cases h
  | cons a H ih =>
    rw [List.map_cons, List.nodup_cons] at hn
    rw [List.find?_cons]
    rcases List.mem_cons.mp h with rfl | h1
    · simp
    · have : (slashJ a.1 == slashJ e.1) = false := by
        rw [beq_eq_false_iff_ne]
        intro z
        exact hn.1 (List.mem_map.mpr ⟨e, h1, z.symm⟩)
      rw [this]
      exact ih hn.2 h1
theorem fitOf_at {H : List (List Str × Int)} {ps : List Str} (hn : (H.map fun e => slashJ e.1).Nodup) {e : List Str × Int} (h : e ∈ H) : fitOf H ps (slashJ e.1) = fitsD (dollarOf ps) e.1 ps := by
  unfold fitOf; rw [find_nodup hn h]
theorem valOf_at {H : List (List Str × Int)} (hn : (H.map fun e => slashJ e.1).Nodup) {e : List Str × Int} (h : e ∈ H) : valOf H (slashJ e.1) = e.2 := by
  unfold valOf; rw [find_nodup hn h]
noncomputable def pOf (H : List (List Str × Int)) (ps : List Str) : Value → Bool
  | .str k _ => fitOf H ps k
  | _ => false
noncomputable def fOf (H : List (List Str × Int)) : Value → Value → Prop := fun v y => ∃ k t t', v = .str k t ∧ y = .int (valOf H k) t'

theorem held_keys {G : Addr → Obj → Prop} {kvs : List (Str × Value)} {H : List (List Str × Int)} (x : All2 (HeldE G) kvs H) : kvs.map (·.1) = H.map fun e => slashJ e.1 := by
  induction x with
  | nil => rfl
  | cons h _ ih =>
    obtain ⟨u, t, al, _, _, _, e⟩ := h
    rw [List.map_cons, List.map_cons, ih, e]
theorem held_at {G : Addr → Obj → Prop} {kvs : List (Str × Value)} {H : List (List Str × Int)} (x : All2 (HeldE G) kvs H) {kv : Str × Value} (h : kv ∈ kvs) : ∃ e ∈ H, HeldE G kv e := by
  induction x with
  | nil => cases h
  | cons a _ ih =>
    rcases List.mem_cons.mp h with rfl | h
    · exact ⟨_, .head _, a⟩
    · obtain ⟨e, he, r⟩ := ih h
      exact ⟨e, .tail _ he, r⟩
theorem held_of {G : Addr → Obj → Prop} {kvs : List (Str × Value)} {H : List (List Str × Int)} (x : All2 (HeldE G) kvs H) {e : List Str × Int} (h : e ∈ H) : ∃ kv ∈ kvs, HeldE G kv e := by
  induction x with
  | nil => cases h
  | cons a _ ih =>
    rcases List.mem_cons.mp h with rfl | h
    · exact ⟨_, .head _, a⟩
    · obtain ⟨kv, he, r⟩ := ih h
      exact ⟨kv, .tail _ he, r⟩
theorem valueAt_mem {kvs : List (Str × Value)} (hn : (kvs.map (·.1)).Nodup) {k : Str} {v : Value} (h : (k, v) ∈ kvs) : valueAt kvs k = some v := by
  induction kvs with
  | nil => cases h
  | cons a l ih =>
    rw [List.map_cons, List.nodup_cons] at hn
    rw [valueAt_cons]
    rcases List.mem_cons.mp h with rfl | h1
    · rw [if_pos rfl]
    · rw [if_neg (fun z => hn.1 (List.mem_map.mpr ⟨_, h1, z.symm⟩))]
      exact ih hn.2 h1
theorem mem_valueAt {kvs : List (Str × Value)} {k : Str} {v : Value} (h : valueAt kvs k = some v) : (k, v) ∈ kvs := by
  induction kvs with
  | nil => rw [valueAt_nil] at h; cases h
  | cons a l ih =>
    rw [valueAt_cons] at h
    by_cases z : a.1 = k
    · rw [if_pos z] at h; cases h
      exact z ▸ .head _
    · rw [if_neg z] at h
      exact .tail _ (ih h)
theorem dict_nodup {h : Heap} {w : World} {d : Addr} {kvs : List (Str × Value)} (x : h.DictOf (SK w) d kvs) : (kvs.map (·.1)).Nodup := let ⟨_, _, _, _, _, _, _, _, n⟩ := x; n

theorem all2_of {α β : Type} {R : α → β → Prop} : ∀ {l : List α} {l' : List β}, l.length = l'.length → (∀ (i : Nat) a b, l[i]? = some a → l'[i]? = some b → R a b) → All2 R l l'
  | [], [], _, _ => .nil
  | a :: l, b :: l', hl, h => .cons (h 0 a b rfl rfl) (all2_of (by simpa using hl) fun i a b h1 h2 => h (i + 1) a b h1 h2)
theorem comp_ints {H₀ : List (List Str × Int)} {ps : List Str} (hn : (H₀.map fun e => slashJ e.1).Nodup) : ∀ {vs : List Value} {H : List (List Str × Int)} {l : List Value}, (∀ e ∈ H, e ∈ H₀) → All2 (fun v (e : List Str × Int) => ∃ t, v = .str (slashJ e.1) t) vs H → Paired (fOf H₀) (vs.filter (pOf H₀ ps)) l →
    IntsAre l ((H.filter fun e => fitsD (dollarOf ps) e.1 ps).map (·.2)) := by
  intro vs H l hs x
  induction x generalizing l with
  | nil => intro h; cases h; exact .nil
  | @cons v e vs H hv _ ih =>
    obtain ⟨t, rfl⟩ := hv
    intro hp
    have he := hs e (.head _)
    rw [List.filter_cons] at hp ⊢
    have e1 : pOf H₀ ps (.str (slashJ e.1) t) = fitsD (dollarOf ps) e.1 ps := fitOf_at hn he
    rw [e1] at hp
    by_cases z : fitsD (dollarOf ps) e.1 ps = true
    · rw [if_pos z] at hp ⊢
      cases hp with
      | cons hf hr =>
        obtain ⟨k, t1, t2, q1, rfl⟩ := hf
        cases q1
        rw [valOf_at hn he, List.map_cons]
        exact .cons _ _ (ih (fun e' h' => hs e' (.tail _ h')) hr)
    · rw [if_neg z] at hp ⊢
      exact ih (fun e' h' => hs e' (.tail _ h')) hp

inductive CompF (s : Shared) (H : List (List Str × Int)) (kvs : List (Str × Value)) (v : Value) : Prop
  | mk (e : List Str × Int) (he : e ∈ H) (t : Tok) (u : Addr) (t' : Tok) (al : Addr) (q0 : v = .str (slashJ e.1) t) (q1 : valueAt kvs (slashJ e.1) = some (.ref u)) (q2 : s.heap.IsTuple u #[.int e.2 t', .ref al]) (us : List Value) (q3 : s.heap.IsList al (List.toArray us)) (q4 : StrsAre us e.1) : CompF s H kvs v
section
variable {w : World} {A : Around} {E : Value → Shared → Prop} {s : Shared} {L fa c1 c2 dh ap : Addr} {h₀ : Heap} {m mg mb : Str → Option Value} {p : Program} {loose : List Str} {mean : ExcName → Option Value} {cd : Value} {kvs : List (Str × Value)} {S : List Addr} {H : List (List Str × Int)} {vp : List Value} {ps : List Str}
theorem comp8 (F : Fr h₀ L s.heap m) (X : Frag.In (hd.heap_39 w.params) h₀) (T : Top p loose mean mg mb h₀) (hh : A.handled = none) (hroom : A.depth + 20 < recursionLimit) (hc1 : s.heap.IsCell c1 (some (.ref dh))) (hc2 : s.heap.IsCell c2 (some (.ref ap))) (hD : s.heap.DictOf (SK w) dh kvs) (lo : (dh == sysModules) = false) (hkl : kvs.length ≤ 60)
    (hH : All2 (HeldE (GG s.heap S)) kvs H) (hap : s.heap.IsList ap (List.toArray vp)) (hps : StrsAre vp ps) (g1 : ∀ e ∈ H, 0 < e.1.length ∧ e.1.length < 100) (g2 : 0 < ps.length) (g3 : ps.length < 100) (g4 : (ps.getD 0 Str.empty).length ≤ sizeLine)
    {Q : Value → Shared → Prop} (h : ∀ h' tk q us, s.heap.get? q = none → h'.IsList q (List.toArray us) → IntsAre us ((H.filter fun e => fitsD (dollarOf ps) e.1 ps).map (·.2)) → Keeps s.heap h' → Q (.ref q) { s with heap := h', toks := tk }) {pos px p1 : Pos} :
    wpAny (model PP w) A (eval (.ListComp (lcElt (argE (argS due8))) [⟨.Name (Str.ofString "key") px, .Name (Str.ofString "held") p1, [lcTest (argE (argS due8))], 0⟩] lc8.1 pos) (lenv L fa cd c1 c2)) Q E s := by
  have hkn := dict_nodup hD
  have hn : (H.map fun e => slashJ e.1).Nodup := held_keys hH ▸ hkn
  refine wpAny_ListComp_free (pOf H ps) (fOf H) clos8 (by unfold lc8; decide) rfl (by unfold lc8; decide) rfl (wpAny_Name (wpAny_loadName_cell rfl rfl rfl hc1 ?_) (by decide)) (by intro _; rfl)
  obtain ⟨od, es, ep, hod, hcd, hdd, hkk, hpp, hnn⟩ := id hD
  have hat : s.heap.DictAt (SK w) dh kvs ep := ⟨od, es, hod, hcd, hdd, hkk, hpp, hnn⟩
  refine wpAny_pyIter_dict lo hat ?_
  have hne : dh ≠ s.heap.objs.size := Nat.ne_of_lt (Heap.lt_size hod)
  generalize hio : ({ cls := .type "dict_keyiterator", data := .fields #[.ref dh, .int 0 0, .int kvs.length 0, .int ep 0] } : Obj) = io
  have k1 : Keeps s.heap (s.heap.push io) := fun b o e => Heap.get?_push_of_some _ e
  have hin : ∀ {b o}, s.heap.get? b = some o → b ∉ [s.heap.objs.size] := fun e z => by
    rw [List.mem_singleton] at z
    exact absurd (Heap.lt_size e) (by rw [z]; exact Nat.lt_irrefl _)
  have facts : ∀ {i : Nat} {v : Value}, (∃ k x, kvs[i]? = some (k, x) ∧ (SK w).is k v = true) → CompF s H kvs v := by
    rintro i v ⟨k, x, hx, hk⟩
    obtain ⟨t, rfl⟩ := Value.isStrOf_shape hk
    obtain ⟨e, he, u, t', al, e1, e2, ⟨us, e3, e4⟩, e5⟩ := held_at hH (List.mem_of_getElem? hx)
    dsimp only at e1 e5
    subst e1 e5
    exact ⟨e, he, t, u, t', al, rfl, valueAt_mem hkn (List.mem_of_getElem? hx), e2.isTuple, us, e3.isList, e4⟩
  refine ⟨s.heap.objs.size, _, _, _, _, _, rfl, Walks.dictKeys (knd := SK w) hh s.heap.objs.size dh hne kvs ep, Nat.le_trans hkl (by decide), ⟨⟨_, Heap.get?_push_size _ (by rw [← hio]; rfl), by rw [← hio], by rw [← hio]; rfl⟩, hat.at' (k1 dh)⟩, fun b hb => ?_, ⟨fun C i v s₃ m₃ E' hC hP hns hm hk htk => ?_, fun C i v s₃ m₃ E' hC hP hpv hns hm hk htk => ?_⟩, fun D h' tk ys vs hDn hl hpl hlen hP hF hk => ?_⟩
  · rw [Heap.size_push]
    rcases List.mem_cons.mp hb with rfl | hb
    · exact Nat.lt_succ_self _
    · rw [List.mem_singleton.mp hb]; exact Nat.lt_succ_of_lt (Heap.lt_size hod)
  · obtain ⟨e, he, t, u, t', al, rfl, q1, q2, us, q3, q4⟩ := facts hP
    have k3 : Keeps s.heap s₃.heap := fun b o eb => hk b o (hin eb) (k1 b o eb)
    have hC0 : h₀.objs.size ≤ C := Nat.le_trans F.above (Nat.le_of_lt (Nat.lt_of_lt_of_le F.ns.lt (Nat.le_trans (by rw [Heap.size_push]; exact Nat.le_succ _) hC)))
    have F3 : Fr h₀ C s₃.heap m₃ := ⟨hns, fun b o eb => k3 b o (F.keep b o eb), hC0⟩
    refine wpAny_tests_one (c8t F3 X T hm (hc1.keeps k3) (hc2.keeps k3) (hD.at (k3 _)) q1 (let ⟨o, eo, r⟩ := q2; ⟨o, k3 _ _ eo, r⟩) fun tk => ?_)
    refine wpAny_call (fits_raw (s := { s₃ with toks := tk }) X T (fun b o eb => k3 b o (F.keep b o eb)) (Nat.le_trans hC0 (Nat.le_of_lt hns.lt)) hh hroom (isList_keeps q3 k3) q4 (isList_keeps hap k3) hps (g1 e he).1 g2 (g1 e he).2 g3 g4 fun h4 tk4 k4 => ⟨_, rfl, ?_, ?_⟩)
    · exact (fitOf_at hn he).symm
    · exact ⟨h4, tk4, rfl, k4⟩
  · obtain ⟨e, he, t, u, t', al, rfl, q1, q2, us, q3, q4⟩ := facts hP
    have k3 : Keeps s.heap s₃.heap := fun b o eb => hk b o (hin eb) (k1 b o eb)
    have hC0 : h₀.objs.size ≤ C := Nat.le_trans F.above (Nat.le_of_lt (Nat.lt_of_lt_of_le F.ns.lt (Nat.le_trans (by rw [Heap.size_push]; exact Nat.le_succ _) hC)))
    have F3 : Fr h₀ C s₃.heap m₃ := ⟨hns, fun b o eb => k3 b o (F.keep b o eb), hC0⟩
    refine c8e F3 X T hm (hc1.keeps k3) (hD.at (k3 _)) q1 (let ⟨o, eo, r⟩ := q2; ⟨o, k3 _ _ eo, r⟩) fun tk => ⟨⟨_, _, t', rfl, ?_⟩, s₃.heap, tk, rfl, fun b o eb => eb⟩
    rw [valOf_at hn he]
  · have hal : All2 (fun v (e : List Str × Int) => ∃ t, v = .str (slashJ e.1) t) vs H := by
      refine all2_of (hlen.trans hH.length) fun i v e hv he => ?_
      obtain ⟨k, x, hx, hkv⟩ := hP i v hv
      obtain ⟨t, rfl⟩ := Value.isStrOf_shape hkv
      have := congrArg (fun l => l[i]?) (held_keys hH)
      rw [List.getElem?_map, List.getElem?_map, hx, he] at this
      have h5 : k = slashJ e.1 := Option.some.inj this
      exact ⟨t, by rw [h5]⟩
    have hints := comp_ints hn (fun e he => he) hal hF
    refine h h' tk D ys.toList ?_ (by rw [Array.toArray_toList]; exact hl) hints fun b o eb => hk b o (hin eb) (k1 b o eb)
    cases hz : s.heap.get? D with
    | none => rfl
    | some o => have := k1 _ _ hz; rw [hDn] at this; cases this
theorem due8_eq : due8 = .Expr (.Call (.Attribute (.Name (Str.ofString "due") ⟨134, 12, 134, 15⟩) (Str.ofString "append") ⟨134, 12, 134, 22⟩) [.Call (.Name (Str.ofString "sorted") ⟨134, 23, 134, 29⟩) [.ListComp (lcElt (argE (argS due8))) [⟨.Name (Str.ofString "key") ⟨134, 48, 134, 51⟩, .Name (Str.ofString "held") ⟨134, 55, 134, 59⟩, [lcTest (argE (argS due8))], 0⟩] lc8.1 ⟨134, 30, 134, 94⟩] [] ⟨134, 23, 134, 95⟩] [] ⟨134, 12, 134, 96⟩) ⟨134, 12, 134, 96⟩ := by
  rfl
theorem due8_stmt {aD : Addr} {its : Array Value} (F : Fr h₀ L s.heap m) (X : Frag.In (hd.heap_39 w.params) h₀) (T : Top p loose mean mg mb h₀) (hh : A.handled = none) (hroom : A.depth + 20 < recursionLimit) (hdu : m (Str.ofString "due") = some (.ref aD)) (hl : PlainL s.heap aD its) (hsz : its.size ≤ sizeLine) (hc1 : s.heap.IsCell c1 (some (.ref dh))) (hc2 : s.heap.IsCell c2 (some (.ref ap))) (hD : s.heap.DictOf (SK w) dh kvs) (lo : (dh == sysModules) = false) (hkl : kvs.length ≤ 60)
    (hH : All2 (HeldE (GG s.heap S)) kvs H) (hap : s.heap.IsList ap (List.toArray vp)) (hps : StrsAre vp ps) (g1 : ∀ e ∈ H, 0 < e.1.length ∧ e.1.length < 100) (g2 : 0 < ps.length) (g3 : ps.length < 100) (g4 : (ps.getD 0 Str.empty).length ≤ sizeLine)
    {Q : Flow → Shared → Prop} (h : ∀ h' tk q us ns', s.heap.get? q = none → h'.IsList q (List.toArray us) → IntsAre us ns' → ns'.Perm ((H.filter fun e => fitsD (dollarOf ps) e.1 ps).map (·.2)) → ns'.Pairwise (· ≤ ·) → PlainL h' aD (its.push (.ref q)) → Heap.ExtBut aD s.heap h' → Q .next { s with heap := h', toks := tk }) :
    wpAny (model PP w) A (exec due8 (lenv L fa cd c1 c2)) Q E s := by
  rw [due8_eq]
  refine wpAny_Expr (wpAny_Call_append rfl rfl rfl rfl ?_) rfl rfl
  refine nameX_L F hdu ⟨aD, its, rfl, hl, ?_⟩ rfl rfl
  refine Call_Name1 (nameX_B F X (topRead_of T) ?_ PyProof.Rows.Boot.«sorted» (by decide) ?_) rfl
  · k_is
  refine Calls.callWith_builtin rfl (evalArgs_plain (Calls.spliced_cons (comp8 F X T hh hroom hc1 hc2 hD lo hkl hH hap hps g1 g2 g3 g4 fun h1 tk1 q us hq hlq hI k1 => Calls.spliced_nil ?_)))
  have hlen : us.length < 64 := by
    have e1 := hI.length
    have e2 := hH.length
    have e3 : (H.filter fun e => fitsD (dollarOf ps) e.1 ps).length ≤ H.length := List.length_filter_le ..
    rw [List.length_map] at e1
    omega
  refine sorted_ints (s := { s with heap := h1, toks := tk1 }) hlq hI hlen fun out ns' a1 a2 a3 => ?_
  obtain ⟨e, he⟩ := sortedAll_at h1 us out
  have kk : Keeps h1 (sortedAll h1 us out) := fun _ _ => sortedAll_old
  have hl2 : PlainL (sortedAll h1 us out) aD its := (hl.keeps k1).keeps kk
  refine list_append_plainL hl2 (fun h3 hp3 hs3 => ?_) hsz
  have hlt : aD < h1.objs.size := (hl.keeps k1).lt
  refine h h3 _ (h1.objs.size + 1) out.toList ns' ?_ ⟨_, (hs3.2 _ (Nat.ne_of_gt (Nat.lt_succ_of_lt hlt))).trans he, rfl, e, by simp⟩ a1 a2 a3 hp3 fun b o hb eb => (hs3.2 b hb).trans (kk _ _ (k1 _ _ eb))
  cases hz : s.heap.get? (h1.objs.size + 1) with
  | none => rfl
  | some o => exact absurd (Nat.lt_trans (Nat.lt_succ_self _) (Heap.lt_size (k1 _ _ hz))) (Nat.lt_irrefl _)
end
end
section
open PySem PySem.W PySem.Calls PySem.Spec PyProof.Rows
set_option Elab.async false
set_option maxRecDepth 100000
set_option maxHeartbeats 4000000
set_option linter.unusedVariables false
theorem fillLh9 : Reg PySem.Challenge.rw_bc0018_01 hd.heap_39 := by k_fill; trivial
noncomputable def lc9 : { l : Scope // lcScope (argE (argS due9)) = l } := ⟨_, by
  unfold due9 lwL
  dsimp only [nthS, bodyS, elseS, argS, argE, lcScope]⟩
noncomputable abbrev cenv9 (C L fa : Addr) (cd : Value) (c1 c2 : Addr) : Env := compEnvC lc9.1 (lwCl c1 c2) C (lenv L fa cd c1 c2)
theorem clos9 {L fa c1 c2 : Addr} {cd : Value} : closureFor lc9.1 (lenv L fa cd c1 c2) = pure (lwCl c1 c2) := rfl

section
variable {w : World} {A : Around} {E : Value → Shared → Prop} {s : Shared} {M L Cc fa c1 c2 u dh aT aD aA al ap : Addr} {h₀ : Heap} {m mg mb : Str → Option Value} {p : Program} {loose : List Str} {mean : ExcName → Option Value} {cd v : Value} {text k : Str} {t ta : Tok} {i : Int} {its : Array Value} {kvs : List (Str × Value)}
theorem c9t (F : Fr h₀ Cc s.heap m) (X : Frag.In (hd.heap_39 w.params) h₀) (T : Top p loose mean mg mb h₀) (hk : m (Str.ofString "key") = some (.str k t)) (hc1 : s.heap.IsCell c1 (some (.ref dh))) (hc2 : s.heap.IsCell c2 (some (.ref ap))) (hD : s.heap.DictOf (SK w) dh kvs) (hv : valueAt kvs k = some (.ref u)) (htu : s.heap.IsTuple u #[.int i ta, .ref al])
    {Q : Bool → Shared → Prop} (h : ∀ tk, wpAny (model PP w) A (call (.ref 102) [.ref al, .ref ap]) (fun v s' => ∃ b, v = .bool b ∧ Q b s') E { s with toks := tk }) :
    wpAny (model PP w) A (isTrue (lcTest (argE (argS due9))) (cenv9 Cc L fa cd c1 c2) (eval (lcTest (argE (argS due9))) (cenv9 Cc L fa cd c1 c2))) Q E s := by
  unfold cenv9 lenv due9 lwL lwSc lc9
  dsimp only [nthS, bodyS, elseS, argS, argE, lcTest]
  have N : News h₀ Cc s.heap [] := .nil
  k_steps
  all_goals (try k_data)
  refine wpAny_mono (h _) (fun v s' hq => ?_) fun _ _ z => z
  obtain ⟨b, rfl, hq⟩ := hq
  exact wpAny_truthy_bool hq
theorem c9e (F : Fr h₀ Cc s.heap m) (X : Frag.In (hd.heap_39 w.params) h₀) (T : Top p loose mean mg mb h₀) (hk : m (Str.ofString "key") = some (.str k t)) (hc1 : s.heap.IsCell c1 (some (.ref dh))) (hD : s.heap.DictOf (SK w) dh kvs) (hv : valueAt kvs k = some (.ref u)) (htu : s.heap.IsTuple u #[.int i ta, .ref al])
    {Q : Value → Shared → Prop} (h : ∀ tk, Q (.int i ta) { s with toks := tk }) :
    wpAny (model PP w) A (eval (lcElt (argE (argS due9))) (cenv9 Cc L fa cd c1 c2)) Q E s := by
  unfold cenv9 lenv due9 lwL lwSc lc9
  dsimp only [nthS, bodyS, elseS, argS, argE, lcElt]
  have N : News h₀ Cc s.heap [] := .nil
  k_steps
  all_goals (try k_data)
  exact h _
end
section
variable {w : World} {A : Around} {E : Value → Shared → Prop} {s : Shared} {L fa c1 c2 dh ap : Addr} {h₀ : Heap} {m mg mb : Str → Option Value} {p : Program} {loose : List Str} {mean : ExcName → Option Value} {cd : Value} {kvs : List (Str × Value)} {S : List Addr} {H : List (List Str × Int)} {vp : List Value} {ps : List Str}
theorem comp9 (F : Fr h₀ L s.heap m) (X : Frag.In (hd.heap_39 w.params) h₀) (T : Top p loose mean mg mb h₀) (hh : A.handled = none) (hroom : A.depth + 20 < recursionLimit) (hc1 : s.heap.IsCell c1 (some (.ref dh))) (hc2 : s.heap.IsCell c2 (some (.ref ap))) (hD : s.heap.DictOf (SK w) dh kvs) (lo : (dh == sysModules) = false) (hkl : kvs.length ≤ 60)
    (hH : All2 (HeldE (GG s.heap S)) kvs H) (hap : s.heap.IsList ap (List.toArray vp)) (hps : StrsAre vp ps) (g1 : ∀ e ∈ H, 0 < e.1.length ∧ e.1.length < 100) (g2 : 0 < ps.length) (g3 : ps.length < 100) (g4 : (ps.getD 0 Str.empty).length ≤ sizeLine)
    {Q : Value → Shared → Prop} (h : ∀ h' tk q us, s.heap.get? q = none → h'.IsList q (List.toArray us) → IntsAre us ((H.filter fun e => fitsD (dollarOf ps) e.1 ps).map (·.2)) → Keeps s.heap h' → Q (.ref q) { s with heap := h', toks := tk }) {pos px p1 : Pos} :
    wpAny (model PP w) A (eval (.ListComp (lcElt (argE (argS due9))) [⟨.Name (Str.ofString "key") px, .Name (Str.ofString "held") p1, [lcTest (argE (argS due9))], 0⟩] lc9.1 pos) (lenv L fa cd c1 c2)) Q E s := by
  have hkn := dict_nodup hD
  have hn : (H.map fun e => slashJ e.1).Nodup := held_keys hH ▸ hkn
  refine wpAny_ListComp_free (pOf H ps) (fOf H) clos9 (by unfold lc9; decide) rfl (by unfold lc9; decide) rfl (wpAny_Name (wpAny_loadName_cell rfl rfl rfl hc1 ?_) (by decide)) (by intro _; rfl)
  obtain ⟨od, es, ep, hod, hcd, hdd, hkk, hpp, hnn⟩ := id hD
  have hat : s.heap.DictAt (SK w) dh kvs ep := ⟨od, es, hod, hcd, hdd, hkk, hpp, hnn⟩
  refine wpAny_pyIter_dict lo hat ?_
  have hne : dh ≠ s.heap.objs.size := Nat.ne_of_lt (Heap.lt_size hod)
  generalize hio : ({ cls := .type "dict_keyiterator", data := .fields #[.ref dh, .int 0 0, .int kvs.length 0, .int ep 0] } : Obj) = io
  have k1 : Keeps s.heap (s.heap.push io) := fun b o e => Heap.get?_push_of_some _ e
  have hin : ∀ {b o}, s.heap.get? b = some o → b ∉ [s.heap.objs.size] := fun e z => by
    rw [List.mem_singleton] at z
    exact absurd (Heap.lt_size e) (by rw [z]; exact Nat.lt_irrefl _)
  have facts : ∀ {i : Nat} {v : Value}, (∃ k x, kvs[i]? = some (k, x) ∧ (SK w).is k v = true) → CompF s H kvs v := by
    rintro i v ⟨k, x, hx, hk⟩
    obtain ⟨t, rfl⟩ := Value.isStrOf_shape hk
    obtain ⟨e, he, u, t', al, e1, e2, ⟨us, e3, e4⟩, e5⟩ := held_at hH (List.mem_of_getElem? hx)
    dsimp only at e1 e5
    subst e1 e5
    exact ⟨e, he, t, u, t', al, rfl, valueAt_mem hkn (List.mem_of_getElem? hx), e2.isTuple, us, e3.isList, e4⟩
  refine ⟨s.heap.objs.size, _, _, _, _, _, rfl, Walks.dictKeys (knd := SK w) hh s.heap.objs.size dh hne kvs ep, Nat.le_trans hkl (by decide), ⟨⟨_, Heap.get?_push_size _ (by rw [← hio]; rfl), by rw [← hio], by rw [← hio]; rfl⟩, hat.at' (k1 dh)⟩, fun b hb => ?_, ⟨fun C i v s₃ m₃ E' hC hP hns hm hk htk => ?_, fun C i v s₃ m₃ E' hC hP hpv hns hm hk htk => ?_⟩, fun D h' tk ys vs hDn hl hpl hlen hP hF hk => ?_⟩
  · rw [Heap.size_push]
    rcases List.mem_cons.mp hb with rfl | hb
    · exact Nat.lt_succ_self _
    · rw [List.mem_singleton.mp hb]; exact Nat.lt_succ_of_lt (Heap.lt_size hod)
  · obtain ⟨e, he, t, u, t', al, rfl, q1, q2, us, q3, q4⟩ := facts hP
    have k3 : Keeps s.heap s₃.heap := fun b o eb => hk b o (hin eb) (k1 b o eb)
    have hC0 : h₀.objs.size ≤ C := Nat.le_trans F.above (Nat.le_of_lt (Nat.lt_of_lt_of_le F.ns.lt (Nat.le_trans (by rw [Heap.size_push]; exact Nat.le_succ _) hC)))
    have F3 : Fr h₀ C s₃.heap m₃ := ⟨hns, fun b o eb => k3 b o (F.keep b o eb), hC0⟩
    refine wpAny_tests_one (c9t F3 X T hm (hc1.keeps k3) (hc2.keeps k3) (hD.at (k3 _)) q1 (let ⟨o, eo, r⟩ := q2; ⟨o, k3 _ _ eo, r⟩) fun tk => ?_)
    refine wpAny_call (fits_raw (s := { s₃ with toks := tk }) X T (fun b o eb => k3 b o (F.keep b o eb)) (Nat.le_trans hC0 (Nat.le_of_lt hns.lt)) hh hroom (isList_keeps q3 k3) q4 (isList_keeps hap k3) hps (g1 e he).1 g2 (g1 e he).2 g3 g4 fun h4 tk4 k4 => ⟨_, rfl, ?_, ?_⟩)
    · exact (fitOf_at hn he).symm
    · exact ⟨h4, tk4, rfl, k4⟩
  · obtain ⟨e, he, t, u, t', al, rfl, q1, q2, us, q3, q4⟩ := facts hP
    have k3 : Keeps s.heap s₃.heap := fun b o eb => hk b o (hin eb) (k1 b o eb)
    have hC0 : h₀.objs.size ≤ C := Nat.le_trans F.above (Nat.le_of_lt (Nat.lt_of_lt_of_le F.ns.lt (Nat.le_trans (by rw [Heap.size_push]; exact Nat.le_succ _) hC)))
    have F3 : Fr h₀ C s₃.heap m₃ := ⟨hns, fun b o eb => k3 b o (F.keep b o eb), hC0⟩
    refine c9e F3 X T hm (hc1.keeps k3) (hD.at (k3 _)) q1 (let ⟨o, eo, r⟩ := q2; ⟨o, k3 _ _ eo, r⟩) fun tk => ⟨⟨_, _, t', rfl, ?_⟩, s₃.heap, tk, rfl, fun b o eb => eb⟩
    rw [valOf_at hn he]
  · have hal : All2 (fun v (e : List Str × Int) => ∃ t, v = .str (slashJ e.1) t) vs H := by
      refine all2_of (hlen.trans hH.length) fun i v e hv he => ?_
      obtain ⟨k, x, hx, hkv⟩ := hP i v hv
      obtain ⟨t, rfl⟩ := Value.isStrOf_shape hkv
      have := congrArg (fun l => l[i]?) (held_keys hH)
      rw [List.getElem?_map, List.getElem?_map, hx, he] at this
      have h5 : k = slashJ e.1 := Option.some.inj this
      exact ⟨t, by rw [h5]⟩
    have hints := comp_ints hn (fun e he => he) hal hF
    refine h h' tk D ys.toList ?_ (by rw [Array.toArray_toList]; exact hl) hints fun b o eb => hk b o (hin eb) (k1 b o eb)
    cases hz : s.heap.get? D with
    | none => rfl
    | some o => have := k1 _ _ hz; rw [hDn] at this; cases this
theorem due9_eq : due9 = .Expr (.Call (.Attribute (.Name (Str.ofString "due") ⟨137, 8, 137, 11⟩) (Str.ofString "append") ⟨137, 8, 137, 18⟩) [.Call (.Name (Str.ofString "sorted") ⟨137, 19, 137, 25⟩) [.ListComp (lcElt (argE (argS due9))) [⟨.Name (Str.ofString "key") ⟨137, 44, 137, 47⟩, .Name (Str.ofString "held") ⟨137, 51, 137, 55⟩, [lcTest (argE (argS due9))], 0⟩] lc9.1 ⟨137, 26, 137, 90⟩] [] ⟨137, 19, 137, 91⟩] [] ⟨137, 8, 137, 92⟩) ⟨137, 8, 137, 92⟩ := by
  rfl
theorem due9_stmt {aD : Addr} {its : Array Value} (F : Fr h₀ L s.heap m) (X : Frag.In (hd.heap_39 w.params) h₀) (T : Top p loose mean mg mb h₀) (hh : A.handled = none) (hroom : A.depth + 20 < recursionLimit) (hdu : m (Str.ofString "due") = some (.ref aD)) (hl : PlainL s.heap aD its) (hsz : its.size ≤ sizeLine) (hc1 : s.heap.IsCell c1 (some (.ref dh))) (hc2 : s.heap.IsCell c2 (some (.ref ap))) (hD : s.heap.DictOf (SK w) dh kvs) (lo : (dh == sysModules) = false) (hkl : kvs.length ≤ 60)
    (hH : All2 (HeldE (GG s.heap S)) kvs H) (hap : s.heap.IsList ap (List.toArray vp)) (hps : StrsAre vp ps) (g1 : ∀ e ∈ H, 0 < e.1.length ∧ e.1.length < 100) (g2 : 0 < ps.length) (g3 : ps.length < 100) (g4 : (ps.getD 0 Str.empty).length ≤ sizeLine)
    {Q : Flow → Shared → Prop} (h : ∀ h' tk q us ns', s.heap.get? q = none → h'.IsList q (List.toArray us) → IntsAre us ns' → ns'.Perm ((H.filter fun e => fitsD (dollarOf ps) e.1 ps).map (·.2)) → ns'.Pairwise (· ≤ ·) → PlainL h' aD (its.push (.ref q)) → Heap.ExtBut aD s.heap h' → Q .next { s with heap := h', toks := tk }) :
    wpAny (model PP w) A (exec due9 (lenv L fa cd c1 c2)) Q E s := by
  rw [due9_eq]
  refine wpAny_Expr (wpAny_Call_append rfl rfl rfl rfl ?_) rfl rfl
  refine nameX_L F hdu ⟨aD, its, rfl, hl, ?_⟩ rfl rfl
  refine Call_Name1 (nameX_B F X (topRead_of T) ?_ PyProof.Rows.Boot.«sorted» (by decide) ?_) rfl
  · k_is
  refine Calls.callWith_builtin rfl (evalArgs_plain (Calls.spliced_cons (comp9 F X T hh hroom hc1 hc2 hD lo hkl hH hap hps g1 g2 g3 g4 fun h1 tk1 q us hq hlq hI k1 => Calls.spliced_nil ?_)))
  have hlen : us.length < 64 := by
    have e1 := hI.length
    have e2 := hH.length
    have e3 : (H.filter fun e => fitsD (dollarOf ps) e.1 ps).length ≤ H.length := List.length_filter_le ..
    rw [List.length_map] at e1
    omega
  refine sorted_ints (s := { s with heap := h1, toks := tk1 }) hlq hI hlen fun out ns' a1 a2 a3 => ?_
  obtain ⟨e, he⟩ := sortedAll_at h1 us out
  have kk : Keeps h1 (sortedAll h1 us out) := fun _ _ => sortedAll_old
  have hl2 : PlainL (sortedAll h1 us out) aD its := (hl.keeps k1).keeps kk
  refine list_append_plainL hl2 (fun h3 hp3 hs3 => ?_) hsz
  have hlt : aD < h1.objs.size := (hl.keeps k1).lt
  refine h h3 _ (h1.objs.size + 1) out.toList ns' ?_ ⟨_, (hs3.2 _ (Nat.ne_of_gt (Nat.lt_succ_of_lt hlt))).trans he, rfl, e, by simp⟩ a1 a2 a3 hp3 fun b o hb eb => (hs3.2 b hb).trans (kk _ _ (k1 _ _ eb))
  cases hz : s.heap.get? (h1.objs.size + 1) with
  | none => rfl
  | some o => exact absurd (Nat.lt_trans (Nat.lt_succ_self _) (Heap.lt_size (k1 _ _ hz))) (Nat.lt_irrefl _)
end
end
section
open PySem PySem.W PySem.Calls PySem.Spec PyProof.Rows
set_option Elab.async false
set_option maxRecDepth 100000
set_option maxHeartbeats 4000000
set_option linter.unusedVariables false
theorem fillLi : Reg PySem.Challenge.rw_bc0018_01 hd.heap_39 := by k_fill; trivial
section
variable {M : Model} {A : Around} {E : Value → Shared → Prop} {s : Shared} {env : Env}
theorem keeper_builtin {id : String} (h : Heap) (_ : True) : ∃ k, (k = Keeper.frame ∨ k = Keeper.machine ∨ k = Keeper.boundFrame) ∧ Looks M h (keeperOf (.builtin id)) k := ⟨.machine, .inr (.inl rfl), Looks.of_pure rfl⟩
theorem wpJ_Expr {e : Expr} {pos : Pos} {Q : Flow → Shared → Prop} (h : wpJ M A (eval e env) (fun v s' => match v with | .ref _ => False | _ => Q .next s') E s)
    (hi : interactive env = false := by rfl) (hs : swapsWith e none pos.line env = pure false := by rfl) :
    wpJ M A (exec (.Expr e pos) env) Q E s := by
  rw [exec_Expr env e pos hi hs]
  refine wpJ_bind (wpJ_any (wpAny_standAt (wpJ_bind (wpJ_mono h (fun v s' h' => ?_) fun _ _ x => x))))
  have hv : ∀ a, v ≠ .ref a := fun a hva => by subst hva; exact h'
  rw [dropValue_plain hv]
  refine wpJ_pure ?_
  cases v <;> first | exact h' | exact (hv _ rfl).elim
end
section
variable {w : World} {A : Around} {E : Value → Shared → Prop} {s : Shared} {M root L : Addr} {h₀ : Heap} {m : Str → Option Value}
theorem iter_method {Q : Value × List Value → Shared → Prop} {pl : Sem Bool} (F : Fr h₀ L s.heap m) (X : Frag.In (hd.heap_39 w.params) h₀) (I : MatAt s.heap M root) (h : Q (.ref 79, [.ref M]) s) : wpAny (model PP w) A (getMethod (.ref M) "iter_match" pl) Q E s := by
  obtain ⟨dM, hs, tk, n, h1, h2⟩ := I
  refine method_fn (C := 82) (f := 79) (od := some (dictOf [⟨hs, .str (Str.ofString "_root") tk, .ref root⟩] n)) (X.keeps F.keep) ⟨h1, rfl, rfl, h2⟩ ?_ ?_ ?_ ?_ ?_ h
  · k_is
  · k_is
  · k_is
  · k_is
  · kernel_rfl
end
section
variable {prog : Program} {w : World} {A : Around} {E : Value → Shared → Prop} {s : Shared} {env : Env}
theorem wpJ_Call_append {o elt : Expr} {apos pos : Pos} {Q : Value → Shared → Prop}
    (hbase : attributeBase o "append" env (eval o env) = eval o env)
    (hfew : ((backTo pos (starEach [elt] env)).all (fun x => !x.1) && (backToKw pos (keywordEach [] env)).all (fun x => x.1.isSome)
      && decide (([elt] : List Expr).length + ([] : List Keyword).length + (if ([] : List Keyword).isEmpty then 0 else 1) < 30)) = true)
    (hline : (apos.endLine == pos.line) = true)
    (htrees : backTo pos (starEach [elt] env) = [(false, eval elt env)])
    (h : wpAny (model prog w) A (eval o env) (fun ov s₁ => ∃ D its, ov = .ref D ∧ PlainL s₁.heap D its ∧
      wpJ (model prog w) A (eval elt env) (fun y s₂ => wpJ (model prog w) A (call (.builtin "list.append") [.ref D, y]) Q E s₂) E s₁) E s) :
    wpJ (model prog w) A (eval (.Call (.Attribute o "append" apos) [elt] [] pos) env) Q E s := by
  rw [arm_eval_Call, hbase]
  refine wpJ_bind (wpJ_any (wpAny_mono h (fun ov s₁ h₁ => ?_) fun _ _ e => e))
  obtain ⟨D, its, rfl, ⟨ob, n, hob, hc, hd, _⟩, hcall⟩ := h₁
  refine wpJ_bind (wpJ_any (wpAny_standAt ?_))
  have fin : wpJ (model prog w) A (callWith pos (.builtin "list.append") [.ref D] (backTo pos (starEach [elt] env)) []) Q E s₁ := by
    rw [htrees]
    exact wpJ_callWith1 (P := fun _ => True) keeper_builtin (wpJ_mono hcall (fun y s₂ h₂ => ⟨trivial, h₂⟩) fun _ _ e => e)
  have hform : methodCallForm (([elt] : List Expr).length + ([] : List Keyword).length) (backTo pos (starEach [elt] env)) (backToKw pos (keywordEach [] env)) = true := hfew
  have hpos : methodCallPos true o env apos pos = pure pos := by unfold methodCallPos; simp [hline]
  unfold methodCall
  rw [hform]
  refine wpJ_bind (wpJ_any (wpAny_holding (Calls.getMethod_list_append hob hc hd ?_)))
  dsimp only
  rw [hpos]
  exact wpJ_bind (wpJ_pure fin)
theorem wpJ_Call_Name1 {x : Str} {p pos : Pos} {e : Expr} {Q : Value → Shared → Prop}
    (h : wpAny (model prog w) A (eval (.Name x p) env) (fun f s₁ => wpJ (model prog w) A (callWith pos f [] [(false, eval e env)] []) Q E s₁) E s)
    (hs : backTo pos (starEach [e] env) = [(false, eval e env)] := by rfl) :
    wpJ (model prog w) A (eval (.Call (.Name x p) [e] [] pos) env) Q E s := by
  show wpJ _ A (eval (.Name x p) env >>= fun f => callWith pos f [] (backTo pos (starEach [e] env)) []) Q E s
  rw [hs]
  exact wpJ_bind (wpJ_any h)
end

local macro_rules | `(tactic| walk_at "pad") => `(tactic| fail)
local macro_rules | `(tactic| walk_at "pad") => `(tactic| fail)
local macro_rules | `(tactic| walk_at "call builtin:str.join") => `(tactic| (k_here; k_dflt (refine' join_listW (by with_reducible assumption) (by with_reducible assumption) (by decide) (by with_reducible assumption) ?_; intro t' k')))
local macro_rules | `(tactic| walk_at "getMethod ref") => `(tactic| (k_here; k_dflt (
  (with_reducible show wpAny _ _ (getMethod _ (PySem.Str.ofString "iter_match") _) _ _ _); refine' iter_method (by k_asm) (by k_asm) (by with_reducible assumption) ?_)))
section
variable {w : World} {A : Around} {E : Value → Shared → Prop} {s : Shared} {M root L fa c1 c2 ap : Addr} {h₀ : Heap} {m mg mb : Str → Option Value} {p : Program} {loose : List Str} {mean : ExcName → Option Value} {cd : Value} {vp : List Value} {ps : List Str}
noncomputable def told8 : Stmt := nthS (elseS l7) 0
noncomputable def told9 : Stmt := nthS (bodyS (nthS lwL.1 7)) 0
theorem t8i (F : Fr h₀ L s.heap m) (X : Frag.In (hd.heap_39 w.params) h₀) (T : Top p loose mean mg mb h₀) (hM : m (Str.ofString "matcher") = some (.ref M)) (I : MatAt s.heap M root) (hc2 : s.heap.IsCell c2 (some (.ref ap))) (hap : s.heap.IsList ap vp.toArray) (hps : StrsAre vp ps) (hw : (ps.map (·.length)).sum + ps.length ≤ 1048576)
    {Q : Value → Shared → Prop} (h : ∀ tk t, wpAny (model PP w) A (call (.ref 79) [.ref M, .str (slashJ ps) t]) Q E { s with toks := tk }) :
    wpAny (model PP w) A (eval (argE (argS told8)) (lenv L fa cd c1 c2)) Q E s := by
  unfold told8 l7 l6 l5 lb lwL lenv lwSc
  dsimp only [nthS, bodyS, elseS, argS, argE]
  have N : News h₀ L s.heap [] := .nil
  k_steps
  all_goals (try k_data)
  exact h _ _
theorem t9i (F : Fr h₀ L s.heap m) (X : Frag.In (hd.heap_39 w.params) h₀) (T : Top p loose mean mg mb h₀) (hM : m (Str.ofString "matcher") = some (.ref M)) (I : MatAt s.heap M root) (hc2 : s.heap.IsCell c2 (some (.ref ap))) (hap : s.heap.IsList ap vp.toArray) (hps : StrsAre vp ps) (hw : (ps.map (·.length)).sum + ps.length ≤ 1048576)
    {Q : Value → Shared → Prop} (h : ∀ tk t, wpAny (model PP w) A (call (.ref 79) [.ref M, .str (slashJ ps) t]) Q E { s with toks := tk }) :
    wpAny (model PP w) A (eval (argE (argS told9)) (lenv L fa cd c1 c2)) Q E s := by
  unfold told9 lwL lenv lwSc
  dsimp only [nthS, bodyS, elseS, argS, argE]
  have N : News h₀ L s.heap [] := .nil
  k_steps
  all_goals (try k_data)
  exact h _ _
end
end
section
open PySem PySem.W PySem.Calls PySem.Spec PyProof.Rows
set_option Elab.async false
set_option maxRecDepth 100000
set_option maxHeartbeats 4000000
set_option linter.unusedVariables false
theorem fillLj : Reg PySem.Challenge.rw_bc0018_01 hd.heap_39 := by k_fill; trivial
section
variable {w : World} {A : Around} {s : Shared} {M root L fa c1 c2 ap : Addr} {h₀ : Heap} {m mg mb : Str → Option Value} {p : Program} {loose : List Str} {mean : ExcName → Option Value} {cd : Value} {vp : List Value} {ps : List Str}
theorem told8_eq : told8 = .Expr (.Call (.Attribute (.Name (Str.ofString "told") ⟨133, 12, 133, 16⟩) (Str.ofString "append") ⟨133, 12, 133, 23⟩) [.Call (.Name (Str.ofString "sorted") ⟨133, 24, 133, 30⟩) [argE (argS told8)] [] ⟨133, 24, 133, 67⟩] [] ⟨133, 12, 133, 68⟩) ⟨133, 12, 133, 68⟩ := by
  rfl
theorem told8_stmt {aT : Addr} {its : Array Value} {S : List Addr} {P : List Str → Option (Addr × Addr)} {C : List Str → Value} {TA : List Addr} {B : Nat} {H : List (List Str × Int)}
    (F : Fr h₀ L s.heap m) (X : Frag.In (hd.heap_39 w.params) h₀) (T : Top p loose mean mg mb h₀) (Cd : CodeHd h₀ 78 74) (h74 : h₀.get? 74 = none) (r : Room 400 A) (hM : m (Str.ofString "matcher") = some (.ref M)) (hto : m (Str.ofString "told") = some (.ref aT)) (hl : PlainL s.heap aT its) (hsz : its.size ≤ sizeLine) (n74 : aT ≠ 74)
    (TR : TabRec S s.heap) (hS : ∀ a ∈ S, a < s.heap.objs.size) (I : MatAt s.heap M root) (Tr : Trie w s.heap root P C TA B) (T74 : 74 ∉ TA) (hc2 : s.heap.IsCell c2 (some (.ref ap))) (hap : s.heap.IsList ap vp.toArray) (hps : StrsAre vp ps)
    (hH : Holds H C) (hHl : H.length ≤ 60) (g1 : Txt.split (slashJ ps) (Str.ofString "/") = ps) (g2 : (slashJ ps).length + 2 ≤ sizeLine) (g3 : ps.length ≤ 7) (g4 : ∀ x ∈ ps, plainP x) (g5 : ps ≠ []) (g6 : Txt.startswith (slashJ ps) (Str.ofString "$") = dollarOf ps) (g7 : (ps.map (·.length)).sum + ps.length ≤ 1048576)
    (hg : ∀ g, g < s.gens.size → s.gens[g]? = some .finished)
    {Q : Flow → Shared → Prop} (h : ∀ s' q us ns' h1, s'.os = s.os → (∀ g, g < s'.gens.size → s'.gens[g]? = some .finished) → Heap.ExtBut 74 s.heap h1 → TabRec S h1 → s.heap.get? q = none → h1.IsList q (List.toArray us) → IntsAre us ns' → ns'.Perm ((H.filter fun e => fitsD (dollarOf ps) e.1 ps).map (·.2)) → ns'.Pairwise (· ≤ ·) → PlainL s'.heap aT (its.push (.ref q)) → Heap.SameBut aT h1 s'.heap → Q .next s') :
    wpJ (model PP w) A (exec told8 (lenv L fa cd c1 c2)) Q NoE s := by
  rw [told8_eq]
  refine wpJ_Expr (wpJ_Call_append rfl rfl rfl rfl ?_) rfl rfl
  refine nameX_L F hto ⟨aT, its, rfl, hl, ?_⟩ rfl rfl
  refine wpJ_Call_Name1 (nameX_B F X (topRead_of T) ?_ PyProof.Rows.Boot.«sorted» (by decide) ?_) rfl
  · k_is
  refine wpJ_callWith1 (P := fun _ => True) keeper_builtin (wpJ_any (t8i F X T hM I hc2 hap hps g7 fun tk t => ?_))
  have hdep : A.depth + 400 < recursionLimit := r.depth
  refine wpAny_call (iter_raw (s := { s with toks := tk }) X T F.keep (Nat.le_trans F.above (Nat.le_of_lt F.ns.lt)) (by omega) Cd h74 TR hS I Tr T74 g1 g2 (by omega) fun h3 h4 gs tk4 a L4 q1 q2 q3 q4 q5 q6 q7 => ?_)
  dsimp only at q7 q2
  refine ⟨trivial, ?_⟩
  rw [g6] at q7
  obtain ⟨ns, i1, i2⟩ := plain_law Tr.closed Tr.dom hH (dollar := dollarOf ps) g4 g5
  have ilen : (mat P C (!dollarOf ps) ps [] 0).length < 64 := by
    have e1 := i1.length
    have e2 := i2.length_eq
    have e3 : (H.filter fun e => fitsD (dollarOf ps) e.1 ps).length ≤ H.length := List.length_filter_le ..
    rw [List.length_map] at e2
    omega
  refine sorted_draws q4 q7 (r.le (by omega)) (fun x hx => by rw [List.mem_singleton] at hx; subst hx; exact q6) q5 i1 ilen fun s' O' Og' Sa vs' ns' e af fin hSa heS hI hP hO => ?_
  have hl3 : PlainL h3 aT its := let ⟨o, n, eo, rr⟩ := hl; ⟨o, n, q2 _ _ n74 eo, rr⟩
  refine wpJ_any (list_append_plainL (hl3.keeps af.base) (fun h5 hp5 hs5 => ?_) hsz)
  refine h { s' with heap := h5 } Sa vs'.toList ns' s'.heap af.os (fun g hgl => ?_) (fun b o hb eb => af.base _ _ (q2 b o hb eb)) (TabRec.step q1 (fun o eo => af.base _ _ eo) (stepKeeps af.base)) ?_ ⟨_, heS, rfl, e, by simp⟩ hI (hP.trans i2) hO hp5 hs5
  · have gsz : ({ s with heap := h4, gens := s.gens.push gs, toks := tk4 } : Shared).gens.size = s.gens.size + 1 := Array.size_push ..
    by_cases hlt : g < s.gens.size
    · have := af.gens g (by rw [gsz]; exact Nat.lt_succ_of_lt hlt) (fun z => by rw [List.mem_singleton] at z; exact absurd hlt (by rw [z]; exact Nat.lt_irrefl _))
      show s'.gens[g]? = _
      rw [this]
      show (s.gens.push gs)[g]? = _
      rw [Array.getElem?_push, if_neg (Nat.ne_of_lt hlt)]
      exact hg g hlt
    · by_cases he : g = s.gens.size
      · exact fin g (af.gold g (by rw [he]; exact .head _))
      · exact fin g (af.gall g (by rw [gsz]; omega) hgl)
  · cases hz : s.heap.get? Sa with
    | none => rfl
    | some o =>
      by_cases z : Sa = 74
      · have : 74 < h3.objs.size := by rcases q1 with e | ⟨_, e, _⟩ <;> exact Heap.lt_size e
        exact absurd (Nat.lt_of_lt_of_le this (Nat.le_trans q5 hSa)) (by rw [z]; exact Nat.lt_irrefl _)
      · exact absurd (Nat.lt_of_lt_of_le (Heap.lt_size (q2 _ _ z hz)) (Nat.le_trans q5 hSa)) (Nat.lt_irrefl _)
theorem told9_eq : told9 = .Expr (.Call (.Attribute (.Name (Str.ofString "told") ⟨136, 8, 136, 12⟩) (Str.ofString "append") ⟨136, 8, 136, 19⟩) [.Call (.Name (Str.ofString "sorted") ⟨136, 20, 136, 26⟩) [argE (argS told9)] [] ⟨136, 20, 136, 63⟩] [] ⟨136, 8, 136, 64⟩) ⟨136, 8, 136, 64⟩ := by
  rfl
theorem told9_stmt {aT : Addr} {its : Array Value} {S : List Addr} {P : List Str → Option (Addr × Addr)} {C : List Str → Value} {TA : List Addr} {B : Nat} {H : List (List Str × Int)}
    (F : Fr h₀ L s.heap m) (X : Frag.In (hd.heap_39 w.params) h₀) (T : Top p loose mean mg mb h₀) (Cd : CodeHd h₀ 78 74) (h74 : h₀.get? 74 = none) (r : Room 400 A) (hM : m (Str.ofString "matcher") = some (.ref M)) (hto : m (Str.ofString "told") = some (.ref aT)) (hl : PlainL s.heap aT its) (hsz : its.size ≤ sizeLine) (n74 : aT ≠ 74)
    (TR : TabRec S s.heap) (hS : ∀ a ∈ S, a < s.heap.objs.size) (I : MatAt s.heap M root) (Tr : Trie w s.heap root P C TA B) (T74 : 74 ∉ TA) (hc2 : s.heap.IsCell c2 (some (.ref ap))) (hap : s.heap.IsList ap vp.toArray) (hps : StrsAre vp ps)
    (hH : Holds H C) (hHl : H.length ≤ 60) (g1 : Txt.split (slashJ ps) (Str.ofString "/") = ps) (g2 : (slashJ ps).length + 2 ≤ sizeLine) (g3 : ps.length ≤ 7) (g4 : ∀ x ∈ ps, plainP x) (g5 : ps ≠ []) (g6 : Txt.startswith (slashJ ps) (Str.ofString "$") = dollarOf ps) (g7 : (ps.map (·.length)).sum + ps.length ≤ 1048576)
    (hg : ∀ g, g < s.gens.size → s.gens[g]? = some .finished)
    {Q : Flow → Shared → Prop} (h : ∀ s' q us ns' h1, s'.os = s.os → (∀ g, g < s'.gens.size → s'.gens[g]? = some .finished) → Heap.ExtBut 74 s.heap h1 → TabRec S h1 → s.heap.get? q = none → h1.IsList q (List.toArray us) → IntsAre us ns' → ns'.Perm ((H.filter fun e => fitsD (dollarOf ps) e.1 ps).map (·.2)) → ns'.Pairwise (· ≤ ·) → PlainL s'.heap aT (its.push (.ref q)) → Heap.SameBut aT h1 s'.heap → Q .next s') :
    wpJ (model PP w) A (exec told9 (lenv L fa cd c1 c2)) Q NoE s := by
  rw [told9_eq]
  refine wpJ_Expr (wpJ_Call_append rfl rfl rfl rfl ?_) rfl rfl
  refine nameX_L F hto ⟨aT, its, rfl, hl, ?_⟩ rfl rfl
  refine wpJ_Call_Name1 (nameX_B F X (topRead_of T) ?_ PyProof.Rows.Boot.«sorted» (by decide) ?_) rfl
  · k_is
  refine wpJ_callWith1 (P := fun _ => True) keeper_builtin (wpJ_any (t9i F X T hM I hc2 hap hps g7 fun tk t => ?_))
  have hdep : A.depth + 400 < recursionLimit := r.depth
  refine wpAny_call (iter_raw (s := { s with toks := tk }) X T F.keep (Nat.le_trans F.above (Nat.le_of_lt F.ns.lt)) (by omega) Cd h74 TR hS I Tr T74 g1 g2 (by omega) fun h3 h4 gs tk4 a L4 q1 q2 q3 q4 q5 q6 q7 => ?_)
  dsimp only at q7 q2
  refine ⟨trivial, ?_⟩
  rw [g6] at q7
  obtain ⟨ns, i1, i2⟩ := plain_law Tr.closed Tr.dom hH (dollar := dollarOf ps) g4 g5
  have ilen : (mat P C (!dollarOf ps) ps [] 0).length < 64 := by
    have e1 := i1.length
    have e2 := i2.length_eq
    have e3 : (H.filter fun e => fitsD (dollarOf ps) e.1 ps).length ≤ H.length := List.length_filter_le ..
    rw [List.length_map] at e2
    omega
  refine sorted_draws q4 q7 (r.le (by omega)) (fun x hx => by rw [List.mem_singleton] at hx; subst hx; exact q6) q5 i1 ilen fun s' O' Og' Sa vs' ns' e af fin hSa heS hI hP hO => ?_
  have hl3 : PlainL h3 aT its := let ⟨o, n, eo, rr⟩ := hl; ⟨o, n, q2 _ _ n74 eo, rr⟩
  refine wpJ_any (list_append_plainL (hl3.keeps af.base) (fun h5 hp5 hs5 => ?_) hsz)
  refine h { s' with heap := h5 } Sa vs'.toList ns' s'.heap af.os (fun g hgl => ?_) (fun b o hb eb => af.base _ _ (q2 b o hb eb)) (TabRec.step q1 (fun o eo => af.base _ _ eo) (stepKeeps af.base)) ?_ ⟨_, heS, rfl, e, by simp⟩ hI (hP.trans i2) hO hp5 hs5
  · have gsz : ({ s with heap := h4, gens := s.gens.push gs, toks := tk4 } : Shared).gens.size = s.gens.size + 1 := Array.size_push ..
    by_cases hlt : g < s.gens.size
    · have := af.gens g (by rw [gsz]; exact Nat.lt_succ_of_lt hlt) (fun z => by rw [List.mem_singleton] at z; exact absurd hlt (by rw [z]; exact Nat.lt_irrefl _))
      show s'.gens[g]? = _
      rw [this]
      show (s.gens.push gs)[g]? = _
      rw [Array.getElem?_push, if_neg (Nat.ne_of_lt hlt)]
      exact hg g hlt
    · by_cases he : g = s.gens.size
      · exact fin g (af.gold g (by rw [he]; exact .head _))
      · exact fin g (af.gall g (by rw [gsz]; omega) hgl)
  · cases hz : s.heap.get? Sa with
    | none => rfl
    | some o =>
      by_cases z : Sa = 74
      · have : 74 < h3.objs.size := by rcases q1 with e | ⟨_, e, _⟩ <;> exact Heap.lt_size e
        exact absurd (Nat.lt_of_lt_of_le this (Nat.le_trans q5 hSa)) (by rw [z]; exact Nat.lt_irrefl _)
      · exact absurd (Nat.lt_of_lt_of_le (Heap.lt_size (q2 _ _ z hz)) (Nat.le_trans q5 hSa)) (Nat.lt_irrefl _)
end
end
section
open PySem PySem.W PySem.Calls PySem.Spec PyProof.Rows
set_option Elab.async false
set_option maxRecDepth 100000
set_option maxHeartbeats 4000000
set_option linter.unusedVariables false
theorem getD_mem {ys : List Str} {i : Nat} (h : i < ys.length) : ys.getD i Str.empty ∈ ys := by
  rw [List.getD_eq_getElem?_getD, List.getElem?_eq_getElem h]; exact List.getElem_mem h
theorem lvGo_length {ys : List Str} : ∀ k n, (lvGo ys k n).length = k
  | 0, _ => rfl
  | k + 1, _ => congrArg (· + 1) (lvGo_length k _)
theorem lvGo_mem {ys : List Str} (hy : 0 < ys.length) : ∀ k n, ∀ x ∈ lvGo ys k n, x ∈ ys
  | 0, _, x, h => by cases h
  | k + 1, n, x, h => by
    have h0 := Int.fmod_nonneg_of_pos n (b := (ys.length : Int)) (by omega)
    have h1 := Int.fmod_lt_of_pos n (b := (ys.length : Int)) (by omega)
    rcases List.mem_cons.mp h with rfl | h
    · exact getD_mem (by omega)
    · exact lvGo_mem hy k _ x h
theorem levelsOf_length {ys : List Str} (n : Int) : 1 ≤ (levelsOf ys n).length ∧ (levelsOf ys n).length ≤ 4 := by
  have h := fmod4_range n
  unfold levelsOf
  rw [lvGo_length]
  omega
/-! lists of words, put together with a sign that stands in none of them, come apart in one way alone -/
theorem cut_same {c : Nat} : ∀ {a b r t : List Nat}, c ∉ a → c ∉ b → a ++ c :: r = b ++ c :: t → a = b ∧ r = t
  | [], [], _, _, _, _, h => ⟨rfl, (List.cons.inj h).2⟩
  | [], y :: b, _, _, _, hb, h => absurd ((List.cons.inj h).1 ▸ List.mem_cons_self) hb
  | x :: a, [], _, _, ha, _, h => absurd ((List.cons.inj h).1 ▸ List.mem_cons_self) ha
  | x :: a, y :: b, _, _, ha, hb, h => by
    obtain ⟨e, h⟩ := List.cons.inj h
    obtain ⟨e2, e3⟩ := cut_same (fun z => ha (List.mem_cons_of_mem _ z)) (fun z => hb (List.mem_cons_of_mem _ z)) h
    exact ⟨by rw [e, e2], e3⟩
theorem join_list (c : Nat) (x y : Str) (l : List Str) : (Str.join ⟨#[c]⟩ (x :: y :: l)).cps.toList = x.cps.toList ++ c :: (Str.join ⟨#[c]⟩ (y :: l)).cps.toList := by
  show (x ++ ⟨#[c]⟩ ++ Str.join ⟨#[c]⟩ (y :: l)).cps.toList = _
  rw [Str.cps_append, Str.cps_append, Array.toList_append, Array.toList_append, List.append_assoc]
  rfl
theorem join_once {c : Nat} : ∀ {l t : List Str}, l ≠ [] → t ≠ [] → (∀ x ∈ l, c ∉ x.cps.toList) → (∀ x ∈ t, c ∉ x.cps.toList) → Str.join ⟨#[c]⟩ l = Str.join ⟨#[c]⟩ t → l = t
  | [], _, h, _, _, _, _ => absurd rfl h
  | _, [], _, h, _, _, _ => absurd rfl h
  | [x], [y], _, _, _, _, h => congrArg (fun z => [z]) h
  | [x], y :: y2 :: t, _, _, hx, _, h => by
    have e := congrArg (fun z : Str => z.cps.toList) h
    rw [join_list] at e
    exact absurd (by rw [show x.cps.toList = _ from e]; exact List.mem_append_right _ List.mem_cons_self) (hx x List.mem_cons_self)
  | x :: x2 :: l, [y], _, _, _, hy, h => by
    have e := congrArg (fun z : Str => z.cps.toList) h
    rw [join_list] at e
    exact absurd (by rw [show y.cps.toList = _ from e.symm]; exact List.mem_append_right _ List.mem_cons_self) (hy y List.mem_cons_self)
  | x :: x2 :: l, y :: y2 :: t, _, _, hx, hy, h => by
    have e := congrArg (fun z : Str => z.cps.toList) h
    rw [join_list, join_list] at e
    obtain ⟨e1, e2⟩ := cut_same (hx x List.mem_cons_self) (hy y List.mem_cons_self) e
    rw [str_eq_of_lists e1, join_once (by simp) (by simp) (fun z hz => hx z (List.mem_cons_of_mem _ hz)) (fun z hz => hy z (List.mem_cons_of_mem _ hz)) (str_eq_of_lists e2)]
theorem slash_is : Str.ofString "/" = ⟨#[47]⟩ := by decide +kernel
theorem slashJ_join (ls : List Str) : slashJ ls = Str.join ⟨#[47]⟩ ls := by rw [← slash_is]; exact StrLaws.glued_eq_join _ _
theorem split_slash {ls : List Str} (h0 : ls ≠ []) (hf : ∀ x ∈ ls, 47 ∉ x.cps.toList) : Txt.split (slashJ ls) (Str.ofString "/") = ls := by
  rw [slash_is]
  have h1 := StrLaws.join_split (slashJ ls) ⟨#[47]⟩
  have h2 := StrLaws.split_free (slashJ ls) 47
  have h3 := split_pos (slashJ ls) ⟨#[47]⟩
  exact join_once (fun z => by rw [z] at h3; cases h3) h0 h2 hf (h1.trans (slashJ_join ls))
theorem slashJ_length {ls : List Str} (h : ls.length ≤ 6) (hs : (ls.map (·.length)).sum ≤ 2 * ls.length) : (slashJ ls).length ≤ 100 := by
  have e := StrLaws.join_length_le ⟨#[47]⟩ ls
  rw [slashJ_join]
  have : (⟨#[47]⟩ : Str).length = 1 := rfl
  rw [this] at e
  omega
theorem sum_le {ls : List Str} (h : ∀ x ∈ ls, x.length ≤ 2) : (ls.map (·.length)).sum ≤ 2 * ls.length := by
  have := StrLaws.sumLen_le ls h
  omega
/-- what the program may lean on of a word -/
noncomputable def wordB (p : Str) : Bool := !p.cps.toList.contains 47 && decide (p.length ≤ 2) && PyData.strOk p
structure Word (p : Str) : Prop where
  free : 47 ∉ p.cps.toList
  len : p.length ≤ 2
  ok : PyData.strOk p = true
theorem Word.of {p : Str} (h : wordB p = true) : Word p := by
  unfold wordB at h
  simp only [Bool.and_eq_true, decide_eq_true_eq, Bool.not_eq_true', List.contains_eq_mem, decide_eq_false_iff_not] at h
  exact ⟨h.1.1, h.1.2, h.2⟩
structure SL (ls : List Str) : Prop where
  sp : Txt.split (slashJ ls) (Str.ofString "/") = ls
  ln : (slashJ ls).length ≤ 100
  sm : (ls.map (·.length)).sum ≤ 100
  ok : ∀ x ∈ ls, PyData.strOk x = true
  l6 : ls.length ≤ 6
  l0 : 0 < ls.length
theorem SL.of {ls : List Str} (l0 : 0 < ls.length) (l6 : ls.length ≤ 6) (hw : ∀ x ∈ ls, Word x) : SL ls :=
  have hs := sum_le fun x hx => (hw x hx).len
  ⟨split_slash (fun z => by rw [z] at l0; cases l0) fun x hx => (hw x hx).free, slashJ_length l6 hs, by omega, fun x hx => (hw x hx).ok, l6, l0⟩
theorem okL_plain : ∀ {l : List Str}, (∀ x ∈ l, x ≠ sH) → okL l
  | [], _ => trivial
  | x :: l, h => ⟨fun z => absurd z (h x List.mem_cons_self), okL_plain fun y hy => h y (List.mem_cons_of_mem _ hy)⟩
theorem okL_hash : ∀ {l : List Str}, (∀ x ∈ l, x ≠ sH) → okL (l ++ [sH])
  | [], _ => ⟨fun _ => rfl, trivial⟩
  | x :: l, h => ⟨fun z => absurd z (h x List.mem_cons_self), okL_hash fun y hy => h y (List.mem_cons_of_mem _ hy)⟩
theorem words_ok : ∀ x ∈ wordsL, wordB x = true ∧ x ≠ sH := by decide +kernel
theorem hash_ok : wordB sH = true := by decide +kernel
/-- a topic's word -/
noncomputable def dolB (p : Str) : Bool := Txt.slice p none (some 1) == Str.ofString "$"
noncomputable def topB (p : Str) : Bool := wordB p && decide (p ≠ sH) && decide (p ≠ sP) && decide (Txt.startswith p (Str.ofString "$") = dolB p) && decide (Txt.startswith (p ++ Str.ofString "/") (Str.ofString "$") = dolB p)
theorem topics_ok : ∀ x ∈ topicsL, topB x = true := by decide +kernel
theorem asked_ok : ∀ ps ∈ asked0, 0 < ps.length ∧ ps.length ≤ 6 ∧ ∀ x ∈ ps, x ∈ topicsL := by decide +kernel
structure TopW (p : Str) : Prop where
  w : Word p
  pl : plainP p
  d1 : Txt.startswith p (Str.ofString "$") = dolB p
  d2 : Txt.startswith (p ++ Str.ofString "/") (Str.ofString "$") = dolB p
theorem TopW.of {p : Str} (h : topB p = true) : TopW p := by
  unfold topB at h
  simp only [Bool.and_eq_true, decide_eq_true_eq] at h
  obtain ⟨⟨⟨⟨a, b⟩, c⟩, d⟩, e⟩ := h
  exact ⟨.of a, ⟨b, c⟩, d, e⟩
theorem starts_dollar : ∀ {ps : List Str}, ps ≠ [] → (∀ x ∈ ps, TopW x) → Txt.startswith (slashJ ps) (Str.ofString "$") = dollarOf ps
  | [], h, _ => absurd rfl h
  | [x], _, hw => (hw x List.mem_cons_self).d1
  | x :: y :: l, _, hw => by
    have e : slashJ (x :: y :: l) = x ++ Str.ofString "/" ++ Str.join (Str.ofString "/") (y :: l) := StrLaws.glued_eq_join _ _
    rw [e, KAf.starts_left (by rw [Str.length_append]; exact Nat.le_add_left ..)]
    exact (hw x List.mem_cons_self).d2
end
section
open PySem PySem.W PySem.Calls PySem.Spec PyProof.Rows
set_option Elab.async false
set_option maxRecDepth 100000
set_option maxHeartbeats 4000000
set_option linter.unusedVariables false
theorem fillLm : Reg PySem.Challenge.rw_bc0018_01 hd.heap_39 := by k_fill; trivial

theorem line100 {n : Nat} (h : n ≤ 100) : n + 2 ≤ sizeLine := by rw [sizeLine_eq]; omega
structure GL (ls : List Str) : Prop where
  sp : Txt.split (slashJ ls) (Str.ofString "/") = ls
  ln : (slashJ ls).length ≤ 100
  sm : (ls.map (·.length)).sum ≤ 100
  ok : ∀ x ∈ ls, PyData.strOk x = true
  l6 : ls.length ≤ 6
  l0 : 0 < ls.length
  okl : okL ls
structure GP (ps : List Str) : Prop where
  sp : Txt.split (slashJ ps) (Str.ofString "/") = ps
  ln : (slashJ ps).length ≤ 100
  sm : (ps.map (·.length)).sum ≤ 100
  ok : ∀ x ∈ ps, PyData.strOk x = true
  l6 : ps.length ≤ 6
  l0 : 0 < ps.length
  pl : ∀ x ∈ ps, plainP x
  dl : Txt.startswith (slashJ ps) (Str.ofString "$") = dollarOf ps
  g0 : (ps.getD 0 Str.empty).length ≤ 100
theorem GL.of {ls : List Str} (h : SL ls) (k : okL ls) : GL ls := ⟨h.sp, h.ln, h.sm, h.ok, h.l6, h.l0, k⟩
theorem GP.of {ps : List Str} (l0 : 0 < ps.length) (l6 : ps.length ≤ 6) (hw : ∀ x ∈ ps, x ∈ topicsL) : GP ps :=
  have ht : ∀ x ∈ ps, TopW x := fun x hx => .of (topics_ok x (hw x hx))
  have h : SL ps := .of l0 l6 fun x hx => (ht x hx).w
  ⟨h.sp, h.ln, h.sm, h.ok, h.l6, h.l0, fun x hx => (ht x hx).pl, starts_dollar (fun z => by rw [z] at l0; cases l0) ht, by
    rw [List.getD_eq_getElem?_getD, List.getElem?_eq_getElem l0]
    exact Nat.le_trans (ht _ (List.getElem_mem l0)).w.len (by decide)⟩
theorem gl_levels (n : Int) : GL (levelsOf wordsL n) :=
  have h := levelsOf_length (ys := wordsL) n
  have m := lvGo_mem (ys := wordsL) (by decide) (n.fmod 4 + 1).toNat (n.fdiv 4)
  .of (.of h.1 (Nat.le_trans h.2 (by decide)) fun x hx => .of (words_ok x (m x hx)).1) (okL_plain fun x hx => (words_ok x (m x hx)).2)
theorem gl_levels2 (n : Int) (c : Prop) [Decidable c] : GL (levelsOf wordsL n ++ (if c then [Str.ofString "#"] else [])) := by
  have h := levelsOf_length (ys := wordsL) n
  have m := lvGo_mem (ys := wordsL) (by decide) (n.fmod 4 + 1).toNat (n.fdiv 4)
  by_cases hc : c
  · rw [if_pos hc]
    refine .of (.of ?_ ?_ fun x hx => ?_) (okL_hash fun x hx => (words_ok x (m x hx)).2)
    · rw [List.length_append]; exact Nat.lt_of_lt_of_le h.1 (Nat.le_add_right ..)
    · rw [List.length_append]; exact Nat.add_le_add h.2 (show 1 ≤ 2 by decide)
    · rcases List.mem_append.mp hx with hx | hx
      · exact .of (words_ok x (m x hx)).1
      · rw [List.mem_singleton.mp hx]; exact .of hash_ok
  · rw [if_neg hc, List.append_nil]; exact gl_levels n
theorem gl_hash : GL [Str.ofString "#"] := .of (.of (by decide) (by decide) fun x hx => by rw [List.mem_singleton.mp hx]; exact .of hash_ok) (okL_hash (l := []) fun x hx => by cases hx)
theorem gp_levels (n : Int) : GP (levelsOf topicsL n) :=
  have h := levelsOf_length (ys := topicsL) n
  .of h.1 (Nat.le_trans h.2 (by decide)) (lvGo_mem (ys := topicsL) (by decide) (n.fmod 4 + 1).toNat (n.fdiv 4))
theorem gp_blank : GP [Str.ofString "", Str.ofString ""] := .of (by decide) (by decide) (by decide +kernel)
theorem gp_asked {ps : List Str} (h : ps ∈ asked0) : GP ps := let ⟨a, b, c⟩ := asked_ok ps h; .of a b c

structure NM (m : Str → Option Value) (a : Ad) (aS : Addr) : Prop where
  mat : m (Str.ofString "matcher") = some (.ref a.M)
  told : m (Str.ofString "told") = some (.ref a.aT)
  due : m (Str.ofString "due") = some (.ref a.aD)
  asked : m (Str.ofString "asked") = some (.ref a.aA)
  script : m (Str.ofString "script") = some (.ref aS)
noncomputable abbrev upd (m : Str → Option Value) (x : Str) (v : Value) : Str → Option Value := fun y => if y = x then some v else m y
theorem NM.set {m : Str → Option Value} {a : Ad} {aS : Addr} (N : NM m a aS) {x : Str} {v : Value} (h1 : Str.ofString "matcher" ≠ x) (h2 : Str.ofString "told" ≠ x) (h3 : Str.ofString "due" ≠ x) (h4 : Str.ofString "asked" ≠ x) (h5 : Str.ofString "script" ≠ x) : NM (upd m x v) a aS :=
  ⟨(if_neg h1).trans N.mat, (if_neg h2).trans N.told, (if_neg h3).trans N.due, (if_neg h4).trans N.asked, (if_neg h5).trans N.script⟩

noncomputable def AskE (G : Addr → Obj → Prop) (v : Value) : Prop := ∃ q ps, v = .ref q ∧ StrL G q ps ∧ GP ps
structure FZ (G : Addr → Obj → Prop) (aS : Addr) (ns : List Int) (kvs : List (Str × Value)) (H : List (List Str × Int)) (tv dv av : List Value) : Prop where
  script : IntL G aS ns
  held : All2 (HeldE G) kvs H
  pairs : All2 (PairE G) tv dv
  asked : ∀ v ∈ av, AskE G v
theorem FZ.mono {G G' : Addr → Obj → Prop} {aS : Addr} {ns : List Int} {kvs : List (Str × Value)} {H : List (List Str × Int)} {tv dv av : List Value} (x : FZ G aS ns kvs H tv dv av) (k : ∀ b o, G b o → G' b o) : FZ G' aS ns kvs H tv dv av :=
  ⟨x.script.mono k, x.held.mono fun _ _ h => h.mono k, x.pairs.mono fun _ _ h => h.mono k, fun v hv => let ⟨q, ps, a, b, c⟩ := x.asked v hv; ⟨q, ps, a, b.mono k, c⟩⟩

structure CORE (w : World) (h₀ : Heap) (a : Ad) (aS : Addr) (ns : List Int) (s₁ : Shared) (k : Nat) (TA : List Addr) (B : Nat) (P : List Str → Option (Addr × Addr)) (C : List Str → Value) (kvs : List (Str × Value)) (tv dv av : List Value) (v2 : Option Value) (oi : Obj) (m : Str → Option Value) (H : List (List Str × Int)) (s : Shared) : Prop where
  ls : LS w h₀ a TA B P C kvs tv dv av v2 oi m s.heap
  nm : NM m a aS
  fz : FZ (GG s.heap (a.fix ++ TA)) aS ns kvs H tv dv av
  holds : Holds H C
  good : ∀ e ∈ H, GL e.1
  bB : B ≤ 6 * k
  bH : H.length ≤ k
  bt : tv.length ≤ 3 * k
  ba : av.length ≤ 4 + k
  lo : (a.dh == sysModules) = false
  os : s.os = s₁.os
  gens : ∀ g, g < s.gens.size → s.gens[g]? = some .finished

section
variable {w : World} {h₀ : Heap} {a : Ad} {aS : Addr} {ns : List Int} {s₁ s s' : Shared} {k : Nat} {TA : List Addr} {B : Nat} {P : List Str → Option (Addr × Addr)} {C : List Str → Value} {kvs : List (Str × Value)} {tv dv av : List Value} {v2 v2' : Option Value} {oi oi' : Obj} {m m' : Str → Option Value} {H : List (List Str × Int)}
theorem CORE.keep (I : CORE w h₀ a aS ns s₁ k TA B P C kvs tv dv av v2 oi m H s) (L : LS w h₀ a TA B P C kvs tv dv av v2' oi' m' s'.heap) (st : Step s.heap (a.fix ++ TA) s'.heap (a.fix ++ TA)) (n : NM m' a aS) (os : s'.os = s.os) (gens : s'.gens = s.gens) : CORE w h₀ a aS ns s₁ k TA B P C kvs tv dv av v2' oi' m' H s' :=
  ⟨L, n, I.fz.mono st.gg, I.holds, I.good, I.bB, I.bH, I.bt, I.ba, I.lo, os.trans I.os, by rw [gens]; exact I.gens⟩
theorem CORE.fr (I : CORE w h₀ a aS ns s₁ k TA B P C kvs tv dv av v2 oi m H s) : Fr h₀ a.L s.heap m := I.ls.fr
theorem CORE.matAt (I : CORE w h₀ a aS ns s₁ k TA B P C kvs tv dv av v2 oi m H s) : MatAt s.heap a.M a.root := I.ls.mat.at_
theorem inL : a.L ∈ a.fix ++ TA := List.mem_append_left _ (Ad.mem 0)
theorem inC2 : a.c2 ∈ a.fix ++ TA := List.mem_append_left _ (Ad.mem 2)
theorem inT : a.aT ∈ a.fix ++ TA := List.mem_append_left _ (Ad.mem 3)
theorem inD : a.aD ∈ a.fix ++ TA := List.mem_append_left _ (Ad.mem 4)
theorem inA : a.aA ∈ a.fix ++ TA := List.mem_append_left _ (Ad.mem 5)
theorem inH : a.dh ∈ a.fix ++ TA := List.mem_append_left _ (Ad.mem 6)
theorem inIt : a.it ∈ a.fix ++ TA := List.mem_append_left _ (Ad.mem 8)
theorem in74 : 74 ∈ a.fix ++ TA := List.mem_append_left _ (Ad.mem 7)
/-- a name is bound -/
theorem CORE.bind {x : Str} {v : Value} {h' : Heap} {tk : Nat} (I : CORE w h₀ a aS ns s₁ k TA B P C kvs tv dv av v2 oi m H s) (hn : h'.Ns a.L (upd m x v)) (hx : Heap.ExtBut a.L s.heap h') (h1 : Str.ofString "matcher" ≠ x) (h2 : Str.ofString "told" ≠ x) (h3 : Str.ofString "due" ≠ x) (h4 : Str.ofString "asked" ≠ x) (h5 : Str.ofString "script" ≠ x) :
    CORE w h₀ a aS ns s₁ k TA B P C kvs tv dv av v2 oi (upd m x v) H { s with heap := h', toks := tk } ∧ Step s.heap (a.fix ++ TA) h' (a.fix ++ TA) :=
  ⟨I.keep (I.ls.onL hn hx) (stepBut hx inL) (I.nm.set h1 h2 h3 h4 h5) rfl rfl, stepBut hx inL⟩
/-- more that is new -/
theorem CORE.more {h' : Heap} {tk : Nat} (I : CORE w h₀ a aS ns s₁ k TA B P C kvs tv dv av v2 oi m H s) (hk : Keeps s.heap h') : CORE w h₀ a aS ns s₁ k TA B P C kvs tv dv av v2 oi m H { s with heap := h', toks := tk } ∧ Step s.heap (a.fix ++ TA) h' (a.fix ++ TA) :=
  ⟨I.keep (I.ls.keeps hk) (stepKeeps hk) I.nm rfl rfl, stepKeeps hk⟩
/-- the cell parts -/
theorem CORE.cell {v : Value} {h' : Heap} {tk : Nat} (I : CORE w h₀ a aS ns s₁ k TA B P C kvs tv dv av v2 oi m H s) (hc : h'.IsCell a.c2 (some v)) (hx : Heap.ExtBut a.c2 s.heap h') : CORE w h₀ a aS ns s₁ k TA B P C kvs tv dv av (some v) oi m H { s with heap := h', toks := tk } ∧ Step s.heap (a.fix ++ TA) h' (a.fix ++ TA) :=
  ⟨I.keep (I.ls.onC2 hc hx) (stepBut hx inC2) I.nm rfl rfl, stepBut hx inC2⟩
/-- what is new is none of ours -/
theorem CORE.newOff {q : Addr} (I : CORE w h₀ a aS ns s₁ k TA B P C kvs tv dv av v2 oi m H s) (hq : s.heap.get? q = none) : q ∉ a.fix ++ TA := fun z => by
  rcases List.mem_append.mp z with z | z
  · obtain ⟨o, e⟩ := I.ls.inFix z; rw [hq] at e; cases e
  · obtain ⟨o, e⟩ := I.ls.tr.live _ z; rw [hq] at e; cases e
theorem glist_new {h : Heap} {S : List Addr} {q : Addr} {us : List Value} (hq : q ∉ S) (hl : h.IsList q (List.toArray us)) : GList (GG h S) q us := let ⟨o, e, c, n, d⟩ := hl; ⟨o, n, ⟨hq, e⟩, c, d⟩
theorem gtup_new {h : Heap} {S : List Addr} {q : Addr} {us : List Value} (hq : q ∉ S) (hl : h.IsTuple q (List.toArray us)) : GTup (GG h S) q us := let ⟨o, e, c, n, d⟩ := hl; ⟨o, n, ⟨hq, e⟩, c, d⟩
end
end
section
open PySem PySem.W PySem.Calls PySem.Spec PyProof.Rows
set_option Elab.async false
set_option maxRecDepth 100000
set_option maxHeartbeats 4000000
set_option linter.unusedVariables false
theorem fillLn : Reg PySem.Challenge.rw_bc0018_01 hd.heap_39 := by k_fill; trivial
theorem lb2_eq : lb 2 = .Assign [.Name (Str.ofString "levels") ⟨99, 8, 99, 14⟩] (.BinOp (binL (valueS (lb 2))) .Add (binR (valueS (lb 2))) ⟨99, 17, 99, 89⟩) ⟨99, 8, 99, 89⟩ := rfl
theorem lb3_eq : lb 3 = .If (testS (lb 3)) [nthS (bodyS (lb 3)) 0] [] ⟨100, 8, 101, 26⟩ := rfl
theorem lb5_eq : lb 5 = .Assign [.Name (Str.ofString "parts") ⟨103, 8, 103, 13⟩] (valueS (lb 5)) ⟨103, 8, 103, 43⟩ := rfl
theorem lb6_eq : lb 6 = .If (testS (lb 6)) [nthS (bodyS (lb 6)) 0] [] ⟨104, 8, 105, 28⟩ := rfl
section
variable {w : World} {h₀ : Heap} {a : Ad} {aS : Addr} {ns : List Int} {s₁ s : Shared} {k : Nat} {TA : List Addr} {B : Nat} {P : List Str → Option (Addr × Addr)} {C : List Str → Value} {kvs : List (Str × Value)} {tv dv av : List Value} {v2 : Option Value} {oi : Obj} {m : Str → Option Value} {H : List (List Str × Int)}
  {A : Around} {fa : Addr} {cd : Value} {mg mb : Str → Option Value} {p : Program} {loose : List Str} {mean : ExcName → Option Value} {i : Int} {ta : Tok} {rest : List Stmt} {Q : Flow → Shared → Prop}
theorem Room.h {n : Nat} (r : Room n A) : A.handled = none := r.handled
theorem sum_small {ls : List Str} (h1 : (ls.map (·.length)).sum ≤ 100) (h2 : ls.length ≤ 6) : (ls.map (·.length)).sum + ls.length ≤ 1048576 := by omega
theorem prep (X : Frag.In (hd.heap_39 w.params) h₀) (T : Top p loose mean mg mb h₀) (r : Room 400 A) (I : CORE w h₀ a aS ns s₁ k TA B P C kvs tv dv av v2 oi m H s) (hat : m (Str.ofString "at") = some (.int i ta)) (h0 : 0 ≤ i) (h1 : i + 1 < ns.length) (hns : ns.length < 100)
    (K : ∀ s' m' al ap ls ps tt td, CORE w h₀ a aS ns s₁ k TA B P C kvs tv dv av (some (.ref ap)) oi m' H s' → m' (Str.ofString "at") = some (.int i ta) → m' (Str.ofString "deed") = some (.int ((ns.getD i.toNat 0).fmod 9) td) → m' (Str.ofString "text") = some (.str (slashJ ls) tt) → m' (Str.ofString "levels") = some (.ref al) →
      StrL (GG s'.heap (a.fix ++ TA)) al ls → GL ls → StrL (GG s'.heap (a.fix ++ TA)) ap ps → GP ps → wpJ (model PP w) A (execs rest (lenv a.L fa cd a.c1 a.c2)) Q NoE s') :
    wpJ (model PP w) A (execs (lb 0 :: lb 1 :: lb 2 :: lb 3 :: lb 4 :: lb 5 :: lb 6 :: rest) (lenv a.L fa cd a.c1 a.c2)) Q NoE s := by
  have hu : A.units + 64 < cLine := lim r.units (by decide)
  have hdep : A.depth + 20 < recursionLimit := lim r.depth (by decide)
  have hh := r.handled
  have X87 : ∀ {h : Heap}, Keeps h₀ h → ∃ us, h.IsList 87 (List.toArray us) ∧ StrsAre us wordsL := fun kk => by
    obtain ⟨us, n, e, hs⟩ := words_at w
    exact ⟨us, ⟨_, kk _ _ (X _ _ e), rfl, n, rfl⟩, hs⟩
  have X88 : ∀ {h : Heap}, Keeps h₀ h → ∃ us, h.IsList 88 (List.toArray us) ∧ StrsAre us topicsL := fun kk => by
    obtain ⟨us, n, e, hs⟩ := topics_at w
    exact ⟨us, ⟨_, kk _ _ (X _ _ e), rfl, n, rfl⟩, hs⟩
  have le0 : ∀ {m' h'} {v2' : Option Value}, LS w h₀ a TA B P C kvs tv dv av v2' oi m' h' → h₀.objs.size ≤ h'.objs.size := fun I' => Nat.le_trans I'.le0 (Nat.le_of_lt I'.ns.lt)
  obtain ⟨us, gl, hI⟩ := I.fz.script
  refine wpJ_execs_next (wpJ_any (b0 I.fr X T I.nm.script hat gl.isList hI h0 (by omega) hns fun hp tk td hn hs => ⟨rfl, ?_⟩))
  obtain ⟨I1, st1⟩ := I.bind (tk := tk) hn hs.extBut (by decide) (by decide) (by decide) (by decide) (by decide)
  clear hn hs
  have gl1 := gl.mono st1.gg
  refine wpJ_execs_next (wpJ_any (b1 (s := { s with heap := hp, toks := tk }) I1.fr X T I1.nm.script ((if_neg (by decide)).trans hat) gl1.isList hI h0 h1 hns fun hp2 tk2 tn hn hs => ⟨rfl, ?_⟩))
  obtain ⟨I2, st2⟩ := I1.bind (tk := tk2) hn hs.extBut (by decide) (by decide) (by decide) (by decide) (by decide)
  clear hn hs
  dsimp only at I2 st2
  have gl2 := gl1.mono st2.gg
  -- levels = ..
  rw [lb2_eq]
  refine wpJ_execs_next (wpJ_any (wpAny_Assign_Name (wpAny_BinOp (b2l (s := { s with heap := hp2, toks := tk2 }) I2.fr X T (if_pos rfl) fun tk3 => wpAny_call ?_))))
  obtain ⟨wu, hw, hws⟩ := X87 I2.ls.k0
  refine levels_raw (s := { s with heap := hp2, toks := tk3 }) X T I2.ls.k0 (le0 I2.ls) hh hdep hw hws (by decide) (by decide) fun h3 tk4 aL uL k3 hq3 hp3 hs3 => ?_
  obtain ⟨I3, st3⟩ := I2.more (tk := tk4) k3
  dsimp only at I3 st3
  have gl3 := gl2.mono st3.gg
  refine b2r (s := { s with heap := h3, toks := tk4 }) I3.fr X T I3.nm.script ((if_neg (by decide)).trans ((if_neg (by decide)).trans hat)) gl3.isList hI h0 (by omega) hns fun tk5 uR hsR => ?_
  have hlL : (h3.push { cls := .type "list", data := .seq (List.toArray uR) }).IsList aL (List.toArray uL) := hp3.isList.push _
  refine add_raw (s := { s with heap := h3.push { cls := .type "list", data := .seq (List.toArray uR) }, toks := tk5 }) hlL (ws := uR) ⟨_, Heap.get?_push_size _ rfl, rfl, 0, rfl⟩ ?_ ?_
  rotate_left
  · have e1 := hs3.length
    have e2 := hsR.length
    have e3 := (gl_levels (ns.getD (i + 1).toNat 0)).l6
    have e4 : (if ((ns.getD i.toNat 0).fdiv 9).fmod 3 = 1 then [Str.ofString "#"] else []).length ≤ 1 := by split <;> simp
    rw [sizeLine_eq]; omega
  have hsA : StrsAre (uL ++ uR) (levelsOf wordsL (ns.getD (i + 1).toNat 0) ++ if ((ns.getD i.toNat 0).fdiv 9).fmod 3 = 1 then [Str.ofString "#"] else []) := hs3.append' hsR
  have GL0 := gl_levels2 (ns.getD (i + 1).toNat 0) (((ns.getD i.toNat 0).fdiv 9).fmod 3 = 1)
  generalize (levelsOf wordsL (ns.getD (i + 1).toNat 0) ++ if ((ns.getD i.toNat 0).fdiv 9).fmod 3 = 1 then [Str.ofString "#"] else []) = ls0 at hsA GL0
  dsimp only
  generalize hoR : ({ cls := .type "list", data := .seq (List.toArray uR) } : Obj) = oR
  generalize hoA : ({ cls := .type "list", data := .seq (List.toArray (uL ++ uR)) } : Obj) = oA
  have k6 : Keeps h3 ((h3.push oR).push oA) := fun b o e => Heap.get?_push_of_some _ (Heap.get?_push_of_some _ e)
  have hq6 : h3.get? (h3.push oR).objs.size = none := Heap.get?_none_of_le (by rw [Heap.size_push]; exact Nat.le_succ _)
  have hl6 : ((h3.push oR).push oA).IsList (h3.push oR).objs.size (List.toArray (uL ++ uR)) := ⟨_, Heap.get?_push_size _ (by rw [← hoA]; rfl), by rw [← hoA], 0, by rw [← hoA]⟩
  have off6 := I3.newOff hq6
  generalize (h3.push oR).objs.size = al at *
  generalize (h3.push oR).push oA = h6 at *
  obtain ⟨I6, st6⟩ := I3.more (tk := tk5) k6
  refine wpAny_storeName_local rfl I6.ls.ns (fun h7 hn7 hs7 => ⟨rfl, ?_⟩) rfl
  obtain ⟨I7, st7⟩ := I6.bind (tk := tk5 + 1) hn7 hs7.extBut (by decide) (by decide) (by decide) (by decide) (by decide)
  dsimp only at I6 st6 I7 st7
  have gl7 := (gl3.mono st6.gg).mono st7.gg
  have sl7 : StrL (GG h7 (a.fix ++ TA)) al ls0 := StrL.mono st7.gg ⟨uL ++ uR, glist_new off6 hl6, hsA⟩
  clear hn7 hs7 hl6
  -- the rest, once levels is there
  have cont : ∀ (h' : Heap) (tk' : Nat) (m' : Str → Option Value) (al' : Addr) (ls : List Str), CORE w h₀ a aS ns s₁ k TA B P C kvs tv dv av v2 oi m' H { s with heap := h', toks := tk' } → m' (Str.ofString "at") = some (.int i ta) → m' (Str.ofString "deed") = some (.int ((ns.getD i.toNat 0).fmod 9) td) → m' (Str.ofString "n") = some (.int (ns.getD (i + 1).toNat 0) tn) → m' (Str.ofString "levels") = some (.ref al') →
      StrL (GG h' (a.fix ++ TA)) al' ls → GL ls → wpJ (model PP w) A (execs (lb 4 :: lb 5 :: lb 6 :: rest) (lenv a.L fa cd a.c1 a.c2)) Q NoE { s with heap := h', toks := tk' } := by
    clear st7 I7 gl7 sl7 I6 st6 k6 hq6 off6 I3 st3 gl3 hlL hp3 hq3 k3 hs3 hsA hsR I2 st2 gl2 I1 st1 gl1 hw hws GL0
    intro h' tk' m' al' ls J q1 q2 q3 q4 q5 G5
    obtain ⟨ul, gu, hu5⟩ := q5
    refine wpJ_execs_next (wpJ_any (b4 (s := { s with heap := h', toks := tk' }) J.fr X T q4 gu.isList hu5 (sum_small G5.sm G5.l6) fun h8 tk8 tt hn8 hs8 => ⟨rfl, ?_⟩))
    obtain ⟨J8, st8⟩ := J.bind (tk := tk8) hn8 hs8.extBut (by decide) (by decide) (by decide) (by decide) (by decide)
    clear hn8 hs8
    dsimp only at J8 st8
    have sl8 : StrL (GG h8 (a.fix ++ TA)) al' ls := StrL.mono st8.gg ⟨ul, gu, hu5⟩
    rw [lb5_eq]
    refine wpJ_execs_next (wpJ_any (wpAny_Assign_Name (b5v (s := { s with heap := h8, toks := tk8 }) J8.fr X T ((if_neg (by decide)).trans q3) fun tk9 => wpAny_call ?_)))
    obtain ⟨wu8, hw8, hws8⟩ := X88 J8.ls.k0
    refine levels_raw (s := { s with heap := h8, toks := tk9 }) X T J8.ls.k0 (le0 J8.ls) hh hdep hw8 hws8 (by decide) (by decide) fun h9 tk10 ap0 uP k9 hq9 hp9 hs9 => ?_
    obtain ⟨J9, st9⟩ := J8.more (tk := tk10) k9
    dsimp only at J9 st9
    have off9 := J8.newOff hq9
    refine wpAny_storeName_cell rfl rfl rfl J9.ls.cell2 fun h10 hc10 hs10 => ⟨rfl, ?_⟩
    obtain ⟨J10, st10⟩ := J9.cell (tk := tk10) hc10 hs10.extBut
    dsimp only at J10 st10
    have sl10 := (sl8.mono st9.gg).mono st10.gg
    have sp10 : StrL (GG h10 (a.fix ++ TA)) ap0 (levelsOf topicsL (ns.getD (i + 1).toNat 0)) := StrL.mono st10.gg ⟨uP, glist_new off9 hp9.isList, hs9⟩
    have GP0 := gp_levels (ns.getD (i + 1).toNat 0)
    generalize levelsOf topicsL (ns.getD (i + 1).toNat 0) = ps0 at sp10 GP0 hs9
    clear hc10 hs10 hp9 hq9 off9
    rw [lb6_eq]
    obtain ⟨up, gp, hp10⟩ := id sp10
    refine wpJ_execs_next (wpJ_If (b6t (s := { s with heap := h10, toks := tk10 }) J10.fr X T hu J10.ls.cell2 gp.isList hp10 GP0.ok fun h11 tk11 b k11 hb => ?_))
    obtain ⟨J11, st11⟩ := J10.more (tk := tk11) k11
    dsimp only at J11 st11
    have n1 : upd m' (Str.ofString "text") (.str (slashJ ls) tt) (Str.ofString "at") = some (.int i ta) := (if_neg (by decide)).trans q1
    have n2 : upd m' (Str.ofString "text") (.str (slashJ ls) tt) (Str.ofString "deed") = some (.int ((ns.getD i.toNat 0).fmod 9) td) := (if_neg (by decide)).trans q2
    have n3 : upd m' (Str.ofString "text") (.str (slashJ ls) tt) (Str.ofString "text") = some (.str (slashJ ls) tt) := if_pos rfl
    have n4 : upd m' (Str.ofString "text") (.str (slashJ ls) tt) (Str.ofString "levels") = some (.ref al') := (if_neg (by decide)).trans q4
    cases b with
    | false =>
      rw [if_neg (by decide)]
      exact wpJ_execs_nil ⟨rfl, K { s with heap := h11, toks := tk11 } _ al' ap0 ls ps0 tt td J11 n1 n2 n3 n4 (sl10.mono st11.gg) G5 (sp10.mono st11.gg) GP0⟩
    | true =>
      rw [if_pos rfl]
      refine wpJ_any (wpAny_execs_cons (b6b (s := { s with heap := h11, toks := tk11 }) J11.fr X T J11.ls.cell2 fun h12 tk12 u12 q12 hq12 hl12 hs12 hc12 hx12 => wpAny_execs_nil ⟨rfl, ?_⟩))
      obtain ⟨J12, st12⟩ := J11.cell (tk := tk12) hc12 hx12
      dsimp only at J12 st12
      exact K { s with heap := h12, toks := tk12 } _ al' q12 ls _ tt td J12 n1 n2 n3 n4 ((sl10.mono st11.gg).mono st12.gg) G5 ⟨u12, glist_new (J11.newOff hq12) hl12, hs12⟩ gp_blank
  -- the test
  rw [lb3_eq]
  obtain ⟨ul, gu, hu5⟩ := id sl7
  have m1 : ∀ {x : Str} {v : Value}, x ≠ Str.ofString "levels" → upd (upd m (Str.ofString "deed") (.int ((ns.getD i.toNat 0).fmod 9) td)) (Str.ofString "n") (.int (ns.getD (i + 1).toNat 0) tn) x = some v → upd (upd (upd m (Str.ofString "deed") (.int ((ns.getD i.toNat 0).fmod 9) td)) (Str.ofString "n") (.int (ns.getD (i + 1).toNat 0) tn)) (Str.ofString "levels") (.ref al) x = some v := fun hx e => (if_neg hx).trans e
  refine wpJ_execs_next (wpJ_If (b3t (s := { s with heap := h7, toks := tk5 + 1 }) I7.fr X T hu I7.nm.script (m1 (by decide) ((if_neg (by decide)).trans ((if_neg (by decide)).trans hat))) (if_pos rfl) gl7.isList hI h0 (by omega) hns gu.isList hu5 GL0.ok fun h8 tk8 b k8 hb => ?_))
  obtain ⟨I8, st8⟩ := I7.more (tk := tk8) k8
  dsimp only at I8 st8
  have e1 := m1 (x := Str.ofString "at") (by decide) ((if_neg (by decide)).trans ((if_neg (by decide)).trans hat))
  have e2 := m1 (x := Str.ofString "deed") (by decide) ((if_neg (by decide)).trans (if_pos rfl))
  have e3 := m1 (x := Str.ofString "n") (by decide) (if_pos rfl)
  cases b with
  | false =>
    rw [if_neg (by decide)]
    exact wpJ_execs_nil ⟨rfl, cont h8 tk8 _ al ls0 I8 e1 e2 e3 (if_pos rfl) (sl7.mono st8.gg) GL0⟩
  | true =>
    rw [if_pos rfl]
    refine wpJ_any (wpAny_execs_cons (b3b (s := { s with heap := h8, toks := tk8 }) I8.fr X T fun h9 tk9 u9 q9 hq9 hl9 hs9 hn9 hx9 => wpAny_execs_nil ⟨rfl, ?_⟩))
    obtain ⟨I9, st9⟩ := I8.bind (tk := tk9) hn9 hx9 (by decide) (by decide) (by decide) (by decide) (by decide)
    dsimp only at I9 st9
    exact cont h9 tk9 _ q9 _ I9 ((if_neg (by decide)).trans e1) ((if_neg (by decide)).trans e2) ((if_neg (by decide)).trans e3) (if_pos rfl) ⟨u9, glist_new (I8.newOff hq9) hl9, hs9⟩ gl_hash
end
end
section
open PySem PySem.W PySem.Calls PySem.Spec PyProof.Rows
set_option Elab.async false
set_option maxRecDepth 100000
set_option maxHeartbeats 4000000
set_option linter.unusedVariables false
noncomputable def putH (H : List (List Str × Int)) (ls : List Str) (i : Int) : List (List Str × Int) := if H.any (fun e => e.1 = ls) then H.map (fun e => if e.1 = ls then (e.1, i) else e) else H ++ [(ls, i)]
noncomputable def delH (H : List (List Str × Int)) (ls : List Str) : List (List Str × Int) := H.filter fun e => decide (e.1 ≠ ls)
theorem slash_inj {ls ls' : List Str} (g : GL ls) (g' : GL ls') (e : slashJ ls = slashJ ls') : ls = ls' := by
  rw [← g.sp, ← g'.sp, e]
section
variable {G : Addr → Obj → Prop} {kvs : List (Str × Value)} {H : List (List Str × Int)} {ls : List Str} {i : Int} {v : Value} {C : List Str → Value} {t : Tok}
theorem held_any (x : All2 (HeldE G) kvs H) (hg : ∀ e ∈ H, GL e.1) (g : GL ls) : (kvs.any fun kv => decide (kv.1 = slashJ ls)) = H.any fun e => decide (e.1 = ls) := by
  induction x with
  | nil => rfl
  | @cons kv e l l' h _ ih =>
    obtain ⟨u, t, al, _, _, _, hk⟩ := h
    rw [List.any_cons, List.any_cons, ih fun e' h' => hg e' (.tail _ h')]
    congr 1
    rw [hk]
    by_cases z : e.1 = ls
    · rw [z]; simp
    · rw [decide_eq_false z, decide_eq_false fun y => z (slash_inj (hg _ (.head _)) g y)]
theorem All2.map {α β : Type} {R : α → β → Prop} {f : α → α} {f' : β → β} {l : List α} {l' : List β} (x : All2 R l l') (h : ∀ a b, b ∈ l' → R a b → R (f a) (f' b)) : All2 R (l.map f) (l'.map f') := by
  induction x with
  | nil => exact .nil
  | cons a _ ih => exact .cons (h _ _ (.head _) a) (ih fun a b hb => h a b (.tail _ hb))
theorem stored_all2 (x : All2 (HeldE G) kvs H) (hg : ∀ e ∈ H, GL e.1) (g : GL ls) (hv : HeldE G (slashJ ls, v) (ls, i)) : All2 (HeldE G) (stored kvs (slashJ ls) v) (putH H ls i) := by
  unfold stored putH
  rw [held_any x hg g]
  split
  · refine x.map fun kv e he hr => ?_
    have hk : kv.1 = slashJ e.1 := let ⟨_, _, _, _, _, _, hk⟩ := hr; hk
    by_cases z : e.1 = ls
    · rw [if_pos z, if_pos (by rw [hk, z])]
      obtain ⟨u, t, al, a, b, c, d⟩ := hv
      exact ⟨u, t, al, a, b, by rw [z]; exact c, hk⟩
    · rw [if_neg z, if_neg (fun y => z (slash_inj (hg _ he) g (hk.symm.trans y)))]
      exact hr
  · exact x.snoc hv
theorem without_all2 (x : All2 (HeldE G) kvs H) (hg : ∀ e ∈ H, GL e.1) (g : GL ls) : All2 (HeldE G) (without kvs (slashJ ls)) (delH H ls) := by
  unfold without delH
  induction x with
  | nil => exact .nil
  | @cons kv e l l' h _ ih =>
    have hk : kv.1 = slashJ e.1 := let ⟨_, _, _, _, _, _, hk⟩ := h; hk
    have ih := ih fun e' h' => hg e' (.tail _ h')
    rw [List.filter_cons, List.filter_cons]
    by_cases z : e.1 = ls
    · rw [if_neg (by simp [hk, z]), if_neg (by simp [z])]
      exact ih
    · rw [if_pos (by rw [decide_eq_true_eq, hk]; exact fun y => z (slash_inj (hg _ (.head _)) g y)), if_pos (by simpa using z)]
      exact .cons h ih
theorem put_good (hg : ∀ e ∈ H, GL e.1) (g : GL ls) : ∀ e ∈ putH H ls i, GL e.1 := by
  unfold putH
  split
  · intro e he
    obtain ⟨e', he', rfl⟩ := List.mem_map.mp he
    split
    · exact hg e' he'
    · exact hg e' he'
  · intro e he
    rcases List.mem_append.mp he with h | h
    · exact hg _ h
    · rw [List.mem_singleton] at h; rw [h]; exact g
theorem put_len : (putH H ls i).length ≤ H.length + 1 := by
  unfold putH
  split
  · rw [List.length_map]; exact Nat.le_succ _
  · rw [List.length_append]; exact Nat.le_refl _
theorem put_keys : (putH H ls i).map (·.1) = if ls ∈ H.map (·.1) then H.map (·.1) else H.map (·.1) ++ [ls] := by
  unfold putH
  by_cases h : ls ∈ H.map (·.1)
  · have : (H.any fun e => decide (e.1 = ls)) = true := by
      obtain ⟨e, he, rfl⟩ := List.mem_map.mp h
      exact List.any_eq_true.mpr ⟨e, he, by simp⟩
    rw [if_pos this, if_pos h, List.map_map]
    refine List.map_congr_left fun e he => ?_
    show (if e.1 = ls then (e.1, i) else e).1 = e.1
    split <;> rfl
  · have : ¬ (H.any fun e => decide (e.1 = ls)) = true := fun z => by
      obtain ⟨e, he, hz⟩ := List.any_eq_true.mp z
      exact h (List.mem_map.mpr ⟨e, he, of_decide_eq_true hz⟩)
    rw [if_neg this, if_neg h, List.map_append]; rfl
theorem put_holds (x : Holds H C) (g : GL ls) : Holds (putH H ls i) (fun q => if q = ls then .int i t else C q) := by
  have keys := put_keys (H := H) (ls := ls) (i := i)
  refine ⟨?_, fun e he => ?_, fun q hq => ?_, fun e he => ?_⟩
  · rw [keys]
    split
    · exact x.nodup
    · rename_i h
      rw [List.nodup_append]
      refine ⟨x.nodup, by simp, fun a ha b hb => ?_⟩
      rw [List.mem_singleton] at hb
      exact fun z => h (hb ▸ z ▸ ha)
  · unfold putH at he
    split at he
    · obtain ⟨e', he', rfl⟩ := List.mem_map.mp he
      by_cases z : e'.1 = ls
      · rw [if_pos z]
        exact ⟨t, if_pos z⟩
      · rw [if_neg z]
        obtain ⟨t', ht⟩ := x.at_ e' he'
        exact ⟨t', (if_neg z).trans ht⟩
    · rename_i hany
      rcases List.mem_append.mp he with h | h
      · have z : e.1 ≠ ls := fun z => hany (List.any_eq_true.mpr ⟨e, h, by simp [z]⟩)
        obtain ⟨t', ht⟩ := x.at_ e h
        exact ⟨t', (if_neg z).trans ht⟩
      · rw [List.mem_singleton] at h
        rw [h]
        exact ⟨t, if_pos rfl⟩
  · rw [keys] at hq
    have hne : q ≠ ls := fun z => by
      subst z
      split at hq
      · rename_i h; exact hq h
      · exact hq (List.mem_append_right _ (.head _))
    show (if q = ls then _ else C q) = _
    rw [if_neg hne]
    refine x.off q fun h => ?_
    split at hq
    · exact hq h
    · exact hq (List.mem_append_left _ h)
  · have hm : e.1 ∈ (putH H ls i).map (·.1) := List.mem_map_of_mem he
    rw [keys] at hm
    have ofH : e.1 ∈ H.map (·.1) → okL e.1 ∧ e.1 ≠ [] := fun h => by
      obtain ⟨e', he', hz⟩ := List.mem_map.mp h
      have := x.okl e' he'
      rw [hz] at this; exact this
    have gl : okL ls ∧ ls ≠ [] := ⟨g.okl, fun z => by have := g.l0; rw [z] at this; exact absurd this (Nat.lt_irrefl _)⟩
    split at hm
    · exact ofH hm
    · rcases List.mem_append.mp hm with h | h
      · exact ofH h
      · rw [List.mem_singleton] at h; rw [h]; exact gl
theorem del_holds (x : Holds H C) : Holds (delH H ls) (fun q => if q = ls then .none else C q) := by
  refine ⟨?_, fun e he => ?_, fun q hq => ?_, fun e he => x.okl e (List.mem_filter.mp he).1⟩
  · exact (List.Sublist.map _ List.filter_sublist).nodup x.nodup
  · obtain ⟨h, z⟩ := List.mem_filter.mp he
    have z : e.1 ≠ ls := by simpa using z
    obtain ⟨t', ht⟩ := x.at_ e h
    exact ⟨t', (if_neg z).trans ht⟩
  · by_cases z : q = ls
    · exact if_pos z
    · refine (if_neg z).trans (x.off q fun h => ?_)
      obtain ⟨e, he, rfl⟩ := List.mem_map.mp h
      exact hq (List.mem_map.mpr ⟨e, List.mem_filter.mpr ⟨he, by simpa using z⟩, rfl⟩)
theorem del_len : (delH H ls).length ≤ H.length := List.length_filter_le ..
theorem held_some (x : All2 (HeldE G) kvs H) (hH : Holds H C) (hg : ∀ e ∈ H, GL e.1) (g : GL ls) (h : valueAt kvs (slashJ ls) = some v) : ∃ u t i al, v = .ref u ∧ GTup G u [.int i t, .ref al] ∧ ∃ t', C ls = .int i t' := by
  obtain ⟨e, he, u, t, al, h1, h2, h3, h4⟩ := held_at x (mem_valueAt h)
  have z := slash_inj g (hg e he) h4
  obtain ⟨t', ht⟩ := hH.at_ e he
  exact ⟨u, t, e.2, al, h1, h2, t', by rw [z]; exact ht⟩
theorem held_none (x : All2 (HeldE G) kvs H) (hH : Holds H C) (h : valueAt kvs (slashJ ls) = none) : C ls = .none := by
  refine hH.off ls fun hm => ?_
  obtain ⟨e, he, hz⟩ := List.mem_map.mp hm
  obtain ⟨kv, hkv, u, t, al, h1, h2, h3, h4⟩ := held_of x he
  rw [hz] at h4
  have hmem : slashJ ls ∈ kvs.map (·.1) := List.mem_map.mpr ⟨kv, hkv, h4⟩
  clear h1 h2 h3 hkv x
  induction kvs with
  | nil => cases hmem
  | cons p l ih =>
    rw [valueAt_cons] at h
    by_cases y : p.1 = slashJ ls
    · rw [if_pos y] at h; cases h
    · rw [if_neg y] at h
      rw [List.map_cons] at hmem
      rcases List.mem_cons.mp hmem with q | q
      · exact y q.symm
      · exact ih h q
theorem del_none (x : Holds H C) (h : C ls = .none) : delH H ls = H := by
  unfold delH
  refine List.filter_eq_self.mpr fun e he => ?_
  have : e.1 ≠ ls := fun z => by
    obtain ⟨t', ht⟩ := x.at_ e he
    rw [z, h] at ht; cases ht
  simpa using this
end
end
section
open PySem PySem.W PySem.Calls PySem.Spec PyProof.Rows
set_option Elab.async false
set_option maxRecDepth 100000
set_option maxHeartbeats 4000000
set_option linter.unusedVariables false
theorem fillLp : Reg PySem.Challenge.rw_bc0018_01 hd.heap_39 := by k_fill; trivial
theorem MatOff.sub {h : Heap} {M root : Addr} {S TA : List Addr} (x : MatOff h M root (S ++ TA)) : MatOff h M root TA :=
  let ⟨dM, hs, tk, n, a, b, c, d⟩ := x; ⟨dM, hs, tk, n, a, b, fun z => c (List.mem_append_right _ z), fun z => d (List.mem_append_right _ z)⟩
theorem MatOff.inst {h : Heap} {M root : Addr} {S : List Addr} (x : MatOff h M root S) : ∃ ox od, InstAt h M ox 82 od := let ⟨dM, hs, tk, n, a, b, c, d⟩ := x; ⟨_, some _, a, rfl, rfl, b⟩
inductive INV (w : World) (h₀ : Heap) (a : Ad) (aS : Addr) (ns : List Int) (s₁ : Shared) (oi : Obj) (k : Nat) (s : Shared) : Prop
  | mk (TA : List Addr) (B : Nat) (P : List Str → Option (Addr × Addr)) (C : List Str → Value) (kvs : List (Str × Value)) (tv dv av : List Value) (v2 : Option Value) (m : Str → Option Value) (H : List (List Str × Int)) (J : CORE w h₀ a aS ns s₁ k TA B P C kvs tv dv av v2 oi m H s) : INV w h₀ a aS ns s₁ oi k s
theorem snocA {l : List Value} {v : Value} : (List.toArray l).push v = List.toArray (l ++ [v]) := by simp
section
variable {w : World} {h₀ : Heap} {a : Ad} {aS : Addr} {ns : List Int} {s₁ s : Shared} {k : Nat} {TA : List Addr} {B : Nat} {P : List Str → Option (Addr × Addr)} {C : List Str → Value} {kvs : List (Str × Value)} {tv dv av : List Value} {v2 : Option Value} {oi : Obj} {m : Str → Option Value} {H : List (List Str × Int)}
  {A : Around} {E : Value → Shared → Prop} {fa al ap : Addr} {cd : Value} {mg mb : Str → Option Value} {p : Program} {loose : List Str} {mean : ExcName → Option Value} {i : Int} {ta tt : Tok} {ls ps : List Str}
theorem seg5 (X : Frag.In (hd.heap_39 w.params) h₀) (T : Top p loose mean mg mb h₀) (r : Room 400 A) (hk : k ≤ 20) (I : CORE w h₀ a aS ns s₁ k TA B P C kvs tv dv av (some (.ref ap)) oi m H s) (hat : m (Str.ofString "at") = some (.int i ta)) (ht : m (Str.ofString "text") = some (.str (slashJ ls) tt)) (hlv : m (Str.ofString "levels") = some (.ref al))
    (sl : StrL (GG s.heap (a.fix ++ TA)) al ls) (g : GL ls) (sp : StrL (GG s.heap (a.fix ++ TA)) ap ps) (gp : GP ps) :
    wpAny (model PP w) A (execs [nthS (bodyS l5) 0, nthS (bodyS l5) 1, nthS (bodyS l5) 2] (lenv a.L fa cd a.c1 a.c2)) (fun f s' => f = .next ∧ INV w h₀ a aS ns s₁ oi (k + 1) s') E s := by
  have hdep : A.depth + 20 < recursionLimit := lim r.depth (by decide)
  obtain ⟨ox, od, In⟩ := I.ls.mat.inst
  have bB := I.bB
  have bH := I.bH
  have bt := I.bt
  have ba := I.ba
  have g6 := g.l6
  have kl : kvs.length ≤ 1000 := by have := I.fz.held.length; omega
  refine wpAny_execs_cons (d5_set I.fr X T I.nm.mat ht hat In (wpAny_call (setitem_raw X T I.ls.k0 (Nat.le_trans I.ls.le0 (Nat.le_of_lt I.ls.ns.lt)) r.handled hdep I.ls.mat.sub I.ls.tr I.ls.hT0 (.inr ⟨_, _, rfl⟩) g.sp (line100 g.ln) (by omega) fun h1 tk1 P1 TA1 Tr1 st1 => ?_)))
  obtain ⟨L1, stM⟩ := I.ls.onTrie Tr1 st1
  refine wpAny_execs_cons (d5_held (s := { s with heap := h1, toks := tk1 }) L1.fr X T ht hat hlv L1.cell1 L1.held kl fun h2 tk2 u hu hut hd2 hx2 => ?_)
  dsimp only at hu hx2
  have L2 := L1.onH hd2 hx2
  have st2 : Step h1 (a.fix ++ TA1) h2 (a.fix ++ TA1) := stepBut hx2 inH
  have st12 := stM.trans st2
  have offu : u ∉ a.fix ++ TA1 := fun z => by
    rcases List.mem_append.mp z with z | z
    · obtain ⟨o, e⟩ := L1.inFix z; rw [hu] at e; cases e
    · obtain ⟨o, e⟩ := L1.tr.live _ z; rw [hu] at e; cases e
  have asz : (List.toArray av).size ≤ sizeLine := by rw [List.size_toArray, sizeLine_eq]; omega
  refine wpAny_execs_cons (d5_ask (s := { s with heap := h2, toks := tk2 }) L2.fr X T I.nm.asked L2.cell2 L2.asked asz fun h3 tk3 hp3 hs3 => ?_)
  dsimp only at hs3
  rw [snocA] at hp3
  have L3 := L2.onA hp3 hs3.extBut
  have st3 : Step h2 (a.fix ++ TA1) h3 (a.fix ++ TA1) := stepBut hs3.extBut inA
  have st := st12.trans st3
  have hnew : HeldE (GG h3 (a.fix ++ TA1)) (slashJ ls, .ref u) (ls, i) := HeldE.mono st3.gg ⟨u, ta, al, rfl, gtup_new offu hut, sl.mono st12.gg, rfl⟩
  refine wpAny_execs_nil ⟨rfl, TA1, B + ls.length, P1, _, _, tv, dv, _, _, m, putH H ls i, L3, I.nm, ⟨I.fz.script.mono st.gg, stored_all2 (I.fz.held.mono fun _ _ h => h.mono st.gg) I.good g hnew, I.fz.pairs.mono fun _ _ h => h.mono st.gg, fun v hv => ?_⟩, put_holds I.holds g, put_good I.good g, by omega, Nat.le_trans put_len (by omega), by omega, by rw [List.length_append]; exact Nat.le_trans (Nat.add_le_add_right ba 1) (by omega), I.lo, I.os, I.gens⟩
  rcases List.mem_append.mp hv with h | h
  · obtain ⟨q, ps', e1, e2, e3⟩ := I.fz.asked v h
    exact ⟨q, ps', e1, e2.mono st.gg, e3⟩
  · rw [List.mem_singleton] at h
    exact ⟨ap, ps, h, sp.mono st.gg, gp⟩
end
end
section
open PySem PySem.W PySem.Calls PySem.Spec PyProof.Rows
set_option Elab.async false
set_option maxRecDepth 100000
set_option maxHeartbeats 4000000
set_option linter.unusedVariables false
theorem fillLq : Reg PySem.Challenge.rw_bc0018_01 hd.heap_39 := by k_fill; trivial
section
variable {prog : Program} {w : World} {A : Around} {E : Value → Shared → Prop} {s : Shared} {base : Heap} {env : Env} {outer : List Env} {L e : Addr} {c2 : Value}
/-- except KeyError: -/
theorem x_caught {fl : Option Value} {t : Expr} {b₀ : Stmt} {suite : List Stmt} {pos : Pos} {Q : Flow → Shared → Prop} (hfr : A.frames = some (env :: outer)) (hf : env.frame = some L) (X : XS base (env :: outer) e c2 fl s.heap)
    (ht : ∀ s₁, s.heap.UpToSlots s₁.heap → base.StaysIn s₁.heap → wpAny (model prog w) (A.mark (some (.ref e))) (eval t env) (fun c s₂ => c = .type "KeyError" ∧ s₂ = s₁) (fun _ _ => False) s₁)
    (hb : ∀ h3, XS base (env :: outer) e c2 (some .none) h3 → s.heap.UpToSlots h3 → wpAny (model prog w) (A.mark (some (.ref e))) (execs (b₀ :: suite) env) Q (fun _ _ => False) { s with heap := h3 }) :
    wpAny (model prog w) A (noteFrame (.ref e) env) (fun _ s₂ => wpAny (model prog w) A (setFlight (.ref e) none) (fun _ s₃ => wpAny (model prog w) A (handleBy (.ref e) env [.ExceptHandler (some t) none (b₀ :: suite) pos]) Q E s₃) E s₂) E s := by
  refine x_note hfr hf X fun h1 X1 u1 => ?_
  refine x_flight (s := { s with heap := h1 }) X1 fun h2 X2 u2 => ?_
  refine wpAny_handleBy_builtin (T := "KeyError") (X := "KeyError") (b := true) kr_isExc_KeyError kr_notTuple_KeyError (by rw [isSubtype_type]; kernel_rfl) ?_
  refine wpAny_mono (ht _ (u1.trans u2) X2.1) (fun c s₂ hc => ?_) fun _ _ z => z.elim
  obtain ⟨rfl, rfl⟩ := hc
  refine ⟨rfl, ?_, ?_⟩
  · obtain ⟨_, _, _, oe, vs, he, hce, _⟩ := X2
    exact ⟨oe, he, hce⟩
  rw [if_pos rfl]
  refine x_flight (s := { s with heap := h2 }) X2 fun h3 X3 u3 => ?_
  exact wpAny_mono (hb h3 X3 ((u1.trans u2).trans u3)) (fun _ _ z => z) fun _ _ z => z.elim
end
section
variable {w : World} {h₀ h h' : Heap} {a : Ad} {aS : Addr} {ns : List Int} {s₁ s : Shared} {k : Nat} {TA : List Addr} {B : Nat} {P : List Str → Option (Addr × Addr)} {C : List Str → Value} {kvs : List (Str × Value)} {tv dv av : List Value} {v2 : Option Value} {oi : Obj} {m : Str → Option Value} {H : List (List Str × Int)}
  {A : Around} {E : Value → Shared → Prop} {fa al ap e : Addr} {cd c2 : Value} {fl : Option Value} {mg mb : Str → Option Value} {p : Program} {loose : List Str} {mean : ExcName → Option Value}
theorem baseIn (S : LS w h₀ a TA B P C kvs tv dv av v2 oi m h) : Keeps h₀ (hideAll h [a.L]) := fun b o eb => hideAll_get _ (S.k0 b o eb) fun z => by
  rw [List.mem_singleton] at z
  exact absurd (Nat.lt_of_lt_of_le (Heap.lt_size eb) S.le0) (by rw [z]; exact Nat.lt_irrefl _)
theorem baseStays : (hideAll h [a.L]).StaysIn h := fun b o eb => of_hideAll _ eb
theorem baseSize : (hideAll h [a.L]).objs.size ≤ h.objs.size := Nat.le_of_eq (hideAll_size _ _)
theorem baseFrames (S : LS w h₀ a TA B P C kvs tv dv av v2 oi m h) : h.FunFrames (hideAll h [a.L]) [lenv a.L fa cd a.c1 a.c2] :=
  Heap.FunFrames.cons (show ScopeKind.function ≠ .module by decide) rfl S.ns (hideAll_none _ (.head _)) trivial
theorem LS.afterErr (S : LS w h₀ a TA B P C kvs tv dv av v2 oi m h) (X : XS (hideAll h [a.L]) [lenv a.L fa cd a.c1 a.c2] e c2 fl h') (hn : h'.Ns a.L m) : LS w h₀ a TA B P C kvs tv dv av v2 oi m h' ∧ Heap.ExtBut a.L h h' := by
  have hx : Heap.ExtBut a.L h h' := fun b o hb eb => X.1 b o (hideAll_get _ eb fun z => hb (List.mem_singleton.mp z))
  exact ⟨S.onL hn hx, hx⟩
theorem frUp_ns (hn : h.Ns a.L m) (u : FrUp [lenv a.L fa cd a.c1 a.c2] h h') : h'.Ns a.L m := by
  obtain ⟨o, es, ep, eo, r⟩ := hn
  obtain ⟨sl, e'⟩ := u a.L (.head _) o eo
  exact ⟨_, es, ep, e', r⟩
theorem key_name (S : LS w h₀ a TA B P C kvs tv dv av v2 oi m h) (X : Frag.In (hd.heap_39 w.params) h₀) (T : Top p loose mean mg mb h₀) {s₁ : Shared} {pos : Pos} (hn : s₁.heap.Ns a.L m) (st : (hideAll h [a.L]).StaysIn s₁.heap) :
    wpAny (model PP w) A (eval (.Name (Str.ofString "KeyError") pos) (lenv a.L fa cd a.c1 a.c2)) (fun c s₂ => c = .type "KeyError" ∧ s₂ = s₁) (fun _ _ => False) s₁ := by
  refine nameX_B (h₀ := h₀) ⟨hn, fun b o eb => st b o (baseIn S b o eb), S.le0⟩ X (topRead_of T) ?_ PyProof.Rows.Boot.«KeyError» (by decide) ⟨rfl, rfl⟩
  k_is
theorem try6_eq : nthS (bodyS l6) 1 = .Try [told1 l6, nthS (tryB (nthS (bodyS l6) 1)) 1] [.ExceptHandler (some (.Name (Str.ofString "KeyError") ⟨115, 19, 115, 27⟩)) none [nthS (tryH (nthS (bodyS l6) 1)) 0] ⟨115, 12, 116, 33⟩] [] [] ⟨112, 12, 116, 33⟩ := rfl
theorem try7_eq : nthS (bodyS l7) 1 = .Try [told1 l7] [.ExceptHandler (some (.Name (Str.ofString "KeyError") ⟨121, 19, 121, 27⟩)) none [nthS (tryH (nthS (bodyS l7) 1)) 0] ⟨121, 12, 122, 33⟩] [] [] ⟨119, 12, 122, 33⟩ := rfl
theorem try7b_eq : nthS (bodyS (nthS (bodyS l7) 3)) 0 = .Try [nthS (tryB (nthS (bodyS (nthS (bodyS l7) 3)) 0)) 0, nthS (tryB (nthS (bodyS (nthS (bodyS l7) 3)) 0)) 1] [.ExceptHandler (some (.Name (Str.ofString "KeyError") ⟨128, 23, 128, 31⟩)) none [nthS (tryH (nthS (bodyS (nthS (bodyS l7) 3)) 0)) 0] ⟨128, 16, 129, 38⟩] [] [] ⟨125, 16, 129, 38⟩ := rfl
end
end
section
open PySem PySem.W PySem.Calls PySem.Spec PyProof.Rows
set_option Elab.async false
set_option maxRecDepth 100000
set_option maxHeartbeats 4000000
set_option linter.unusedVariables false
theorem fillLr : Reg PySem.Challenge.rw_bc0018_01 hd.heap_39 := by k_fill; trivial
section
variable {w : World} {h₀ : Heap} {a : Ad} {aS : Addr} {ns : List Int} {s₁ s : Shared} {k : Nat} {TA : List Addr} {B : Nat} {P : List Str → Option (Addr × Addr)} {C : List Str → Value} {kvs : List (Str × Value)} {tv dv av : List Value} {v2 : Option Value} {oi : Obj} {m : Str → Option Value} {H : List (List Str × Int)}
  {A : Around} {E : Value → Shared → Prop} {fa al ap : Addr} {cd : Value} {mg mb : Str → Option Value} {p : Program} {loose : List Str} {mean : ExcName → Option Value} {i : Int} {ta tt : Tok} {ls ps : List Str}
theorem size_small {l : List Value} {n : Nat} (h : l.length ≤ n) (hn : n ≤ 100) : (List.toArray l).size ≤ sizeLine := by rw [List.size_toArray, sizeLine_eq]; omega
theorem LS.onDH {h h' : Heap} {kvs' : List (Str × Value)} {dv' : List Value} (S : LS w h₀ a TA B P C kvs tv dv av v2 oi m h) (hp : PlainL h' a.aD (List.toArray dv')) (hd : h'.DictOf (SK w) a.dh kvs') (hx : ∀ b o, b ≠ a.aD → b ≠ a.dh → h.get? b = some o → h'.get? b = some o) : LS w h₀ a TA B P C kvs' tv dv' av v2 oi m h' ∧ Step h (a.fix ++ TA) h' (a.fix ++ TA) := by
  have st : Step h (a.fix ++ TA) h' (a.fix ++ TA) := fun b o hb e => ⟨hx b o (fun z => hb (z ▸ inD)) (fun z => hb (z ▸ inH)) e, hb⟩
  have nD : ∀ b, b ∈ TA → b ≠ a.aD := fun b hb z => S.offT a.aD (Ad.mem 4) (z ▸ hb)
  have nH : ∀ b, b ∈ TA → b ≠ a.dh := fun b hb z => S.offT a.dh (Ad.mem 6) (z ▸ hb)
  have n0 : ∀ {x b : Addr} {o : Obj}, x ∈ a.fix → h₀.get? b = some o → b ≠ x := fun hx e z => by subst z; rw [S.new0 _ hx] at e; cases e
  exact ⟨{ S with ns := S.ns.at fun o e => hx _ o (S.ne 0 4) (S.ne 0 6) e, cell1 := (let ⟨o, e, r⟩ := S.cell1; ⟨o, hx _ _ (S.ne 1 4) (S.ne 1 6) e, r⟩), cell2 := (let ⟨o, e, r⟩ := S.cell2; ⟨o, hx _ _ (S.ne 2 4) (S.ne 2 6) e, r⟩), told := (let ⟨o, n, e, r⟩ := S.told; ⟨o, n, hx _ _ (S.ne 3 4) (S.ne 3 6) e, r⟩), due := hp, asked := (let ⟨o, n, e, r⟩ := S.asked; ⟨o, n, hx _ _ (S.ne 5 4) (S.ne 5 6) e, r⟩), held := hd, tab := S.tab.step (fun o e => hx _ o (S.ne 7 4) (S.ne 7 6) e) st, itv := hx _ _ (S.ne 8 4) (S.ne 8 6) S.itv, mat := S.mat.step st, tr := S.tr.keep fun b hb o e => hx b o (nD b hb) (nH b hb) e, k0 := fun b o e => hx b o (n0 (Ad.mem 4) e) (n0 (Ad.mem 6) e) (S.k0 b o e) }, st⟩
/-- deeds 5 and 6 -/
theorem seg6 (X : Frag.In (hd.heap_39 w.params) h₀) (T : Top p loose mean mg mb h₀) (r : Room 400 A) (hfr : A.frames = some [lenv a.L fa cd a.c1 a.c2]) (hk : k ≤ 20) (I : CORE w h₀ a aS ns s₁ k TA B P C kvs tv dv av v2 oi m H s) (ht : m (Str.ofString "text") = some (.str (slashJ ls) tt)) (g : GL ls) :
    wpAny (model PP w) A (execs [nthS (bodyS l6) 0, nthS (bodyS l6) 1] (lenv a.L fa cd a.c1 a.c2)) (fun f s' => f = .next ∧ INV w h₀ a aS ns s₁ oi (k + 1) s') E s := by
  refine gen_post fun Q₀ E₀ hQ₀ hE₀ => ?_
  have hdep : A.depth + 100 < recursionLimit := lim r.depth (by decide)
  have hdep1 : A.in1.depth + 20 < recursionLimit := by rw [Around.in1_depth]; exact lim r.depth (by decide)
  have hh := r.handled
  have bB := I.bB
  have bH := I.bH
  have bt := I.bt
  have ba := I.ba
  have g6 := g.l6
  have kl : kvs.length ≤ 1000 := by have := I.fz.held.length; omega
  have dl : dv.length ≤ 60 := by have := I.fz.pairs.length; omega
  have S0 := I.ls
  rw [try6_eq]
  have ku : valueAt kvs (slashJ ls) = none ∨ ∃ u al i ta, valueAt kvs (slashJ ls) = some (.ref u) ∧ s.heap.IsTuple u #[.int i ta, .ref al] ∧ u ≠ a.dh := by
    cases hv : valueAt kvs (slashJ ls) with
    | none => exact .inl rfl
    | some v =>
      obtain ⟨u, t, i, al, rfl, gt, _⟩ := held_some I.fz.held I.holds I.good g hv
      refine .inr ⟨u, al, i, t, rfl, gt.isTuple, fun z => ?_⟩
      obtain ⟨o, n, ⟨go, _⟩, _⟩ := gt
      exact go (z ▸ inH)
  refine wpAny_execs_cons (d6_due S0.fr X T ht I.nm.due S0.cell1 S0.held kl I.lo S0.due (size_small dl (by decide)) (S0.ne 4 6) (fun hv h1 tk1 hp1 hs1 => ?_) ku fun u al i t hv hut h1 tk1 q hq hlq hp1 hd1 hx1 => ?_)
  · -- it is not held
    have hC := held_none I.fz.held I.holds hv
    rw [snocA] at hp1
    have S1 := S0.onD hp1 hs1.extBut
    have st1 : Step s.heap (a.fix ++ TA) h1 (a.fix ++ TA) := stepBut hs1.extBut inD
    obtain ⟨ox, od, In⟩ := S1.mat.inst
    refine wpAny_execs_cons (wpAny_Try_except (wpAny_execs_cons (d6_get (s := { s with heap := h1, toks := tk1 }) S1.fr X T I.nm.mat ht I.nm.told In S1.told (size_small bt (by omega)) (wpAny_call (getitem_raw (s := { s with heap := h1, toks := tk1 }) (base := hideAll h1 [a.L]) X T S1.k0 (Nat.le_trans S1.le0 (Nat.le_of_lt S1.ns.lt)) hh hdep1 hfr baseStays baseSize (X.keeps (baseIn S1)) (T.keeps (baseIn S1)) (baseFrames S1) S1.mat.at_ S1.tr g.sp (line100 g.ln) (fun hc => absurd hC hc) fun _ h2 tk2 e c2 X2 u2 => ?_)))))
    refine x_caught (s := { s with heap := h2, toks := tk2 }) hfr rfl X2 (fun s₁' us1 stb => key_name S1 X T (us1.ns (frUp_ns S1.ns u2)) stb) fun h3 X3 u3 => ?_
    obtain ⟨S3, hx3⟩ := S1.afterErr X3 (u3.ns (frUp_ns S1.ns u2))
    have st3 : Step h1 (a.fix ++ TA) h3 (a.fix ++ TA) := stepBut hx3 inL
    refine wpAny_execs_cons (d6_exc (s := { s with heap := h3, toks := tk2 }) S3.fr X T I.nm.told S3.told (size_small bt (by omega)) fun h4 tk4 hp4 hs4 => wpAny_execs_nil (wpAny_execs_nil (hQ₀ _ _ ⟨rfl, ?_⟩)))
    rw [snocA] at hp4
    have S4 := S3.onT hp4 hs4.extBut
    have st4 : Step h3 (a.fix ++ TA) h4 (a.fix ++ TA) := stepBut hs4.extBut inT
    have st := (st1.trans st3).trans st4
    exact ⟨TA, B, P, C, kvs, _, _, av, v2, m, H, S4, I.nm, ⟨I.fz.script.mono st.gg, I.fz.held.mono fun _ _ h => h.mono st.gg, (I.fz.pairs.mono fun _ _ h => h.mono st.gg).snoc (.inl ⟨rfl, rfl⟩), fun v hv => let ⟨q, ps', e1, e2, e3⟩ := I.fz.asked v hv; ⟨q, ps', e1, e2.mono st.gg, e3⟩⟩, I.holds, I.good, by omega, by omega, by rw [List.length_append]; exact Nat.le_trans (Nat.add_le_add_right bt 1) (by omega), by omega, I.lo, I.os, I.gens⟩
  · -- it is held
    obtain ⟨u', t1, i1, al1, hu', gt1, t2, hC⟩ := held_some I.fz.held I.holds I.good g hv
    cases hu'
    have hit : i1 = i ∧ t1 = t := by
      obtain ⟨o1, e1, _, n1, d1⟩ := gt1.isTuple
      obtain ⟨o2, e2, _, n2, d2⟩ := hut
      rw [e1] at e2; cases e2
      rw [d1] at d2
      injection d2 with d3
      have := congrArg Array.toList d3
      simp at this
      exact this.1
    obtain ⟨rfl, rfl⟩ := hit
    have hCn : C ls ≠ .none := by rw [hC]; simp
    rw [snocA] at hp1
    obtain ⟨S1, st1⟩ := S0.onDH hp1 hd1 hx1
    obtain ⟨ox, od, In⟩ := S1.mat.inst
    have offq := I.newOff hq
    have hmat := S1.mat
    refine wpAny_execs_cons (wpAny_Try_except (wpAny_execs_cons (d6_get (s := { s with heap := h1, toks := tk1 }) S1.fr X T I.nm.mat ht I.nm.told In S1.told (size_small bt (by omega)) (wpAny_call (getitem_raw (s := { s with heap := h1, toks := tk1 }) (base := hideAll h1 [a.L]) X T S1.k0 (Nat.le_trans S1.le0 (Nat.le_of_lt S1.ns.lt)) hh hdep1 hfr baseStays baseSize (X.keeps (baseIn S1)) (T.keeps (baseIn S1)) (baseFrames S1) S1.mat.at_ S1.tr g.sp (line100 g.ln) (fun _ h2 tk2 k2 => ⟨k2, fun h3 tk3 q3 hq3 hl3 hp3 hx3 => ?_⟩) (fun hc => absurd hc hCn))))))
    have S2 := S1.keeps k2
    have st2 : Step h1 (a.fix ++ TA) h2 (a.fix ++ TA) := stepKeeps k2
    dsimp only at hq3 hx3
    rw [snocA] at hp3
    have offq3 : q3 ∉ a.fix ++ TA := fun z => by
      rcases List.mem_append.mp z with z | z
      · obtain ⟨o, e⟩ := S2.inFix z; rw [hq3] at e; cases e
      · obtain ⟨o, e⟩ := S2.tr.live _ z; rw [hq3] at e; cases e
    have S3 := S2.onT hp3 hx3
    have st3 : Step h2 (a.fix ++ TA) h3 (a.fix ++ TA) := stepBut hx3 inT
    obtain ⟨ox3, od3, In3⟩ := S3.mat.inst
    refine wpAny_execs_cons (d6_del (s := { s with heap := h3, toks := tk3 }) S3.fr X T I.nm.mat ht In3 (wpAny_call (delitem_raw (s := { s with heap := h3, toks := tk3 }) (base := hideAll h3 [a.L]) X T S3.k0 (Nat.le_trans S3.le0 (Nat.le_of_lt S3.ns.lt)) hh (by omega) hfr baseStays baseSize (X.keeps (baseIn S3)) (T.keeps (baseIn S3)) (baseFrames S3) S3.mat.sub S3.tr S3.hT0 (by omega) g.sp (line100 g.ln) (by omega) (fun _ h4 tk4 P4 Tr4 st4 => ?_) (fun hc => absurd hc hCn))))
    obtain ⟨S4, stM⟩ := S3.onTrie Tr4 st4
    have st34 := st3.trans stM
    have st := ((st1.trans st2).trans st34)
    have IL : IntL (GG h4 (a.fix ++ TA)) q3 [i1] := IntL.mono stM.gg ⟨[C ls], glist_new offq3 hl3, by rw [hC]; exact .cons _ _ .nil⟩
    have IR : IntL (GG h4 (a.fix ++ TA)) q [i1] := IntL.mono (st2.trans st34).gg ⟨[.int i1 t1], glist_new offq hlq, .cons _ _ .nil⟩
    exact wpAny_execs_nil (wpAny_execs_nil (wpAny_execs_nil (hQ₀ _ _ ⟨rfl, TA, B, P4, _, _, _, _, av, v2, m, delH H ls, S4, I.nm, ⟨I.fz.script.mono st.gg, without_all2 (I.fz.held.mono fun _ _ h => h.mono st.gg) I.good g, (I.fz.pairs.mono fun _ _ h => h.mono st.gg).snoc (.inr (.inr ⟨q3, q, [i1], rfl, rfl, IL, IR, by simp⟩)), fun v hv => let ⟨q, ps', e1, e2, e3⟩ := I.fz.asked v hv; ⟨q, ps', e1, e2.mono st.gg, e3⟩⟩, del_holds I.holds, fun e he => I.good e (List.mem_filter.mp he).1, by omega, Nat.le_trans del_len (by omega), by rw [List.length_append]; exact Nat.le_trans (Nat.add_le_add_right bt 1) (by omega), by omega, I.lo, I.os, I.gens⟩)))
end
end
section
open PySem PySem.W PySem.Calls PySem.Spec PyProof.Rows
set_option Elab.async false
set_option maxRecDepth 100000
set_option maxHeartbeats 4000000
set_option linter.unusedVariables false
theorem fillLs : Reg PySem.Challenge.rw_bc0018_01 hd.heap_39 := by k_fill; trivial
section
variable {w : World} {h₀ : Heap} {a : Ad} {aS : Addr} {ns : List Int} {s₁ s : Shared} {k : Nat} {TA : List Addr} {B : Nat} {P : List Str → Option (Addr × Addr)} {C : List Str → Value} {kvs : List (Str × Value)} {tv dv av : List Value} {v2 : Option Value} {oi : Obj} {m : Str → Option Value} {H : List (List Str × Int)}
  {A : Around} {E : Value → Shared → Prop} {fa al ap : Addr} {cd : Value} {mg mb : Str → Option Value} {p : Program} {loose : List Str} {mean : ExcName → Option Value} {i : Int} {ta tt : Tok} {ls ps : List Str}
theorem if7_eq : nthS (bodyS l7) 3 = .If (testS (nthS (bodyS l7) 3)) [nthS (bodyS (nthS (bodyS l7) 3)) 0] [nthS (elseS (nthS (bodyS l7) 3)) 0] ⟨124, 12, 131, 33⟩ := rfl
theorem sz2 {l : List Value} {v : Value} {n : Nat} (h : l.length ≤ n) (hn : n + 1 ≤ 100) : (List.toArray (l ++ [v])).size ≤ sizeLine := by rw [List.size_toArray, List.length_append, sizeLine_eq]; simp; omega
theorem LS.newOff {h : Heap} {q : Addr} (S : LS w h₀ a TA B P C kvs tv dv av v2 oi m h) (hq : h.get? q = none) : q ∉ a.fix ++ TA := fun z => by
  rcases List.mem_append.mp z with z | z
  · obtain ⟨o, e⟩ := S.inFix z; rw [hq] at e; cases e
  · obtain ⟨o, e⟩ := S.tr.live _ z; rw [hq] at e; cases e
/-- deed 7 -/
theorem seg7 (X : Frag.In (hd.heap_39 w.params) h₀) (T : Top p loose mean mg mb h₀) (r : Room 400 A) (hfr : A.frames = some [lenv a.L fa cd a.c1 a.c2]) (hk : k ≤ 20) (I : CORE w h₀ a aS ns s₁ k TA B P C kvs tv dv av v2 oi m H s) (ht : m (Str.ofString "text") = some (.str (slashJ ls) tt)) (g : GL ls) :
    wpAny (model PP w) A (execs [nthS (bodyS l7) 0, nthS (bodyS l7) 1, nthS (bodyS l7) 2, nthS (bodyS l7) 3] (lenv a.L fa cd a.c1 a.c2)) (fun f s' => f = .next ∧ INV w h₀ a aS ns s₁ oi (k + 1) s') E s := by
  refine gen_post fun Q₀ E₀ hQ₀ hE₀ => ?_
  have hdep : A.depth + 100 < recursionLimit := lim r.depth (by decide)
  have hdep1 : A.in1.depth + 20 < recursionLimit := by rw [Around.in1_depth]; exact lim r.depth (by decide)
  have hh := r.handled
  have bB := I.bB
  have bH := I.bH
  have bt := I.bt
  have ba := I.ba
  have g6 := g.l6
  have kl : kvs.length ≤ 1000 := by have := I.fz.held.length; omega
  have dl : dv.length ≤ 60 := by have := I.fz.pairs.length; omega
  have tl : tv.length ≤ 60 := by omega
  have S0 := I.ls
  rw [try7_eq, if7_eq]
  have ku : valueAt kvs (slashJ ls) = none ∨ ∃ u al i ta, valueAt kvs (slashJ ls) = some (.ref u) ∧ s.heap.IsTuple u #[.int i ta, .ref al] := by
    cases hv : valueAt kvs (slashJ ls) with
    | none => exact .inl rfl
    | some v =>
      obtain ⟨u, t, i, al, rfl, gt, _⟩ := held_some I.fz.held I.holds I.good g hv
      exact .inr ⟨u, al, i, t, rfl, gt.isTuple⟩
  refine wpAny_execs_cons (d7_due S0.fr X T ht I.nm.due S0.cell1 S0.held kl I.lo S0.due (size_small dl (by decide)) (fun hv h1 tk1 hp1 hs1 => ?_) ku fun u al i t hv hut h1 tk1 q hq hlq hp1 hx1 => ?_)
  · -- it is not held
    have hC := held_none I.fz.held I.holds hv
    rw [snocA] at hp1
    have S1 := S0.onD hp1 hs1.extBut
    have st1 : Step s.heap (a.fix ++ TA) h1 (a.fix ++ TA) := stepBut hs1.extBut inD
    obtain ⟨ox, od, In⟩ := S1.mat.inst
    refine wpAny_execs_cons (wpAny_Try_except (wpAny_execs_cons (d7_get (s := { s with heap := h1, toks := tk1 }) S1.fr X T I.nm.mat ht I.nm.told In S1.told (size_small tl (by decide)) (wpAny_call (getitem_raw (s := { s with heap := h1, toks := tk1 }) (base := hideAll h1 [a.L]) X T S1.k0 (Nat.le_trans S1.le0 (Nat.le_of_lt S1.ns.lt)) hh hdep1 hfr baseStays baseSize (X.keeps (baseIn S1)) (T.keeps (baseIn S1)) (baseFrames S1) S1.mat.at_ S1.tr g.sp (line100 g.ln) (fun hc => absurd hC hc) fun _ h2 tk2 e c2 X2 u2 => ?_)))))
    refine x_caught (s := { s with heap := h2, toks := tk2 }) hfr rfl X2 (fun s₁' us1 stb => key_name S1 X T (us1.ns (frUp_ns S1.ns u2)) stb) fun h3 X3 u3 => ?_
    obtain ⟨S3, hx3⟩ := S1.afterErr X3 (u3.ns (frUp_ns S1.ns u2))
    have st3 : Step h1 (a.fix ++ TA) h3 (a.fix ++ TA) := stepBut hx3 inL
    refine wpAny_execs_cons (d7_exc (s := { s with heap := h3, toks := tk2 }) S3.fr X T I.nm.told S3.told (size_small tl (by decide)) fun h4 tk4 hp4 hs4 => wpAny_execs_nil ?_)
    rw [snocA] at hp4
    have S4 := S3.onT hp4 hs4.extBut
    have st4 : Step h3 (a.fix ++ TA) h4 (a.fix ++ TA) := stepBut hs4.extBut inT
    refine wpAny_execs_cons (d7_in (s := { s with heap := h4, toks := tk4 }) S4.fr X T ht I.nm.due S4.cell1 S4.held I.lo S4.due (sz2 dl (by decide)) fun h5 tk5 hp5 hs5 => ?_)
    rw [snocA, hv] at hp5
    have S5 := S4.onD hp5 hs5.extBut
    have st5 : Step h4 (a.fix ++ TA) h5 (a.fix ++ TA) := stepBut hs5.extBut inD
    refine wpAny_execs_cons (wpAny_If (d7_test (s := { s with heap := h5, toks := tk5 }) S5.fr X T ht S5.cell1 S5.held I.lo fun tk6 b hb => ?_))
    rw [hv] at hb
    subst hb
    rw [if_pos (by simp), try7b_eq]
    obtain ⟨ox5, od5, In5⟩ := S5.mat.inst
    refine wpAny_execs_cons (wpAny_Try_except (wpAny_execs_cons (d7_del (s := { s with heap := h5, toks := tk6 }) S5.fr X T I.nm.mat ht In5 (wpAny_call (delitem_raw (s := { s with heap := h5, toks := tk6 }) (base := hideAll h5 [a.L]) X T S5.k0 (Nat.le_trans S5.le0 (Nat.le_of_lt S5.ns.lt)) hh (by omega) hfr baseStays baseSize (X.keeps (baseIn S5)) (T.keeps (baseIn S5)) (baseFrames S5) S5.mat.sub S5.tr S5.hT0 (by omega) g.sp (line100 g.ln) (by omega) (fun hc => absurd hC hc) fun _ h6 tk6 e6 c6 X6 u6 => ?_)))))
    refine x_caught (s := { s with heap := h6, toks := tk6 }) hfr rfl X6 (fun s₁' us1 stb => key_name S5 X T (us1.ns (frUp_ns S5.ns u6)) stb) fun h7 X7 u7 => ?_
    obtain ⟨S7, hx7⟩ := S5.afterErr X7 (u7.ns (frUp_ns S5.ns u6))
    have st7 : Step h5 (a.fix ++ TA) h7 (a.fix ++ TA) := stepBut hx7 inL
    refine wpAny_execs_cons (d7_false (s := { s with heap := h7, toks := tk6 }) S7.fr X T I.nm.told S7.told (sz2 tl (by decide)) fun h8 tk8 hp8 hs8 => wpAny_execs_nil (wpAny_execs_nil (wpAny_execs_nil (hQ₀ _ _ ⟨rfl, ?_⟩))))
    rw [snocA] at hp8
    have S8 := S7.onT hp8 hs8.extBut
    have st8 : Step h7 (a.fix ++ TA) h8 (a.fix ++ TA) := stepBut hs8.extBut inT
    have st := ((((st1.trans st3).trans st4).trans st5).trans st7).trans st8
    exact ⟨TA, B, P, C, kvs, _, _, av, v2, m, H, S8, I.nm, ⟨I.fz.script.mono st.gg, I.fz.held.mono fun _ _ h => h.mono st.gg, ((I.fz.pairs.mono fun _ _ h => h.mono st.gg).snoc (.inl ⟨rfl, rfl⟩)).snoc (.inr (.inl ⟨false, rfl, rfl⟩)), fun v hv => let ⟨q, ps', e1, e2, e3⟩ := I.fz.asked v hv; ⟨q, ps', e1, e2.mono st.gg, e3⟩⟩, I.holds, I.good, by omega, by omega, by rw [List.length_append, List.length_append]; exact Nat.le_trans (Nat.add_le_add_right (Nat.add_le_add_right bt 1) 1) (by omega), by omega, I.lo, I.os, I.gens⟩
  · -- it is held
    obtain ⟨u', t1, i1, al1, hu', gt1, t2, hC⟩ := held_some I.fz.held I.holds I.good g hv
    cases hu'
    have hit : i1 = i ∧ t1 = t := by
      obtain ⟨o1, e1, _, n1, d1⟩ := gt1.isTuple
      obtain ⟨o2, e2, _, n2, d2⟩ := hut
      rw [e1] at e2; cases e2
      rw [d1] at d2
      injection d2 with d3
      have := congrArg Array.toList d3
      simp at this
      exact this.1
    obtain ⟨rfl, rfl⟩ := hit
    have hCn : C ls ≠ .none := by rw [hC]; simp
    rw [snocA] at hp1
    have S1 := S0.onD hp1 hx1
    have st1 : Step s.heap (a.fix ++ TA) h1 (a.fix ++ TA) := stepBut hx1 inD
    obtain ⟨ox, od, In⟩ := S1.mat.inst
    have offq := I.newOff hq
    refine wpAny_execs_cons (wpAny_Try_except (wpAny_execs_cons (d7_get (s := { s with heap := h1, toks := tk1 }) S1.fr X T I.nm.mat ht I.nm.told In S1.told (size_small tl (by decide)) (wpAny_call (getitem_raw (s := { s with heap := h1, toks := tk1 }) (base := hideAll h1 [a.L]) X T S1.k0 (Nat.le_trans S1.le0 (Nat.le_of_lt S1.ns.lt)) hh hdep1 hfr baseStays baseSize (X.keeps (baseIn S1)) (T.keeps (baseIn S1)) (baseFrames S1) S1.mat.at_ S1.tr g.sp (line100 g.ln) (fun _ h2 tk2 k2 => ⟨k2, fun h3 tk3 q3 hq3 hl3 hp3 hx3 => ?_⟩) (fun hc => absurd hc hCn))))))
    have S2 := S1.keeps k2
    have st2 : Step h1 (a.fix ++ TA) h2 (a.fix ++ TA) := stepKeeps k2
    dsimp only at hq3 hx3
    rw [snocA] at hp3
    have offq3 := S2.newOff hq3
    have S3 := S2.onT hp3 hx3
    have st3 : Step h2 (a.fix ++ TA) h3 (a.fix ++ TA) := stepBut hx3 inT
    refine wpAny_execs_nil (wpAny_execs_nil (wpAny_execs_cons (d7_in (s := { s with heap := h3, toks := tk3 }) S3.fr X T ht I.nm.due S3.cell1 S3.held I.lo S3.due (sz2 dl (by decide)) fun h5 tk5 hp5 hs5 => ?_)))
    rw [snocA, hv] at hp5
    have S5 := S3.onD hp5 hs5.extBut
    have st5 : Step h3 (a.fix ++ TA) h5 (a.fix ++ TA) := stepBut hs5.extBut inD
    refine wpAny_execs_cons (wpAny_If (d7_test (s := { s with heap := h5, toks := tk5 }) S5.fr X T ht S5.cell1 S5.held I.lo fun tk6 b hb => ?_))
    rw [hv] at hb
    subst hb
    rw [if_neg (by simp)]
    refine wpAny_execs_cons (d7_else (s := { s with heap := h5, toks := tk6 }) S5.fr X T I.nm.told S5.told (sz2 tl (by decide)) fun h8 tk8 hp8 hs8 => wpAny_execs_nil (wpAny_execs_nil (hQ₀ _ _ ⟨rfl, ?_⟩)))
    rw [snocA] at hp8
    have S8 := S5.onT hp8 hs8.extBut
    have st8 : Step h5 (a.fix ++ TA) h8 (a.fix ++ TA) := stepBut hs8.extBut inT
    have st38 := (st3.trans st5).trans st8
    have st := (st1.trans st2).trans st38
    have IL : IntL (GG h8 (a.fix ++ TA)) q3 [i1] := IntL.mono (st5.trans st8).gg ⟨[C ls], glist_new offq3 hl3, by rw [hC]; exact .cons _ _ .nil⟩
    have IR : IntL (GG h8 (a.fix ++ TA)) q [i1] := IntL.mono (st2.trans st38).gg ⟨[.int i1 t1], glist_new offq hlq, .cons _ _ .nil⟩
    exact ⟨TA, B, P, C, kvs, _, _, av, v2, m, H, S8, I.nm, ⟨I.fz.script.mono st.gg, I.fz.held.mono fun _ _ h => h.mono st.gg, ((I.fz.pairs.mono fun _ _ h => h.mono st.gg).snoc (.inr (.inr ⟨q3, q, [i1], rfl, rfl, IL, IR, by simp⟩))).snoc (.inr (.inl ⟨true, rfl, rfl⟩)), fun v hv => let ⟨q, ps', e1, e2, e3⟩ := I.fz.asked v hv; ⟨q, ps', e1, e2.mono st.gg, e3⟩⟩, I.holds, I.good, by omega, by omega, by rw [List.length_append, List.length_append]; exact Nat.le_trans (Nat.add_le_add_right (Nat.add_le_add_right bt 1) 1) (by omega), by omega, I.lo, I.os, I.gens⟩
end
end
section
open PySem PySem.W PySem.Calls PySem.Spec PyProof.Rows
set_option Elab.async false
set_option maxRecDepth 100000
set_option maxHeartbeats 4000000
set_option linter.unusedVariables false
theorem fillLt : Reg PySem.Challenge.rw_bc0018_01 hd.heap_39 := by k_fill; trivial
section
variable {w : World} {h₀ : Heap} {a : Ad} {aS : Addr} {ns : List Int} {s₁ s : Shared} {k : Nat} {TA : List Addr} {B : Nat} {P : List Str → Option (Addr × Addr)} {C : List Str → Value} {kvs : List (Str × Value)} {tv dv av : List Value} {v2 : Option Value} {oi : Obj} {m : Str → Option Value} {H : List (List Str × Int)}
  {A : Around} {fa al ap : Addr} {cd : Value} {mg mb : Str → Option Value} {p : Program} {loose : List Str} {mean : ExcName → Option Value} {ps : List Str}
/-- deed 8 -/
theorem seg8 (X : Frag.In (hd.heap_39 w.params) h₀) (T : Top p loose mean mg mb h₀) (Cd : CodeHd h₀ 78 74) (h74 : h₀.get? 74 = none) (r : Room 400 A) (hk : k ≤ 20) (I : CORE w h₀ a aS ns s₁ k TA B P C kvs tv dv av (some (.ref ap)) oi m H s) (sp : StrL (GG s.heap (a.fix ++ TA)) ap ps) (gp : GP ps) :
    wpJ (model PP w) A (execs [told8, due8] (lenv a.L fa cd a.c1 a.c2)) (fun f s' => f = .next ∧ INV w h₀ a aS ns s₁ oi (k + 1) s') NoE s := by
  have hdep : A.depth + 20 < recursionLimit := lim r.depth (by decide)
  have bB := I.bB
  have bH := I.bH
  have bt := I.bt
  have ba := I.ba
  have dl : dv.length ≤ 60 := by have := I.fz.pairs.length; omega
  have tl : tv.length ≤ 60 := by omega
  have S0 := I.ls
  have p6 := gp.l6
  obtain ⟨vp, gvp, hvp⟩ := id sp
  have live : ∀ x ∈ a.fix ++ TA, x < s.heap.objs.size := fun x hx => by
    rcases List.mem_append.mp hx with z | z
    · obtain ⟨o, e⟩ := S0.inFix z; exact Heap.lt_size e
    · exact S0.tr.lt z
  have hne : ps ≠ [] := fun z => by have := gp.l0; rw [z] at this; exact absurd this (Nat.lt_irrefl _)
  refine wpJ_execs_next (told8_stmt S0.fr X T Cd h74 r I.nm.mat I.nm.told S0.told (size_small tl (by decide)) (S0.ne 3 7) S0.tab live S0.mat.at_ S0.tr (S0.offT 74 (Ad.mem 7)) S0.cell2 gvp.isList hvp I.holds (by omega) gp.sp (line100 gp.ln) (by omega) gp.pl hne gp.dl (sum_small gp.sm gp.l6) I.gens fun s2 q us ns1 h1 os2 gens2 hx1 tab1 hq hlq hIq hPq hOq hpT hsT => ⟨rfl, ?_⟩)
  have S1 := S0.onTab tab1 hx1
  have st1 : Step s.heap (a.fix ++ TA) h1 (a.fix ++ TA) := stepBut hx1 in74
  rw [snocA] at hpT
  have S2 := S1.onT hpT hsT.extBut
  have st2 : Step h1 (a.fix ++ TA) s2.heap (a.fix ++ TA) := stepBut hsT.extBut inT
  have st12 := st1.trans st2
  obtain ⟨vp2, gvp2, hvp2⟩ := sp.mono st12.gg
  refine wpJ_execs_next (wpJ_any (due8_stmt S2.fr X T r.handled hdep I.nm.due S2.due (size_small dl (by decide)) S2.cell1 S2.cell2 S2.held I.lo (by have := I.fz.held.length; omega) (I.fz.held.mono fun _ _ h => h.mono st12.gg) gvp2.isList hvp2 (fun e he => ⟨(I.good e he).l0, by have := (I.good e he).l6; omega⟩) gp.l0 (by omega) (Nat.le_trans gp.g0 (by rw [sizeLine_eq]; decide)) fun h3 tk3 q3 us3 ns3 hq3 hl3 hI3 hP3 hO3 hpD hxD => ⟨rfl, ?_⟩))
  rw [snocA] at hpD
  have S3 := S2.onD hpD hxD
  have st3 : Step s2.heap (a.fix ++ TA) h3 (a.fix ++ TA) := stepBut hxD inD
  have st := st12.trans st3
  have hns : ns1 = ns3 := List.Perm.eq_of_pairwise (fun _ _ _ _ a b => Int.le_antisymm a b) hOq hO3 (hPq.trans hP3.symm)
  subst hns
  have hl40 : ns1.length ≤ 40 := by
    have e1 := hPq.length_eq
    have e3 : (H.filter fun e => fitsD (dollarOf ps) e.1 ps).length ≤ H.length := List.length_filter_le ..
    rw [List.length_map] at e1
    omega
  have IL : IntL (GG h3 (a.fix ++ TA)) q ns1 := IntL.mono (st2.trans st3).gg ⟨us, glist_new (I.newOff hq) hlq, hIq⟩
  have IR : IntL (GG h3 (a.fix ++ TA)) q3 ns1 := ⟨us3, glist_new (S2.newOff hq3) hl3, hI3⟩
  exact wpJ_execs_nil ⟨rfl, TA, B, P, C, kvs, _, _, av, _, m, H, S3, I.nm, ⟨I.fz.script.mono st.gg, I.fz.held.mono fun _ _ h => h.mono st.gg, (I.fz.pairs.mono fun _ _ h => h.mono st.gg).snoc (.inr (.inr ⟨q, q3, ns1, rfl, rfl, IL, IR, hl40⟩)), fun v hv => let ⟨q, ps', e1, e2, e3⟩ := I.fz.asked v hv; ⟨q, ps', e1, e2.mono st.gg, e3⟩⟩, I.holds, I.good, by omega, by omega, by rw [List.length_append]; exact Nat.le_trans (Nat.add_le_add_right bt 1) (by omega), by omega, I.lo, os2.trans I.os, gens2⟩
/-- a topic asked at the end -/
theorem seg9 (X : Frag.In (hd.heap_39 w.params) h₀) (T : Top p loose mean mg mb h₀) (Cd : CodeHd h₀ 78 74) (h74 : h₀.get? 74 = none) (r : Room 400 A) (hk : k ≤ 20) (I : CORE w h₀ a aS ns s₁ k TA B P C kvs tv dv av (some (.ref ap)) oi m H s) (sp : StrL (GG s.heap (a.fix ++ TA)) ap ps) (gp : GP ps) :
    wpJ (model PP w) A (execs [told9, due9] (lenv a.L fa cd a.c1 a.c2)) (fun f s' => f = .next ∧ INV w h₀ a aS ns s₁ oi (k + 1) s') NoE s := by
  have hdep : A.depth + 20 < recursionLimit := lim r.depth (by decide)
  have bB := I.bB
  have bH := I.bH
  have bt := I.bt
  have ba := I.ba
  have dl : dv.length ≤ 60 := by have := I.fz.pairs.length; omega
  have tl : tv.length ≤ 60 := by omega
  have S0 := I.ls
  have p6 := gp.l6
  obtain ⟨vp, gvp, hvp⟩ := id sp
  have live : ∀ x ∈ a.fix ++ TA, x < s.heap.objs.size := fun x hx => by
    rcases List.mem_append.mp hx with z | z
    · obtain ⟨o, e⟩ := S0.inFix z; exact Heap.lt_size e
    · exact S0.tr.lt z
  have hne : ps ≠ [] := fun z => by have := gp.l0; rw [z] at this; exact absurd this (Nat.lt_irrefl _)
  refine wpJ_execs_next (told9_stmt S0.fr X T Cd h74 r I.nm.mat I.nm.told S0.told (size_small tl (by decide)) (S0.ne 3 7) S0.tab live S0.mat.at_ S0.tr (S0.offT 74 (Ad.mem 7)) S0.cell2 gvp.isList hvp I.holds (by omega) gp.sp (line100 gp.ln) (by omega) gp.pl hne gp.dl (sum_small gp.sm gp.l6) I.gens fun s2 q us ns1 h1 os2 gens2 hx1 tab1 hq hlq hIq hPq hOq hpT hsT => ⟨rfl, ?_⟩)
  have S1 := S0.onTab tab1 hx1
  have st1 : Step s.heap (a.fix ++ TA) h1 (a.fix ++ TA) := stepBut hx1 in74
  rw [snocA] at hpT
  have S2 := S1.onT hpT hsT.extBut
  have st2 : Step h1 (a.fix ++ TA) s2.heap (a.fix ++ TA) := stepBut hsT.extBut inT
  have st12 := st1.trans st2
  obtain ⟨vp2, gvp2, hvp2⟩ := sp.mono st12.gg
  refine wpJ_execs_next (wpJ_any (due9_stmt S2.fr X T r.handled hdep I.nm.due S2.due (size_small dl (by decide)) S2.cell1 S2.cell2 S2.held I.lo (by have := I.fz.held.length; omega) (I.fz.held.mono fun _ _ h => h.mono st12.gg) gvp2.isList hvp2 (fun e he => ⟨(I.good e he).l0, by have := (I.good e he).l6; omega⟩) gp.l0 (by omega) (Nat.le_trans gp.g0 (by rw [sizeLine_eq]; decide)) fun h3 tk3 q3 us3 ns3 hq3 hl3 hI3 hP3 hO3 hpD hxD => ⟨rfl, ?_⟩))
  rw [snocA] at hpD
  have S3 := S2.onD hpD hxD
  have st3 : Step s2.heap (a.fix ++ TA) h3 (a.fix ++ TA) := stepBut hxD inD
  have st := st12.trans st3
  have hns : ns1 = ns3 := List.Perm.eq_of_pairwise (fun _ _ _ _ a b => Int.le_antisymm a b) hOq hO3 (hPq.trans hP3.symm)
  subst hns
  have hl40 : ns1.length ≤ 40 := by
    have e1 := hPq.length_eq
    have e3 : (H.filter fun e => fitsD (dollarOf ps) e.1 ps).length ≤ H.length := List.length_filter_le ..
    rw [List.length_map] at e1
    omega
  have IL : IntL (GG h3 (a.fix ++ TA)) q ns1 := IntL.mono (st2.trans st3).gg ⟨us, glist_new (I.newOff hq) hlq, hIq⟩
  have IR : IntL (GG h3 (a.fix ++ TA)) q3 ns1 := ⟨us3, glist_new (S2.newOff hq3) hl3, hI3⟩
  exact wpJ_execs_nil ⟨rfl, TA, B, P, C, kvs, _, _, av, _, m, H, S3, I.nm, ⟨I.fz.script.mono st.gg, I.fz.held.mono fun _ _ h => h.mono st.gg, (I.fz.pairs.mono fun _ _ h => h.mono st.gg).snoc (.inr (.inr ⟨q, q3, ns1, rfl, rfl, IL, IR, hl40⟩)), fun v hv => let ⟨q, ps', e1, e2, e3⟩ := I.fz.asked v hv; ⟨q, ps', e1, e2.mono st.gg, e3⟩⟩, I.holds, I.good, by omega, by omega, by rw [List.length_append]; exact Nat.le_trans (Nat.add_le_add_right bt 1) (by omega), by omega, I.lo, os2.trans I.os, gens2⟩
end
end
section
open PySem PySem.W PySem.Calls PySem.Spec PyProof.Rows
set_option Elab.async false
set_option maxRecDepth 100000
set_option maxHeartbeats 4000000
set_option linter.unusedVariables false
theorem fillLu : Reg PySem.Challenge.rw_bc0018_01 hd.heap_39 := by k_fill; trivial

section
variable {w : World} {A : Around} {E : Value → Shared → Prop} {s : Shared} {L fa c1 c2 : Addr} {h₀ : Heap} {m mg mb : Str → Option Value} {p : Program} {loose : List Str} {mean : ExcName → Option Value} {cd : Value} {t : Tok} {d : Int}
theorem l5t (F : Fr h₀ L s.heap m) (X : Frag.In (hd.heap_39 w.params) h₀) (T : Top p loose mean mg mb h₀) (hd : m (Str.ofString "deed") = some (.int d t))
    {Q : Bool → Shared → Prop} (h : ∀ tk b, b = decide (d < 5) → Q b { s with toks := tk }) :
    wpAny (model PP w) A (isTrue (testS l5) (lenv L fa cd c1 c2) (eval (testS l5) (lenv L fa cd c1 c2))) Q E s := by
  unfold l5 lb lwL lenv lwSc
  dsimp only [nthS, bodyS, testS]
  have N : News h₀ L s.heap [] := .nil
  k_steps
  all_goals refine h _ _ ?_
  all_goals simp_all
theorem l6t (F : Fr h₀ L s.heap m) (X : Frag.In (hd.heap_39 w.params) h₀) (T : Top p loose mean mg mb h₀) (hd : m (Str.ofString "deed") = some (.int d t))
    {Q : Bool → Shared → Prop} (h : ∀ tk b, b = (decide (d = 5) || decide (d = 6)) → Q b { s with toks := tk }) :
    wpAny (model PP w) A (isTrue (testS l6) (lenv L fa cd c1 c2) (eval (testS l6) (lenv L fa cd c1 c2))) Q E s := by
  unfold l6 l5 lb lwL lenv lwSc
  dsimp only [nthS, bodyS, elseS, testS]
  have N : News h₀ L s.heap [] := .nil
  k_steps
  all_goals refine h _ _ ?_
  all_goals simp_all
theorem l7t (F : Fr h₀ L s.heap m) (X : Frag.In (hd.heap_39 w.params) h₀) (T : Top p loose mean mg mb h₀) (hd : m (Str.ofString "deed") = some (.int d t))
    {Q : Bool → Shared → Prop} (h : ∀ tk b, b = decide (d = 7) → Q b { s with toks := tk }) :
    wpAny (model PP w) A (isTrue (testS l7) (lenv L fa cd c1 c2) (eval (testS l7) (lenv L fa cd c1 c2))) Q E s := by
  unfold l7 l6 l5 lb lwL lenv lwSc
  dsimp only [nthS, bodyS, elseS, testS]
  have N : News h₀ L s.heap [] := .nil
  k_steps
  all_goals refine h _ _ ?_
  all_goals (by_cases hz : d = 7 <;> simp [hz])
end
theorem lb7_eq : lb 7 = .If (testS l5) [nthS (bodyS l5) 0, nthS (bodyS l5) 1, nthS (bodyS l5) 2] [.If (testS l6) [nthS (bodyS l6) 0, nthS (bodyS l6) 1] [.If (testS l7) [nthS (bodyS l7) 0, nthS (bodyS l7) 1, nthS (bodyS l7) 2, nthS (bodyS l7) 3] [told8, due8] ⟨117, 8, 134, 96⟩] ⟨110, 8, 134, 96⟩] ⟨106, 8, 134, 96⟩ := rfl
section
variable {w : World} {h₀ : Heap} {a : Ad} {aS : Addr} {ns : List Int} {s₁ s : Shared} {k : Nat} {oi : Obj}
  {A : Around} {fa : Addr} {cd : Value} {mg mb : Str → Option Value} {p : Program} {loose : List Str} {mean : ExcName → Option Value}
theorem turn1 (X : Frag.In (hd.heap_39 w.params) h₀) (T : Top p loose mean mg mb h₀) (Cd : CodeHd h₀ 78 74) (h74 : h₀.get? 74 = none) (r : Room 400 A) (hfr : A.frames = some [lenv a.L fa cd a.c1 a.c2]) (hk : k ≤ 19) (hlen : 2 * k + 1 < ns.length) (hns : ns.length < 100)
    {TA : List Addr} {B : Nat} {P : List Str → Option (Addr × Addr)} {C : List Str → Value} {kvs : List (Str × Value)} {tv dv av : List Value} {v2 : Option Value} {m : Str → Option Value} {H : List (List Str × Int)} {ta : Tok}
    (I : CORE w h₀ a aS ns s₁ k TA B P C kvs tv dv av v2 oi m H s) (hat : m (Str.ofString "at") = some (.int ((2 * k : Nat) : Int) ta)) :
    wpJ (model PP w) A (execs [lb 0, lb 1, lb 2, lb 3, lb 4, lb 5, lb 6, lb 7] (lenv a.L fa cd a.c1 a.c2)) (fun f s' => f = .next ∧ INV w h₀ a aS ns s₁ oi (k + 1) s') NoE s := by
  refine prep X T r I hat (by omega) (by omega) hns fun s' m' al ap ls ps tt td J q1 q2 q3 q4 sl g sp gp => ?_
  rw [lb7_eq]
  have toksJ : ∀ {s' : Shared} {m' : Str → Option Value} {v2' : Option Value} (tk : Nat), CORE w h₀ a aS ns s₁ k TA B P C kvs tv dv av v2' oi m' H s' → CORE w h₀ a aS ns s₁ k TA B P C kvs tv dv av v2' oi m' H { s' with toks := tk } := fun tk J => J.keep J.ls Step.refl J.nm rfl rfl
  have last : ∀ {s : Shared} {st : Stmt}, wpJ (model PP w) A (exec st (lenv a.L fa cd a.c1 a.c2)) (fun f s' => f = .next ∧ INV w h₀ a aS ns s₁ oi (k + 1) s') NoE s → wpJ (model PP w) A (execs [st] (lenv a.L fa cd a.c1 a.c2)) (fun f s' => f = .next ∧ INV w h₀ a aS ns s₁ oi (k + 1) s') NoE s := fun h => wpJ_execs_next (wpJ_mono h (fun f s' x => ⟨x.1, wpJ_execs_nil ⟨rfl, x.2⟩⟩) fun _ _ z => z)
  refine last (wpJ_If (l5t J.fr X T q2 fun tk b hb => ?_))
  have J1 := toksJ tk J
  cases b with
  | true =>
    rw [if_pos rfl]
    exact wpJ_any (seg5 X T r (by omega) J1 q1 q3 q4 sl g sp gp)
  | false =>
    rw [if_neg (by decide)]
    refine last (wpJ_If (l6t (s := { s' with toks := tk }) J1.fr X T q2 fun tk b hb => ?_))
    have J2 := toksJ tk J1
    cases b with
    | true =>
      rw [if_pos rfl]
      exact wpJ_any (seg6 X T r hfr (by omega) J2 q3 g)
    | false =>
      rw [if_neg (by decide)]
      refine last (wpJ_If (l7t (s := { s' with toks := tk }) J2.fr X T q2 fun tk b hb => ?_))
      have J3 := toksJ tk J2
      cases b with
      | true =>
        rw [if_pos rfl]
        exact wpJ_any (seg7 X T r hfr (by omega) J3 q3 g)
      | false =>
        rw [if_neg (by decide)]
        exact seg8 X T Cd h74 r (by omega) J3 sp gp
noncomputable abbrev ro (x left : Int) : Obj := { cls := .type "range_iterator", dict := none, data := .fields #[rawInt x, rawInt left, rawInt 2], slots := #[] }
theorem loop1 {px : Pos} {N : Nat} {R : Result → Shared → Prop} (X : Frag.In (hd.heap_39 w.params) h₀) (T : Top p loose mean mg mb h₀) (Cd : CodeHd h₀ 78 74) (h74 : h₀.get? 74 = none) (r : Room 400 A) (hfr : A.frames = some [lenv a.L fa cd a.c1 a.c2]) (hN : N ≤ 10) (hlen : 2 * N ≤ ns.length) (hns : ns.length < 100)
    (I : INV w h₀ a aS ns s₁ (ro 0 N) 0 s) (hR : ∀ s' h' oi, INV w h₀ a aS ns s₁ oi N s' → Heap.ExtBut a.it s'.heap h' → R (.ok .next) { s' with heap := h' }) :
    codeJ (model PP w) A (.forLoop (.Name (Str.ofString "at") px) (.ref a.it) [lb 0, lb 1, lb 2, lb 3, lb 4, lb 5, lb 6, lb 7] [] (lenv a.L fa cd a.c1 a.c2)) R s := by
  refine codeJ_forLoop (fun n s => ∃ k, k ≤ N ∧ n = N - k ∧ INV w h₀ a aS ns s₁ (ro ((2 * k : Nat) : Int) ((N : Int) - k)) k s) (fun n s hJ => ?_) N ⟨0, Nat.zero_le _, rfl, by simpa using I⟩
  obtain ⟨k, hkN, rfl, J⟩ := hJ
  obtain ⟨TA, B, P, C, kvs, tv, dv, av, v2, m, H, J⟩ := J
  by_cases hlt : k < N
  · refine wpAny_pyNext_range_item (x := ((2 * k : Nat) : Int)) (left := (N : Int) - k) (step := 2) J.ls.itv (by omega) fun h' hit' hs => ?_
    have e1 : ((2 * k : Nat) : Int) + 2 = ((2 * (k + 1) : Nat) : Int) := by omega
    have e2 : (N : Int) - k - 1 = (N : Int) - ((k + 1 : Nat) : Int) := by omega
    rw [e1, e2] at hit'
    have J1 := J.keep (s' := { s with heap := h', toks := s.toks + 1 }) (J.ls.onIt hit' hs.extBut) (stepBut hs.extBut inIt) J.nm rfl rfl
    refine wpAny_assign_Name (wpAny_storeName_local rfl J1.ls.ns (fun h2 hn2 hs2 => ?_) rfl)
    obtain ⟨J2, st2⟩ := J1.bind (tk := s.toks + 1 + 1) hn2 hs2.extBut (by decide) (by decide) (by decide) (by decide) (by decide)
    refine wpJ_mono (turn1 X T Cd h74 r hfr (by omega) (by omega) hns J2 (if_pos rfl)) (fun f s3 h3 => ?_) fun _ _ z => z
    exact ⟨h3.1, N - (k + 1), sub_lt hlt, k + 1, hlt, rfl, h3.2⟩
  · have hk : k = N := by omega
    subst hk
    refine wpAny_pyNext_range_end r.handled (x := ((2 * k : Nat) : Int)) (left := (k : Int) - k) (step := 2) J.ls.itv (by omega) fun h' hx => ?_
    exact hR s h' _ ⟨TA, B, P, C, kvs, tv, dv, av, v2, m, H, J⟩ hx
theorem Ad.fix_sub {it2 x : Addr} (h : x ∈ ({ a with it := it2 } : Ad).fix) : x = it2 ∨ x ∈ a.fix := by
  rcases List.mem_append.mp (show x ∈ a.fix.dropLast ++ [it2] from h) with z | z
  · exact .inr (List.dropLast_subset _ z)
  · exact .inl (List.mem_singleton.mp z)
theorem Ad.reIt {it2 : Addr} (ap : a.fix.Nodup) (n : ∀ x ∈ a.fix, x ≠ a.it → x ≠ it2) : ({ a with it := it2 } : Ad).fix.Nodup := by
  have ap' := List.nodup_append.mp (show (a.fix.dropLast ++ [a.it]).Nodup from ap)
  show (a.fix.dropLast ++ [it2]).Nodup
  refine List.nodup_append.mpr ⟨ap'.1, by simp, fun x hx y hy => ?_⟩
  cases List.mem_singleton.mp hy
  exact n x (List.dropLast_subset _ hx) (ap'.2.2 x hx _ (List.mem_singleton_self _))
theorem LS.reIt {h h' : Heap} {TA : List Addr} {B : Nat} {P : List Str → Option (Addr × Addr)} {C : List Str → Value} {kvs : List (Str × Value)} {tv dv av : List Value} {v2 : Option Value} {m : Str → Option Value} {it2 : Addr} {oi2 : Obj}
    (S : LS w h₀ a TA B P C kvs tv dv av v2 oi m h) (hx : ∀ b o, b ≠ a.it → b ≠ a.L → h.get? b = some o → h'.get? b = some o) (hns : h'.Ns a.L m) (hn : ∀ b o, b ≠ a.it → h.get? b = some o → b ≠ it2) (h2 : h'.get? it2 = some oi2) :
    LS w h₀ { a with it := it2 } TA B P C kvs tv dv av v2 oi2 m h' ∧ Step h (a.fix ++ TA) h' (({ a with it := it2 } : Ad).fix ++ TA) := by
  have hit : a.it ∈ a.fix := Ad.mem 8
  have hL : a.L ∈ a.fix := Ad.mem 0
  have st : Step h (a.fix ++ TA) h' (({ a with it := it2 } : Ad).fix ++ TA) := fun b o hb e => by
    rw [List.mem_append, not_or] at hb
    have bi : b ≠ a.it := fun z => hb.1 (by rw [z]; exact hit)
    refine ⟨hx b o bi (fun z => hb.1 (by rw [z]; exact hL)) e, fun z => ?_⟩
    rcases List.mem_append.mp z with z | z
    · rcases Ad.fix_sub z with y | y
      · exact hn b o bi e y
      · exact hb.1 y
    · exact hb.2 z
  have h0 : h₀.get? it2 = none := by
    cases hz : h₀.get? it2 with
    | none => rfl
    | some o =>
      by_cases q : it2 = a.it
      · rw [q, S.new0 _ hit] at hz; cases hz
      · exact absurd rfl (hn _ o q (S.k0 _ _ hz))
  have ap := S.apart
  have nT : ∀ x ∈ TA, x ≠ it2 := fun x hx => let ⟨o, e⟩ := S.tr.live x hx; hn x o (fun z => S.offT _ hit (z ▸ hx)) e
  have n : ∀ x ∈ a.fix, x ≠ a.it → x ≠ it2 := fun x hx hi => let ⟨o, e⟩ := S.inFix hx; hn x o hi e
  refine ⟨⟨hns, (let ⟨o, e, r⟩ := S.cell1; ⟨o, hx _ _ (S.ne 1 8) (S.ne 1 0) e, r⟩), (let ⟨o, e, r⟩ := S.cell2; ⟨o, hx _ _ (S.ne 2 8) (S.ne 2 0) e, r⟩), (let ⟨o, n, e, r⟩ := S.told; ⟨o, n, hx _ _ (S.ne 3 8) (S.ne 3 0) e, r⟩), (let ⟨o, n, e, r⟩ := S.due; ⟨o, n, hx _ _ (S.ne 4 8) (S.ne 4 0) e, r⟩), (let ⟨o, n, e, r⟩ := S.asked; ⟨o, n, hx _ _ (S.ne 5 8) (S.ne 5 0) e, r⟩), S.held.at fun o e => hx _ o (S.ne 6 8) (S.ne 6 0) e, S.tab.step (fun o e => hx _ o (S.ne 7 8) (S.ne 7 0) e) st, h2, S.mat.step st, S.tr.keep fun b hb o e => hx b o (fun z => S.offT _ hit (z ▸ hb)) (fun z => S.offT _ hL (z ▸ hb)) e, fun b o e => hx b o (fun z => by subst z; rw [S.new0 _ hit] at e; cases e) (fun z => by subst z; rw [S.new0 _ hL] at e; cases e) (S.k0 b o e), S.le0, ?_, fun x hx => ?_, fun x hx => ?_, S.hT0⟩, st⟩
  · exact Ad.reIt ap n
  · rcases Ad.fix_sub hx with y | y
    · subst y
      exact fun z => nT _ z rfl
    · exact S.offT x y
  · rcases Ad.fix_sub hx with y | y
    · subst y; exact h0
    · exact S.new0 x y
end
end
section
open PySem PySem.W PySem.Calls PySem.Spec PyProof.Rows
set_option Elab.async false
set_option maxRecDepth 100000
set_option maxHeartbeats 4000000
set_option linter.unusedVariables false
theorem fillZa : Reg PySem.Challenge.rw_bc0018_01 hd.heap_39 := by k_fill; trivial
inductive INVs (w : World) (h₀ : Heap) (a : Ad) (aS : Addr) (ns : List Int) (s₁ : Shared) (oi : Obj) (h : Heap) (S : List Addr) (k : Nat) (s : Shared) : Prop
  | mk (TA : List Addr) (B : Nat) (P : List Str → Option (Addr × Addr)) (C : List Str → Value) (kvs : List (Str × Value)) (tv dv av : List Value) (v2 : Option Value) (m : Str → Option Value) (H : List (List Str × Int)) (J : CORE w h₀ a aS ns s₁ k TA B P C kvs tv dv av v2 oi m H s) (st : Step h S s.heap (a.fix ++ TA)) : INVs w h₀ a aS ns s₁ oi h S k s
inductive L2I (w : World) (h₀ : Heap) (a : Ad) (aS : Addr) (ns : List Int) (s₁ : Shared) (k : Nat) (q : Addr) (l9 : List Value) (n : Nat) (s : Shared) : Prop
  | mk (i : Nat) (hi : i ≤ l9.length) (hn : n = l9.length - i) (oi : Obj) (TA : List Addr) (B : Nat) (P : List Str → Option (Addr × Addr)) (C : List Str → Value) (kvs : List (Str × Value)) (tv dv av : List Value) (v2 : Option Value) (m : Str → Option Value) (H : List (List Str × Int)) (J : CORE w h₀ a aS ns s₁ (k + i) TA B P C kvs tv dv av v2 oi m H s)
    (hit : s.heap.IsListIter a.it q i) (gq : GList (GG s.heap (a.fix ++ TA)) q l9) (ga : ∀ v ∈ l9, AskE (GG s.heap (a.fix ++ TA)) v) : L2I w h₀ a aS ns s₁ k q l9 n s
section
variable {w : World} {h₀ : Heap} {a : Ad} {aS : Addr} {ns : List Int} {s₁ s : Shared} {k : Nat} {TA : List Addr} {B : Nat} {P : List Str → Option (Addr × Addr)} {C : List Str → Value} {kvs : List (Str × Value)} {tv dv av : List Value} {v2 : Option Value} {oi : Obj} {m : Str → Option Value} {H : List (List Str × Int)}
  {A : Around} {fa al ap : Addr} {cd : Value} {mg mb : Str → Option Value} {p : Program} {loose : List Str} {mean : ExcName → Option Value} {ps : List Str}
/-- a topic asked at the end, the state kept apart -/
theorem seg9s (X : Frag.In (hd.heap_39 w.params) h₀) (T : Top p loose mean mg mb h₀) (Cd : CodeHd h₀ 78 74) (h74 : h₀.get? 74 = none) (r : Room 400 A) (hk : k ≤ 20) (I : CORE w h₀ a aS ns s₁ k TA B P C kvs tv dv av (some (.ref ap)) oi m H s) (sp : StrL (GG s.heap (a.fix ++ TA)) ap ps) (gp : GP ps) :
    wpJ (model PP w) A (execs [told9, due9] (lenv a.L fa cd a.c1 a.c2)) (fun f s' => f = .next ∧ INVs w h₀ a aS ns s₁ oi s.heap (a.fix ++ TA) (k + 1) s') NoE s := by
  have hdep : A.depth + 20 < recursionLimit := lim r.depth (by decide)
  have bB := I.bB
  have bH := I.bH
  have bt := I.bt
  have ba := I.ba
  have dl : dv.length ≤ 60 := by have := I.fz.pairs.length; omega
  have tl : tv.length ≤ 60 := by omega
  have S0 := I.ls
  have p6 := gp.l6
  obtain ⟨vp, gvp, hvp⟩ := id sp
  have live : ∀ x ∈ a.fix ++ TA, x < s.heap.objs.size := fun x hx => by
    rcases List.mem_append.mp hx with z | z
    · obtain ⟨o, e⟩ := S0.inFix z; exact Heap.lt_size e
    · exact S0.tr.lt z
  have hne : ps ≠ [] := fun z => by have := gp.l0; rw [z] at this; exact absurd this (Nat.lt_irrefl _)
  refine wpJ_execs_next (told9_stmt S0.fr X T Cd h74 r I.nm.mat I.nm.told S0.told (size_small tl (by decide)) (S0.ne 3 7) S0.tab live S0.mat.at_ S0.tr (S0.offT 74 (Ad.mem 7)) S0.cell2 gvp.isList hvp I.holds (by omega) gp.sp (line100 gp.ln) (by omega) gp.pl hne gp.dl (sum_small gp.sm gp.l6) I.gens fun s2 q us ns1 h1 os2 gens2 hx1 tab1 hq hlq hIq hPq hOq hpT hsT => ⟨rfl, ?_⟩)
  have S1 := S0.onTab tab1 hx1
  have st1 : Step s.heap (a.fix ++ TA) h1 (a.fix ++ TA) := stepBut hx1 in74
  rw [snocA] at hpT
  have S2 := S1.onT hpT hsT.extBut
  have st2 : Step h1 (a.fix ++ TA) s2.heap (a.fix ++ TA) := stepBut hsT.extBut inT
  have st12 := st1.trans st2
  obtain ⟨vp2, gvp2, hvp2⟩ := sp.mono st12.gg
  refine wpJ_execs_next (wpJ_any (due9_stmt S2.fr X T r.handled hdep I.nm.due S2.due (size_small dl (by decide)) S2.cell1 S2.cell2 S2.held I.lo (by have := I.fz.held.length; omega) (I.fz.held.mono fun _ _ h => h.mono st12.gg) gvp2.isList hvp2 (fun e he => ⟨(I.good e he).l0, by have := (I.good e he).l6; omega⟩) gp.l0 (by omega) (Nat.le_trans gp.g0 (by rw [sizeLine_eq]; decide)) fun h3 tk3 q3 us3 ns3 hq3 hl3 hI3 hP3 hO3 hpD hxD => ⟨rfl, ?_⟩))
  rw [snocA] at hpD
  have S3 := S2.onD hpD hxD
  have st3 : Step s2.heap (a.fix ++ TA) h3 (a.fix ++ TA) := stepBut hxD inD
  have st := st12.trans st3
  have hns : ns1 = ns3 := List.Perm.eq_of_pairwise (fun _ _ _ _ a b => Int.le_antisymm a b) hOq hO3 (hPq.trans hP3.symm)
  subst hns
  have hl40 : ns1.length ≤ 40 := by
    have e1 := hPq.length_eq
    have e3 : (H.filter fun e => fitsD (dollarOf ps) e.1 ps).length ≤ H.length := List.length_filter_le ..
    rw [List.length_map] at e1
    omega
  have IL : IntL (GG h3 (a.fix ++ TA)) q ns1 := IntL.mono (st2.trans st3).gg ⟨us, glist_new (I.newOff hq) hlq, hIq⟩
  have IR : IntL (GG h3 (a.fix ++ TA)) q3 ns1 := ⟨us3, glist_new (S2.newOff hq3) hl3, hI3⟩
  exact wpJ_execs_nil ⟨rfl, TA, B, P, C, kvs, _, _, av, _, m, H, ⟨S3, I.nm, ⟨I.fz.script.mono st.gg, I.fz.held.mono fun _ _ h => h.mono st.gg, (I.fz.pairs.mono fun _ _ h => h.mono st.gg).snoc (.inr (.inr ⟨q, q3, ns1, rfl, rfl, IL, IR, hl40⟩)), fun v hv => let ⟨q, ps', e1, e2, e3⟩ := I.fz.asked v hv; ⟨q, ps', e1, e2.mono st.gg, e3⟩⟩, I.holds, I.good, by omega, by omega, by rw [List.length_append]; exact Nat.le_trans (Nat.add_le_add_right bt 1) (by omega), by omega, I.lo, os2.trans I.os, gens2⟩, st⟩

theorem loop2 {px : Pos} {q : Addr} {l9 : List Value} {R : Result → Shared → Prop} (X : Frag.In (hd.heap_39 w.params) h₀) (T : Top p loose mean mg mb h₀) (Cd : CodeHd h₀ 78 74) (h74 : h₀.get? 74 = none) (r : Room 400 A) (hk : k + l9.length ≤ 20)
    (I : CORE w h₀ a aS ns s₁ k TA B P C kvs tv dv av v2 oi m H s) (hit : s.heap.IsListIter a.it q 0) (gq : GList (GG s.heap (a.fix ++ TA)) q l9) (ga : ∀ v ∈ l9, AskE (GG s.heap (a.fix ++ TA)) v)
    (hR : ∀ s' h' oi, INV w h₀ a aS ns s₁ oi (k + l9.length) s' → Heap.ExtBut a.it s'.heap h' → R (.ok .next) { s' with heap := h' }) :
    codeJ (model PP w) A (.forLoop (.Name (Str.ofString "parts") px) (.ref a.it) [told9, due9] [] (lenv a.L fa cd a.c1 a.c2)) R s := by
  refine codeJ_forLoop (L2I w h₀ a aS ns s₁ k q l9) (fun n s hJ => ?_) l9.length ⟨0, Nat.zero_le _, rfl, oi, TA, B, P, C, kvs, tv, dv, av, v2, m, H, I, hit, gq, ga⟩
  clear I hit gq ga
  obtain ⟨i, hi, rfl, oi, TA, B, P, C, kvs, tv, dv, av, v2, m, H, J, hit, gq, ga⟩ := hJ
  by_cases hlt : i < l9.length
  · have hx : l9[i]? = some l9[i] := List.getElem?_eq_getElem hlt
    generalize l9[i] = v at hx
    obtain ⟨ap, ps, rfl, sp, gp⟩ := ga v (List.mem_of_getElem? hx)
    refine wpAny_pyNext_list_item hit gq.isList (by rw [List.getElem?_toArray]; exact hx) fun h' hit' hs => ?_
    obtain ⟨oi', eo', ro'⟩ := id hit'
    have J1 := J.keep (s' := { s with heap := h' }) (J.ls.onIt eo' hs.extBut) (stepBut hs.extBut inIt) J.nm rfl rfl
    have st1 : Step s.heap (a.fix ++ TA) h' (a.fix ++ TA) := stepBut hs.extBut inIt
    refine wpAny_assign_Name (wpAny_storeName_cell rfl rfl rfl J1.ls.cell2 fun h2 hc2 hs2 => ?_)
    obtain ⟨J2, st2⟩ := J1.cell (tk := s.toks) hc2 hs2.extBut
    dsimp only at J2 st2
    have st12 := st1.trans st2
    refine wpJ_mono (seg9s (s := { s with heap := h2 }) X T Cd h74 r (by omega) J2 (sp.mono st12.gg) gp) (fun f s3 h3 => ?_) fun _ _ z => z
    obtain ⟨rfl, TA3, B3, P3, C3, kvs3, tv3, dv3, av3, v3, m3, H3, J3, st3⟩ := h3
    have st := st12.trans st3
    refine ⟨rfl, l9.length - (i + 1), sub_lt hlt, i + 1, hlt, rfl, oi', TA3, B3, P3, C3, kvs3, tv3, dv3, av3, v3, m3, H3, J3, ⟨oi', J3.ls.itv, ro'⟩, gq.mono st.gg, fun v hv => let ⟨q, ps', e1, e2, e3⟩ := ga v hv; ⟨q, ps', e1, e2.mono st.gg, e3⟩⟩
  · have hk : i = l9.length := by omega
    subst hk
    refine wpAny_pyNext_list_end r.handled hit gq.isList (by rw [List.getElem?_toArray]; simp) fun h' hx => ?_
    exact hR s h' _ ⟨TA, B, P, C, kvs, tv, dv, av, v2, m, H, J⟩ hx
end

/-! told == due -/
noncomputable def dataOf : List PyData → Prop := fun ds => ∀ d ∈ ds, d = .none ∨ (∃ b, d = .bool b) ∨ ∃ ns : List Int, d = .list (ns.map .int)
theorem dataOf_eqv : ∀ {ds : List PyData}, dataOf ds → PyData.eqvAll ds ds = true
  | [], _ => by simp [PyData.eqvAll]
  | d :: ds, h => by
    have ih := dataOf_eqv (ds := ds) fun d hd => h d (.tail _ hd)
    rcases h d (.head _) with rfl | ⟨b, rfl⟩ | ⟨ns, rfl⟩
    · simp [PyData.eqvAll, PyData.eqv, ih]
    · simp [PyData.eqvAll, PyData.eqv, ih]
    · simp [PyData.eqvAll, PyData.eqv, ih, ked_eqvAll]
theorem dataOf_lay : ∀ {ds : List PyData}, dataOf ds → PyData.canLayAll0 ds = true ∧ PyData.depthAll ds ≤ 1
  | [], _ => by simp [PyData.canLayAll0, PyData.depthAll]
  | d :: ds, h => by
    obtain ⟨i1, i2⟩ := dataOf_lay (ds := ds) fun d hd => h d (.tail _ hd)
    rcases h d (.head _) with rfl | ⟨b, rfl⟩ | ⟨ns, rfl⟩
    · simp [PyData.canLayAll0, PyData.canLay0, PyData.depthAll, PyData.depth, i1, i2]
    · simp [PyData.canLayAll0, PyData.canLay0, PyData.depthAll, PyData.depth, i1, i2]
    · simp only [PyData.canLayAll0, PyData.canLay0, PyData.depthAll, PyData.depth, i1, ke_canLayAll0, ke_depthAll, Bool.and_true, true_and]
      omega
theorem pairs_read {h : Heap} {S : List Addr} {tv dv : List Value} (x : All2 (PairE (GG h S)) tv dv) : ∃ ds as bs, ReadsAll h tv ds as ∧ ReadsAll h dv ds bs ∧ dataOf ds := by
  induction x with
  | nil => exact ⟨[], [], [], .nil, .nil, fun d hd => by cases hd⟩
  | cons a _ ih =>
    obtain ⟨ds, as, bs, r1, r2, r3⟩ := ih
    rcases a with ⟨rfl, rfl⟩ | ⟨b, rfl, rfl⟩ | ⟨p, q, ns, rfl, rfl, ⟨us, g1, i1⟩, ⟨us', g2, i2⟩, _⟩
    · exact ⟨_, _, _, .cons .none r1, .cons .none r2, fun d hd => by
        rcases List.mem_cons.mp hd with z | z
        · exact .inl z
        · exact r3 d z⟩
    · exact ⟨_, _, _, .cons (.bool b) r1, .cons (.bool b) r2, fun d hd => by
        rcases List.mem_cons.mp hd with z | z
        · exact .inr (.inl ⟨b, z⟩)
        · exact r3 d z⟩
    · exact ⟨_, _, _, .cons (reads_newData g1.isList (ke_carried i1)) r1, .cons (reads_newData g2.isList (ke_carried i2)) r2, fun d hd => by
        rcases List.mem_cons.mp hd with z | z
        · exact .inr (.inr ⟨ns, z⟩)
        · exact r3 d z⟩
theorem tells_eq {prog : Program} {w : World} {A : Around} {E : Value → Shared → Prop} {s : Shared} {aT aD : Addr} {tv dv : List Value} {S : List Addr} {Q : Value → Shared → Prop} (hT : PlainL s.heap aT (List.toArray tv)) (hD : PlainL s.heap aD (List.toArray dv)) (x : All2 (PairE (GG s.heap S)) tv dv) (hu : A.units + 64 < cLine) (h : Q (.bool true) s) :
    wpAny (model prog w) A (compareOp .Eq (.ref aT) (.ref aD)) Q E s := by
  obtain ⟨ds, as, bs, r1, r2, r3⟩ := pairs_read x
  obtain ⟨l1, l2⟩ := dataOf_lay r3
  obtain ⟨o1, n1, e1, c1, _, d1⟩ := hT
  obtain ⟨o2, n2, e2, c2, _, d2⟩ := hD
  have hsh : SeqAt.shaped (.list ds) = true := by
    simp only [SeqAt.shaped, PyData.canLay0, PyData.depth, l1, Bool.true_and]
    exact decide_eq_true (by omega)
  refine eq_dataH (reads_list_at e1 c1 d1 r1) (reads_list_at e2 c2 d2 r2) hsh hsh hu ?_
  rw [show PyData.eqv (.list ds) (.list ds) = true from by simp only [PyData.eqv]; exact dataOf_eqv r3]
  exact h

section
variable {w : World} {A : Around} {E : Value → Shared → Prop} {s : Shared} {L fa c1 c2 aT aD : Addr} {h₀ : Heap} {m mg mb : Str → Option Value} {p : Program} {loose : List Str} {mean : ExcName → Option Value} {cd : Value} {tv dv : List Value} {S : List Addr}
theorem last_stmt (F : Fr h₀ L s.heap m) (X : Frag.In (hd.heap_39 w.params) h₀) (T : Top p loose mean mg mb h₀) (hto : m (Str.ofString "told") = some (.ref aT)) (hdu : m (Str.ofString "due") = some (.ref aD)) (hT : PlainL s.heap aT (List.toArray tv)) (hD : PlainL s.heap aD (List.toArray dv)) (x : All2 (PairE (GG s.heap S)) tv dv) (hu : A.units + 64 < cLine)
    {Q : Flow → Shared → Prop} (h : ∀ tk, Q (.ret (.bool true)) { s with toks := tk }) :
    wpAny (model PP w) A (exec (nthS lwL.1 8) (lenv L fa cd c1 c2)) Q E s := by
  unfold lwL lenv lwSc
  dsimp only [nthS, bodyS]
  have N : News h₀ L s.heap [] := .nil
  k_steps
  exact tells_eq hT hD x hu (h s.toks)
end
end
end Mine
end
section
open PySem PySem.W PySem.Calls PySem.Spec PyProof.Rows
set_option Elab.async false
set_option maxRecDepth 100000
set_option maxHeartbeats 4000000
set_option linter.unusedVariables false
namespace Mine
theorem fillZb : Reg PySem.Challenge.rw_bc0018_01 hd.heap_39 := by k_fill; trivial
theorem lw_eq : lwL.1 = [nthS lwL.1 0, .Assign [.Name (Str.ofString "matcher") ⟨91, 4, 91, 11⟩] (valueS (nthS lwL.1 1)) ⟨91, 4, 91, 27⟩, nthS lwL.1 2, nthS lwL.1 3, nthS lwL.1 4, nthS lwL.1 5,
    .For (.Name (Str.ofString "at") ⟨96, 8, 96, 10⟩) (iterS (nthS lwL.1 6)) [lb 0, lb 1, lb 2, lb 3, lb 4, lb 5, lb 6, lb 7] [] ⟨96, 4, 134, 96⟩,
    .For (.Name (Str.ofString "parts") ⟨135, 8, 135, 13⟩) (iterS (nthS lwL.1 7)) [told9, due9] [] ⟨135, 4, 137, 92⟩, nthS lwL.1 8] := rfl
theorem not_in9 {α : Type} {x a b c d e f g i j : α} (h1 : x ≠ a) (h2 : x ≠ b) (h3 : x ≠ c) (h4 : x ≠ d) (h5 : x ≠ e) (h6 : x ≠ f) (h7 : x ≠ g) (h8 : x ≠ i) (h9 : x ≠ j) : x ∉ [a, b, c, d, e, f, g, i, j] := fun z => by
  simp only [List.mem_cons, List.not_mem_nil, or_false] at z
  rcases z with z | z | z | z | z | z | z | z | z
  · exact h1 z
  · exact h2 z
  · exact h3 z
  · exact h4 z
  · exact h5 z
  · exact h6 z
  · exact h7 z
  · exact h8 z
  · exact h9 z
theorem all_in9 {α : Type} {P : α → Prop} {a b c d e f g i j : α} (h1 : P a) (h2 : P b) (h3 : P c) (h4 : P d) (h5 : P e) (h6 : P f) (h7 : P g) (h8 : P i) (h9 : P j) : ∀ x ∈ [a, b, c, d, e, f, g, i, j], P x := fun x z => by
  simp only [List.mem_cons, List.not_mem_nil, or_false] at z
  rcases z with rfl | rfl | rfl | rfl | rfl | rfl | rfl | rfl | rfl <;> assumption
theorem nodup9 {α : Type} {a b c d e f g i j : α} (h1 : a ∉ [b, c, d, e, f, g, i, j]) (h2 : b ∉ [c, d, e, f, g, i, j]) (h3 : c ∉ [d, e, f, g, i, j]) (h4 : d ∉ [e, f, g, i, j]) (h5 : e ∉ [f, g, i, j]) (h6 : f ∉ [g, i, j]) (h7 : g ∉ [i, j]) (h8 : i ∉ [j]) : [a, b, c, d, e, f, g, i, j].Nodup :=
  List.nodup_cons.mpr ⟨h1, List.nodup_cons.mpr ⟨h2, List.nodup_cons.mpr ⟨h3, List.nodup_cons.mpr ⟨h4, List.nodup_cons.mpr ⟨h5, List.nodup_cons.mpr ⟨h6, List.nodup_cons.mpr ⟨h7, List.nodup_cons.mpr ⟨h8, List.nodup_cons.mpr ⟨List.not_mem_nil, List.nodup_nil⟩⟩⟩⟩⟩⟩⟩⟩⟩
theorem nic {α : Type} {x a : α} {l : List α} (h : x ≠ a) (t : x ∉ l) : x ∉ a :: l := fun z => (List.mem_cons.mp z).elim h t
theorem ni0 {α : Type} {x : α} : x ∉ ([] : List α) := List.not_mem_nil
noncomputable def Live (h : Heap) (x : Addr) : Prop := ∃ o, h.get? x = some o
theorem Live.ne {h : Heap} {x q : Addr} (l : Live h x) (hq : h.get? q = none) : x ≠ q := fun z => let ⟨o, e⟩ := l; by rw [z, hq] at e; cases e
theorem Live.keeps {h h' : Heap} {x : Addr} (l : Live h x) (k : ∀ b o, h.get? b = some o → h'.get? b = some o) : Live h' x := let ⟨o, e⟩ := l; ⟨o, k _ _ e⟩
theorem Live.but {h h' : Heap} {x y : Addr} (l : Live h x) (hx : Heap.ExtBut y h h') (hy : Live h' y) : Live h' x := by
  by_cases z : x = y
  · rw [z]; exact hy
  · obtain ⟨o, e⟩ := l; exact ⟨o, hx _ _ z e⟩
theorem liveNs {h : Heap} {L : Addr} {m : Str → Option Value} (x : h.Ns L m) : Live h L := let ⟨o, _, _, e, _⟩ := x; ⟨o, e⟩
theorem liveCell {h : Heap} {L : Addr} {v : Option Value} (x : h.IsCell L v) : Live h L := let ⟨o, e, _⟩ := x; ⟨o, e⟩
theorem liveList {h : Heap} {L : Addr} {v : Array Value} (x : h.IsList L v) : Live h L := let ⟨o, e, _⟩ := x; ⟨o, e⟩
theorem livePl {h : Heap} {L : Addr} {v : Array Value} (x : PlainL h L v) : Live h L := let ⟨o, _, e, _⟩ := x; ⟨o, e⟩
theorem liveDict {h : Heap} {w : World} {L : Addr} {v : List (Str × Value)} (x : h.DictOf (SK w) L v) : Live h L := let ⟨o, _, _, e, _⟩ := x; ⟨o, e⟩

theorem small2 : ∀ n : Fin 21, Builtin.Range.small 0 (((n.val : Nat) : Int) - 1) 2 = true := by decide +kernel
theorem size2 : ∀ n : Fin 21, Builtin.Range.rangeSize 0 (((n.val : Nat) : Int) - 1) 2 = ((n.val / 2 : Nat) : Int) := by decide +kernel
section
variable {w : World} {h₀ : Heap} {s₁ s : Shared} {A : Around} {L c1 c2 a0 fa : Addr} {cd : Value} {mg mb : Str → Option Value} {p : Program} {loose : List Str} {mean : ExcName → Option Value} {m : Str → Option Value} {vs : List Value} {ns0 : List Int}
noncomputable def FINAL (h₀ : Heap) (s₁ s' : Shared) : Prop := Keeps h₀ s'.heap ∧ (∃ ps, s'.heap.get? 74 = some (tabObj ps)) ∧ s'.os = s₁.os ∧ ∀ g, g < s'.gens.size → s'.gens[g]? = some .finished
theorem prologue (X : Frag.In (hd.heap_39 w.params) h₀) (T : Top p loose mean mg mb h₀) (r : Room 400 A) (F : Fr h₀ L s.heap m) (hsc : m (Str.ofString "script") = some (.ref a0)) (hl : s.heap.IsList a0 (List.toArray vs)) (hi : IntsAre vs ns0) (hn : ns0.length ≤ 63) (hc1 : s.heap.IsCell c1 none) (hc2 : s.heap.IsCell c2 none) (t74 : s.heap.get? 74 = some (tabObj #[]))
    (d1 : L ≠ c1) (d2 : L ≠ c2) (d3 : L ≠ 74) (d4 : c1 ≠ c2) (d5 : c1 ≠ 74) (d6 : c2 ≠ 74) (n1 : h₀.get? c1 = none) (n2 : h₀.get? c2 = none) (n74 : h₀.get? 74 = none) (os : s.os = s₁.os) (gens : ∀ g, g < s.gens.size → s.gens[g]? = some .finished)
    {rest : List Stmt} {Q : Flow → Shared → Prop}
    (K : ∀ a aS h' tk oi, a.L = L → a.c1 = c1 → a.c2 = c2 → INV w h₀ a aS (ns0.take 20) s₁ oi 0 { s with heap := h', toks := tk } → oi = ro 0 (Builtin.Range.rangeSize 0 (((ns0.take 20).length : Int) - 1) 2) → codeJ (model PP w) A (.forLoop (.Name (Str.ofString "at") ⟨96, 8, 96, 10⟩) (.ref a.it) [lb 0, lb 1, lb 2, lb 3, lb 4, lb 5, lb 6, lb 7] [] (lenv L fa cd c1 c2))
      (fun r s' => match r with | .ok .next => wpJ (model PP w) A (execs rest (lenv L fa cd c1 c2)) Q NoE s' | .ok f => Q f s' | .error _ => False) { s with heap := h', toks := tk }) :
    wpJ (model PP w) A (execs (nthS lwL.1 0 :: .Assign [.Name (Str.ofString "matcher") ⟨91, 4, 91, 11⟩] (valueS (nthS lwL.1 1)) ⟨91, 4, 91, 27⟩ :: nthS lwL.1 2 :: nthS lwL.1 3 :: nthS lwL.1 4 :: nthS lwL.1 5 ::
      .For (.Name (Str.ofString "at") ⟨96, 8, 96, 10⟩) (iterS (nthS lwL.1 6)) [lb 0, lb 1, lb 2, lb 3, lb 4, lb 5, lb 6, lb 7] [] ⟨96, 4, 134, 96⟩ :: rest) (lenv L fa cd c1 c2)) Q NoE s := by
  generalize hst5 : nthS lwL.1 5 = st5
  have hdep : A.depth + 100 < recursionLimit := lim r.depth (by decide)
  have hvs : vs.length = ns0.length := hi.length
  have v63 : (List.toArray vs).size ≤ sizeLine := by rw [List.size_toArray, sizeLine_eq]; omega
  have lL0 : Live s.heap L := liveNs F.ns
  have l10 : Live s.heap c1 := liveCell hc1
  have l20 : Live s.heap c2 := liveCell hc2
  have l70 : Live s.heap 74 := ⟨_, t74⟩
  -- script = script[:20]
  refine wpJ_execs_next (wpJ_any (p0 F X T hsc hl v63 fun g1 tk1 q0 hq0 hlq0 hns1 hx1 => ⟨rfl, ?_⟩))
  have hlq0 : g1.IsList q0 (List.toArray (vs.take 20)) := hlq0
  have hi20 := hi.take 20
  have kb1 := k0But F.keep hx1 (Heap.get?_none_of_le F.above)
  have F1 : Fr h₀ L g1 _ := ⟨hns1, kb1, F.above⟩
  have lL1 : Live g1 L := liveNs hns1
  have l11 := l10.but hx1 lL1
  have l21 := l20.but hx1 lL1
  have l71 := l70.but hx1 lL1
  have lq1 := liveList hlq0
  have hc1_1 : g1.IsCell c1 none := let ⟨o, e, r⟩ := hc1; ⟨o, hx1 _ _ (Ne.symm d1) e, r⟩
  have hc2_1 : g1.IsCell c2 none := let ⟨o, e, r⟩ := hc2; ⟨o, hx1 _ _ (Ne.symm d2) e, r⟩
  have t74_1 := hx1 _ _ (Ne.symm d3) t74
  -- matcher = MQTTMatcher()
  have hS : ∀ x ∈ [L, c1, c2, 74], x < ({ s with heap := g1, toks := tk1 } : Shared).heap.objs.size := fun x hx => by
    rcases List.mem_cons.mp hx with rfl | hx
    · exact Heap.lt_size lL1.choose_spec
    rcases List.mem_cons.mp hx with rfl | hx
    · exact Heap.lt_size l11.choose_spec
    rcases List.mem_cons.mp hx with rfl | hx
    · exact Heap.lt_size l21.choose_spec
    rw [List.mem_singleton.mp hx]
    exact Heap.lt_size l71.choose_spec
  refine wpJ_execs_next (wpJ_any (wpAny_Assign_Name (p1 (s := { s with heap := g1, toks := tk1 }) F1 X T fun tkp => matcher_new (s := { s with heap := g1, toks := tkp }) X T kb1 (Nat.le_trans F.above (Nat.le_of_lt hns1.lt)) (by omega) hS fun g2 tk2 M root P TA k2 mat2 _ tr2 fr2 => ?_)))
  dsimp only at k2 fr2
  have ns2 := hns1.keeps k2
  refine wpAny_storeName_local rfl ns2 (fun g3 hns3 hs3 => ⟨rfl, ?_⟩) rfl
  have hx3 := hs3.extBut
  dsimp only at hx3 hns3
  have kb3 := k0But (kb1.trans k2) hx3 (Heap.get?_none_of_le F.above)
  have F3 : Fr h₀ L g3 _ := ⟨hns3, kb3, F.above⟩
  have k13 : Heap.ExtBut L g1 g3 := fun b o hb e => hx3 b o hb (k2 _ _ e)
  have lL3 : Live g3 L := liveNs hns3
  have hc1_3 : g3.IsCell c1 none := let ⟨o, e, r⟩ := hc1_1; ⟨o, k13 _ _ (Ne.symm d1) e, r⟩
  have hc2_3 : g3.IsCell c2 none := let ⟨o, e, r⟩ := hc2_1; ⟨o, k13 _ _ (Ne.symm d2) e, r⟩
  -- held = {}
  refine wpJ_execs_next (wpJ_any (p2 (s := { s with heap := g3, toks := tk2 + 1 }) F3 X T hc1_3 fun g4 tk4 dh hdhl hdh hd4 hc1_4 hx4 => ⟨rfl, ?_⟩))
  dsimp only at hdh hx4 hdhl
  have hns4 := hns3.extBut hx4 d1
  have kb4 := k0But kb3 hx4 n1
  have F4 : Fr h₀ L g4 _ := ⟨hns4, kb4, F.above⟩
  -- told = []
  refine wpJ_execs_next (wpJ_any (p3 (s := { s with heap := g4, toks := tk4 }) F4 X T fun g5 tk5 aT haT hpT hns5 hx5 => ⟨rfl, ?_⟩))
  dsimp only at haT hx5
  have kb5 := k0But kb4 hx5 (Heap.get?_none_of_le F.above)
  have F5 : Fr h₀ L g5 _ := ⟨hns5, kb5, F.above⟩
  -- due = []
  refine wpJ_execs_next (wpJ_any (p4 (s := { s with heap := g5, toks := tk5 }) F5 X T fun g6 tk6 aD haD hpD hns6 hx6 => ⟨rfl, ?_⟩))
  dsimp only at haD hx6
  have kb6 := k0But kb5 hx6 (Heap.get?_none_of_le F.above)
  have F6 : Fr h₀ L g6 _ := ⟨hns6, kb6, F.above⟩
  -- asked = [..]
  refine wpJ_execs_next (wpJ_any (p5 hst5.symm (s := { s with heap := g6, toks := tk6 }) F6 X T fun g7 tk7 av aA hav4 hav haA hpA hns7 hx7 => ⟨rfl, ?_⟩))
  dsimp only at haA hx7 hav
  have kb7 := k0But kb6 hx7 (Heap.get?_none_of_le F.above)
  have F7 : Fr h₀ L g7 _ := ⟨hns7, kb7, F.above⟩
  -- what lives where
  have lL4 : Live g4 L := liveNs hns4
  have lL5 : Live g5 L := liveNs hns5
  have lL6 : Live g6 L := liveNs hns6
  have lL7 : Live g7 L := liveNs hns7
  have lc4 : Live g4 c1 := liveCell hc1_4
  have up34 : ∀ {x}, Live g3 x → Live g4 x := fun l => l.but hx4 lc4
  have up45 : ∀ {x}, Live g4 x → Live g5 x := fun l => l.but hx5 lL5
  have up56 : ∀ {x}, Live g5 x → Live g6 x := fun l => l.but hx6 lL6
  have up67 : ∀ {x}, Live g6 x → Live g7 x := fun l => l.but hx7 lL7
  have up13 : ∀ {x}, Live g1 x → Live g3 x := fun l => l.but k13 lL3
  have lT3 : ∀ x ∈ TA, Live g3 x := fun x hx => by
    obtain ⟨o, e⟩ := tr2.live x hx
    have : x ≠ L := fun z => by have := fr2 x hx; rw [z] at this; obtain ⟨o', e'⟩ := lL1; rw [e'] at this; cases this
    exact ⟨o, hx3 _ _ this e⟩
  have lT3n : ∀ x ∈ TA, x ≠ L ∧ x ≠ c1 ∧ x ≠ c2 ∧ x ≠ 74 ∧ x ≠ q0 := fun x hx =>
    ⟨Ne.symm (lL1.ne (fr2 x hx)), Ne.symm (l11.ne (fr2 x hx)), Ne.symm (l21.ne (fr2 x hx)), Ne.symm (l71.ne (fr2 x hx)), Ne.symm (lq1.ne (fr2 x hx))⟩
  have lq3 := up13 lq1
  have l13 := up13 l11
  have l23 := up13 l21
  have l73 := up13 l71
  have ldh4 : Live g4 dh := liveDict hd4
  have laT5 : Live g5 aT := livePl hpT
  have laD6 : Live g6 aD := livePl hpD
  have laA7 : Live g7 aA := livePl hpA
  have q0n : q0 ≠ L ∧ q0 ≠ c1 ∧ q0 ≠ c2 ∧ q0 ≠ 74 := ⟨Ne.symm (lL0.ne hq0), Ne.symm (l10.ne hq0), Ne.symm (l20.ne hq0), Ne.symm (l70.ne hq0)⟩
  -- the iterator
  have t74_7 : g7.get? 74 = some (tabObj #[]) := hx7 _ _ (Ne.symm d3) (hx6 _ _ (Ne.symm d3) (hx5 _ _ (Ne.symm d3) (hx4 _ _ (Ne.symm d5) (k13 _ _ (Ne.symm d3) t74_1))))
  have K17 : ∀ b o, b ≠ L → b ≠ c1 → g1.get? b = some o → g7.get? b = some o := fun b o hb hc e => hx7 _ _ hb (hx6 _ _ hb (hx5 _ _ hb (hx4 _ _ hc (k13 _ _ hb e))))
  have K37 : ∀ b o, b ≠ L → b ≠ c1 → g3.get? b = some o → g7.get? b = some o := fun b o hb hc e => hx7 _ _ hb (hx6 _ _ hb (hx5 _ _ hb (hx4 _ _ hc e)))
  have K47 : ∀ b o, b ≠ L → g4.get? b = some o → g7.get? b = some o := fun b o hb e => hx7 _ _ hb (hx6 _ _ hb (hx5 _ _ hb e))
  have hlq7 : g7.IsList q0 (List.toArray (vs.take 20)) := let ⟨o, e, r⟩ := hlq0; ⟨o, K17 _ _ q0n.1 q0n.2.1 e, r⟩
  refine wpJ_execs_cons (wpJ_For (i1 (s := { s with heap := g7, toks := tk7 }) F7 X T ((if_neg (by decide)).trans ((if_neg (by decide)).trans ((if_neg (by decide)).trans ((if_neg (by decide)).trans (if_pos rfl))))) hlq7 hi20 (by rw [List.length_take]; omega) fun g8 tk8 t u v hr8 k8 => ?_))
  have n20 : (ns0.take 20).length ≤ 20 := by rw [List.length_take]; exact Nat.min_le_left ..
  refine wpAny_pyIter_range hr8 (small2 ⟨(ns0.take 20).length, by omega⟩) ?_
  dsimp only
  generalize hoi : ({ cls := .type "range_iterator", data := .fields #[rawInt 0, rawInt (Builtin.Range.rangeSize 0 (((ns0.take 20).length : Int) - 1) 2), rawInt 2] } : Obj) = oi
  have k89 : Keeps g8 (g8.push oi) := fun b o e => Heap.get?_push_of_some _ e
  have hit9 : (g8.push oi).get? g8.objs.size = some oi := Heap.get?_push_size _ (by rw [← hoi]; rfl)
  have hitn : g8.get? g8.objs.size = none := Heap.get?_none_of_le (Nat.le_refl _)
  generalize hg9 : g8.push oi = g9 at *
  generalize g8.objs.size = it at *
  have k79 : Keeps g7 g9 := fun b o e => k89 _ _ (k8 _ _ e)
  have ni : ∀ {x}, Live g7 x → x ≠ it := fun l => (l.keeps k8).ne hitn
  -- who is who
  have eLdh := lL3.ne hdh
  have e1dh := l13.ne hdh
  have e2dh := l23.ne hdh
  have e7dh := l73.ne hdh
  have eqdh := lq3.ne hdh
  have eLT := lL4.ne haT
  have e1T := lc4.ne haT
  have e2T := (up34 l23).ne haT
  have e7T := (up34 l73).ne haT
  have eqT := (up34 lq3).ne haT
  have edT := ldh4.ne haT
  have eLD := lL5.ne haD
  have e1D := (up45 lc4).ne haD
  have e2D := (up45 (up34 l23)).ne haD
  have e7D := (up45 (up34 l73)).ne haD
  have eqD := (up45 (up34 lq3)).ne haD
  have edD := (up45 ldh4).ne haD
  have eTD := laT5.ne haD
  have eLA := lL6.ne haA
  have e1A := (up56 (up45 lc4)).ne haA
  have e2A := (up56 (up45 (up34 l23))).ne haA
  have e7A := (up56 (up45 (up34 l73))).ne haA
  have eqA := (up56 (up45 (up34 lq3))).ne haA
  have edA := (up56 (up45 ldh4)).ne haA
  have eTA := (up56 laT5).ne haA
  have eDA := laD6.ne haA
  have l37 : ∀ {x}, Live g3 x → Live g7 x := fun l => up67 (up56 (up45 (up34 l)))
  have eLi := ni lL7
  have e1i := ni (up67 (up56 (up45 lc4)))
  have e2i := ni (l37 l23)
  have e7i := ni (l37 l73)
  have eqi := ni (l37 lq3)
  have edi := ni (up67 (up56 (up45 ldh4)))
  have eTi := ni (up67 (up56 laT5))
  have eDi := ni (up67 laD6)
  have eAi := ni laA7
  have off3 : ∀ {x}, Live g3 x → x ≠ L → x ≠ c1 → x ≠ c2 → x ≠ 74 → x ∉ [L, c1, c2, aT, aD, aA, dh, 74, it] := fun l a1 a2 a3 a4 =>
    not_in9 a1 a2 a3 ((up34 l).ne haT) ((up45 (up34 l)).ne haD) ((up56 (up45 (up34 l))).ne haA) (l.ne hdh) a4 (ni (l37 l))
  have K39 : ∀ b o, b ≠ L → b ≠ c1 → g3.get? b = some o → g9.get? b = some o := fun b o h1 h2 e => k79 _ _ (K37 b o h1 h2 e)
  have mat9 : MatOff g9 M root ([L, c1, c2, aT, aD, aA, dh, 74, it] ++ TA) := by
    obtain ⟨dM, hs, tkm, nm, m1, m2, m3, m4⟩ := mat2
    simp only [List.mem_append, List.mem_cons, List.not_mem_nil, or_false, not_or] at m3 m4
    have g31 := hx3 _ _ m3.1.1 m1
    have g32 := hx3 _ _ m4.1.1 m2
    refine ⟨dM, hs, tkm, nm, K39 _ _ m3.1.1 m3.1.2.1 g31, K39 _ _ m4.1.1 m4.1.2.1 g32, fun z => ?_, fun z => ?_⟩
    · rcases List.mem_append.mp z with z | z
      · exact off3 ⟨_, g31⟩ m3.1.1 m3.1.2.1 m3.1.2.2.1 m3.1.2.2.2 z
      · exact m3.2 z
    · rcases List.mem_append.mp z with z | z
      · exact off3 ⟨_, g32⟩ m4.1.1 m4.1.2.1 m4.1.2.2.1 m4.1.2.2.2 z
      · exact m4.2 z
  have tr9 : Trie w g9 root P (fun _ => .none) TA 0 := tr2.keep fun b hb o e => K39 b o (lT3n b hb).1 (lT3n b hb).2.1 (hx3 b o (lT3n b hb).1 e)
  have hT0 : ∀ x ∈ TA, h₀.get? x = none := fun x hx => by
    cases hz : h₀.get? x with
    | none => rfl
    | some o => have := kb1 x o hz; rw [fr2 x hx] at this; cases this
  have h0n : ∀ {x} {g : Heap}, g.get? x = none → Keeps h₀ g → h₀.get? x = none := fun {x} {g} hq kk => by
    cases hz : h₀.get? x with
    | none => rfl
    | some o => have := kk x o hz; rw [hq] at this; cases this
  have cell1_9 : g9.IsCell c1 (some (.ref dh)) := let ⟨o, e, r⟩ := hc1_4; ⟨o, k79 _ _ (K47 _ _ (Ne.symm d1) e), r⟩
  have cell2_9 : g9.IsCell c2 none := let ⟨o, e, r⟩ := hc2_3; ⟨o, K39 _ _ (Ne.symm d2) (Ne.symm d4) e, r⟩
  have told9' : PlainL g9 aT (List.toArray []) := ((hpT.extBut hx6 (Ne.symm eLT)).extBut hx7 (Ne.symm eLT)).keeps k79
  have due9' : PlainL g9 aD (List.toArray []) := (hpD.extBut hx7 (Ne.symm eLD)).keeps k79
  have ask9 : PlainL g9 aA (List.toArray av) := hpA.keeps k79
  have held9 : g9.DictOf (SK w) dh [] := hd4.at fun o e => k79 _ _ (K47 _ _ (Ne.symm eLdh) e)
  have t74_9 := k79 _ _ t74_7
  have mk9 : ∀ m7, g9.Ns L m7 → LS w h₀ ⟨L, c1, c2, aT, aD, aA, dh, it, M, root⟩ TA 0 P (fun _ => .none) [] [] [] av none oi m7 g9 := fun m7 hm7 => by
    refine ⟨hm7, cell1_9, cell2_9, told9', due9', ask9, held9, .inl t74_9, hit9, mat9, tr9, kb7.trans k79, F.above, ?_, fun x hx => ?_, fun x hx => ?_, hT0⟩
    · exact nodup9 (nic d1 (nic d2 (nic eLT (nic eLD (nic eLA (nic eLdh (nic d3 (nic eLi ni0)))))))) (nic d4 (nic e1T (nic e1D (nic e1A (nic e1dh (nic d5 (nic e1i ni0))))))) (nic e2T (nic e2D (nic e2A (nic e2dh (nic d6 (nic e2i ni0))))))
        (nic eTD (nic eTA (nic (Ne.symm edT) (nic (Ne.symm e7T) (nic eTi ni0))))) (nic eDA (nic (Ne.symm edD) (nic (Ne.symm e7D) (nic eDi ni0)))) (nic (Ne.symm edA) (nic (Ne.symm e7A) (nic eAi ni0))) (nic (Ne.symm e7dh) (nic edi ni0)) (nic e7i ni0)
    · exact fun z => off3 (lT3 x z) (lT3n x z).1 (lT3n x z).2.1 (lT3n x z).2.2.1 (lT3n x z).2.2.2.1 hx
    · exact all_in9 (P := fun x => h₀.get? x = none) (Heap.get?_none_of_le F.above) n1 n2 (h0n haT kb4) (h0n haD kb5) (h0n haA kb6) (h0n hdh kb3) n74 (h0n hitn (kb7.trans k8)) x hx
  have LS9 := mk9 _ (hns7.keeps k79)
  have lo : (dh == sysModules) = false := by
    have h9 : (sysModules : Nat) < h₀.objs.size := modules_low T.nolimit
    exact beq_eq_false_iff_ne.mpr (Nat.ne_of_gt (Nat.lt_of_lt_of_le h9 (Nat.le_trans F.above (Nat.le_of_lt (Nat.lt_of_lt_of_le hns3.lt hdhl)))))
  have asked9 : ∀ v ∈ av, AskE (GG g9 (({ L := L, c1 := c1, c2 := c2, aT := aT, aD := aD, aA := aA, dh := dh, it := it, M := M, root := root } : Ad).fix ++ TA)) v := fun v hv => by
    obtain ⟨⟨q, us, ps, rfl, hqn, hql, hus, hps⟩, hne⟩ := hav v hv
    refine ⟨q, ps, rfl, ⟨us, glist_new (fun z => ?_) (isList_keeps hql k79), hus⟩, gp_asked hps⟩
    rcases List.mem_append.mp z with z | z
    · exact not_in9 (Ne.symm (lL6.ne hqn)) (Ne.symm ((up56 (up45 lc4)).ne hqn)) (Ne.symm ((up56 (up45 (up34 l23))).ne hqn)) (Ne.symm ((up56 laT5).ne hqn)) (Ne.symm (laD6.ne hqn)) (fun z => hne (by rw [z])) (Ne.symm ((up56 (up45 ldh4)).ne hqn)) (Ne.symm ((up56 (up45 (up34 l73))).ne hqn)) (ni (liveList hql)) z
    · exact (up56 (up45 (up34 (lT3 q z)))).ne hqn rfl
  refine codeJ_mono (K ⟨L, c1, c2, aT, aD, aA, dh, it, M, root⟩ q0 g9 _ oi rfl rfl rfl ⟨TA, 0, P, _, [], [], [], av, none, _, [], LS9, ⟨?_, ?_, ?_, ?_, ?_⟩, ⟨⟨_, glist_new ?_ (isList_keeps hlq7 k79), hi20⟩, .nil, .nil, asked9⟩, ⟨.nil, fun e he => (by cases he), fun q _ => rfl, fun e he => (by cases he)⟩, fun e he => (by cases he), Nat.zero_le _, Nat.zero_le _, Nat.zero_le _, by rw [hav4]; exact Nat.le_refl _, lo, os, gens⟩ hoi.symm) fun r s' hr => ?_
  rotate_right
  · cases r with
    | error e => exact hr
    | ok f => cases f <;> exact hr
  · exact (if_neg (by decide)).trans ((if_neg (by decide)).trans ((if_neg (by decide)).trans (if_pos rfl)))
  · exact (if_neg (by decide)).trans ((if_neg (by decide)).trans (if_pos rfl))
  · exact (if_neg (by decide)).trans (if_pos rfl)
  · exact if_pos rfl
  · exact (if_neg (by decide)).trans ((if_neg (by decide)).trans ((if_neg (by decide)).trans ((if_neg (by decide)).trans (if_pos rfl))))
  · intro z
    rcases List.mem_append.mp z with z | z
    · exact off3 lq3 q0n.1 q0n.2.1 q0n.2.2.1 q0n.2.2.2 z
    · exact (lT3n q0 z).2.2.2.2 rfl
end
end Mine
end
section
open PySem PySem.W PySem.Calls PySem.Spec PyProof.Rows
set_option Elab.async false
set_option maxRecDepth 100000
set_option maxHeartbeats 4000000
set_option linter.unusedVariables false
namespace Mine
theorem fillZc : Reg PySem.Challenge.rw_bc0018_01 hd.heap_39 := by k_fill; trivial
section
variable {w : World} {h₀ : Heap} {s₁ s : Shared} {A : Around} {L c1 c2 a0 fa : Addr} {cd : Value} {mg mb : Str → Option Value} {p : Program} {loose : List Str} {mean : ExcName → Option Value} {m : Str → Option Value} {vs : List Value} {ns0 : List Int}
theorem final_of {a : Ad} {aS : Addr} {ns : List Int} {oi : Obj} {k : Nat} {s' : Shared} {h' : Heap} {tk : Nat} (J : INV w h₀ a aS ns s₁ oi k s') (hx : Heap.ExtBut a.it s'.heap h') : FINAL h₀ s₁ { s' with heap := h', toks := tk } := by
  obtain ⟨TA, B, P, C, kvs, tv, dv, av, v2, m, H, I⟩ := J
  have hit : a.it ∈ a.fix := Ad.mem 8
  refine ⟨k0But I.ls.k0 hx (I.ls.new0 _ hit), ?_, I.os, I.gens⟩
  rcases I.ls.tab with e | ⟨c', e, _⟩
  · exact ⟨_, hx _ _ (I.ls.ne 7 8) e⟩
  · exact ⟨_, hx _ _ (I.ls.ne 7 8) e⟩
theorem law_body (X : Frag.In (hd.heap_39 w.params) h₀) (T : Top p loose mean mg mb h₀) (Cd : CodeHd h₀ 78 74) (r : Room 400 A) (hfr : A.frames = some [lenv L fa cd c1 c2]) (F : Fr h₀ L s.heap m) (hsc : m (Str.ofString "script") = some (.ref a0)) (hl : s.heap.IsList a0 (List.toArray vs)) (hi : IntsAre vs ns0) (hn : ns0.length ≤ 63) (hc1 : s.heap.IsCell c1 none) (hc2 : s.heap.IsCell c2 none) (t74 : s.heap.get? 74 = some (tabObj #[]))
    (d1 : L ≠ c1) (d2 : L ≠ c2) (d3 : L ≠ 74) (d4 : c1 ≠ c2) (d5 : c1 ≠ 74) (d6 : c2 ≠ 74) (n1 : h₀.get? c1 = none) (n2 : h₀.get? c2 = none) (n74 : h₀.get? 74 = none) (os : s.os = s₁.os) (gens : ∀ g, g < s.gens.size → s.gens[g]? = some .finished) :
    wpJ (model PP w) A (execs lwL.1 (lenv L fa cd c1 c2)) (fun f s' => f = .ret (.bool true) ∧ FINAL h₀ s₁ s') NoE s := by
  rw [lw_eq]
  refine prologue X T r F hsc hl hi hn hc1 hc2 t74 d1 d2 d3 d4 d5 d6 n1 n2 n74 os gens fun a aS h1 tk1 oi e1 e2 e3 J hoi => ?_
  subst e1 e2 e3
  have n20 : (ns0.take 20).length ≤ 20 := by rw [List.length_take]; exact Nat.min_le_left ..
  rw [size2 ⟨(ns0.take 20).length, by omega⟩] at hoi
  dsimp only at hoi
  subst hoi
  refine loop1 (N := (ns0.take 20).length / 2) X T Cd n74 r hfr (by omega) (by omega) (by omega) J fun s2 h2 oi2 J2 hx2 => ?_
  dsimp only
  obtain ⟨TA, B, P, C, kvs, tv, dv, av, v2, m2, H, I⟩ := J2
  generalize hk : (ns0.take 20).length / 2 = k at *
  have hk10 : k ≤ 10 := by omega
  have S := I.ls
  have hit : a.it ∈ a.fix := Ad.mem 8
  have F2 : Fr h₀ a.L h2 m2 := ⟨S.ns.extBut hx2 (S.ne 0 8), k0But S.k0 hx2 (S.new0 _ hit), S.le0⟩
  have ask2 : h2.IsList a.aA (List.toArray av) := (S.asked.extBut hx2 (S.ne 5 8)).isList
  have avl : av.length ≤ 14 := by have := I.ba; omega
  refine wpJ_execs_cons (wpJ_For (i2 (s := { s2 with heap := h2 }) F2 X T I.nm.asked ask2 (size_small avl (by decide)) fun h3 tk3 q hq hlq hx3 hn3 => ?_))
  have hlq : h3.IsList q (List.toArray (av.take 9)) := hlq
  refine wpAny_pyIter_list hlq ?_
  dsimp only at hx3 hq ⊢
  generalize hio : ({ cls := .type "list_iterator", data := .fields #[.ref q, .int 0 0] } : Obj) = io
  have k34 : Keeps h3 (h3.push io) := fun b o e => Heap.get?_push_of_some _ e
  have hit4 : (h3.push io).get? h3.objs.size = some io := Heap.get?_push_size _ (by rw [← hio]; rfl)
  have hitn : h3.get? h3.objs.size = none := Heap.get?_none_of_le (Nat.le_refl _)
  generalize hg4 : h3.push io = h4 at *
  generalize h3.objs.size = it2 at *
  have lL3 : Live h3 a.L := liveNs hn3
  have up23 : ∀ {x}, Live h2 x → Live h3 x := fun l => l.but hx3 lL3
  have l2 : ∀ {x}, Live s2.heap x → x ≠ a.it → Live h2 x := fun l hi => let ⟨o, e⟩ := l; ⟨o, hx2 _ _ hi e⟩
  obtain ⟨S4, st4⟩ := S.reIt (h' := h4) (it2 := it2) (fun b o hb hbL e => k34 _ _ (hx3 _ _ hbL (hx2 _ _ hb e))) (hn3.keeps k34) (fun b o hb e => (up23 (l2 ⟨o, e⟩ hb)).ne hitn) hit4
  have I4 : CORE w h₀ { a with it := it2 } aS (ns0.take 20) s₁ k TA B P C kvs tv dv av v2 io m2 H { s2 with heap := h4, toks := tk3 } :=
    ⟨S4, ⟨I.nm.mat, I.nm.told, I.nm.due, I.nm.asked, I.nm.script⟩, I.fz.mono st4.gg, I.holds, I.good, I.bB, I.bH, I.bt, I.ba, I.lo, I.os, I.gens⟩
  have offq : q ∉ ({ a with it := it2 } : Ad).fix ++ TA := fun z => by
    rcases List.mem_append.mp z with z | z
    · rcases Ad.fix_sub z with y | y
      · exact (liveList hlq).ne hitn y
      · by_cases yi : q = a.it
        · simp only [Ad.fix, List.mem_cons, List.not_mem_nil, or_false] at z
          have n := fun (j : Nat) {x : Addr} (hj : a.fix[j]? = some x) (hne : j ≠ 8) => nodup_ne S.apart hj (show a.fix[8]? = some a.it from rfl) hne
          rcases z with z | z | z | z | z | z | z | z | z
          · exact n 0 rfl (by decide) (z.symm.trans yi)
          · exact n 1 rfl (by decide) (z.symm.trans yi)
          · exact n 2 rfl (by decide) (z.symm.trans yi)
          · exact n 3 rfl (by decide) (z.symm.trans yi)
          · exact n 4 rfl (by decide) (z.symm.trans yi)
          · exact n 5 rfl (by decide) (z.symm.trans yi)
          · exact n 6 rfl (by decide) (z.symm.trans yi)
          · exact n 7 rfl (by decide) (z.symm.trans yi)
          · exact (liveList hlq).ne hitn z
        · exact (l2 (S.inFix y) yi).ne hq rfl
    · exact (l2 (S.tr.live _ z) (fun y => S.offT _ hit (y ▸ z))).ne hq rfl
  have gq : GList (GG h4 (({ a with it := it2 } : Ad).fix ++ TA)) q (av.take 9) := glist_new offq (isList_keeps hlq k34)
  have n9 : (av.take 9).length ≤ 9 := by rw [List.length_take]; exact Nat.min_le_left ..
  refine loop2 (a := { a with it := it2 }) (s := { s2 with heap := h4, toks := tk3 }) X T Cd n74 r (by omega) I4 ⟨_, hit4, by rw [← hio], by rw [← hio]; rfl⟩ gq (fun v hv => I4.fz.asked v (List.mem_of_mem_take hv)) fun s5 h5 oi5 J5 hx5 => ?_
  dsimp only
  obtain ⟨TA5, B5, P5, C5, kvs5, tv5, dv5, av5, v5, m5, H5, I5⟩ := id J5
  have S5 := I5.ls
  have hit5 : it2 ∈ ({ a with it := it2 } : Ad).fix := Ad.mem 8
  have F5 : Fr h₀ a.L h5 m5 := ⟨S5.ns.extBut hx5 (S5.ne 0 8), k0But S5.k0 hx5 (S5.new0 _ hit5), S5.le0⟩
  have hu : A.units + 64 < cLine := lim r.units (by decide)
  have st5 : Step s5.heap (({ a with it := it2 } : Ad).fix ++ TA5) h5 (({ a with it := it2 } : Ad).fix ++ TA5) := stepBut hx5 (List.mem_append_left _ hit5)
  refine wpJ_execs_cons (wpJ_any (last_stmt (s := { s5 with heap := h5 }) F5 X T I5.nm.told I5.nm.due (S5.told.extBut hx5 (S5.ne 3 8)) (S5.due.extBut hx5 (S5.ne 4 8)) (I5.fz.pairs.mono fun _ _ h => h.mono st5.gg) hu fun tk6 => ⟨rfl, final_of (s' := s5) (h' := h5) (tk := tk6) J5 hx5⟩))
end
end Mine
end
section
open PySem PySem.W PySem.Calls PySem.Spec PyProof.Rows
set_option Elab.async false
set_option maxRecDepth 100000
set_option maxHeartbeats 4000000
set_option linter.unusedVariables false
namespace Mine
noncomputable def lwPa : { l : Arguments // paramsS lwS = l } := ⟨_, by
  dsimp only [lwS, PySem.Challenge.pw_bc0018_01, nthS, paramsS]⟩
theorem law_call {w : World} {h₀ : Heap} {s₁ : Shared} {a0 fa : Addr} {cd : Value} {mg mb : Str → Option Value} {p : Program} {loose : List Str} {mean : ExcName → Option Value} {vs : List Value} {ns0 : List Int} {o : Obj} {pm doc : Value}
    (X : Frag.In (hd.heap_39 w.params) h₀) (T : Top p loose mean mg mb h₀) (Cd : CodeHd h₀ 78 74) (kk : Keeps h₀ s₁.heap) (hsz : h₀.objs.size = s₁.heap.objs.size) (n74 : h₀.get? 74 = none) (hlim : s₁.heap.NoLimit)
    (ho : s₁.heap.get? fa = some o) (hdat : o.data = .func { docDef (Str.ofString "law") lwPa.1 lwL.1 lwSc.1 pm cd doc with defaults := .none, kwdefaults := .none }) (hcd : s₁.heap.CodeRec cd (Str.ofString "law"))
    (hl : s₁.heap.IsList a0 (List.toArray vs)) (hi : IntsAre vs ns0) (hn : ns0.length ≤ 63) (t74 : s₁.heap.get? 74 = some (tabObj #[])) (hg : s₁.gens = #[]) :
    wpJ (model PP w) callerA (PySem.call (.ref fa) [.ref a0]) (fun v s' => v = .bool true ∧ FINAL h₀ s₁ s') NoE s₁ := by
  refine wpJ_call (codeJ_call_function (by decide) ho hdat rfl rfl rfl hcd (BindsTo.of_eq (binds := [(Str.ofString "script", .ref a0)]) rfl _ _ _ _ ?_))
  refine wpAny_newFunctionEnv_cells rfl (fun x hx => ?_) fun env' he s' x => ?_
  · rw [List.mem_singleton] at hx
    subst hx
    exact .inl rfl
  subst he
  have hns := x.toInCall.ns
  have hkeep := x.toInCall.keep
  obtain ⟨h1, tk1, rfl⟩ := x.toInCall.same
  have hcell := x.cell
  have happ := x.apart
  have habove := x.above
  dsimp only at hns hkeep hcell
  refine ⟨hlim.keeps hkeep, codeJ_func ?_⟩
  generalize hL : s₁.heap.objs.size = L at *
  have g1 : h1.IsCell (L + 1) none := hcell (Str.ofString "held") _ rfl
  have g2 : h1.IsCell (L + 1 + 1) none := hcell (Str.ofString "parts") _ rfl
  have hle : h₀.objs.size ≤ L := Nat.le_of_eq hsz
  have l74 : 74 < L := hL ▸ Heap.lt_size t74
  show wpJ (model PP w) (callerA.deeper (lenv L fa cd (L + 1) (L + 1 + 1))) (execs lwL.1 (lenv L fa cd (L + 1) (L + 1 + 1))) _ NoE _
  refine wpJ_mono (law_body (s := { s₁ with heap := h1, toks := tk1 }) (s₁ := s₁) (c1 := L + 1) (c2 := L + 1 + 1) X T Cd ?_ rfl ⟨hns, fun b o e => hkeep _ _ (kk _ _ e), hle⟩ rfl (isList_keeps hl hkeep) hi hn g1 g2 (hkeep _ _ t74) ?_ ?_ ?_ ?_ ?_ ?_ ?_ ?_ n74 rfl ?_) (fun f s' hf => ?_) fun _ _ z => z
  · exact ⟨rfl, (show callerA.depth + 1 + 400 < recursionLimit by decide), (show callerA.units + 3 + 400 < cLine by decide)⟩
  · exact Nat.ne_of_lt (Nat.lt_succ_self _)
  · exact Nat.ne_of_lt (Nat.lt_succ_of_lt (Nat.lt_succ_self _))
  · exact Nat.ne_of_gt l74
  · exact Nat.ne_of_lt (Nat.lt_succ_self _)
  · exact Nat.ne_of_gt (Nat.lt_succ_of_lt l74)
  · exact Nat.ne_of_gt (Nat.lt_succ_of_lt (Nat.lt_succ_of_lt l74))
  · exact Heap.get?_none_of_le (Nat.le_trans hle (Nat.le_succ _))
  · exact Heap.get?_none_of_le (Nat.le_trans hle (Nat.le_succ_of_le (Nat.le_succ _)))
  · intro g hgl
    rw [show ({ s₁ with heap := h1, toks := tk1 } : Shared).gens = #[] from hg] at hgl
    exact absurd hgl (Nat.not_lt_zero _)
  · obtain ⟨rfl, hF⟩ := hf
    exact ⟨rfl, hF⟩
end Mine
end
open PySem PySem.W PySem.Calls PySem.Spec PyProof.Rows
set_option Elab.async false
set_option maxRecDepth 100000
set_option maxHeartbeats 4000000
set_option linter.unusedVariables false
theorem PySem.Challenge.cw_bc0018_01_holds : PySem.Challenge.rw_bc0018_01.Holds := by
  refine Mine.hd ?_
  k_fill
  intro w s₀ s₁ mg mb G Y fa o pm cd doc dV kV ho hd9 hcd hD hmg hg args vals as hpre hlay hrd hwl hlo
  have KX := km_in_of Y
  km_tabs Y
  have X := (Ground.X G).1
  have V := (Ground.X G).2
  refine Ground.open G ?_
  intro T B D TE TW
  try (refine guard_noD D (by decide +kernel) ?_; clear D)
  km_lay T hmg ho hd9 cd
  clear hmg
  have hdV : dV = .none := hD.pos.elim (·.2) fun y => absurd rfl y.1
  have hkV : kV = .none := hD.kw.elim (·.2) fun y => absurd rfl y.1
  clear hD
  subst hdV hkV
  wrow_args hpre hlay hrd hwl hlo
  rename s₁.heap.IsList _ _ => hL
  rename IntsAre _ _ => hI
  rename ¬ (63 : Int) < _ => h63
  have X' := ghost_K hT9 KX (by kernel_rfl)
  have T' := ghost_top hT9 T
  have C' := (ghost_code hT9).1
  have t74 := hT8 74 (.head _)
  have n74 : (ghostOf s₁.heap [(78, 74)]).get? 74 = none := hideAll_none _ (.head _)
  have kk : Mine.Keeps (ghostOf s₁.heap [(78, 74)]) s₁.heap := fun b o e => of_hideAll _ e
  intro p
  refine Mine.wins_of_wpJ (A := callerA) (Q := fun f s' => f = .done (.ret (.bool true)) ∧ Mine.FINAL (ghostOf s₁.heap [(78, 74)]) s₁ s') (E := Mine.NoE) Mine.onCaller (Mine.wpJ_bind (Mine.wpJ_mono (Mine.law_call X' T' C' kk (hideAll_size _ _) n74 T.nolimit ho hd9 hcd hL hI (by omega) t74 hg) (fun v s' hv => ?_) fun _ _ z => z)) (fun f s' p' hf => ?_) fun _ _ _ z => z.elim
  · obtain ⟨rfl, hF⟩ := hv
    exact Mine.wpJ_pure ⟨rfl, hF⟩
  · obtain ⟨rfl, hF⟩ := hf
    obtain ⟨hk, ⟨ps, h74⟩, hos, hgens⟩ := hF
    have bare : AllBare s'.gens := fun y hy => by
      obtain ⟨i, hi, rfl⟩ := Array.getElem_of_mem hy
      have := hgens i hi
      rw [Array.getElem?_eq_getElem hi] at this
      rw [Option.some.inj this]
      rfl
    refine Mine.Wins.end_ (r := .ok (.ret (.bool true))) ⟨.inl ⟨.bool true, .bool true, [], rfl, ?_, .bool true, ?_, fun _ => ⟨.nil, fun a ha => by cases ha⟩⟩, ⟨fun b o e => ?_, fun b o e => ?_⟩, hos, bare⟩ (leftWithCleanup_false_of_bare bare)
    · exact fun _ => rfl
    · wrow_post
    · by_cases hb : b = 74
      · subst hb
        have e2 := t74
        rw [e] at e2
        obtain rfl : o = tabObj #[] := Option.some.inj e2
        exact .inr (.inl ⟨(((hT9 _ (.head _)).1.tab (hT9 _ (.head _)).2).isCodeTable), rfl, #[], ps, rfl, by rw [Array.empty_append]; exact h74⟩)
      · exact .inl (hk b o (ghost_ne e (by simpa using hb)))
    · by_cases hb : b = 74
      · subst hb; exact ⟨_, h74⟩
      · exact ⟨o, hk b o (ghost_ne e (by simpa using hb))⟩
